import JvmDerived
import JvmDerived.Pilot.@@N@@Statement
import JvmDerived.Pilot.@@N@@Code
set_option linter.unusedVariables false
set_option linter.unusedSimpArgs false
namespace Jvm.Pilot.@@N@@
open Jvm Jvm.ClassFile Sem Op Lib Jvm.Free Jvm.Stand Jvm.LawKit Jvm.RoadKit Bundle Jvm.Pilot.@@N@@.Jvm.D
section Own
variable {p : Program} {l : Launch} {e : Env} {R : Room} {s : State} {m : MethodId} {args : Array Value} {below : List Frame} {meth : Method} {c : Code} {T : State} {cells slots : Nat} {Z : State} {a0 : Array Value} {h h' h0 : Heap} {ws ws' : List Addr}
  {own nm : String} {bytes : ByteArray} {maxL : Nat} {rt : Option FieldType} {W : State → Outcome → Prop} {pc : Nat} {Ls : Array Slot} {rest : List Value}
/-- the run from A ends as W says -/
def OwnDone (p : Program) (e : Env) (below : List Frame) (W : State → Outcome → Prop) (A : State) : Prop :=
  ∃ s₂ o, Steps p.tables e below A s₂ ∧ s₂.status = .running ∧ Ended s₂ below o ∧ W s₂ o
theorem OwnDone.go {A B : State} (h : ∀ t, Steps p.tables e below A t → Steps p.tables e below B t) (k : OwnDone p e below W A) : OwnDone p e below W B := by
  obtain ⟨s₂, o, h1, h2⟩ := k
  exact ⟨s₂, o, h _ h1, h2⟩
/-- how a body ends: what it returns and leaves (Q), and that it wrote nothing older than its start but the objects ws -/
def OwnEnds (s Z : State) (ws : List Addr) (h0 : Heap) (Q : Option Value → Heap → Prop) (k n : Nat) (s₂ : State) (o : Outcome) : Prop :=
  ∃ v L, o = .returned v ∧ (Q v s₂.heap ∧ Keep h0 s₂.heap ws ∧ ∀ y ∈ L, y.base ∈ ws ∨ h0.size ≤ y.base) ∧ FrameEnd s o s₂ L k n
/-- the surroundings of a walk -/
def OwnCx (p : Program) (Z s : State) (m : MethodId) (meth : Method) (c : Code) (own nm : String) (bytes : ByteArray) (maxL : Nat) (rt : Option FieldType) : Prop :=
  p.tables.exec = Jvm.exec ∧ Z.Warmed39 s.vm ∧ s.vm.findClass own = some m.cls ∧ meth.name = nm ∧ c.code = bytes ∧ c.maxLocals = maxL ∧ meth.sig.returnType = rt ∧ meth.locks = false
/-- where the walk stands -/
def OwnPos (p : Program) (l : Launch) (e : Env) (R : Room) (s : State) (m : MethodId) (args : Array Value) (below : List Frame) (meth : Method) (c : Code) (Z : State) (ws : List Addr) (h0 : Heap) (T : State) (h : Heap) (cells slots : Nat) : Prop :=
  ∃ locs, Stand p l e R s m args below meth c T locs cells slots ∧ T.heap = h ∧ s.heap = h0 ∧ (∀ y ∈ locs, y.base ∈ ws ∨ h0.size ≤ y.base) ∧ Ext Z.heap h0 ∧ ∀ a ∈ ws, Z.heap.size ≤ a
theorem OwnPos.here (P : OwnPos p l e R s m args below meth c Z ws h0 T h cells slots) : At T m c below := by
  obtain ⟨_, X, _⟩ := P; exact X.here
theorem OwnPos.keep (P : OwnPos p l e R s m args below meth c Z ws h0 T h cells slots) : Keep h0 h ws := by
  obtain ⟨locs, X, rfl, rfl, N, -, -⟩ := P
  have hs := X.same
  have far : ∀ (x : Addr) (c : Cell), s.heap[x]? = some c → x ∉ ws → ∀ i, (⟨x, i⟩ : Loc) ∉ locs := fun x c hx hn i hi => by
    rcases N _ hi with q | q
    · exact hn q
    · exact absurd (Array.getElem?_eq_some_iff.mp hx).1 (Nat.not_lt.mpr q)
  refine ⟨hs.2.1, fun x c hx hn => ?_, fun x c hx => ?_⟩
  · obtain ⟨c', h1, h2, h3, h4⟩ := hs.2.2.2.2.2 x c hx
    have e1 : c'.slots = c.slots := by
      apply Array.ext_getElem?
      intro i
      exact h4 i (far x c hx hn i)
    have e2 : c' = c := by rw [h2, e1]
    exact e2 ▸ h1
  · obtain ⟨c', h1, h2, h3, h4⟩ := hs.2.2.2.2.2 x c hx
    exact ⟨c', h1, by rw [h2], by rw [h2], h3⟩
theorem OwnPos.old (P : OwnPos p l e R s m args below meth c Z ws h0 T h cells slots) : Ext Z.heap h := by
  have K := P.keep
  obtain ⟨locs, X, eT, e0, N, E0, G0⟩ := P
  refine ⟨Nat.le_trans E0.1 K.1, fun a c ha => K.2.1 a c (E0.2 a c ha) fun q => ?_⟩
  exact absurd (Array.getElem?_eq_some_iff.mp ha).1 (Nat.not_lt.mpr (G0 a q))
theorem OwnPos.ge (P : OwnPos p l e R s m args below meth c Z ws h0 T h cells slots) : Z.heap.size ≤ h.size := P.old.1
/-- a method's contract -/
def OwnMeets (l : Launch) (y : MethodName) (bytes : ByteArray) (maxL : Nat) (rt : Option FieldType) (rm : Room) (Z : State) (ws : List Addr) (as : Array Value) (h0 : Heap) (Q : Option Value → Heap → Prop) : Prop :=
  ∀ wz, MetFree l y (head1 (Cond.code y bytes maxL rt :: wz) rm) (fun a U => a = as ∧ Z.Warmed39 U.vm ∧ U.heap = h0) (fun _ _ _ _ _ => True) (fun _ U o U' => ∃ v L, o = .returned v ∧ (Q v U'.heap ∧ Keep h0 U'.heap ws ∧ ∀ y ∈ L, y.base ∈ ws ∨ h0.size ≤ y.base) ∧ FrameEnd U o U' L rm.cells rm.slots)
theorem OwnMeets.of {y : MethodName} {rm : Room} {as : Array Value} {Q : Option Value → Heap → Prop} (hp : plainFor y = true) (hE : Ext Z.heap h0) (hG : ∀ a ∈ ws, Z.heap.size ≤ a)
    (body : ∀ p e s m below meth c T, OwnCx p Z s m meth c y.cls y.name bytes maxL rt → OwnPos p l e rm s m as below meth c Z ws h0 T h0 0 0 → OwnDone p e below (OwnEnds s Z ws h0 Q rm.cells rm.slots) (T.setTop (entryFrame m as maxL))) :
    OwnMeets l y bytes maxL rt rm Z ws as h0 Q := by
  intro wz
  refine MetFree.of_bodySF hp hisR ?_
  intro p e s m args below meth c s₁ Bd hml hP hK
  obtain ⟨rfl, hZ, hh⟩ := hP
  exact body p e s m below meth c s₁ ⟨Bd.exec, hZ, findClass_of_methodNamed Bd.named, (name_of_methodNamed Bd.named Bd.method).1, Bd.bytes, hml, Bd.returns, Bd.notSynchronized⟩ ⟨_, Stand.of_body Bd, by rw [← hh, Bd.state]; rfl, hh, fun _ q => (nomatch q), hE, hG⟩

/-! the returns -/
theorem own_retN {Q : Option Value → Heap → Prop} {k n : Nat} {t : FieldType} {z z' : Int32} (C : OwnCx p Z s m meth c own nm bytes maxL (some t)) (P : OwnPos p l e R s m args below meth c Z ws h0 T h cells slots)
    (ht : t = .boolean ∨ t = .byte ∨ t = .char ∨ t = .short) (hz : nar t z = z') (hd : decode bytes pc = .ok (.ireturn, 1)) (hk : cells ≤ k) (hn : slots ≤ n) (hQ : Q (some (.int z')) h) :
    OwnDone p e below (OwnEnds s Z ws h0 Q k n) (T.setTop (mkF m pc Ls (.int z :: rest))) := by
  have kp := P.keep
  obtain ⟨hx, hZ, hown, hnm, hby, hml, hret, hlk⟩ := C
  obtain ⟨locs, X, eT, e0, N, E0, G0⟩ := P
  subst eT
  subst hz
  obtain ⟨fs, hr, hrun, hended, hW, hsame⟩ := X.leave (v := some (.int (nar t z))) (fun h => by rw [hret] at h; cases h) hlk
  exact ⟨_, _, Jvm.RoadKit.retN X hx hret ht (hb hby hd) hr, hrun, hended, _, _, rfl, ⟨hQ, kp, N⟩, ⟨_, rfl⟩, hW, hsame.mono hk hn⟩

theorem own_retI {Q : Option Value → Heap → Prop} {k n : Nat} {z : Int32} (C : OwnCx p Z s m meth c own nm bytes maxL (some .int)) (P : OwnPos p l e R s m args below meth c Z ws h0 T h cells slots)
    (hd : decode bytes pc = .ok (.ireturn, 1)) (hk : cells ≤ k) (hn : slots ≤ n) (hQ : Q (some (.int z)) h) :
    OwnDone p e below (OwnEnds s Z ws h0 Q k n) (T.setTop (mkF m pc Ls (.int z :: rest))) := by
  have kp := P.keep
  obtain ⟨hx, hZ, hown, hnm, hby, hml, hret, hlk⟩ := C
  obtain ⟨locs, X, eT, e0, N, E0, G0⟩ := P
  subst eT
  obtain ⟨fs, hr, hrun, hended, hW, hsame⟩ := X.leave (v := some (.int z)) (fun h => by rw [hret] at h; cases h) hlk
  exact ⟨_, _, retOut X hx hret rfl (Or.inl ⟨rfl, Or.inl rfl, z, rfl⟩) (hb hby hd) hr, hrun, hended, _, _, rfl, ⟨hQ, kp, N⟩, ⟨_, rfl⟩, hW, hsame.mono hk hn⟩

theorem own_retJ {Q : Option Value → Heap → Prop} {k n : Nat} {z : Int64} (C : OwnCx p Z s m meth c own nm bytes maxL (some .long)) (P : OwnPos p l e R s m args below meth c Z ws h0 T h cells slots)
    (hd : decode bytes pc = .ok (.lreturn, 1)) (hk : cells ≤ k) (hn : slots ≤ n) (hQ : Q (some (.long z)) h) :
    OwnDone p e below (OwnEnds s Z ws h0 Q k n) (T.setTop (mkF m pc Ls (.long z :: rest))) := by
  have kp := P.keep
  obtain ⟨hx, hZ, hown, hnm, hby, hml, hret, hlk⟩ := C
  obtain ⟨locs, X, eT, e0, N, E0, G0⟩ := P
  subst eT
  obtain ⟨fs, hr, hrun, hended, hW, hsame⟩ := X.leave (v := some (.long z)) (fun h => by rw [hret] at h; cases h) hlk
  exact ⟨_, _, retOut X hx hret rfl (Or.inr (Or.inl ⟨rfl, rfl, z, rfl⟩)) (hb hby hd) hr, hrun, hended, _, _, rfl, ⟨hQ, kp, N⟩, ⟨_, rfl⟩, hW, hsame.mono hk hn⟩

theorem own_retA {Q : Option Value → Heap → Prop} {k n : Nat} {w : Value} {t : FieldType} (C : OwnCx p Z s m meth c own nm bytes maxL (some t)) (P : OwnPos p l e R s m args below meth c Z ws h0 T h cells slots)
    (ht : t.isReference = true) (hw : w.isRef = true) (hd : decode bytes pc = .ok (.areturn, 1)) (hk : cells ≤ k) (hn : slots ≤ n) (hQ : Q (some w) h) :
    OwnDone p e below (OwnEnds s Z ws h0 Q k n) (T.setTop (mkF m pc Ls (w :: rest))) := by
  have kp := P.keep
  obtain ⟨hx, hZ, hown, hnm, hby, hml, hret, hlk⟩ := C
  obtain ⟨locs, X, eT, e0, N, E0, G0⟩ := P
  subst eT
  obtain ⟨fs, hr, hrun, hended, hW, hsame⟩ := X.leave (v := some w) (fun h => by rw [hret] at h; cases h) hlk
  have hnr : narrow t w = w := by cases t <;> first | (cases ht; done) | rfl
  exact ⟨_, _, retOut X hx hret hnr (Or.inr (Or.inr (Or.inr (Or.inr ⟨rfl, ht, hw⟩)))) (hb hby hd) hr, hrun, hended, _, _, rfl, ⟨hQ, kp, N⟩, ⟨_, rfl⟩, hW, hsame.mono hk hn⟩

theorem own_retV {Q : Option Value → Heap → Prop} {k n : Nat}  (C : OwnCx p Z s m meth c own nm bytes maxL none) (P : OwnPos p l e R s m args below meth c Z ws h0 T h cells slots)
    (hd : decode bytes pc = .ok (.return_, 1)) (hk : cells ≤ k) (hn : slots ≤ n) (hQ : Q (none) h) :
    OwnDone p e below (OwnEnds s Z ws h0 Q k n) (T.setTop (mkF m pc Ls [])) := by
  have kp := P.keep
  obtain ⟨hx, hZ, hown, hnm, hby, hml, hret, hlk⟩ := C
  obtain ⟨locs, X, eT, e0, N, E0, G0⟩ := P
  subst eT
  obtain ⟨fs, hr, hrun, hended, hW, hsame⟩ := X.leave (v := none) (fun _ => rfl) hlk
  exact ⟨_, _, X.returnOut hx hret (hb hby hd) hr, hrun, hended, _, _, rfl, ⟨hQ, kp, N⟩, ⟨_, rfl⟩, hW, hsame.mono hk hn⟩

/-! single steps that ask the tables or the heap -/
theorem own_ldc {target : State} {index : Nat} {v : Int32} (C : OwnCx p Z s m meth c own nm bytes maxL rt) (P : OwnPos p l e R s m args below meth c Z ws h0 T h cells slots)
    (w : (Cond.constant own index v).before a0 Z = true) (hd : decode bytes pc = .ok (.ldc index, 2))
    (k : Steps p.tables e below (T.setTop (mkF m (pc + 2) Ls (.int v :: rest))) target) : Steps p.tables e below (T.setTop (mkF m pc Ls rest)) target := by
  obtain ⟨hx, hZ, hown, hnm, hby, hml, hret, hlk⟩ := C
  obtain ⟨locs, X, eT, e0, N, E0, G0⟩ := P
  exact X.ldcInt hx hown (mvT hZ w) (g := mkF m pc Ls rest) rfl (hb hby hd) target k
theorem own_irem {target : State} {x y : Int32} (C : OwnCx p Z s m meth c own nm bytes maxL rt) (P : OwnPos p l e R s m args below meth c Z ws h0 T h cells slots)
    (hy : y ≠ 0) (hd : decode bytes pc = .ok (.irem, 1))
    (k : Steps p.tables e below (T.setTop (mkF m (pc + 1) Ls (.int (x % y) :: rest))) target) : Steps p.tables e below (T.setTop (mkF m pc Ls (.int y :: .int x :: rest))) target := by
  obtain ⟨hx, hZ, hown, hnm, hby, hml, hret, hlk⟩ := C
  obtain ⟨locs, X, eT, e0, N, E0, G0⟩ := P
  exact iremM X hx (g := mkF m pc Ls (.int y :: .int x :: rest)) rfl (hb hby hd) rfl hy k
theorem own_getF {R0 O n d host : String} {index : Nat} {a : Addr} {v : Value} (C : OwnCx p Z s m meth c own nm bytes maxL rt) (P : OwnPos p l e R s m args below meth c Z ws h0 T h cells slots)
    (w : (Cond.fieldLink own index R0 n d).before a0 Z = true ∨ (Cond.fieldLinkNest own index R0 n d host).before a0 Z = true) (via : Via Z R0 O n d) (F : Fld Z h a O n d v) (hd : decode bytes pc = .ok (.getfield index, 3))
    (K : ∀ T', OwnPos p l e R s m args below meth c Z ws h0 T' h cells slots → OwnDone p e below W (T'.setTop (mkF m (pc + 3) Ls (v :: rest)))) : OwnDone p e below W (T.setTop (mkF m pc Ls (.ref a :: rest))) := by
  obtain ⟨hx, hZ, hown, hnm, hby, hml, hret, hlk⟩ := C
  obtain ⟨locs, X, eT, e0, N, E0, G0⟩ := P
  obtain ⟨T', X', e', st⟩ := getF X hx hZ hown w via eT F (g := mkF m pc Ls (.ref a :: rest)) rfl rfl (hb hby hd)
  exact OwnDone.go st (K T' ⟨_, X', e', e0, N, E0, G0⟩)
theorem own_getS {R0 O n d host : String} {index : Nat} {v : Value} (C : OwnCx p Z s m meth c own nm bytes maxL rt) (P : OwnPos p l e R s m args below meth c Z ws h0 T h cells slots)
    (w : (Cond.fieldLink own index R0 n d).before a0 Z = true ∨ (Cond.fieldLinkNest own index R0 n d host).before a0 Z = true) (via : Via Z R0 O n d) (F : Sta Z Z.heap O n d v) (hd : decode bytes pc = .ok (.getstatic index, 3))
    (K : ∀ T', OwnPos p l e R s m args below meth c Z ws h0 T' h cells slots → OwnDone p e below W (T'.setTop (mkF m (pc + 3) Ls (v :: rest)))) : OwnDone p e below W (T.setTop (mkF m pc Ls rest)) := by
  have F := F.ext P.old
  obtain ⟨hx, hZ, hown, hnm, hby, hml, hret, hlk⟩ := C
  obtain ⟨locs, X, eT, e0, N, E0, G0⟩ := P
  obtain ⟨T', X', e', st⟩ := getS2 X hx hZ hown w via eT F (g := mkF m pc Ls rest) rfl (hb hby hd)
  exact OwnDone.go st (K T' ⟨_, X', e', e0, N, E0, G0⟩)
/-! calls, by the callee's contract -/
theorem own_callS {y : MethodName} {yb : ByteArray} {ym : Nat} {yr : Option FieldType} {rm : Room} {Q : Option Value → Heap → Prop} {index wd : Nat} {st : List Value} {as : List Value}
    (C : OwnCx p Z s m meth c own nm bytes maxL rt) (P : OwnPos p l e R s m args below meth c Z ws h0 T h cells slots)
    (w1 : (Cond.methodLink own index y).before a0 Z = true) (w2 : (Cond.static y).before a0 Z = true) (w3 : (Cond.initialized y.cls).before a0 Z = true) (w4 : (Cond.code y yb ym yr).before a0 Z = true)
    (hy : y.cls ≠ "java/lang/invoke/MethodHandle" ∧ y.cls ≠ "java/lang/invoke/VarHandle") (M : OwnMeets l y yb ym yr rm Z ws' as.toArray h Q) {ps : List FieldType} {pr : Option FieldType} (hpd : parseMethodDescriptor y.desc = some ⟨ps, pr⟩) (hlen : as.length = ps.length)
    (hst : st = as.reverse ++ rest) (hwd : (rest.map fun v => v.category).sum = wd) (hsz : Ls.size = maxL) (hd : decode bytes pc = .ok (.invokestatic index, 3))
    (hsub : ∀ a ∈ ws', a ∈ ws ∨ h0.size ≤ a) (hf : rm.frames + 1 ≤ R.frames) (hl : wd + (ym + 11) + rm.locals ≤ R.locals) (hc : cells + rm.cells ≤ R.cells) (hs : slots + rm.slots ≤ R.slots)
    (K : ∀ T' h' v, OwnPos p l e R s m args below meth c Z ws h0 T' h' (cells + rm.cells) (slots + rm.slots) → Keep h h' ws' → Q v h' → OwnDone p e below W (T'.setTop (mkF m (pc + 3) Ls (v.toList ++ rest)))) : OwnDone p e below W (T.setTop (mkF m pc Ls st)) := by
  have kp := P.keep
  obtain ⟨hx, hZ, hown, hnm, hby, hml, hret, hlk⟩ := C
  obtain ⟨locs, X, eT, e0, N, E0, G0⟩ := P
  obtain ⟨v, _, ⟨T', L', k', n'⟩, -, X', ⟨Lc, ⟨hQ, hK, NQ⟩, l1, l2, l3⟩, stp⟩ := Jvm.LawKit.callS X hx (y := y) hown (mvT hZ w1) (mvT hZ w2) (mvT hZ w3) (mvT hZ w4) hy (backOf (W := wd) (Q := fun v h2 L => Q v h2 ∧ Keep h h2 ws' ∧ ∀ y ∈ L, y.base ∈ ws' ∨ h.size ≤ y.base) (M []) hZ w4 w3 hf hl) (g := mkF m pc Ls st) rfl (by rw [hml]; exact hsz) (argsL := as) (rest := rest) (lenOf hpd hlen) hst (by show 2 * 0 + _ ≤ _; omega) (hb hby hd) (fun _ _ => ⟨rfl, eT, hc, hs⟩)
  dsimp only [Pt.U, Pt.locs, Pt.cells, Pt.slots] at X' l1 l2 l3 stp hQ hK
  subst l1 l2 l3
  have NN : ∀ y ∈ locs ++ Lc, y.base ∈ ws ∨ h0.size ≤ y.base := fun y hy => by
    rcases List.mem_append.mp hy with q | q
    · exact N y q
    · rcases NQ y q with q | q
      · exact hsub _ q
      · exact Or.inr (Nat.le_trans kp.1 q)
  exact OwnDone.go stp (K T' _ v ⟨_, X', rfl, e0, NN, E0, G0⟩ hK hQ)

theorem own_callV {y z : MethodName} {yb : ByteArray} {ym : Nat} {yr : Option FieldType} {rm : Room} {Q : Option Value → Heap → Prop} {index wd : Nat} {st : List Value} {as : List Value} {b : Addr} {CC : String}
    (C : OwnCx p Z s m meth c own nm bytes maxL rt) (P : OwnPos p l e R s m args below meth c Z ws h0 T h cells slots) (E : Exa Z h b CC)
    (w1 : (Cond.methodLink own index y).before a0 Z = true) (w2 : (Cond.declares y).before a0 Z = true) (nf : (Cond.selects y.cls y y).before a0 Z = true) (w5 : (Cond.selects CC y z).before a0 Z = true) (w6 : (Cond.instanceMethod z).before a0 Z = true) (w3 : (Cond.initialized z.cls).before a0 Z = true) (w4 : (Cond.code z yb ym yr).before a0 Z = true)
    (hy : y.cls ≠ "java/lang/invoke/MethodHandle" ∧ y.cls ≠ "java/lang/invoke/VarHandle") (M : OwnMeets l z yb ym yr rm Z ws' (.ref b :: as).toArray h Q) {ps : List FieldType} {pr : Option FieldType} (hpd : parseMethodDescriptor y.desc = some ⟨ps, pr⟩) (hlen : as.length = ps.length)
    (hst : st = as.reverse ++ .ref b :: rest) (hwd : (rest.map fun v => v.category).sum = wd) (hsz : Ls.size = maxL) (hd : decode bytes pc = .ok (.invokevirtual index, 3))
    (hsub : ∀ a ∈ ws', a ∈ ws ∨ h0.size ≤ a) (hf : rm.frames + 1 ≤ R.frames) (hl : wd + (ym + 11) + rm.locals ≤ R.locals) (hc : cells + rm.cells ≤ R.cells) (hs : slots + rm.slots ≤ R.slots)
    (K : ∀ T' h' v, OwnPos p l e R s m args below meth c Z ws h0 T' h' (cells + rm.cells) (slots + rm.slots) → Keep h h' ws' → Q v h' → OwnDone p e below W (T'.setTop (mkF m (pc + 3) Ls (v.toList ++ rest)))) : OwnDone p e below W (T.setTop (mkF m pc Ls st)) := by
  have kp := P.keep
  obtain ⟨hx, hZ, hown, hnm, hby, hml, hret, hlk⟩ := C
  obtain ⟨locs, X, eT, e0, N, E0, G0⟩ := P
  obtain ⟨cq, kq, qa, qb, qc⟩ := isOf hZ eT E
  obtain ⟨v, _, ⟨T', L', k', n'⟩, -, X', ⟨Lc, ⟨hQ, hK, NQ⟩, l1, l2, l3⟩, stp⟩ := X.virtualBack hx (y := y) (z := z) hown (mvT hZ w1) (mvT hZ w2) (notFace_of_selects (args := #[]) (mvT hZ nf)) (mvT hZ w5) (mvT hZ w6) hy (backOf (W := wd) (Q := fun v h2 L => Q v h2 ∧ Keep h h2 ws' ∧ ∀ y ∈ L, y.base ∈ ws' ∨ h.size ≤ y.base) (M []) hZ w4 w3 hf hl) qa qc (g := mkF m pc Ls st) rfl (by rw [hml]; exact hsz) (Steps.refl _) (argsL := as) (rest := rest) (lenOf hpd hlen) hst (by show 2 * 0 + _ ≤ _; omega) (hb hby hd) (fun _ _ => ⟨rfl, eT, hc, hs⟩)
  dsimp only [Pt.U, Pt.locs, Pt.cells, Pt.slots] at X' l1 l2 l3 stp hQ hK
  subst l1 l2 l3
  have NN : ∀ y ∈ locs ++ Lc, y.base ∈ ws ∨ h0.size ≤ y.base := fun y hy => by
    rcases List.mem_append.mp hy with q | q
    · exact N y q
    · rcases NQ y q with q | q
      · exact hsub _ q
      · exact Or.inr (Nat.le_trans kp.1 q)
  exact OwnDone.go (fun _ k => stp.trans k) (K T' _ v ⟨_, X', rfl, e0, NN, E0, G0⟩ hK hQ)

theorem own_callI {y : MethodName} {yb : ByteArray} {ym : Nat} {rm : Room} {Q : Option Value → Heap → Prop} {index wd : Nat} {st : List Value} {as : List Value} {b : Addr}
    (C : OwnCx p Z s m meth c own nm bytes maxL rt) (P : OwnPos p l e R s m args below meth c Z ws h0 T h cells slots) (hin : y.name = "<init>")
    (w1 : (Cond.methodLink own index y).before a0 Z = true) (w2 : (Cond.instanceMethod y).before a0 Z = true) (w3 : (Cond.initialized y.cls).before a0 Z = true) (w4 : (Cond.code y yb ym none).before a0 Z = true)
    (hy : y.cls ≠ "java/lang/invoke/MethodHandle" ∧ y.cls ≠ "java/lang/invoke/VarHandle") (M : OwnMeets l y yb ym none rm Z ws' (.ref b :: as).toArray h Q) {ps : List FieldType} {pr : Option FieldType} (hpd : parseMethodDescriptor y.desc = some ⟨ps, pr⟩) (hlen : as.length = ps.length)
    (hst : st = as.reverse ++ .ref b :: rest) (hwd : (rest.map fun v => v.category).sum = wd) (hsz : Ls.size = maxL) (hd : decode bytes pc = .ok (.invokespecial index, 3))
    (hsub : ∀ a ∈ ws', a ∈ ws ∨ h0.size ≤ a) (hf : rm.frames + 1 ≤ R.frames) (hl : wd + (ym + 11) + rm.locals ≤ R.locals) (hc : cells + rm.cells ≤ R.cells) (hs : slots + rm.slots ≤ R.slots)
    (K : ∀ T' h' v, OwnPos p l e R s m args below meth c Z ws h0 T' h' (cells + rm.cells) (slots + rm.slots) → Keep h h' ws' → Q v h' → OwnDone p e below W (T'.setTop (mkF m (pc + 3) Ls (v.toList ++ rest)))) : OwnDone p e below W (T.setTop (mkF m pc Ls st)) := by
  have kp := P.keep
  obtain ⟨hx, hZ, hown, hnm, hby, hml, hret, hlk⟩ := C
  obtain ⟨locs, X, eT, e0, N, E0, G0⟩ := P
  obtain ⟨v, _, ⟨T', L', k', n'⟩, -, X', ⟨Lc, ⟨hQ, hK, NQ⟩, l1, l2, l3⟩, stp⟩ := X.specialBack hx (y := y) hin hown (mvT hZ w1) (mvT hZ w2) (mvT hZ w4) hy (backOf (W := wd) (Q := fun v h2 L => Q v h2 ∧ Keep h h2 ws' ∧ ∀ y ∈ L, y.base ∈ ws' ∨ h.size ≤ y.base) (M []) hZ w4 w3 hf hl) (g := mkF m pc Ls st) rfl (by rw [hml]; exact hsz) (Steps.refl _) (a := b) (argsL := as) (rest := rest) (lenOf hpd hlen) hst (by show 2 * 0 + _ ≤ _; omega) (hb hby hd) (fun _ _ => ⟨rfl, eT, hc, hs⟩)
  dsimp only [Pt.U, Pt.locs, Pt.cells, Pt.slots] at X' l1 l2 l3 stp hQ hK
  subst l1 l2 l3
  have NN : ∀ y ∈ locs ++ Lc, y.base ∈ ws ∨ h0.size ≤ y.base := fun y hy => by
    rcases List.mem_append.mp hy with q | q
    · exact N y q
    · rcases NQ y q with q | q
      · exact hsub _ q
      · exact Or.inr (Nat.le_trans kp.1 q)
  exact OwnDone.go (fun _ k => stp.trans k) (K T' _ v ⟨_, X', rfl, e0, NN, E0, G0⟩ hK hQ)

theorem own_callP {y : MethodName} {yb : ByteArray} {ym : Nat} {yr : Option FieldType} {rm : Room} {Q : Option Value → Heap → Prop} {index wd : Nat} {st : List Value} {as : List Value} {b : Addr} {CC : String}
    (C : OwnCx p Z s m meth c own nm bytes maxL rt) (P : OwnPos p l e R s m args below meth c Z ws h0 T h cells slots) (E : Exa Z h b CC)
    (w1 : (Cond.methodLink own index y).before a0 Z = true) (w2 : (Cond.instanceMethod y).before a0 Z = true) {nI : Nat} (wi : (Cond.instantiable y.cls nI).before a0 Z = true) (w6 : (Cond.privateMethod y).before a0 Z = true) (w3 : (Cond.initialized y.cls).before a0 Z = true) (w4 : (Cond.code y yb ym yr).before a0 Z = true)
    (hy : y.cls ≠ "java/lang/invoke/MethodHandle" ∧ y.cls ≠ "java/lang/invoke/VarHandle") (M : OwnMeets l y yb ym yr rm Z ws' (.ref b :: as).toArray h Q) {ps : List FieldType} {pr : Option FieldType} (hpd : parseMethodDescriptor y.desc = some ⟨ps, pr⟩) (hlen : as.length = ps.length)
    (hst : st = as.reverse ++ .ref b :: rest) (hwd : (rest.map fun v => v.category).sum = wd) (hsz : Ls.size = maxL) (hd : decode bytes pc = .ok (.invokevirtual index, 3))
    (hsub : ∀ a ∈ ws', a ∈ ws ∨ h0.size ≤ a) (hf : rm.frames + 1 ≤ R.frames) (hl : wd + (ym + 11) + rm.locals ≤ R.locals) (hc : cells + rm.cells ≤ R.cells) (hs : slots + rm.slots ≤ R.slots)
    (K : ∀ T' h' v, OwnPos p l e R s m args below meth c Z ws h0 T' h' (cells + rm.cells) (slots + rm.slots) → Keep h h' ws' → Q v h' → OwnDone p e below W (T'.setTop (mkF m (pc + 3) Ls (v.toList ++ rest)))) : OwnDone p e below W (T.setTop (mkF m pc Ls st)) := by
  have kp := P.keep
  obtain ⟨hx, hZ, hown, hnm, hby, hml, hret, hlk⟩ := C
  obtain ⟨locs, X, eT, e0, N, E0, G0⟩ := P
  obtain ⟨cq, qa, qb⟩ := E.cell
  obtain ⟨ci, ki, i1, i2, i3, i4, -⟩ := Cond.instantiable_spec (mvT (args := args) hZ wi)
  have hni : ki.isInterface = false := by
    simp only [Bool.or_eq_false_iff] at i4; exact i4.1
  obtain ⟨v, _, ⟨T', L', k', n'⟩, -, X', ⟨Lc, ⟨hQ, hK, NQ⟩, l1, l2, l3⟩, stp⟩ := X.privateBack hx (y := y) hown (mvT hZ w1) (mvT hZ w2) (selects_self_of_private i1 i2 hni (Cond.privateMethod_at (mvP hZ w6 (args := #[]))) (mvT hZ w2) hy) (Cond.privateMethod_at (mvP hZ w6 (args := #[]))) (mvT hZ w4) hy (backOf (W := wd) (Q := fun v h2 L => Q v h2 ∧ Keep h h2 ws' ∧ ∀ y ∈ L, y.base ∈ ws' ∨ h.size ≤ y.base) (M []) hZ w4 w3 hf hl) (g := mkF m pc Ls st) rfl (by rw [hml]; exact hsz) (Steps.refl _) (a := b) (by rw [eT]; exact qa) qb (argsL := as) (rest := rest) (lenOf hpd hlen) hst (by show 2 * 0 + _ ≤ _; omega) (hb hby hd) (fun _ _ => ⟨rfl, eT, hc, hs⟩)
  dsimp only [Pt.U, Pt.locs, Pt.cells, Pt.slots] at X' l1 l2 l3 stp hQ hK
  subst l1 l2 l3
  have NN : ∀ y ∈ locs ++ Lc, y.base ∈ ws ∨ h0.size ≤ y.base := fun y hy => by
    rcases List.mem_append.mp hy with q | q
    · exact N y q
    · rcases NQ y q with q | q
      · exact hsub _ q
      · exact Or.inr (Nat.le_trans kp.1 q)
  exact OwnDone.go (fun _ k => stp.trans k) (K T' _ v ⟨_, X', rfl, e0, NN, E0, G0⟩ hK hQ)

theorem own_initO {index wd : Nat} {a : Addr} (C : OwnCx p Z s m meth c own nm bytes maxL rt) (P : OwnPos p l e R s m args below meth c Z ws h0 T h cells slots)
    (w1 : (Cond.methodLink own index Lib.objectInit).before a0 Z = true) (w2 : (Cond.instanceMethod Lib.objectInit).before a0 Z = true) (w3 : (Cond.code Lib.objectInit ⟨#[0xb1]⟩ 1 none).before a0 Z = true)
    (hwd : (rest.map fun v => v.category).sum = wd) (hsz : Ls.size = maxL) (hd : decode bytes pc = .ok (.invokespecial index, 3)) (hf : 1 ≤ R.frames) (hl : wd + 12 ≤ R.locals)
    (K : ∀ T', OwnPos p l e R s m args below meth c Z ws h0 T' h cells slots → OwnDone p e below W (T'.setTop (mkF m (pc + 3) Ls rest))) : OwnDone p e below W (T.setTop (mkF m pc Ls (.ref a :: rest))) := by
  obtain ⟨hx, hZ, hown, hnm, hby, hml, hret, hlk⟩ := C
  obtain ⟨locs, X, eT, e0, N, E0, G0⟩ := P
  obtain ⟨T', X', e', st⟩ := initO X hx hZ hown w1 w2 w3 eT (g := mkF m pc Ls (.ref a :: rest)) rfl (by rw [hml]; exact hsz) rfl (hb hby hd) hf (W := wd) (by show 2 * 0 + _ ≤ _; omega) hl
  exact OwnDone.go st (K T' ⟨_, X', e', e0, N, E0, G0⟩)
theorem own_nb {z : Int32} (h : z = 0 ∨ z = 1) : narrow .boolean (.int z) = .int z := by rcases h with rfl | rfl <;> rfl
theorem own_fb {z : Int32} (h : z = 0 ∨ z = 1) : fits .boolean (.int z) = true := by rcases h with rfl | rfl <;> rfl
theorem own_nref {t : FieldType} {v : Value} (ht : t.isReference = true) : narrow t v = v := by cases t <;> first | (cases ht; done) | rfl
theorem own_fref {t : FieldType} {v : Value} (ht : t.isReference = true) (hv : v.isRef = true) : fits t v = true := by
  cases t <;> first | (cases ht; done) | (cases v <;> first | (cases hv; done) | rfl)
/-! objects: all their fields at once -/
def OwnObj (Z : State) (h : Heap) (a : Addr) (C : String) (lay : List (String × String × String)) (vs : List Value) : Prop :=
  Exa Z h a C ∧ ∀ (i : Nat) (O n d : String) (v : Value), lay[i]? = some (O, n, d) → vs[i]? = some v → Fld Z h a O n d v
/-- the sheet lays these fields; their names are unlike -/
def OwnLaid (Z : State) (a0 : Array Value) (C : String) (lay : List (String × String × String)) : Prop :=
  (∀ q ∈ lay, Laid Z a0 C q.1 q.2.1 q.2.2) ∧ (lay.map fun q => q.2.1).Nodup ∧ ∀ q ∈ lay, ∃ t, parseFieldDescriptor q.2.2 = some t
section Obj
variable {a b : Addr} {CC : String} {lay : List (String × String × String)} {vs vs' : List Value}
theorem OwnObj.lt (F : OwnObj Z h a CC lay vs) : a < h.size := F.1.lt
theorem OwnObj.keep (F : OwnObj Z h a CC lay vs) (K : Keep h h' ws) (q : a ∉ ws) : OwnObj Z h' a CC lay vs :=
  ⟨F.1.keep K, fun i O n d v h1 h2 => (F.2 i O n d v h1 h2).keep K q⟩
theorem own_names (nd : (lay.map fun q => q.2.1).Nodup) {i j : Nat} {O n d O' n' d' : String} (hi : lay[i]? = some (O, n, d)) (hj : lay[j]? = some (O', n', d')) (ne : i ≠ j) : n ≠ n' := fun e => by
  have hl : i < (lay.map fun q => q.2.1).length := by simpa using (List.getElem?_eq_some_iff.mp hi).1
  refine ne ((List.getElem?_inj hl nd).mp ?_)
  simp [hi, hj, e]
theorem OwnObj.put {O n d : String} {v : Value} (F : OwnObj Z h a CC lay vs) (LL : OwnLaid Z a0 CC lay) (W : Wr h h' a (Jvm.RoadKit.slotOf Z O n d) v) (i : Nat) (hi : lay[i]? = some (O, n, d)) (hv : vs.set i v = vs') : OwnObj Z h' a CC lay vs' := by
  subst hv
  refine ⟨F.1.wr W, fun j O' n' d' v' h1 h2 => ?_⟩
  by_cases q : i = j
  · subst q
    cases hi.symm.trans h1
    have hl : i < vs.length := by
      have := (List.getElem?_eq_some_iff.mp h2).1
      simpa using this
    rw [List.getElem?_set_self hl] at h2
    cases h2
    exact (F.2 i _ _ _ _ h1 (List.getElem?_eq_getElem hl)).same W
  · rw [List.getElem?_set_ne q] at h2
    obtain ⟨t, ht⟩ := LL.2.2 (O, n, d) (List.mem_of_getElem? hi)
    obtain ⟨t', ht'⟩ := LL.2.2 (O', n', d') (List.mem_of_getElem? h1)
    have L1 : Laid Z a0 CC O' n' d' := LL.1 (O', n', d') (List.mem_of_getElem? h1)
    have L2 : Laid Z a0 CC O n d := LL.1 (O, n, d) (List.mem_of_getElem? hi)
    have t1 : parseFieldDescriptor d' = some t' := ht'
    have t2 : parseFieldDescriptor d = some t := ht
    have nn : n' ≠ n := own_names LL.2.1 h1 hi (Ne.symm q)
    have sn := Jvm.RoadKit.slot_ne L1 L2 nn t1 t2
    exact (F.2 j O' n' d' v' h1 h2).other W (Or.inr sn)
theorem own_new {n index : Nat} (C : OwnCx p Z s m meth c own nm bytes maxL rt) (P : OwnPos p l e R s m args below meth c Z ws h0 T h cells slots)
    (w : (Cond.classLink own index CC).before a0 Z = true) (wi : (Cond.instantiable CC n).before a0 Z = true) (wz : (Cond.initialized CC).before a0 Z = true) (LL : OwnLaid Z a0 CC lay)
    (hv : lay.map (fun q => (parseFieldDescriptor q.2.2).map defaultValue) = vs.map some) (hd : decode bytes pc = .ok (.new index, 3)) (hc : cells + 1 ≤ R.cells) (hl : slots + n ≤ R.slots)
    (K : ∀ T' h' a, a = h.size → a < h'.size → OwnPos p l e R s m args below meth c Z ws h0 T' h' (cells + 1) (slots + n) → Keep h h' [] → OwnObj Z h' a CC lay vs → OwnDone p e below W (T'.setTop (mkF m (pc + 3) Ls (.ref a :: rest)))) : OwnDone p e below W (T.setTop (mkF m pc Ls rest)) := by
  have kp := P.keep
  obtain ⟨hx, hZ, hown, hnm, hby, hml, hret, hlk⟩ := C
  obtain ⟨locs, X, eT, e0, N, E0, G0⟩ := P
  obtain ⟨T', h', X', e', E', A', D', -, st⟩ := newO X hx hZ hown w wi wz eT (g := mkF m pc Ls rest) rfl (hb hby hd) hc hl
  refine OwnDone.go st (K T' h' h.size rfl A'.lt ⟨_, X', e', e0, N, E0, G0⟩ ((Keep.refl h []).ext E') ⟨A', fun i O n d v h1 h2 => ?_⟩)
  have q : (lay.map (fun q => (parseFieldDescriptor q.2.2).map defaultValue))[i]? = (vs.map some)[i]? := by rw [hv]
  simp only [List.getElem?_map, h1, h2, Option.map_some] at q
  obtain ⟨t, ht⟩ := LL.2.2 _ (List.mem_of_getElem? h1)
  rw [ht] at q
  obtain rfl : defaultValue t = v := by simpa using q
  exact D' (LL.1 _ (List.mem_of_getElem? h1)) ht
theorem own_putO {R0 O n d : String} {index kk : Nat} {ty : FieldType} {v v' : Value} (C : OwnCx p Z s m meth c own nm bytes maxL rt) (P : OwnPos p l e R s m args below meth c Z ws h0 T h cells slots)
    (w : (Cond.fieldLink own index R0 n d).before a0 Z = true) (via : Via Z R0 O n d) (F : OwnObj Z h a CC lay vs) (LL : OwnLaid Z a0 CC lay) (i : Nat) (hi : lay[i]? = some (O, n, d)) {old : Value} (ho : vs[i]? = some old)
    (L : (Cond.lays CC O n d).before a0 Z = true ∨ ((Cond.laysFinal CC O n d).before a0 Z = true ∧ own = O ∧ nm = "<init>")) (wi : (Cond.instantiable CC kk).before a0 Z = true)
    (hty : parseFieldDescriptor d = some ty) (hn : narrow ty v = v') (hf : fits ty v' = true) (hge : a ∈ ws ∨ h0.size ≤ a) (hd : decode bytes pc = .ok (.putfield index, 3)) (hvs : vs.set i v' = vs')
    (K : ∀ T' h', OwnPos p l e R s m args below meth c Z ws h0 T' h' cells slots → Keep h h' [a] → OwnObj Z h' a CC lay vs' → OwnDone p e below W (T'.setTop (mkF m (pc + 3) Ls rest))) : OwnDone p e below W (T.setTop (mkF m pc Ls (v :: .ref a :: rest))) := by
  obtain ⟨hx, hZ, hown, hnm, hby, hml, hret, hlk⟩ := C
  obtain ⟨locs, X, eT, e0, N, E0, G0⟩ := P
  subst hnm
  obtain ⟨T', h', X', e', W', st⟩ := putFN X hx hZ hown w via eT (F.2 i _ _ _ _ hi ho) F.1 L wi hty hn hf (g := mkF m pc Ls (v :: .ref a :: rest)) rfl rfl (hb hby hd)
  have NN : ∀ y ∈ locs ++ [⟨a, Jvm.RoadKit.slotOf Z O n d⟩], y.base ∈ ws ∨ h0.size ≤ y.base := fun y hy => by
    rcases List.mem_append.mp hy with q | q
    · exact N y q
    · cases List.mem_singleton.mp q; exact hge
  exact OwnDone.go st (K T' h' ⟨_, X', e', e0, NN, E0, G0⟩ (Keep.of_wr W') (F.put LL W' i hi hvs))
end Obj
/-! arrays: all their elements at once -/
def OwnAry (Z : State) (h : Heap) (a : Addr) (k : ClassId) (ty : FieldType) (vs : List Value) : Prop := ∃ c : Cell, Arr Z h a c ty ∧ c.cls = k ∧ c.slots.toList = vs
section Ary
variable {a b : Addr} {k : ClassId} {ty : FieldType} {vs vs' : List Value} {j : Int32}
theorem OwnAry.lt (F : OwnAry Z h a k ty vs) : a < h.size := by obtain ⟨c, A, -⟩ := F; exact A.lt
theorem OwnAry.keep (F : OwnAry Z h a k ty vs) (K : Keep h h' ws) (q : a ∉ ws) : OwnAry Z h' a k ty vs := by
  obtain ⟨c, A, r⟩ := F; exact ⟨c, ⟨K.2.1 a c A.1 q, A.2⟩, r⟩
theorem OwnAry.ext (F : OwnAry Z h a k ty vs) (E : Ext h h') : OwnAry Z h' a k ty vs := by obtain ⟨c, A, r⟩ := F; exact ⟨c, A.ext E, r⟩
theorem OwnAry.set {i : Nat} {v : Value} (F : OwnAry Z h a k ty vs) (W : Wr h h' a i v) : OwnAry Z h' a k ty (vs.set i v) := by
  obtain ⟨c, A, r1, r2⟩ := F
  exact ⟨_, A.same W, r1, by rw [← r2]; simp [Cell.setSlot]⟩
theorem own_in {c : Cell} (r : c.slots.toList = vs) (h1 : ¬ j < 0) (h2 : j.toNatClampNeg < vs.length) : ¬ (j < 0 ∨ c.slots.size ≤ j.toNatClampNeg) := by
  have e : c.slots.size = vs.length := by rw [← r]; simp
  rw [e]; rintro (q | q)
  · exact h1 q
  · omega
theorem own_at {c : Cell} {i : Nat} (r : c.slots.toList = vs) : c.slots[i]? = vs[i]? := by rw [← r]; simp
theorem own_cls {cc : Cell} {ad : String} (A : Arr Z h a cc ty) (E : Exa Z h a ad) : Z.vm.findClass ad = some cc.cls := by
  obtain ⟨c1, k1, h1, h2, -⟩ := E
  cases A.1.symm.trans h1
  exact h2
theorem OwnAry.ins {cn : String} (F : OwnAry Z h a k ty vs) (hk : Z.vm.findClass cn = some k) : Ins Z h a cn true := by
  obtain ⟨c1, A, rfl, -⟩ := F
  exact ⟨c1, _, A.1, hk, by simp [A.plain, Vm.assignable_self]⟩
theorem OwnAry.insC {cn C' : String} (F : OwnAry Z h a k ty vs) (hk : Z.vm.findClass cn = some k) (w : (Cond.castable cn C').before a0 Z = true) : Ins Z h a C' true := by
  obtain ⟨c1, A, rfl, -⟩ := F
  obtain ⟨d1, d2, g1, g2, g3⟩ := Cond.castable_spec w
  cases hk.symm.trans g1
  exact ⟨c1, d2, A.1, g2, by simp [A.plain, g3]⟩
theorem OwnAry.sto {C' : String} {y : Addr} (F : OwnAry Z h a k ty vs) (O : Ovr Z k C') (I : Ins Z h y C' true) : Sto Z h a (.ref y) := by
  obtain ⟨c1, A, q, -⟩ := F; exact Sto.ofV A q O I
theorem OwnAry.stoA {C' : String} {t : FieldType} {y : Addr} (F : OwnAry Z h a k ty vs) (O : OvrA Z k t C') (I : Ins Z h y C' true) : Sto Z h a (.ref y) := by
  obtain ⟨c1, A, q, -⟩ := F; exact Sto.ofVA A q O I
theorem own_newP {aty : ArrayType} {n : Int32} {cap : Nat} {ad : String} (C : OwnCx p Z s m meth c own nm bytes maxL rt) (P : OwnPos p l e R s m args below meth c Z ws h0 T h cells slots)
    (w : (Cond.arrayClass (newarray.typeOf aty)).before a0 Z = true) (hd : decode bytes pc = .ok (.newarray aty, 2)) (hn : ¬ n < 0) (hcap : n.toNatClampNeg ≤ cap) (hbb : cap * 8 ≤ 536870912) (hvs : List.replicate n.toNatClampNeg (defaultValue (newarray.typeOf aty)) = vs) (had : "[" ++ (newarray.typeOf aty).toString = ad) (hc : cells + 1 ≤ R.cells) (hl : slots + cap ≤ R.slots)
    (K : ∀ T' h' a k, a = h.size → a < h'.size → OwnPos p l e R s m args below meth c Z ws h0 T' h' (cells + 1) (slots + cap) → Keep h h' [] → OwnAry Z h' a k (newarray.typeOf aty) vs → Z.vm.findClass ad = some k → OwnDone p e below W (T'.setTop (mkF m (pc + 2) Ls (.ref a :: rest)))) : OwnDone p e below W (T.setTop (mkF m pc Ls (.int n :: rest))) := by
  obtain ⟨hx, hZ, hown, hnm, hby, hml, hret, hlk⟩ := C
  obtain ⟨locs, X, eT, e0, N, E0, G0⟩ := P
  obtain ⟨T', h', cA, X', e', E', A', EX, st⟩ := newPE X hx hZ w eT (g := mkF m pc Ls (.int n :: rest)) rfl (hb hby hd) rfl hn hcap hbb hc hl had
  exact OwnDone.go st (K T' h' h.size cA rfl A'.lt ⟨_, X', e', e0, N, E0, G0⟩ ((Keep.refl h []).ext E') ⟨_, A', rfl, by rw [← hvs]; simp [newA]⟩ (own_cls A' EX))
theorem own_newR {CC : String} {index : Nat} {n : Int32} {cap : Nat} {ad : String} (C : OwnCx p Z s m meth c own nm bytes maxL rt) (P : OwnPos p l e R s m args below meth c Z ws h0 T h cells slots)
    (w1 : (Cond.classLink own index CC).before a0 Z = true) (w2 : (Cond.arrayOver (.object CC)).before a0 Z = true) (hd : decode bytes pc = .ok (.anewarray index, 3)) (hn : ¬ n < 0) (hcap : n.toNatClampNeg ≤ cap) (hbb : cap * 8 ≤ 536870912) (hvs : List.replicate n.toNatClampNeg Value.null = vs) (had : "[" ++ (FieldType.object CC).toString = ad) (hc : cells + 1 ≤ R.cells) (hl : slots + cap ≤ R.slots)
    (K : ∀ T' h' a k, a = h.size → a < h'.size → OwnPos p l e R s m args below meth c Z ws h0 T' h' (cells + 1) (slots + cap) → Keep h h' [] → OwnAry Z h' a k (.object CC) vs → Z.vm.findClass ad = some k → Ovr Z k CC → OwnDone p e below W (T'.setTop (mkF m (pc + 3) Ls (.ref a :: rest)))) : OwnDone p e below W (T.setTop (mkF m pc Ls (.int n :: rest))) := by
  obtain ⟨hx, hZ, hown, hnm, hby, hml, hret, hlk⟩ := C
  obtain ⟨locs, X, eT, e0, N, E0, G0⟩ := P
  obtain ⟨T', h', cA, X', e', E', A', EX, O', st⟩ := newRE X hx hZ hown w1 w2 eT (g := mkF m pc Ls (.int n :: rest)) rfl (hb hby hd) rfl hn hcap hbb hc hl had
  exact OwnDone.go st (K T' h' h.size cA rfl A'.lt ⟨_, X', e', e0, N, E0, G0⟩ ((Keep.refl h []).ext E') ⟨_, A', rfl, by rw [← hvs]; simp [newA, defaultValue]⟩ (own_cls A' EX) O')
theorem own_newA {CC : String} {t : FieldType} {index : Nat} {n : Int32} {cap : Nat} {ad : String} (C : OwnCx p Z s m meth c own nm bytes maxL rt) (P : OwnPos p l e R s m args below meth c Z ws h0 T h cells slots)
    (hC : (FieldType.array t).toString = CC) (w1 : (Cond.classLink own index CC).before a0 Z = true) (w2 : (Cond.arrayOver (.array t)).before a0 Z = true) (hd : decode bytes pc = .ok (.anewarray index, 3)) (hn : ¬ n < 0) (hcap : n.toNatClampNeg ≤ cap) (hbb : cap * 8 ≤ 536870912) (hvs : List.replicate n.toNatClampNeg Value.null = vs) (had : "[" ++ CC = ad) (hc : cells + 1 ≤ R.cells) (hl : slots + cap ≤ R.slots)
    (K : ∀ T' h' a k, a = h.size → a < h'.size → OwnPos p l e R s m args below meth c Z ws h0 T' h' (cells + 1) (slots + cap) → Keep h h' [] → OwnAry Z h' a k (.array t) vs → Z.vm.findClass ad = some k → OvrA Z k t CC → OwnDone p e below W (T'.setTop (mkF m (pc + 3) Ls (.ref a :: rest)))) : OwnDone p e below W (T.setTop (mkF m pc Ls (.int n :: rest))) := by
  obtain ⟨hx, hZ, hown, hnm, hby, hml, hret, hlk⟩ := C
  obtain ⟨locs, X, eT, e0, N, E0, G0⟩ := P
  obtain ⟨T', h', cA, X', e', E', A', EX, O', st⟩ := newRA X hx hZ hown hC w1 w2 eT (g := mkF m pc Ls (.int n :: rest)) rfl (hb hby hd) rfl hn hcap hbb hc hl had
  exact OwnDone.go st (K T' h' h.size cA rfl A'.lt ⟨_, X', e', e0, N, E0, G0⟩ ((Keep.refl h []).ext E') ⟨_, A', rfl, by rw [← hvs]; simp [newA, defaultValue]⟩ (own_cls A' EX) O')
theorem own_iastore {x : Int32} (C : OwnCx p Z s m meth c own nm bytes maxL rt) (P : OwnPos p l e R s m args below meth c Z ws h0 T h cells slots)
    (F : OwnAry Z h a k .int vs) (h1 : ¬ j < 0) (h2 : j.toNatClampNeg < vs.length) (hge : a ∈ ws ∨ h0.size ≤ a) (hd : decode bytes pc = .ok (.iastore, 1)) (hvs : vs.set j.toNatClampNeg (.int x) = vs')
    (K : ∀ T' h', OwnPos p l e R s m args below meth c Z ws h0 T' h' cells slots → Keep h h' [a] → OwnAry Z h' a k .int vs' → OwnDone p e below W (T'.setTop (mkF m (pc + 1) Ls rest))) : OwnDone p e below W (T.setTop (mkF m pc Ls ((.int x) :: .int j :: .ref a :: rest))) := by
  obtain ⟨hx, hZ, hown, hnm, hby, hml, hret, hlk⟩ := C
  obtain ⟨locs, X, eT, e0, N, E0, G0⟩ := P
  obtain ⟨c0, A0, r1, r2⟩ := id F
  obtain ⟨T', h', X', e', W', st⟩ := stI X hx hZ eT A0 (own_in r2 h1 h2) (g := mkF m pc Ls ((.int x) :: .int j :: .ref a :: rest)) rfl rfl (hb hby hd)
  have NN : ∀ y ∈ locs ++ [⟨a, j.toNatClampNeg⟩], y.base ∈ ws ∨ h0.size ≤ y.base := fun y hy => by
    rcases List.mem_append.mp hy with q | q
    · exact N y q
    · cases List.mem_singleton.mp q; exact hge
  exact OwnDone.go st (K T' h' ⟨_, X', e', e0, NN, E0, G0⟩ (Keep.of_wr W') (hvs ▸ F.set W'))
theorem own_lastore {x : Int64} (C : OwnCx p Z s m meth c own nm bytes maxL rt) (P : OwnPos p l e R s m args below meth c Z ws h0 T h cells slots)
    (F : OwnAry Z h a k .long vs) (h1 : ¬ j < 0) (h2 : j.toNatClampNeg < vs.length) (hge : a ∈ ws ∨ h0.size ≤ a) (hd : decode bytes pc = .ok (.lastore, 1)) (hvs : vs.set j.toNatClampNeg (.long x) = vs')
    (K : ∀ T' h', OwnPos p l e R s m args below meth c Z ws h0 T' h' cells slots → Keep h h' [a] → OwnAry Z h' a k .long vs' → OwnDone p e below W (T'.setTop (mkF m (pc + 1) Ls rest))) : OwnDone p e below W (T.setTop (mkF m pc Ls ((.long x) :: .int j :: .ref a :: rest))) := by
  obtain ⟨hx, hZ, hown, hnm, hby, hml, hret, hlk⟩ := C
  obtain ⟨locs, X, eT, e0, N, E0, G0⟩ := P
  obtain ⟨c0, A0, r1, r2⟩ := id F
  obtain ⟨T', h', X', e', W', st⟩ := stJ X hx hZ eT A0 (own_in r2 h1 h2) (g := mkF m pc Ls ((.long x) :: .int j :: .ref a :: rest)) rfl rfl (hb hby hd)
  have NN : ∀ y ∈ locs ++ [⟨a, j.toNatClampNeg⟩], y.base ∈ ws ∨ h0.size ≤ y.base := fun y hy => by
    rcases List.mem_append.mp hy with q | q
    · exact N y q
    · cases List.mem_singleton.mp q; exact hge
  exact OwnDone.go st (K T' h' ⟨_, X', e', e0, NN, E0, G0⟩ (Keep.of_wr W') (hvs ▸ F.set W'))
theorem own_castore {x : Int32} (C : OwnCx p Z s m meth c own nm bytes maxL rt) (P : OwnPos p l e R s m args below meth c Z ws h0 T h cells slots)
    (F : OwnAry Z h a k .char vs) (h1 : ¬ j < 0) (h2 : j.toNatClampNeg < vs.length) (hge : a ∈ ws ∨ h0.size ≤ a) (hd : decode bytes pc = .ok (.castore, 1)) (hvs : vs.set j.toNatClampNeg (.int (nar .char x)) = vs')
    (K : ∀ T' h', OwnPos p l e R s m args below meth c Z ws h0 T' h' cells slots → Keep h h' [a] → OwnAry Z h' a k .char vs' → OwnDone p e below W (T'.setTop (mkF m (pc + 1) Ls rest))) : OwnDone p e below W (T.setTop (mkF m pc Ls (.int x :: .int j :: .ref a :: rest))) := by
  obtain ⟨hx, hZ, hown, hnm, hby, hml, hret, hlk⟩ := C
  obtain ⟨locs, X, eT, e0, N, E0, G0⟩ := P
  obtain ⟨c0, A0, r1, r2⟩ := id F
  obtain ⟨T', h', X', e', W', st⟩ := stC X hx hZ eT A0 (own_in r2 h1 h2) (g := mkF m pc Ls (.int x :: .int j :: .ref a :: rest)) rfl rfl (hb hby hd)
  have NN : ∀ y ∈ locs ++ [⟨a, j.toNatClampNeg⟩], y.base ∈ ws ∨ h0.size ≤ y.base := fun y hy => by
    rcases List.mem_append.mp hy with q | q
    · exact N y q
    · cases List.mem_singleton.mp q; exact hge
  exact OwnDone.go st (K T' h' ⟨_, X', e', e0, NN, E0, G0⟩ (Keep.of_wr W') (hvs ▸ F.set W'))
theorem own_bastore {x : Int32} (C : OwnCx p Z s m meth c own nm bytes maxL rt) (P : OwnPos p l e R s m args below meth c Z ws h0 T h cells slots)
    (F : OwnAry Z h a k .byte vs) (h1 : ¬ j < 0) (h2 : j.toNatClampNeg < vs.length) (hge : a ∈ ws ∨ h0.size ≤ a) (hd : decode bytes pc = .ok (.bastore, 1)) (hvs : vs.set j.toNatClampNeg (.int (nar .byte x)) = vs')
    (K : ∀ T' h', OwnPos p l e R s m args below meth c Z ws h0 T' h' cells slots → Keep h h' [a] → OwnAry Z h' a k .byte vs' → OwnDone p e below W (T'.setTop (mkF m (pc + 1) Ls rest))) : OwnDone p e below W (T.setTop (mkF m pc Ls (.int x :: .int j :: .ref a :: rest))) := by
  obtain ⟨hx, hZ, hown, hnm, hby, hml, hret, hlk⟩ := C
  obtain ⟨locs, X, eT, e0, N, E0, G0⟩ := P
  obtain ⟨c0, A0, r1, r2⟩ := id F
  obtain ⟨T', h', X', e', W', st⟩ := stB X hx hZ eT A0 (own_in r2 h1 h2) (g := mkF m pc Ls (.int x :: .int j :: .ref a :: rest)) rfl rfl (hb hby hd)
  have NN : ∀ y ∈ locs ++ [⟨a, j.toNatClampNeg⟩], y.base ∈ ws ∨ h0.size ≤ y.base := fun y hy => by
    rcases List.mem_append.mp hy with q | q
    · exact N y q
    · cases List.mem_singleton.mp q; exact hge
  exact OwnDone.go st (K T' h' ⟨_, X', e', e0, NN, E0, G0⟩ (Keep.of_wr W') (hvs ▸ F.set W'))
theorem own_aastore {v : Value} (C : OwnCx p Z s m meth c own nm bytes maxL rt) (P : OwnPos p l e R s m args below meth c Z ws h0 T h cells slots)
    (F : OwnAry Z h a k ty vs) (hty : ty.isReference = true) (h1 : ¬ j < 0) (h2 : j.toNatClampNeg < vs.length) (S : Sto Z h a v) (hge : a ∈ ws ∨ h0.size ≤ a) (hd : decode bytes pc = .ok (.aastore, 1)) (hvs : vs.set j.toNatClampNeg v = vs')
    (K : ∀ T' h', OwnPos p l e R s m args below meth c Z ws h0 T' h' cells slots → Keep h h' [a] → OwnAry Z h' a k ty vs' → OwnDone p e below W (T'.setTop (mkF m (pc + 1) Ls rest))) : OwnDone p e below W (T.setTop (mkF m pc Ls (v :: .int j :: .ref a :: rest))) := by
  obtain ⟨hx, hZ, hown, hnm, hby, hml, hret, hlk⟩ := C
  obtain ⟨locs, X, eT, e0, N, E0, G0⟩ := P
  obtain ⟨c0, A0, r1, r2⟩ := id F
  obtain ⟨T', h', X', e', W', st⟩ := stR X hx hZ eT A0 (own_in r2 h1 h2) hty S (g := mkF m pc Ls (v :: .int j :: .ref a :: rest)) rfl rfl (hb hby hd)
  have NN : ∀ y ∈ locs ++ [⟨a, j.toNatClampNeg⟩], y.base ∈ ws ∨ h0.size ≤ y.base := fun y hy => by
    rcases List.mem_append.mp hy with q | q
    · exact N y q
    · cases List.mem_singleton.mp q; exact hge
  exact OwnDone.go st (K T' h' ⟨_, X', e', e0, NN, E0, G0⟩ (Keep.of_wr W') (hvs ▸ F.set W'))
theorem own_iaload {v : Value} {target : State} (C : OwnCx p Z s m meth c own nm bytes maxL rt) (P : OwnPos p l e R s m args below meth c Z ws h0 T h cells slots)
    (F : OwnAry Z h a k .int vs) (h1 : ¬ j < 0) (hv : vs[j.toNatClampNeg]? = some v) (hd : decode bytes pc = .ok (.iaload, 1))
    (K : Steps p.tables e below (T.setTop (mkF m (pc + 1) Ls (v :: rest))) target) : Steps p.tables e below (T.setTop (mkF m pc Ls (.int j :: .ref a :: rest))) target := by
  obtain ⟨hx, hZ, hown, hnm, hby, hml, hret, hlk⟩ := C
  obtain ⟨locs, X, eT, e0, N, E0, G0⟩ := P
  obtain ⟨c0, A0, r1, r2⟩ := F
  exact X.iaload hx (j := j) (v := v) (by rw [eT]; exact A0.1) (State.isArrayOf_alike hZ.alike A0.2.1) A0.2.2 (own_in r2 h1 (List.getElem?_eq_some_iff.mp hv).1) ((own_at r2).trans hv) (g := mkF m pc Ls (.int j :: .ref a :: rest)) rfl rfl (hb hby hd) target K
theorem own_laload {v : Value} {target : State} (C : OwnCx p Z s m meth c own nm bytes maxL rt) (P : OwnPos p l e R s m args below meth c Z ws h0 T h cells slots)
    (F : OwnAry Z h a k .long vs) (h1 : ¬ j < 0) (hv : vs[j.toNatClampNeg]? = some v) (hd : decode bytes pc = .ok (.laload, 1))
    (K : Steps p.tables e below (T.setTop (mkF m (pc + 1) Ls (v :: rest))) target) : Steps p.tables e below (T.setTop (mkF m pc Ls (.int j :: .ref a :: rest))) target := by
  obtain ⟨hx, hZ, hown, hnm, hby, hml, hret, hlk⟩ := C
  obtain ⟨locs, X, eT, e0, N, E0, G0⟩ := P
  obtain ⟨c0, A0, r1, r2⟩ := F
  exact X.laload hx (j := j) (v := v) (by rw [eT]; exact A0.1) (State.isArrayOf_alike hZ.alike A0.2.1) A0.2.2 (own_in r2 h1 (List.getElem?_eq_some_iff.mp hv).1) ((own_at r2).trans hv) (g := mkF m pc Ls (.int j :: .ref a :: rest)) rfl rfl (hb hby hd) target K
theorem own_caload {v : Value} {target : State} (C : OwnCx p Z s m meth c own nm bytes maxL rt) (P : OwnPos p l e R s m args below meth c Z ws h0 T h cells slots)
    (F : OwnAry Z h a k .char vs) (h1 : ¬ j < 0) (hv : vs[j.toNatClampNeg]? = some v) (hd : decode bytes pc = .ok (.caload, 1))
    (K : Steps p.tables e below (T.setTop (mkF m (pc + 1) Ls (v :: rest))) target) : Steps p.tables e below (T.setTop (mkF m pc Ls (.int j :: .ref a :: rest))) target := by
  obtain ⟨hx, hZ, hown, hnm, hby, hml, hret, hlk⟩ := C
  obtain ⟨locs, X, eT, e0, N, E0, G0⟩ := P
  obtain ⟨c0, A0, r1, r2⟩ := F
  exact X.caload hx (j := j) (v := v) (by rw [eT]; exact A0.1) (State.isArrayOf_alike hZ.alike A0.2.1) A0.2.2 (own_in r2 h1 (List.getElem?_eq_some_iff.mp hv).1) ((own_at r2).trans hv) (g := mkF m pc Ls (.int j :: .ref a :: rest)) rfl rfl (hb hby hd) target K
theorem own_baload {v : Value} {target : State} (C : OwnCx p Z s m meth c own nm bytes maxL rt) (P : OwnPos p l e R s m args below meth c Z ws h0 T h cells slots)
    (F : OwnAry Z h a k .byte vs) (h1 : ¬ j < 0) (hv : vs[j.toNatClampNeg]? = some v) (hd : decode bytes pc = .ok (.baload, 1))
    (K : Steps p.tables e below (T.setTop (mkF m (pc + 1) Ls (v :: rest))) target) : Steps p.tables e below (T.setTop (mkF m pc Ls (.int j :: .ref a :: rest))) target := by
  obtain ⟨hx, hZ, hown, hnm, hby, hml, hret, hlk⟩ := C
  obtain ⟨locs, X, eT, e0, N, E0, G0⟩ := P
  obtain ⟨c0, A0, r1, r2⟩ := F
  exact X.baloadBytes hx (j := j) (v := v) (by rw [eT]; exact A0.1) (State.isArrayOf_alike hZ.alike A0.2.1) A0.2.2 (own_in r2 h1 (List.getElem?_eq_some_iff.mp hv).1) ((own_at r2).trans hv) (g := mkF m pc Ls (.int j :: .ref a :: rest)) rfl rfl (hb hby hd) target K
theorem own_aaload {v : Value} {target : State} (C : OwnCx p Z s m meth c own nm bytes maxL rt) (P : OwnPos p l e R s m args below meth c Z ws h0 T h cells slots)
    (F : OwnAry Z h a k ty vs) (hty : ty.isReference = true) (h1 : ¬ j < 0) (hv : vs[j.toNatClampNeg]? = some v) (hd : decode bytes pc = .ok (.aaload, 1))
    (K : Steps p.tables e below (T.setTop (mkF m (pc + 1) Ls (v :: rest))) target) : Steps p.tables e below (T.setTop (mkF m pc Ls (.int j :: .ref a :: rest))) target := by
  obtain ⟨hx, hZ, hown, hnm, hby, hml, hret, hlk⟩ := C
  obtain ⟨locs, X, eT, e0, N, E0, G0⟩ := P
  obtain ⟨c0, A0, r1, r2⟩ := F
  exact X.aaload hx (j := j) (v := v) (by rw [eT]; exact A0.1) (State.isArrayOf_alike hZ.alike A0.2.1) hty A0.2.2 (own_in r2 h1 (List.getElem?_eq_some_iff.mp hv).1) ((own_at r2).trans hv) (g := mkF m pc Ls (.int j :: .ref a :: rest)) rfl rfl (hb hby hd) target K
theorem own_alen {target : State} (C : OwnCx p Z s m meth c own nm bytes maxL rt) (P : OwnPos p l e R s m args below meth c Z ws h0 T h cells slots)
    (F : OwnAry Z h a k ty vs) (hd : decode bytes pc = .ok (.arraylength, 1))
    (K : Steps p.tables e below (T.setTop (mkF m (pc + 1) Ls (.int vs.length.toInt32 :: rest))) target) : Steps p.tables e below (T.setTop (mkF m pc Ls (.ref a :: rest))) target := by
  obtain ⟨hx, hZ, hown, hnm, hby, hml, hret, hlk⟩ := C
  obtain ⟨locs, X, eT, e0, N, E0, G0⟩ := P
  obtain ⟨c0, A0, r1, r2⟩ := F
  have e1 : c0.slots.size = vs.length := by rw [← r2]; simp
  exact X.arraylength hx (by rw [eT]; exact A0.1) (State.isArrayOf_alike hZ.alike A0.2.1) (g := mkF m pc Ls (.ref a :: rest)) rfl rfl (hb hby hd) target (by rw [e1]; exact K)
end Ary
end Own

def own_lay0 : List (String × String × String) := [("java/lang/String", "value", "[B"), ("java/lang/String", "coder", "B")]
set_option maxRecDepth 65536 in
theorem own_laid0 {Z : State} {a0 : Array Value} (hw : ∀ d ∈ tables_1, d.before a0 Z = true) : OwnLaid Z a0 "java/lang/String" own_lay0 := by
  refine ⟨?_, by decide +kernel, fun q hq => Option.isSome_iff_exists.mp (List.all_eq_true.mp (by decide +kernel : own_lay0.all (fun q => (parseFieldDescriptor q.2.2).isSome) = true) q hq)⟩
  intro q hq
  simp only [own_lay0, List.mem_cons, List.not_mem_nil, or_false] at hq
  rcases hq with rfl | rfl
  · exact Or.inr (hw _ (List.mem_of_getElem? (i := 27) rfl))
  · exact Or.inr (hw _ (List.mem_of_getElem? (i := 29) rfl))
theorem pd_0 : parseMethodDescriptor "(C)Z" = some ⟨[.char], some .boolean⟩ := by decide +kernel
theorem pd_1 : parseMethodDescriptor "(C)[B" = some ⟨[.char], some (.array .byte)⟩ := by decide +kernel
theorem pd_2 : parseMethodDescriptor "([BB)V" = some ⟨[(.array .byte), .byte], none⟩ := by decide +kernel
theorem pd_3 : parseMethodDescriptor "([CI[BII)I" = some ⟨[(.array .char), .int, (.array .byte), .int, .int], some .int⟩ := by decide +kernel
theorem pd_4 : parseMethodDescriptor "([CII)[B" = some ⟨[(.array .char), .int, .int], some (.array .byte)⟩ := by decide +kernel
theorem pd_5 : parseMethodDescriptor "([BI)B" = some ⟨[(.array .byte), .int], some .byte⟩ := by decide +kernel
theorem pd_6 : parseMethodDescriptor "([CIILjava/lang/Void;)V" = some ⟨[(.array .char), .int, .int, (.object "java/lang/Void")], none⟩ := by decide +kernel
theorem pd_7 : parseMethodDescriptor "(C)Ljava/lang/String;" = some ⟨[.char], some (.object "java/lang/String")⟩ := by decide +kernel
theorem pd_8 : parseMethodDescriptor "([C)V" = some ⟨[(.array .char)], none⟩ := by decide +kernel
def own_lay1 : List (String × String × String) := [("com/example/lapse/lapse/CatalogTables$Table", "catalog", "Ljava/lang/String;"), ("com/example/lapse/lapse/CatalogTables$Table", "schema", "Ljava/lang/String;"), ("com/example/lapse/lapse/CatalogTables$Table", "name", "Ljava/lang/String;")]
set_option maxRecDepth 65536 in
theorem own_laid1 {Z : State} {a0 : Array Value} (hw : ∀ d ∈ tables_1, d.before a0 Z = true) : OwnLaid Z a0 "com/example/lapse/lapse/CatalogTables$Table" own_lay1 := by
  refine ⟨?_, by decide +kernel, fun q hq => Option.isSome_iff_exists.mp (List.all_eq_true.mp (by decide +kernel : own_lay1.all (fun q => (parseFieldDescriptor q.2.2).isSome) = true) q hq)⟩
  intro q hq
  simp only [own_lay1, List.mem_cons, List.not_mem_nil, or_false] at hq
  rcases hq with rfl | rfl | rfl
  · exact Or.inr (hw _ (List.mem_of_getElem? (i := 43) rfl))
  · exact Or.inr (hw _ (List.mem_of_getElem? (i := 45) rfl))
  · exact Or.inr (hw _ (List.mem_of_getElem? (i := 47) rfl))
theorem pd_9 : parseMethodDescriptor "()V" = some ⟨[], none⟩ := by decide +kernel
theorem pd_10 : parseMethodDescriptor "(II)Ljava/lang/String;" = some ⟨[.int, .int], some (.object "java/lang/String")⟩ := by decide +kernel
theorem pd_11 : parseMethodDescriptor "(Ljava/lang/String;Ljava/lang/String;Ljava/lang/String;)V" = some ⟨[(.object "java/lang/String"), (.object "java/lang/String"), (.object "java/lang/String")], none⟩ := by decide +kernel
theorem pd_12 : parseMethodDescriptor "()Ljava/lang/String;" = some ⟨[], some (.object "java/lang/String")⟩ := by decide +kernel
theorem own_c255 (x : Int32) : ¬ (255 : Int32) < (x &&& (255 : Int32)).toUInt32.toUInt16.toUInt32.toInt32 := by
  rw [i2c_mask]
  have h := c_and x 255 (by decide)
  have e1 : (255 : Int32).toInt = 255 := by decide
  rw [Int32.lt_iff_toInt_lt]
  omega
theorem d3_0 : decode jdk_43_method_3_code 0 = .ok (.iload_n 0, 1) := by decide +kernel
theorem d3_1 : decode jdk_43_method_3_code 1 = .ok (.sipush 255, 3) := by decide +kernel
theorem d3_4 : decode jdk_43_method_3_code 4 = .ok (.if_icmp .gt 7, 3) := by decide +kernel
theorem d3_7 : decode jdk_43_method_3_code 7 = .ok (.iconst 1, 1) := by decide +kernel
theorem d3_8 : decode jdk_43_method_3_code 8 = .ok (.goto 4, 3) := by decide +kernel
theorem d3_12 : decode jdk_43_method_3_code 12 = .ok (.ireturn, 1) := by decide +kernel
theorem pn3 : plainName "java/lang/StringLatin1" = true := by first | (simp [plainName, overriddenIn]; done) | decide +kernel
theorem ef3 (m : MethodId) (q : Int32)  : entryFrame m #[(.int q)] 1 = mkF m 0 #[.val (.int q)] [] := by first | (simp [entryFrame, mkF, argsToLocals, Value.category]; done) | rfl
set_option maxRecDepth 65536 in
set_option maxHeartbeats 40000000 in
theorem rm3 (l : Launch) (Z : State) (a0 : Array Value) (hw : ∀ d ∈ tables_1, d.before a0 Z = true) (q : Int32)  (h0 : Heap) (hE : Ext Z.heap h0)  (hq : ¬ (255 : Int32) < q) :
    OwnMeets l (⟨"java/lang/StringLatin1", "canEncode", "(C)Z"⟩ : MethodName) jdk_43_method_3_code 1 (some .boolean) ({ frames := 0, cells := 0, slots := 0, locals := 0 } : Room) Z [] #[(.int q)] h0 (fun v h => v = some (.int 1) ∧ h0 = h) := by
  refine OwnMeets.of (plainFor_of_name pn3) hE all0 ?_
  intro p e s m below meth c T C P
  have hx := C.1
  have hby := C.2.2.2.2.1
  rw [show entryFrame m #[(.int q)] 1 = _ from ef3 m q]
  show OwnDone p e below _ (T.setTop (mkF m 0 #[.val (.int q)] []))
  refine OwnDone.go (A := (T.setTop (mkF m 4 #[.val (.int q)] [(.int (255 : Int32)), (.int q)]))) (fun tQ kQ => ?_) ?_
  · refine XS.iloadN P.here hx rfl (hb hby d3_0) rfl ?_
    show Steps p.tables e below (T.setTop (mkF m 1 #[.val (.int q)] [(.int q)])) _
    refine XS.sipush P.here hx rfl (hb hby d3_1) ?_
    show Steps p.tables e below (T.setTop (mkF m 4 #[.val (.int q)] [(.int (255 : Int32)), (.int q)])) _
    exact kQ
  show OwnDone p e below _ (T.setTop (mkF m 4 #[.val (.int q)] [(.int (255 : Int32)), (.int q)]))
  refine OwnDone.go (A := (T.setTop (mkF m 7 #[.val (.int q)] []))) (fun tQ kQ => XS.icmpNo P.here hx rfl (hb hby d3_4) rfl (XT.ii_gt_f hq) kQ) ?_
  show OwnDone p e below _ (T.setTop (mkF m 7 #[.val (.int q)] []))
  refine OwnDone.go (A := (T.setTop (mkF m 12 #[.val (.int q)] [(.int (1 : Int32))]))) (fun tQ kQ => ?_) ?_
  · refine XS.iconst P.here hx rfl (hb hby d3_7) ?_
    show Steps p.tables e below (T.setTop (mkF m 8 #[.val (.int q)] [(.int (1 : Int32))])) _
    refine XS.goto P.here hx rfl (pc0 := 8) (pc' := 12) rfl (hb hby d3_8) (by decide) (by decide) ?_
    show Steps p.tables e below (T.setTop (mkF m 12 #[.val (.int q)] [(.int (1 : Int32))])) _
    exact kQ
  show OwnDone p e below _ (T.setTop (mkF m 12 #[.val (.int q)] [(.int (1 : Int32))]))
  refine own_retN C P (by simp) (z' := (1 : Int32)) (by decide) d3_12 (by decide) (by decide) ⟨rfl, rfl⟩
theorem d4_0 : decode jdk_43_method_46_code 0 = .ok (.iconst 1, 1) := by decide +kernel
theorem d4_1 : decode jdk_43_method_46_code 1 = .ok (.newarray .byte, 2) := by decide +kernel
theorem d4_3 : decode jdk_43_method_46_code 3 = .ok (.dup, 1) := by decide +kernel
theorem d4_4 : decode jdk_43_method_46_code 4 = .ok (.iconst 0, 1) := by decide +kernel
theorem d4_5 : decode jdk_43_method_46_code 5 = .ok (.iload_n 0, 1) := by decide +kernel
theorem d4_6 : decode jdk_43_method_46_code 6 = .ok (.i2b, 1) := by decide +kernel
theorem d4_7 : decode jdk_43_method_46_code 7 = .ok (.bastore, 1) := by decide +kernel
theorem d4_8 : decode jdk_43_method_46_code 8 = .ok (.areturn, 1) := by decide +kernel
theorem pn4 : plainName "java/lang/StringLatin1" = true := by first | (simp [plainName, overriddenIn]; done) | decide +kernel
theorem ef4 (m : MethodId) (q : Int32)  : entryFrame m #[(.int q)] 1 = mkF m 0 #[.val (.int q)] [] := by first | (simp [entryFrame, mkF, argsToLocals, Value.category]; done) | rfl
set_option maxRecDepth 65536 in
set_option maxHeartbeats 40000000 in
theorem rm4 (l : Launch) (Z : State) (a0 : Array Value) (hw : ∀ d ∈ tables_1, d.before a0 Z = true) (q : Int32)  (h0 : Heap) (hE : Ext Z.heap h0)   :
    OwnMeets l (⟨"java/lang/StringLatin1", "toBytes", "(C)[B"⟩ : MethodName) jdk_43_method_46_code 1 (some (.array .byte)) ({ frames := 0, cells := 1, slots := 1, locals := 0 } : Room) Z [] #[(.int q)] h0 (fun v h => ∃ b, v = some (.ref b)) := by
  refine OwnMeets.of (plainFor_of_name pn4) hE all0 ?_
  intro p e s m below meth c T C P
  have hx := C.1
  have hby := C.2.2.2.2.1
  rw [show entryFrame m #[(.int q)] 1 = _ from ef4 m q]
  show OwnDone p e below _ (T.setTop (mkF m 0 #[.val (.int q)] []))
  refine OwnDone.go (A := (T.setTop (mkF m 1 #[.val (.int q)] [(.int (1 : Int32))]))) (fun tQ kQ => ?_) ?_
  · refine XS.iconst P.here hx rfl (hb hby d4_0) ?_
    show Steps p.tables e below (T.setTop (mkF m 1 #[.val (.int q)] [(.int (1 : Int32))])) _
    exact kQ
  show OwnDone p e below _ (T.setTop (mkF m 1 #[.val (.int q)] [(.int (1 : Int32))]))
  refine own_newP (aty := .byte) (n := (1 : Int32)) (cap := 1) (vs := [(.int (0 : Int32))]) C P (hw _ (List.mem_of_getElem? (i := 18) rfl)) d4_1 (by decide) (by decide) (by decide) (by decide +kernel) rfl (by decide) (by decide) (fun T1 h1 a1 k1 ga1 la1 P1 K1 Y1 N1 => ?_)
  have ge_a1 : h0.size ≤ a1 := by rw [ga1]; exact P.keep.1
  have Y1 : OwnAry Z h1 a1 k1 .byte [(.int (0 : Int32))] := Y1
  show OwnDone p e below _ (T1.setTop (mkF m 3 #[.val (.int q)] [(.ref a1)]))
  refine OwnDone.go (A := (T1.setTop (mkF m 7 #[.val (.int q)] [(.int (q.toInt8.toInt32)), (.int (0 : Int32)), (.ref a1), (.ref a1)]))) (fun tQ kQ => ?_) ?_
  · refine XS.dup P1.here hx rfl (hb hby d4_3) rfl rfl ?_
    show Steps p.tables e below (T1.setTop (mkF m 4 #[.val (.int q)] [(.ref a1), (.ref a1)])) _
    refine XS.iconst P1.here hx rfl (hb hby d4_4) ?_
    show Steps p.tables e below (T1.setTop (mkF m 5 #[.val (.int q)] [(.int (0 : Int32)), (.ref a1), (.ref a1)])) _
    refine XS.iloadN P1.here hx rfl (hb hby d4_5) rfl ?_
    show Steps p.tables e below (T1.setTop (mkF m 6 #[.val (.int q)] [(.int q), (.int (0 : Int32)), (.ref a1), (.ref a1)])) _
    refine XT.i2b P1.here hx rfl (hb hby d4_6) rfl ?_
    show Steps p.tables e below (T1.setTop (mkF m 7 #[.val (.int q)] [(.int (q.toInt8.toInt32)), (.int (0 : Int32)), (.ref a1), (.ref a1)])) _
    exact kQ
  show OwnDone p e below _ (T1.setTop (mkF m 7 #[.val (.int q)] [(.int (q.toInt8.toInt32)), (.int (0 : Int32)), (.ref a1), (.ref a1)]))
  refine own_bastore C P1 Y1 (by decide) (show ((0 : Int32) : Int32).toNatClampNeg < 1 from by decide) (Or.inr ge_a1) d4_7 (vs' := [(.int (nar .byte (q.toInt8.toInt32)))]) rfl (fun T2 h2 P2 K2 Y2 => ?_)
  show OwnDone p e below _ (T2.setTop (mkF m 8 #[.val (.int q)] [(.ref a1)]))
  refine own_retA C P2 rfl rfl d4_8 (by decide) (by decide) ⟨_, rfl⟩
theorem d5_0 : decode jdk_42_method_151_code 0 = .ok (.aload_n 0, 1) := by decide +kernel
theorem d5_1 : decode jdk_42_method_151_code 1 = .ok (.invokespecial 1, 3) := by decide +kernel
theorem d5_4 : decode jdk_42_method_151_code 4 = .ok (.aload_n 0, 1) := by decide +kernel
theorem d5_5 : decode jdk_42_method_151_code 5 = .ok (.aload_n 1, 1) := by decide +kernel
theorem d5_6 : decode jdk_42_method_151_code 6 = .ok (.putfield 9, 3) := by decide +kernel
theorem d5_9 : decode jdk_42_method_151_code 9 = .ok (.aload_n 0, 1) := by decide +kernel
theorem d5_10 : decode jdk_42_method_151_code 10 = .ok (.iload_n 2, 1) := by decide +kernel
theorem d5_11 : decode jdk_42_method_151_code 11 = .ok (.putfield 15, 3) := by decide +kernel
theorem d5_14 : decode jdk_42_method_151_code 14 = .ok (.return_, 1) := by decide +kernel
theorem pn5 : plainName "java/lang/String" = true := by first | (simp [plainName, overriddenIn]; done) | decide +kernel
theorem ef5 (m : MethodId) (a1 : Addr) (va : Addr) (co : Int32)  : entryFrame m #[(.ref a1), (.ref va), (.int co)] 3 = mkF m 0 #[.val (.ref a1), .val (.ref va), .val (.int co)] [] := by first | (simp [entryFrame, mkF, argsToLocals, Value.category]; done) | rfl
set_option maxRecDepth 65536 in
set_option maxHeartbeats 40000000 in
theorem rm5 (l : Launch) (Z : State) (a0 : Array Value) (hw : ∀ d ∈ tables_1, d.before a0 Z = true) (a1 : Addr) (va : Addr) (co : Int32)  (h0 : Heap) (hE : Ext Z.heap h0) (g_a1 : Z.heap.size ≤ a1) (O1 : OwnObj Z h0 a1 "java/lang/String" own_lay0 [.null, (.int (0 : Int32))]) (hco : co = 0) :
    OwnMeets l (⟨"java/lang/String", "<init>", "([BB)V"⟩ : MethodName) jdk_42_method_151_code 3 none ({ frames := 1, cells := 0, slots := 0, locals := 12 } : Room) Z [a1] #[(.ref a1), (.ref va), (.int co)] h0 (fun v h => v = none) := by
  refine OwnMeets.of (plainFor_of_name pn5) hE (allS g_a1 all0) ?_
  intro p e s m below meth c T C P
  have hx := C.1
  have hby := C.2.2.2.2.1
  rw [show entryFrame m #[(.ref a1), (.ref va), (.int co)] 3 = _ from ef5 m a1 va co]
  show OwnDone p e below _ (T.setTop (mkF m 0 #[.val (.ref a1), .val (.ref va), .val (.int co)] []))
  refine OwnDone.go (A := (T.setTop (mkF m 1 #[.val (.ref a1), .val (.ref va), .val (.int co)] [(.ref a1)]))) (fun tQ kQ => ?_) ?_
  · refine XS.aloadN P.here hx rfl (hb hby d5_0) rfl rfl ?_
    show Steps p.tables e below (T.setTop (mkF m 1 #[.val (.ref a1), .val (.ref va), .val (.int co)] [(.ref a1)])) _
    exact kQ
  show OwnDone p e below _ (T.setTop (mkF m 1 #[.val (.ref a1), .val (.ref va), .val (.int co)] [(.ref a1)]))
  refine own_initO (wd := 0) (rest := []) C P (hw _ (List.mem_of_getElem? (i := 23) rfl)) (hw _ (List.mem_of_getElem? (i := 24) rfl)) (hw _ (List.mem_of_getElem? (i := 25) rfl)) rfl rfl d5_1 (by decide) (by decide) (fun T1 P1 => ?_)
  show OwnDone p e below _ (T1.setTop (mkF m 4 #[.val (.ref a1), .val (.ref va), .val (.int co)] []))
  refine OwnDone.go (A := (T1.setTop (mkF m 6 #[.val (.ref a1), .val (.ref va), .val (.int co)] [(.ref va), (.ref a1)]))) (fun tQ kQ => ?_) ?_
  · refine XS.aloadN P1.here hx rfl (hb hby d5_4) rfl rfl ?_
    show Steps p.tables e below (T1.setTop (mkF m 5 #[.val (.ref a1), .val (.ref va), .val (.int co)] [(.ref a1)])) _
    refine XS.aloadN P1.here hx rfl (hb hby d5_5) rfl rfl ?_
    show Steps p.tables e below (T1.setTop (mkF m 6 #[.val (.ref a1), .val (.ref va), .val (.int co)] [(.ref va), (.ref a1)])) _
    exact kQ
  show OwnDone p e below _ (T1.setTop (mkF m 6 #[.val (.ref a1), .val (.ref va), .val (.int co)] [(.ref va), (.ref a1)]))
  refine own_putO (ty := (.array .byte)) C P1 (hw _ (List.mem_of_getElem? (i := 26) rfl)) Via.refl O1 (own_laid0 hw) 0 rfl rfl (Or.inr ⟨(hw _ (List.mem_of_getElem? (i := 27) rfl)), rfl, rfl⟩) (hw _ (List.mem_of_getElem? (i := 14) rfl)) (by decide) rfl rfl (Or.inl (List.mem_of_getElem? (i := 0) rfl)) d5_6 (vs' := [(.ref va), (.int (0 : Int32))]) rfl (fun T2 h2 P2 K2 O2 => ?_)
  show OwnDone p e below _ (T2.setTop (mkF m 9 #[.val (.ref a1), .val (.ref va), .val (.int co)] []))
  refine OwnDone.go (A := (T2.setTop (mkF m 11 #[.val (.ref a1), .val (.ref va), .val (.int co)] [(.int co), (.ref a1)]))) (fun tQ kQ => ?_) ?_
  · refine XS.aloadN P2.here hx rfl (hb hby d5_9) rfl rfl ?_
    show Steps p.tables e below (T2.setTop (mkF m 10 #[.val (.ref a1), .val (.ref va), .val (.int co)] [(.ref a1)])) _
    refine XS.iloadN P2.here hx rfl (hb hby d5_10) rfl ?_
    show Steps p.tables e below (T2.setTop (mkF m 11 #[.val (.ref a1), .val (.ref va), .val (.int co)] [(.int co), (.ref a1)])) _
    exact kQ
  show OwnDone p e below _ (T2.setTop (mkF m 11 #[.val (.ref a1), .val (.ref va), .val (.int co)] [(.int co), (.ref a1)]))
  refine own_putO (ty := .byte) C P2 (hw _ (List.mem_of_getElem? (i := 28) rfl)) Via.refl O2 (own_laid0 hw) 1 rfl rfl (Or.inr ⟨(hw _ (List.mem_of_getElem? (i := 29) rfl)), rfl, rfl⟩) (hw _ (List.mem_of_getElem? (i := 14) rfl)) (by decide) (by rw [hco]; rfl) (by rw [hco]; rfl) (Or.inl (List.mem_of_getElem? (i := 0) rfl)) d5_11 (vs' := [(.ref va), (.int co)]) rfl (fun T3 h3 P3 K3 O3 => ?_)
  show OwnDone p e below _ (T3.setTop (mkF m 14 #[.val (.ref a1), .val (.ref va), .val (.int co)] []))
  refine own_retV C P3 d5_14 (by decide) (by decide) rfl
theorem d2_0 : decode jdk_42_method_139_code 0 = .ok (.getstatic 38, 3) := by decide +kernel
theorem d2_3 : decode jdk_42_method_139_code 3 = .ok (.ifCond .eq 23, 3) := by decide +kernel
theorem d2_6 : decode jdk_42_method_139_code 6 = .ok (.iload_n 0, 1) := by decide +kernel
theorem d2_7 : decode jdk_42_method_139_code 7 = .ok (.invokestatic 1015, 3) := by decide +kernel
theorem d2_10 : decode jdk_42_method_139_code 10 = .ok (.ifCond .eq 16, 3) := by decide +kernel
theorem d2_13 : decode jdk_42_method_139_code 13 = .ok (.new 10, 3) := by decide +kernel
theorem d2_16 : decode jdk_42_method_139_code 16 = .ok (.dup, 1) := by decide +kernel
theorem d2_17 : decode jdk_42_method_139_code 17 = .ok (.iload_n 0, 1) := by decide +kernel
theorem d2_18 : decode jdk_42_method_139_code 18 = .ok (.invokestatic 1018, 3) := by decide +kernel
theorem d2_21 : decode jdk_42_method_139_code 21 = .ok (.iconst 0, 1) := by decide +kernel
theorem d2_22 : decode jdk_42_method_139_code 22 = .ok (.invokespecial 209, 3) := by decide +kernel
theorem d2_25 : decode jdk_42_method_139_code 25 = .ok (.areturn, 1) := by decide +kernel
theorem pn2 : plainName "java/lang/String" = true := by first | (simp [plainName, overriddenIn]; done) | decide +kernel
theorem ef2 (m : MethodId) (q : Int32)  : entryFrame m #[(.int q)] 1 = mkF m 0 #[.val (.int q)] [] := by first | (simp [entryFrame, mkF, argsToLocals, Value.category]; done) | rfl
set_option maxRecDepth 65536 in
set_option maxHeartbeats 40000000 in
theorem rm2 (l : Launch) (Z : State) (a0 : Array Value) (hw : ∀ d ∈ tables_1, d.before a0 Z = true) (q : Int32)  (h0 : Heap) (hE : Ext Z.heap h0)  (hq : ¬ (255 : Int32) < q) (cs : Int32) (C0 : Sta Z Z.heap "java/lang/String" "COMPACT_STRINGS" "Z" (.int cs)) (C1 : ¬ cs = 0) :
    OwnMeets l (⟨"java/lang/String", "valueOf", "(C)Ljava/lang/String;"⟩ : MethodName) jdk_42_method_139_code 1 (some (.object "java/lang/String")) ({ frames := 2, cells := 2, slots := 5, locals := 27 } : Room) Z [] #[(.int q)] h0 (fun v h => ∃ b, v = some (.ref b)) := by
  refine OwnMeets.of (plainFor_of_name pn2) hE all0 ?_
  intro p e s m below meth c T C P
  have hx := C.1
  have hby := C.2.2.2.2.1
  rw [show entryFrame m #[(.int q)] 1 = _ from ef2 m q]
  show OwnDone p e below _ (T.setTop (mkF m 0 #[.val (.int q)] []))
  refine own_getS C P (host := "") (Or.inl (hw _ (List.mem_of_getElem? (i := 8) rfl))) Via.refl C0 d2_0 (fun T1 P1 => ?_)
  show OwnDone p e below _ (T1.setTop (mkF m 3 #[.val (.int q)] [(.int cs)]))
  refine OwnDone.go (A := (T1.setTop (mkF m 6 #[.val (.int q)] []))) (fun tQ kQ => XS.ifNo P1.here hx rfl (hb hby d2_3) rfl (XT.i0_eq_f C1) kQ) ?_
  show OwnDone p e below _ (T1.setTop (mkF m 6 #[.val (.int q)] []))
  refine OwnDone.go (A := (T1.setTop (mkF m 7 #[.val (.int q)] [(.int q)]))) (fun tQ kQ => ?_) ?_
  · refine XS.iloadN P1.here hx rfl (hb hby d2_6) rfl ?_
    show Steps p.tables e below (T1.setTop (mkF m 7 #[.val (.int q)] [(.int q)])) _
    exact kQ
  show OwnDone p e below _ (T1.setTop (mkF m 7 #[.val (.int q)] [(.int q)]))
  refine own_callS (y := (⟨"java/lang/StringLatin1", "canEncode", "(C)Z"⟩ : MethodName)) C P1 (hw _ (List.mem_of_getElem? (i := 9) rfl)) (hw _ (List.mem_of_getElem? (i := 10) rfl)) (hw _ (List.mem_of_getElem? (i := 11) rfl)) (hw _ (List.mem_of_getElem? (i := 12) rfl)) (by decide) (rm3 l Z a0 hw q h0 P1.old hq) (as := [(.int q)]) (rest := []) pd_0 rfl rfl (wd := 0) rfl rfl d2_7 all0 (by decide) (by decide) (by decide) (by decide) (fun T2 h2 v2 P2 K2 hQ2 => ?_)
  obtain ⟨rfl, rfl⟩ := hQ2
  show OwnDone p e below _ (T2.setTop (mkF m 10 #[.val (.int q)] [(.int (1 : Int32))]))
  refine OwnDone.go (A := (T2.setTop (mkF m 13 #[.val (.int q)] []))) (fun tQ kQ => XS.ifNo P2.here hx rfl (hb hby d2_10) rfl (XT.i0_eq_f (by decide)) kQ) ?_
  show OwnDone p e below _ (T2.setTop (mkF m 13 #[.val (.int q)] []))
  refine own_new (vs := [.null, (.int (0 : Int32))]) C P2 (hw _ (List.mem_of_getElem? (i := 13) rfl)) (hw _ (List.mem_of_getElem? (i := 14) rfl)) (hw _ (List.mem_of_getElem? (i := 6) rfl)) (own_laid0 hw) (by decide +kernel) d2_13 (by decide) (by decide) (fun T3 h3 a3 ga3 la3 P3 K3 O3 => ?_)
  have ge_a3 : h0.size ≤ a3 := by rw [ga3]; exact P2.keep.1
  show OwnDone p e below _ (T3.setTop (mkF m 16 #[.val (.int q)] [(.ref a3)]))
  refine OwnDone.go (A := (T3.setTop (mkF m 18 #[.val (.int q)] [(.int q), (.ref a3), (.ref a3)]))) (fun tQ kQ => ?_) ?_
  · refine XS.dup P3.here hx rfl (hb hby d2_16) rfl rfl ?_
    show Steps p.tables e below (T3.setTop (mkF m 17 #[.val (.int q)] [(.ref a3), (.ref a3)])) _
    refine XS.iloadN P3.here hx rfl (hb hby d2_17) rfl ?_
    show Steps p.tables e below (T3.setTop (mkF m 18 #[.val (.int q)] [(.int q), (.ref a3), (.ref a3)])) _
    exact kQ
  show OwnDone p e below _ (T3.setTop (mkF m 18 #[.val (.int q)] [(.int q), (.ref a3), (.ref a3)]))
  refine own_callS (y := (⟨"java/lang/StringLatin1", "toBytes", "(C)[B"⟩ : MethodName)) C P3 (hw _ (List.mem_of_getElem? (i := 15) rfl)) (hw _ (List.mem_of_getElem? (i := 16) rfl)) (hw _ (List.mem_of_getElem? (i := 11) rfl)) (hw _ (List.mem_of_getElem? (i := 17) rfl)) (by decide) (rm4 l Z a0 hw q h3 P3.old) (as := [(.int q)]) (rest := [(.ref a3), (.ref a3)]) pd_1 rfl rfl (wd := 2) rfl rfl d2_18 all0 (by decide) (by decide) (by decide) (by decide) (fun T4 h4 v4 P4 K4 hQ4 => ?_)
  obtain ⟨b4, rfl⟩ := hQ4
  have O5_a3 := O3.keep K4 nin0
  show OwnDone p e below _ (T4.setTop (mkF m 21 #[.val (.int q)] [(.ref b4), (.ref a3), (.ref a3)]))
  refine OwnDone.go (A := (T4.setTop (mkF m 22 #[.val (.int q)] [(.int (0 : Int32)), (.ref b4), (.ref a3), (.ref a3)]))) (fun tQ kQ => ?_) ?_
  · refine XS.iconst P4.here hx rfl (hb hby d2_21) ?_
    show Steps p.tables e below (T4.setTop (mkF m 22 #[.val (.int q)] [(.int (0 : Int32)), (.ref b4), (.ref a3), (.ref a3)])) _
    exact kQ
  show OwnDone p e below _ (T4.setTop (mkF m 22 #[.val (.int q)] [(.int (0 : Int32)), (.ref b4), (.ref a3), (.ref a3)]))
  refine own_callI (y := (⟨"java/lang/String", "<init>", "([BB)V"⟩ : MethodName)) C P4 rfl (hw _ (List.mem_of_getElem? (i := 19) rfl)) (hw _ (List.mem_of_getElem? (i := 20) rfl)) (hw _ (List.mem_of_getElem? (i := 6) rfl)) (hw _ (List.mem_of_getElem? (i := 22) rfl)) (by decide) (rm5 l Z a0 hw a3 b4 (0 : Int32) h4 P4.old (Nat.le_trans hE.1 ge_a3) O5_a3 rfl) (as := [(.ref b4), (.int (0 : Int32))]) (rest := [(.ref a3)]) pd_2 rfl rfl (wd := 1) rfl rfl d2_22 (allS (Or.inr ge_a3) all0) (by decide) (by decide) (by decide) (by decide) (fun T6 h6 v6 P6 K6 hQ6 => ?_)
  obtain rfl := hQ6
  show OwnDone p e below _ (T6.setTop (mkF m 25 #[.val (.int q)] [(.ref a3)]))
  refine own_retA C P6 rfl rfl d2_25 (by decide) (by decide) ⟨_, rfl⟩
theorem d15_0 : decode jdk_52_method_21_code 0 = .ok (.iconst 0, 1) := by decide +kernel
theorem d15_1 : decode jdk_52_method_21_code 1 = .ok (.istore 5, 2) := by decide +kernel
theorem d15_3 : decode jdk_52_method_21_code 3 = .ok (.iload 5, 2) := by decide +kernel
theorem d15_5 : decode jdk_52_method_21_code 5 = .ok (.iload 4, 2) := by decide +kernel
theorem d15_7 : decode jdk_52_method_21_code 7 = .ok (.if_icmp .ge 37, 3) := by decide +kernel
theorem d15_10 : decode jdk_52_method_21_code 10 = .ok (.aload_n 0, 1) := by decide +kernel
theorem d15_11 : decode jdk_52_method_21_code 11 = .ok (.iload_n 1, 1) := by decide +kernel
theorem d15_12 : decode jdk_52_method_21_code 12 = .ok (.caload, 1) := by decide +kernel
theorem d15_13 : decode jdk_52_method_21_code 13 = .ok (.istore 6, 2) := by decide +kernel
theorem d15_15 : decode jdk_52_method_21_code 15 = .ok (.iload 6, 2) := by decide +kernel
theorem d15_17 : decode jdk_52_method_21_code 17 = .ok (.sipush 255, 3) := by decide +kernel
theorem d15_20 : decode jdk_52_method_21_code 20 = .ok (.if_icmp .le 6, 3) := by decide +kernel
theorem d15_26 : decode jdk_52_method_21_code 26 = .ok (.aload_n 2, 1) := by decide +kernel
theorem d15_27 : decode jdk_52_method_21_code 27 = .ok (.iload_n 3, 1) := by decide +kernel
theorem d15_28 : decode jdk_52_method_21_code 28 = .ok (.iload 6, 2) := by decide +kernel
theorem d15_30 : decode jdk_52_method_21_code 30 = .ok (.i2b, 1) := by decide +kernel
theorem d15_31 : decode jdk_52_method_21_code 31 = .ok (.bastore, 1) := by decide +kernel
theorem d15_32 : decode jdk_52_method_21_code 32 = .ok (.iinc 1 1, 3) := by decide +kernel
theorem d15_35 : decode jdk_52_method_21_code 35 = .ok (.iinc 3 1, 3) := by decide +kernel
theorem d15_38 : decode jdk_52_method_21_code 38 = .ok (.iinc 5 1, 3) := by decide +kernel
theorem d15_41 : decode jdk_52_method_21_code 41 = .ok (.goto (-38), 3) := by decide +kernel
theorem d15_44 : decode jdk_52_method_21_code 44 = .ok (.iload 4, 2) := by decide +kernel
theorem d15_46 : decode jdk_52_method_21_code 46 = .ok (.ireturn, 1) := by decide +kernel
theorem pn15 : plainName "java/lang/StringUTF16" = true := by first | (simp [plainName, overriddenIn]; done) | decide +kernel
theorem ef15 (m : MethodId) (va : Addr) (ba : Addr)  : entryFrame m #[(.ref va), (.int (0 : Int32)), (.ref ba), (.int (0 : Int32)), (.int (2 : Int32))] 7 = mkF m 0 #[.val (.ref va), .val (.int (0 : Int32)), .val (.ref ba), .val (.int (0 : Int32)), .val (.int (2 : Int32)), .unset, .unset] [] := by first | (simp [entryFrame, mkF, argsToLocals, Value.category]; done) | rfl
set_option maxRecDepth 65536 in
set_option maxHeartbeats 40000000 in
theorem rm15 (l : Launch) (Z : State) (a0 : Array Value) (hw : ∀ d ∈ tables_1, d.before a0 Z = true) (va : Addr) (ba : Addr) (kv kb : ClassId) (c0 c1 : Int32) (h0 : Heap) (hE : Ext Z.heap h0) (g_ba : Z.heap.size ≤ ba) (Yv : OwnAry Z h0 va kv .char [(.int c0), (.int c1)]) (Yb : OwnAry Z h0 ba kb .byte [(.int (0 : Int32)), (.int (0 : Int32))]) (nvb : va ≠ ba) (q0 : ¬ (255 : Int32) < c0) (q1 : ¬ (255 : Int32) < c1) :
    OwnMeets l (⟨"java/lang/StringUTF16", "compress", "([CI[BII)I"⟩ : MethodName) jdk_52_method_21_code 7 (some .int) ({ frames := 0, cells := 0, slots := 0, locals := 0 } : Room) Z [ba] #[(.ref va), (.int (0 : Int32)), (.ref ba), (.int (0 : Int32)), (.int (2 : Int32))] h0 (fun v h => v = some (.int (2 : Int32)) ∧ OwnAry Z h ba kb .byte [(.int (nar .byte (c0.toInt8.toInt32))), (.int (nar .byte (c1.toInt8.toInt32)))]) := by
  refine OwnMeets.of (plainFor_of_name pn15) hE (allS g_ba all0) ?_
  intro p e s m below meth c T C P
  have hx := C.1
  have hby := C.2.2.2.2.1
  rw [show entryFrame m #[(.ref va), (.int (0 : Int32)), (.ref ba), (.int (0 : Int32)), (.int (2 : Int32))] 7 = _ from ef15 m va ba]
  show OwnDone p e below _ (T.setTop (mkF m 0 #[.val (.ref va), .val (.int (0 : Int32)), .val (.ref ba), .val (.int (0 : Int32)), .val (.int (2 : Int32)), .unset, .unset] []))
  refine OwnDone.go (A := (T.setTop (mkF m 7 #[.val (.ref va), .val (.int (0 : Int32)), .val (.ref ba), .val (.int (0 : Int32)), .val (.int (2 : Int32)), .val (.int (0 : Int32)), .unset] [(.int (2 : Int32)), (.int (0 : Int32))]))) (fun tQ kQ => ?_) ?_
  · refine XS.iconst P.here hx rfl (hb hby d15_0) ?_
    show Steps p.tables e below (T.setTop (mkF m 1 #[.val (.ref va), .val (.int (0 : Int32)), .val (.ref ba), .val (.int (0 : Int32)), .val (.int (2 : Int32)), .unset, .unset] [(.int (0 : Int32))])) _
    refine XS.istore P.here hx rfl (hb hby d15_1) rfl (l' := #[.val (.ref va), .val (.int (0 : Int32)), .val (.ref ba), .val (.int (0 : Int32)), .val (.int (2 : Int32)), .val (.int (0 : Int32)), .unset]) rfl ?_
    show Steps p.tables e below (T.setTop (mkF m 3 #[.val (.ref va), .val (.int (0 : Int32)), .val (.ref ba), .val (.int (0 : Int32)), .val (.int (2 : Int32)), .val (.int (0 : Int32)), .unset] [])) _
    refine XS.iload P.here hx rfl (hb hby d15_3) rfl ?_
    show Steps p.tables e below (T.setTop (mkF m 5 #[.val (.ref va), .val (.int (0 : Int32)), .val (.ref ba), .val (.int (0 : Int32)), .val (.int (2 : Int32)), .val (.int (0 : Int32)), .unset] [(.int (0 : Int32))])) _
    refine XS.iload P.here hx rfl (hb hby d15_5) rfl ?_
    show Steps p.tables e below (T.setTop (mkF m 7 #[.val (.ref va), .val (.int (0 : Int32)), .val (.ref ba), .val (.int (0 : Int32)), .val (.int (2 : Int32)), .val (.int (0 : Int32)), .unset] [(.int (2 : Int32)), (.int (0 : Int32))])) _
    exact kQ
  show OwnDone p e below _ (T.setTop (mkF m 7 #[.val (.ref va), .val (.int (0 : Int32)), .val (.ref ba), .val (.int (0 : Int32)), .val (.int (2 : Int32)), .val (.int (0 : Int32)), .unset] [(.int (2 : Int32)), (.int (0 : Int32))]))
  refine OwnDone.go (A := (T.setTop (mkF m 10 #[.val (.ref va), .val (.int (0 : Int32)), .val (.ref ba), .val (.int (0 : Int32)), .val (.int (2 : Int32)), .val (.int (0 : Int32)), .unset] []))) (fun tQ kQ => XS.icmpNo P.here hx rfl (hb hby d15_7) rfl (XT.ii_ge_f (by decide)) kQ) ?_
  show OwnDone p e below _ (T.setTop (mkF m 10 #[.val (.ref va), .val (.int (0 : Int32)), .val (.ref ba), .val (.int (0 : Int32)), .val (.int (2 : Int32)), .val (.int (0 : Int32)), .unset] []))
  refine OwnDone.go (A := (T.setTop (mkF m 20 #[.val (.ref va), .val (.int (0 : Int32)), .val (.ref ba), .val (.int (0 : Int32)), .val (.int (2 : Int32)), .val (.int (0 : Int32)), .val (.int c0)] [(.int (255 : Int32)), (.int c0)]))) (fun tQ kQ => ?_) ?_
  · refine XS.aloadN P.here hx rfl (hb hby d15_10) rfl rfl ?_
    show Steps p.tables e below (T.setTop (mkF m 11 #[.val (.ref va), .val (.int (0 : Int32)), .val (.ref ba), .val (.int (0 : Int32)), .val (.int (2 : Int32)), .val (.int (0 : Int32)), .unset] [(.ref va)])) _
    refine XS.iloadN P.here hx rfl (hb hby d15_11) rfl ?_
    show Steps p.tables e below (T.setTop (mkF m 12 #[.val (.ref va), .val (.int (0 : Int32)), .val (.ref ba), .val (.int (0 : Int32)), .val (.int (2 : Int32)), .val (.int (0 : Int32)), .unset] [(.int (0 : Int32)), (.ref va)])) _
    refine own_caload C P Yv (by decide) rfl d15_12 ?_
    show Steps p.tables e below (T.setTop (mkF m 13 #[.val (.ref va), .val (.int (0 : Int32)), .val (.ref ba), .val (.int (0 : Int32)), .val (.int (2 : Int32)), .val (.int (0 : Int32)), .unset] [(.int c0)])) _
    refine XS.istore P.here hx rfl (hb hby d15_13) rfl (l' := #[.val (.ref va), .val (.int (0 : Int32)), .val (.ref ba), .val (.int (0 : Int32)), .val (.int (2 : Int32)), .val (.int (0 : Int32)), .val (.int c0)]) rfl ?_
    show Steps p.tables e below (T.setTop (mkF m 15 #[.val (.ref va), .val (.int (0 : Int32)), .val (.ref ba), .val (.int (0 : Int32)), .val (.int (2 : Int32)), .val (.int (0 : Int32)), .val (.int c0)] [])) _
    refine XS.iload P.here hx rfl (hb hby d15_15) rfl ?_
    show Steps p.tables e below (T.setTop (mkF m 17 #[.val (.ref va), .val (.int (0 : Int32)), .val (.ref ba), .val (.int (0 : Int32)), .val (.int (2 : Int32)), .val (.int (0 : Int32)), .val (.int c0)] [(.int c0)])) _
    refine XS.sipush P.here hx rfl (hb hby d15_17) ?_
    show Steps p.tables e below (T.setTop (mkF m 20 #[.val (.ref va), .val (.int (0 : Int32)), .val (.ref ba), .val (.int (0 : Int32)), .val (.int (2 : Int32)), .val (.int (0 : Int32)), .val (.int c0)] [(.int (255 : Int32)), (.int c0)])) _
    exact kQ
  show OwnDone p e below _ (T.setTop (mkF m 20 #[.val (.ref va), .val (.int (0 : Int32)), .val (.ref ba), .val (.int (0 : Int32)), .val (.int (2 : Int32)), .val (.int (0 : Int32)), .val (.int c0)] [(.int (255 : Int32)), (.int c0)]))
  refine OwnDone.go (A := (T.setTop (mkF m 26 #[.val (.ref va), .val (.int (0 : Int32)), .val (.ref ba), .val (.int (0 : Int32)), .val (.int (2 : Int32)), .val (.int (0 : Int32)), .val (.int c0)] []))) (fun tQ kQ => XS.icmpYes P.here hx rfl (pc0 := 20) (pc' := 26) rfl (hb hby d15_20) rfl (XT.ii_le_t q0) (by decide) (by decide) kQ) ?_
  show OwnDone p e below _ (T.setTop (mkF m 26 #[.val (.ref va), .val (.int (0 : Int32)), .val (.ref ba), .val (.int (0 : Int32)), .val (.int (2 : Int32)), .val (.int (0 : Int32)), .val (.int c0)] []))
  refine OwnDone.go (A := (T.setTop (mkF m 31 #[.val (.ref va), .val (.int (0 : Int32)), .val (.ref ba), .val (.int (0 : Int32)), .val (.int (2 : Int32)), .val (.int (0 : Int32)), .val (.int c0)] [(.int (c0.toInt8.toInt32)), (.int (0 : Int32)), (.ref ba)]))) (fun tQ kQ => ?_) ?_
  · refine XS.aloadN P.here hx rfl (hb hby d15_26) rfl rfl ?_
    show Steps p.tables e below (T.setTop (mkF m 27 #[.val (.ref va), .val (.int (0 : Int32)), .val (.ref ba), .val (.int (0 : Int32)), .val (.int (2 : Int32)), .val (.int (0 : Int32)), .val (.int c0)] [(.ref ba)])) _
    refine XS.iloadN P.here hx rfl (hb hby d15_27) rfl ?_
    show Steps p.tables e below (T.setTop (mkF m 28 #[.val (.ref va), .val (.int (0 : Int32)), .val (.ref ba), .val (.int (0 : Int32)), .val (.int (2 : Int32)), .val (.int (0 : Int32)), .val (.int c0)] [(.int (0 : Int32)), (.ref ba)])) _
    refine XS.iload P.here hx rfl (hb hby d15_28) rfl ?_
    show Steps p.tables e below (T.setTop (mkF m 30 #[.val (.ref va), .val (.int (0 : Int32)), .val (.ref ba), .val (.int (0 : Int32)), .val (.int (2 : Int32)), .val (.int (0 : Int32)), .val (.int c0)] [(.int c0), (.int (0 : Int32)), (.ref ba)])) _
    refine XT.i2b P.here hx rfl (hb hby d15_30) rfl ?_
    show Steps p.tables e below (T.setTop (mkF m 31 #[.val (.ref va), .val (.int (0 : Int32)), .val (.ref ba), .val (.int (0 : Int32)), .val (.int (2 : Int32)), .val (.int (0 : Int32)), .val (.int c0)] [(.int (c0.toInt8.toInt32)), (.int (0 : Int32)), (.ref ba)])) _
    exact kQ
  show OwnDone p e below _ (T.setTop (mkF m 31 #[.val (.ref va), .val (.int (0 : Int32)), .val (.ref ba), .val (.int (0 : Int32)), .val (.int (2 : Int32)), .val (.int (0 : Int32)), .val (.int c0)] [(.int (c0.toInt8.toInt32)), (.int (0 : Int32)), (.ref ba)]))
  refine own_bastore C P Yb (by decide) (show ((0 : Int32) : Int32).toNatClampNeg < 2 from by decide) (Or.inl (List.mem_of_getElem? (i := 0) rfl)) d15_31 (vs' := [(.int (nar .byte (c0.toInt8.toInt32))), (.int (0 : Int32))]) rfl (fun T1 h1 P1 K1 Y1 => ?_)
  have Y2_va := Yv.keep K1 (ninS nvb nin0)
  show OwnDone p e below _ (T1.setTop (mkF m 32 #[.val (.ref va), .val (.int (0 : Int32)), .val (.ref ba), .val (.int (0 : Int32)), .val (.int (2 : Int32)), .val (.int (0 : Int32)), .val (.int c0)] []))
  refine OwnDone.go (A := (T1.setTop (mkF m 7 #[.val (.ref va), .val (.int (1 : Int32)), .val (.ref ba), .val (.int (1 : Int32)), .val (.int (2 : Int32)), .val (.int (1 : Int32)), .val (.int c0)] [(.int (2 : Int32)), (.int (1 : Int32))]))) (fun tQ kQ => ?_) ?_
  · refine XS.iinc P1.here hx rfl (hb hby d15_32) rfl (l' := #[.val (.ref va), .val (.int (1 : Int32)), .val (.ref ba), .val (.int (0 : Int32)), .val (.int (2 : Int32)), .val (.int (0 : Int32)), .val (.int c0)]) rfl ?_
    show Steps p.tables e below (T1.setTop (mkF m 35 #[.val (.ref va), .val (.int (1 : Int32)), .val (.ref ba), .val (.int (0 : Int32)), .val (.int (2 : Int32)), .val (.int (0 : Int32)), .val (.int c0)] [])) _
    refine XS.iinc P1.here hx rfl (hb hby d15_35) rfl (l' := #[.val (.ref va), .val (.int (1 : Int32)), .val (.ref ba), .val (.int (1 : Int32)), .val (.int (2 : Int32)), .val (.int (0 : Int32)), .val (.int c0)]) rfl ?_
    show Steps p.tables e below (T1.setTop (mkF m 38 #[.val (.ref va), .val (.int (1 : Int32)), .val (.ref ba), .val (.int (1 : Int32)), .val (.int (2 : Int32)), .val (.int (0 : Int32)), .val (.int c0)] [])) _
    refine XS.iinc P1.here hx rfl (hb hby d15_38) rfl (l' := #[.val (.ref va), .val (.int (1 : Int32)), .val (.ref ba), .val (.int (1 : Int32)), .val (.int (2 : Int32)), .val (.int (1 : Int32)), .val (.int c0)]) rfl ?_
    show Steps p.tables e below (T1.setTop (mkF m 41 #[.val (.ref va), .val (.int (1 : Int32)), .val (.ref ba), .val (.int (1 : Int32)), .val (.int (2 : Int32)), .val (.int (1 : Int32)), .val (.int c0)] [])) _
    refine XS.goto P1.here hx rfl (pc0 := 41) (pc' := 3) rfl (hb hby d15_41) (by decide) (by decide) ?_
    show Steps p.tables e below (T1.setTop (mkF m 3 #[.val (.ref va), .val (.int (1 : Int32)), .val (.ref ba), .val (.int (1 : Int32)), .val (.int (2 : Int32)), .val (.int (1 : Int32)), .val (.int c0)] [])) _
    refine XS.iload P1.here hx rfl (hb hby d15_3) rfl ?_
    show Steps p.tables e below (T1.setTop (mkF m 5 #[.val (.ref va), .val (.int (1 : Int32)), .val (.ref ba), .val (.int (1 : Int32)), .val (.int (2 : Int32)), .val (.int (1 : Int32)), .val (.int c0)] [(.int (1 : Int32))])) _
    refine XS.iload P1.here hx rfl (hb hby d15_5) rfl ?_
    show Steps p.tables e below (T1.setTop (mkF m 7 #[.val (.ref va), .val (.int (1 : Int32)), .val (.ref ba), .val (.int (1 : Int32)), .val (.int (2 : Int32)), .val (.int (1 : Int32)), .val (.int c0)] [(.int (2 : Int32)), (.int (1 : Int32))])) _
    exact kQ
  show OwnDone p e below _ (T1.setTop (mkF m 7 #[.val (.ref va), .val (.int (1 : Int32)), .val (.ref ba), .val (.int (1 : Int32)), .val (.int (2 : Int32)), .val (.int (1 : Int32)), .val (.int c0)] [(.int (2 : Int32)), (.int (1 : Int32))]))
  refine OwnDone.go (A := (T1.setTop (mkF m 10 #[.val (.ref va), .val (.int (1 : Int32)), .val (.ref ba), .val (.int (1 : Int32)), .val (.int (2 : Int32)), .val (.int (1 : Int32)), .val (.int c0)] []))) (fun tQ kQ => XS.icmpNo P1.here hx rfl (hb hby d15_7) rfl (XT.ii_ge_f (by decide)) kQ) ?_
  show OwnDone p e below _ (T1.setTop (mkF m 10 #[.val (.ref va), .val (.int (1 : Int32)), .val (.ref ba), .val (.int (1 : Int32)), .val (.int (2 : Int32)), .val (.int (1 : Int32)), .val (.int c0)] []))
  refine OwnDone.go (A := (T1.setTop (mkF m 20 #[.val (.ref va), .val (.int (1 : Int32)), .val (.ref ba), .val (.int (1 : Int32)), .val (.int (2 : Int32)), .val (.int (1 : Int32)), .val (.int c1)] [(.int (255 : Int32)), (.int c1)]))) (fun tQ kQ => ?_) ?_
  · refine XS.aloadN P1.here hx rfl (hb hby d15_10) rfl rfl ?_
    show Steps p.tables e below (T1.setTop (mkF m 11 #[.val (.ref va), .val (.int (1 : Int32)), .val (.ref ba), .val (.int (1 : Int32)), .val (.int (2 : Int32)), .val (.int (1 : Int32)), .val (.int c0)] [(.ref va)])) _
    refine XS.iloadN P1.here hx rfl (hb hby d15_11) rfl ?_
    show Steps p.tables e below (T1.setTop (mkF m 12 #[.val (.ref va), .val (.int (1 : Int32)), .val (.ref ba), .val (.int (1 : Int32)), .val (.int (2 : Int32)), .val (.int (1 : Int32)), .val (.int c0)] [(.int (1 : Int32)), (.ref va)])) _
    refine own_caload C P1 Y2_va (by decide) rfl d15_12 ?_
    show Steps p.tables e below (T1.setTop (mkF m 13 #[.val (.ref va), .val (.int (1 : Int32)), .val (.ref ba), .val (.int (1 : Int32)), .val (.int (2 : Int32)), .val (.int (1 : Int32)), .val (.int c0)] [(.int c1)])) _
    refine XS.istore P1.here hx rfl (hb hby d15_13) rfl (l' := #[.val (.ref va), .val (.int (1 : Int32)), .val (.ref ba), .val (.int (1 : Int32)), .val (.int (2 : Int32)), .val (.int (1 : Int32)), .val (.int c1)]) rfl ?_
    show Steps p.tables e below (T1.setTop (mkF m 15 #[.val (.ref va), .val (.int (1 : Int32)), .val (.ref ba), .val (.int (1 : Int32)), .val (.int (2 : Int32)), .val (.int (1 : Int32)), .val (.int c1)] [])) _
    refine XS.iload P1.here hx rfl (hb hby d15_15) rfl ?_
    show Steps p.tables e below (T1.setTop (mkF m 17 #[.val (.ref va), .val (.int (1 : Int32)), .val (.ref ba), .val (.int (1 : Int32)), .val (.int (2 : Int32)), .val (.int (1 : Int32)), .val (.int c1)] [(.int c1)])) _
    refine XS.sipush P1.here hx rfl (hb hby d15_17) ?_
    show Steps p.tables e below (T1.setTop (mkF m 20 #[.val (.ref va), .val (.int (1 : Int32)), .val (.ref ba), .val (.int (1 : Int32)), .val (.int (2 : Int32)), .val (.int (1 : Int32)), .val (.int c1)] [(.int (255 : Int32)), (.int c1)])) _
    exact kQ
  show OwnDone p e below _ (T1.setTop (mkF m 20 #[.val (.ref va), .val (.int (1 : Int32)), .val (.ref ba), .val (.int (1 : Int32)), .val (.int (2 : Int32)), .val (.int (1 : Int32)), .val (.int c1)] [(.int (255 : Int32)), (.int c1)]))
  refine OwnDone.go (A := (T1.setTop (mkF m 26 #[.val (.ref va), .val (.int (1 : Int32)), .val (.ref ba), .val (.int (1 : Int32)), .val (.int (2 : Int32)), .val (.int (1 : Int32)), .val (.int c1)] []))) (fun tQ kQ => XS.icmpYes P1.here hx rfl (pc0 := 20) (pc' := 26) rfl (hb hby d15_20) rfl (XT.ii_le_t q1) (by decide) (by decide) kQ) ?_
  show OwnDone p e below _ (T1.setTop (mkF m 26 #[.val (.ref va), .val (.int (1 : Int32)), .val (.ref ba), .val (.int (1 : Int32)), .val (.int (2 : Int32)), .val (.int (1 : Int32)), .val (.int c1)] []))
  refine OwnDone.go (A := (T1.setTop (mkF m 31 #[.val (.ref va), .val (.int (1 : Int32)), .val (.ref ba), .val (.int (1 : Int32)), .val (.int (2 : Int32)), .val (.int (1 : Int32)), .val (.int c1)] [(.int (c1.toInt8.toInt32)), (.int (1 : Int32)), (.ref ba)]))) (fun tQ kQ => ?_) ?_
  · refine XS.aloadN P1.here hx rfl (hb hby d15_26) rfl rfl ?_
    show Steps p.tables e below (T1.setTop (mkF m 27 #[.val (.ref va), .val (.int (1 : Int32)), .val (.ref ba), .val (.int (1 : Int32)), .val (.int (2 : Int32)), .val (.int (1 : Int32)), .val (.int c1)] [(.ref ba)])) _
    refine XS.iloadN P1.here hx rfl (hb hby d15_27) rfl ?_
    show Steps p.tables e below (T1.setTop (mkF m 28 #[.val (.ref va), .val (.int (1 : Int32)), .val (.ref ba), .val (.int (1 : Int32)), .val (.int (2 : Int32)), .val (.int (1 : Int32)), .val (.int c1)] [(.int (1 : Int32)), (.ref ba)])) _
    refine XS.iload P1.here hx rfl (hb hby d15_28) rfl ?_
    show Steps p.tables e below (T1.setTop (mkF m 30 #[.val (.ref va), .val (.int (1 : Int32)), .val (.ref ba), .val (.int (1 : Int32)), .val (.int (2 : Int32)), .val (.int (1 : Int32)), .val (.int c1)] [(.int c1), (.int (1 : Int32)), (.ref ba)])) _
    refine XT.i2b P1.here hx rfl (hb hby d15_30) rfl ?_
    show Steps p.tables e below (T1.setTop (mkF m 31 #[.val (.ref va), .val (.int (1 : Int32)), .val (.ref ba), .val (.int (1 : Int32)), .val (.int (2 : Int32)), .val (.int (1 : Int32)), .val (.int c1)] [(.int (c1.toInt8.toInt32)), (.int (1 : Int32)), (.ref ba)])) _
    exact kQ
  show OwnDone p e below _ (T1.setTop (mkF m 31 #[.val (.ref va), .val (.int (1 : Int32)), .val (.ref ba), .val (.int (1 : Int32)), .val (.int (2 : Int32)), .val (.int (1 : Int32)), .val (.int c1)] [(.int (c1.toInt8.toInt32)), (.int (1 : Int32)), (.ref ba)]))
  refine own_bastore C P1 Y1 (by decide) (show ((1 : Int32) : Int32).toNatClampNeg < 2 from by decide) (Or.inl (List.mem_of_getElem? (i := 0) rfl)) d15_31 (vs' := [(.int (nar .byte (c0.toInt8.toInt32))), (.int (nar .byte (c1.toInt8.toInt32)))]) rfl (fun T3 h3 P3 K3 Y3 => ?_)
  have Y4_va := Y2_va.keep K3 (ninS nvb nin0)
  show OwnDone p e below _ (T3.setTop (mkF m 32 #[.val (.ref va), .val (.int (1 : Int32)), .val (.ref ba), .val (.int (1 : Int32)), .val (.int (2 : Int32)), .val (.int (1 : Int32)), .val (.int c1)] []))
  refine OwnDone.go (A := (T3.setTop (mkF m 7 #[.val (.ref va), .val (.int (2 : Int32)), .val (.ref ba), .val (.int (2 : Int32)), .val (.int (2 : Int32)), .val (.int (2 : Int32)), .val (.int c1)] [(.int (2 : Int32)), (.int (2 : Int32))]))) (fun tQ kQ => ?_) ?_
  · refine XS.iinc P3.here hx rfl (hb hby d15_32) rfl (l' := #[.val (.ref va), .val (.int (2 : Int32)), .val (.ref ba), .val (.int (1 : Int32)), .val (.int (2 : Int32)), .val (.int (1 : Int32)), .val (.int c1)]) rfl ?_
    show Steps p.tables e below (T3.setTop (mkF m 35 #[.val (.ref va), .val (.int (2 : Int32)), .val (.ref ba), .val (.int (1 : Int32)), .val (.int (2 : Int32)), .val (.int (1 : Int32)), .val (.int c1)] [])) _
    refine XS.iinc P3.here hx rfl (hb hby d15_35) rfl (l' := #[.val (.ref va), .val (.int (2 : Int32)), .val (.ref ba), .val (.int (2 : Int32)), .val (.int (2 : Int32)), .val (.int (1 : Int32)), .val (.int c1)]) rfl ?_
    show Steps p.tables e below (T3.setTop (mkF m 38 #[.val (.ref va), .val (.int (2 : Int32)), .val (.ref ba), .val (.int (2 : Int32)), .val (.int (2 : Int32)), .val (.int (1 : Int32)), .val (.int c1)] [])) _
    refine XS.iinc P3.here hx rfl (hb hby d15_38) rfl (l' := #[.val (.ref va), .val (.int (2 : Int32)), .val (.ref ba), .val (.int (2 : Int32)), .val (.int (2 : Int32)), .val (.int (2 : Int32)), .val (.int c1)]) rfl ?_
    show Steps p.tables e below (T3.setTop (mkF m 41 #[.val (.ref va), .val (.int (2 : Int32)), .val (.ref ba), .val (.int (2 : Int32)), .val (.int (2 : Int32)), .val (.int (2 : Int32)), .val (.int c1)] [])) _
    refine XS.goto P3.here hx rfl (pc0 := 41) (pc' := 3) rfl (hb hby d15_41) (by decide) (by decide) ?_
    show Steps p.tables e below (T3.setTop (mkF m 3 #[.val (.ref va), .val (.int (2 : Int32)), .val (.ref ba), .val (.int (2 : Int32)), .val (.int (2 : Int32)), .val (.int (2 : Int32)), .val (.int c1)] [])) _
    refine XS.iload P3.here hx rfl (hb hby d15_3) rfl ?_
    show Steps p.tables e below (T3.setTop (mkF m 5 #[.val (.ref va), .val (.int (2 : Int32)), .val (.ref ba), .val (.int (2 : Int32)), .val (.int (2 : Int32)), .val (.int (2 : Int32)), .val (.int c1)] [(.int (2 : Int32))])) _
    refine XS.iload P3.here hx rfl (hb hby d15_5) rfl ?_
    show Steps p.tables e below (T3.setTop (mkF m 7 #[.val (.ref va), .val (.int (2 : Int32)), .val (.ref ba), .val (.int (2 : Int32)), .val (.int (2 : Int32)), .val (.int (2 : Int32)), .val (.int c1)] [(.int (2 : Int32)), (.int (2 : Int32))])) _
    exact kQ
  show OwnDone p e below _ (T3.setTop (mkF m 7 #[.val (.ref va), .val (.int (2 : Int32)), .val (.ref ba), .val (.int (2 : Int32)), .val (.int (2 : Int32)), .val (.int (2 : Int32)), .val (.int c1)] [(.int (2 : Int32)), (.int (2 : Int32))]))
  refine OwnDone.go (A := (T3.setTop (mkF m 44 #[.val (.ref va), .val (.int (2 : Int32)), .val (.ref ba), .val (.int (2 : Int32)), .val (.int (2 : Int32)), .val (.int (2 : Int32)), .val (.int c1)] []))) (fun tQ kQ => XS.icmpYes P3.here hx rfl (pc0 := 7) (pc' := 44) rfl (hb hby d15_7) rfl (XT.ii_ge_t (by decide)) (by decide) (by decide) kQ) ?_
  show OwnDone p e below _ (T3.setTop (mkF m 44 #[.val (.ref va), .val (.int (2 : Int32)), .val (.ref ba), .val (.int (2 : Int32)), .val (.int (2 : Int32)), .val (.int (2 : Int32)), .val (.int c1)] []))
  refine OwnDone.go (A := (T3.setTop (mkF m 46 #[.val (.ref va), .val (.int (2 : Int32)), .val (.ref ba), .val (.int (2 : Int32)), .val (.int (2 : Int32)), .val (.int (2 : Int32)), .val (.int c1)] [(.int (2 : Int32))]))) (fun tQ kQ => ?_) ?_
  · refine XS.iload P3.here hx rfl (hb hby d15_44) rfl ?_
    show Steps p.tables e below (T3.setTop (mkF m 46 #[.val (.ref va), .val (.int (2 : Int32)), .val (.ref ba), .val (.int (2 : Int32)), .val (.int (2 : Int32)), .val (.int (2 : Int32)), .val (.int c1)] [(.int (2 : Int32))])) _
    exact kQ
  show OwnDone p e below _ (T3.setTop (mkF m 46 #[.val (.ref va), .val (.int (2 : Int32)), .val (.ref ba), .val (.int (2 : Int32)), .val (.int (2 : Int32)), .val (.int (2 : Int32)), .val (.int c1)] [(.int (2 : Int32))]))
  refine own_retI C P3 d15_46 (by decide) (by decide) ⟨rfl, Y3⟩
theorem d13_0 : decode jdk_52_method_16_code 0 = .ok (.iload_n 2, 1) := by decide +kernel
theorem d13_1 : decode jdk_52_method_16_code 1 = .ok (.newarray .byte, 2) := by decide +kernel
theorem d13_3 : decode jdk_52_method_16_code 3 = .ok (.astore_n 3, 1) := by decide +kernel
theorem d13_4 : decode jdk_52_method_16_code 4 = .ok (.aload_n 0, 1) := by decide +kernel
theorem d13_5 : decode jdk_52_method_16_code 5 = .ok (.iload_n 1, 1) := by decide +kernel
theorem d13_6 : decode jdk_52_method_16_code 6 = .ok (.aload_n 3, 1) := by decide +kernel
theorem d13_7 : decode jdk_52_method_16_code 7 = .ok (.iconst 0, 1) := by decide +kernel
theorem d13_8 : decode jdk_52_method_16_code 8 = .ok (.iload_n 2, 1) := by decide +kernel
theorem d13_9 : decode jdk_52_method_16_code 9 = .ok (.invokestatic 115, 3) := by decide +kernel
theorem d13_12 : decode jdk_52_method_16_code 12 = .ok (.istore 4, 2) := by decide +kernel
theorem d13_14 : decode jdk_52_method_16_code 14 = .ok (.iload 4, 2) := by decide +kernel
theorem d13_16 : decode jdk_52_method_16_code 16 = .ok (.iload_n 2, 1) := by decide +kernel
theorem d13_17 : decode jdk_52_method_16_code 17 = .ok (.if_icmp .eq 40, 3) := by decide +kernel
theorem d13_57 : decode jdk_52_method_16_code 57 = .ok (.aload_n 3, 1) := by decide +kernel
theorem d13_58 : decode jdk_52_method_16_code 58 = .ok (.areturn, 1) := by decide +kernel
theorem pn13 : plainName "java/lang/StringUTF16" = true := by first | (simp [plainName, overriddenIn]; done) | decide +kernel
theorem ef13 (m : MethodId) (va : Addr)  : entryFrame m #[(.ref va), (.int (0 : Int32)), (.int (2 : Int32))] 6 = mkF m 0 #[.val (.ref va), .val (.int (0 : Int32)), .val (.int (2 : Int32)), .unset, .unset, .unset] [] := by first | (simp [entryFrame, mkF, argsToLocals, Value.category]; done) | rfl
set_option maxRecDepth 65536 in
set_option maxHeartbeats 40000000 in
theorem rm13 (l : Launch) (Z : State) (a0 : Array Value) (hw : ∀ d ∈ tables_1, d.before a0 Z = true) (va : Addr) (kv : ClassId) (c0 c1 : Int32) (h0 : Heap) (hE : Ext Z.heap h0)  (Yv : OwnAry Z h0 va kv .char [(.int c0), (.int c1)]) (q0 : ¬ (255 : Int32) < c0) (q1 : ¬ (255 : Int32) < c1) :
    OwnMeets l (⟨"java/lang/StringUTF16", "compress", "([CII)[B"⟩ : MethodName) jdk_52_method_16_code 6 (some (.array .byte)) ({ frames := 1, cells := 1, slots := 2, locals := 18 } : Room) Z [] #[(.ref va), (.int (0 : Int32)), (.int (2 : Int32))] h0 (fun v h => ∃ b kb, v = some (.ref b) ∧ OwnAry Z h b kb .byte [(.int (nar .byte (c0.toInt8.toInt32))), (.int (nar .byte (c1.toInt8.toInt32)))] ∧ h0.size ≤ b) := by
  refine OwnMeets.of (plainFor_of_name pn13) hE all0 ?_
  intro p e s m below meth c T C P
  have hx := C.1
  have hby := C.2.2.2.2.1
  rw [show entryFrame m #[(.ref va), (.int (0 : Int32)), (.int (2 : Int32))] 6 = _ from ef13 m va]
  show OwnDone p e below _ (T.setTop (mkF m 0 #[.val (.ref va), .val (.int (0 : Int32)), .val (.int (2 : Int32)), .unset, .unset, .unset] []))
  refine OwnDone.go (A := (T.setTop (mkF m 1 #[.val (.ref va), .val (.int (0 : Int32)), .val (.int (2 : Int32)), .unset, .unset, .unset] [(.int (2 : Int32))]))) (fun tQ kQ => ?_) ?_
  · refine XS.iloadN P.here hx rfl (hb hby d13_0) rfl ?_
    show Steps p.tables e below (T.setTop (mkF m 1 #[.val (.ref va), .val (.int (0 : Int32)), .val (.int (2 : Int32)), .unset, .unset, .unset] [(.int (2 : Int32))])) _
    exact kQ
  show OwnDone p e below _ (T.setTop (mkF m 1 #[.val (.ref va), .val (.int (0 : Int32)), .val (.int (2 : Int32)), .unset, .unset, .unset] [(.int (2 : Int32))]))
  refine own_newP (aty := .byte) (n := (2 : Int32)) (cap := 2) (vs := [(.int (0 : Int32)), (.int (0 : Int32))]) C P (hw _ (List.mem_of_getElem? (i := 18) rfl)) d13_1 (by decide) (by decide) (by decide) (by decide +kernel) rfl (by decide) (by decide) (fun T1 h1 a1 k1 ga1 la1 P1 K1 Y1 N1 => ?_)
  have ge_a1 : h0.size ≤ a1 := by rw [ga1]; exact P.keep.1
  have ne_va_a1 : va ≠ a1 := by rw [ga1]; exact Nat.ne_of_lt Yv.lt
  have Y2_va := Yv.keep K1 nin0
  have Y1 : OwnAry Z h1 a1 k1 .byte [(.int (0 : Int32)), (.int (0 : Int32))] := Y1
  show OwnDone p e below _ (T1.setTop (mkF m 3 #[.val (.ref va), .val (.int (0 : Int32)), .val (.int (2 : Int32)), .unset, .unset, .unset] [(.ref a1)]))
  refine OwnDone.go (A := (T1.setTop (mkF m 9 #[.val (.ref va), .val (.int (0 : Int32)), .val (.int (2 : Int32)), .val (.ref a1), .unset, .unset] [(.int (2 : Int32)), (.int (0 : Int32)), (.ref a1), (.int (0 : Int32)), (.ref va)]))) (fun tQ kQ => ?_) ?_
  · refine XS.astoreN P1.here hx rfl (hb hby d13_3) rfl rfl (l' := #[.val (.ref va), .val (.int (0 : Int32)), .val (.int (2 : Int32)), .val (.ref a1), .unset, .unset]) rfl ?_
    show Steps p.tables e below (T1.setTop (mkF m 4 #[.val (.ref va), .val (.int (0 : Int32)), .val (.int (2 : Int32)), .val (.ref a1), .unset, .unset] [])) _
    refine XS.aloadN P1.here hx rfl (hb hby d13_4) rfl rfl ?_
    show Steps p.tables e below (T1.setTop (mkF m 5 #[.val (.ref va), .val (.int (0 : Int32)), .val (.int (2 : Int32)), .val (.ref a1), .unset, .unset] [(.ref va)])) _
    refine XS.iloadN P1.here hx rfl (hb hby d13_5) rfl ?_
    show Steps p.tables e below (T1.setTop (mkF m 6 #[.val (.ref va), .val (.int (0 : Int32)), .val (.int (2 : Int32)), .val (.ref a1), .unset, .unset] [(.int (0 : Int32)), (.ref va)])) _
    refine XS.aloadN P1.here hx rfl (hb hby d13_6) rfl rfl ?_
    show Steps p.tables e below (T1.setTop (mkF m 7 #[.val (.ref va), .val (.int (0 : Int32)), .val (.int (2 : Int32)), .val (.ref a1), .unset, .unset] [(.ref a1), (.int (0 : Int32)), (.ref va)])) _
    refine XS.iconst P1.here hx rfl (hb hby d13_7) ?_
    show Steps p.tables e below (T1.setTop (mkF m 8 #[.val (.ref va), .val (.int (0 : Int32)), .val (.int (2 : Int32)), .val (.ref a1), .unset, .unset] [(.int (0 : Int32)), (.ref a1), (.int (0 : Int32)), (.ref va)])) _
    refine XS.iloadN P1.here hx rfl (hb hby d13_8) rfl ?_
    show Steps p.tables e below (T1.setTop (mkF m 9 #[.val (.ref va), .val (.int (0 : Int32)), .val (.int (2 : Int32)), .val (.ref a1), .unset, .unset] [(.int (2 : Int32)), (.int (0 : Int32)), (.ref a1), (.int (0 : Int32)), (.ref va)])) _
    exact kQ
  show OwnDone p e below _ (T1.setTop (mkF m 9 #[.val (.ref va), .val (.int (0 : Int32)), .val (.int (2 : Int32)), .val (.ref a1), .unset, .unset] [(.int (2 : Int32)), (.int (0 : Int32)), (.ref a1), (.int (0 : Int32)), (.ref va)]))
  refine own_callS (y := (⟨"java/lang/StringUTF16", "compress", "([CI[BII)I"⟩ : MethodName)) C P1 (hw _ (List.mem_of_getElem? (i := 65) rfl)) (hw _ (List.mem_of_getElem? (i := 66) rfl)) (hw _ (List.mem_of_getElem? (i := 63) rfl)) (hw _ (List.mem_of_getElem? (i := 67) rfl)) (by decide) (rm15 l Z a0 hw va a1 kv k1 c0 c1 h1 P1.old (Nat.le_trans hE.1 ge_a1) Y2_va Y1 ne_va_a1 q0 q1) (as := [(.ref va), (.int (0 : Int32)), (.ref a1), (.int (0 : Int32)), (.int (2 : Int32))]) (rest := []) pd_3 rfl rfl (wd := 0) rfl rfl d13_9 (allS (Or.inr ge_a1) all0) (by decide) (by decide) (by decide) (by decide) (fun T3 h3 v3 P3 K3 hQ3 => ?_)
  obtain ⟨rfl, Y3⟩ := hQ3
  have Y4_va := Y2_va.keep K3 (ninS ne_va_a1 nin0)
  show OwnDone p e below _ (T3.setTop (mkF m 12 #[.val (.ref va), .val (.int (0 : Int32)), .val (.int (2 : Int32)), .val (.ref a1), .unset, .unset] [(.int (2 : Int32))]))
  refine OwnDone.go (A := (T3.setTop (mkF m 17 #[.val (.ref va), .val (.int (0 : Int32)), .val (.int (2 : Int32)), .val (.ref a1), .val (.int (2 : Int32)), .unset] [(.int (2 : Int32)), (.int (2 : Int32))]))) (fun tQ kQ => ?_) ?_
  · refine XS.istore P3.here hx rfl (hb hby d13_12) rfl (l' := #[.val (.ref va), .val (.int (0 : Int32)), .val (.int (2 : Int32)), .val (.ref a1), .val (.int (2 : Int32)), .unset]) rfl ?_
    show Steps p.tables e below (T3.setTop (mkF m 14 #[.val (.ref va), .val (.int (0 : Int32)), .val (.int (2 : Int32)), .val (.ref a1), .val (.int (2 : Int32)), .unset] [])) _
    refine XS.iload P3.here hx rfl (hb hby d13_14) rfl ?_
    show Steps p.tables e below (T3.setTop (mkF m 16 #[.val (.ref va), .val (.int (0 : Int32)), .val (.int (2 : Int32)), .val (.ref a1), .val (.int (2 : Int32)), .unset] [(.int (2 : Int32))])) _
    refine XS.iloadN P3.here hx rfl (hb hby d13_16) rfl ?_
    show Steps p.tables e below (T3.setTop (mkF m 17 #[.val (.ref va), .val (.int (0 : Int32)), .val (.int (2 : Int32)), .val (.ref a1), .val (.int (2 : Int32)), .unset] [(.int (2 : Int32)), (.int (2 : Int32))])) _
    exact kQ
  show OwnDone p e below _ (T3.setTop (mkF m 17 #[.val (.ref va), .val (.int (0 : Int32)), .val (.int (2 : Int32)), .val (.ref a1), .val (.int (2 : Int32)), .unset] [(.int (2 : Int32)), (.int (2 : Int32))]))
  refine OwnDone.go (A := (T3.setTop (mkF m 57 #[.val (.ref va), .val (.int (0 : Int32)), .val (.int (2 : Int32)), .val (.ref a1), .val (.int (2 : Int32)), .unset] []))) (fun tQ kQ => XS.icmpYes P3.here hx rfl (pc0 := 17) (pc' := 57) rfl (hb hby d13_17) rfl (XT.ii_eq_t rfl) (by decide) (by decide) kQ) ?_
  show OwnDone p e below _ (T3.setTop (mkF m 57 #[.val (.ref va), .val (.int (0 : Int32)), .val (.int (2 : Int32)), .val (.ref a1), .val (.int (2 : Int32)), .unset] []))
  refine OwnDone.go (A := (T3.setTop (mkF m 58 #[.val (.ref va), .val (.int (0 : Int32)), .val (.int (2 : Int32)), .val (.ref a1), .val (.int (2 : Int32)), .unset] [(.ref a1)]))) (fun tQ kQ => ?_) ?_
  · refine XS.aloadN P3.here hx rfl (hb hby d13_57) rfl rfl ?_
    show Steps p.tables e below (T3.setTop (mkF m 58 #[.val (.ref va), .val (.int (0 : Int32)), .val (.int (2 : Int32)), .val (.ref a1), .val (.int (2 : Int32)), .unset] [(.ref a1)])) _
    exact kQ
  show OwnDone p e below _ (T3.setTop (mkF m 58 #[.val (.ref va), .val (.int (0 : Int32)), .val (.int (2 : Int32)), .val (.ref a1), .val (.int (2 : Int32)), .unset] [(.ref a1)]))
  refine own_retA C P3 rfl rfl d13_58 (by decide) (by decide) ⟨_, _, rfl, Y3, ge_a1⟩
theorem d14_0 : decode jdk_52_method_15_code 0 = .ok (.iload_n 1, 1) := by decide +kernel
theorem d14_1 : decode jdk_52_method_15_code 1 = .ok (.aload_n 0, 1) := by decide +kernel
theorem d14_2 : decode jdk_52_method_15_code 2 = .ok (.arraylength, 1) := by decide +kernel
theorem d14_3 : decode jdk_52_method_15_code 3 = .ok (.isub, 1) := by decide +kernel
theorem d14_4 : decode jdk_52_method_15_code 4 = .ok (.bipush 31, 2) := by decide +kernel
theorem d14_6 : decode jdk_52_method_15_code 6 = .ok (.iushr, 1) := by decide +kernel
theorem d14_7 : decode jdk_52_method_15_code 7 = .ok (.i2b, 1) := by decide +kernel
theorem d14_8 : decode jdk_52_method_15_code 8 = .ok (.ireturn, 1) := by decide +kernel
theorem pn14 : plainName "java/lang/StringUTF16" = true := by first | (simp [plainName, overriddenIn]; done) | decide +kernel
theorem ef14 (m : MethodId) (ba : Addr)  : entryFrame m #[(.ref ba), (.int (2 : Int32))] 2 = mkF m 0 #[.val (.ref ba), .val (.int (2 : Int32))] [] := by first | (simp [entryFrame, mkF, argsToLocals, Value.category]; done) | rfl
set_option maxRecDepth 65536 in
set_option maxHeartbeats 40000000 in
theorem rm14 (l : Launch) (Z : State) (a0 : Array Value) (hw : ∀ d ∈ tables_1, d.before a0 Z = true) (ba : Addr) (kb : ClassId) (x0 x1 : Int32) (h0 : Heap) (hE : Ext Z.heap h0)  (Yb : OwnAry Z h0 ba kb .byte [(.int x0), (.int x1)]) :
    OwnMeets l (⟨"java/lang/StringUTF16", "coderFromArrayLen", "([BI)B"⟩ : MethodName) jdk_52_method_15_code 2 (some .byte) ({ frames := 0, cells := 0, slots := 0, locals := 0 } : Room) Z [] #[(.ref ba), (.int (2 : Int32))] h0 (fun v h => v = some (.int 0) ∧ h0 = h) := by
  refine OwnMeets.of (plainFor_of_name pn14) hE all0 ?_
  intro p e s m below meth c T C P
  have hx := C.1
  have hby := C.2.2.2.2.1
  rw [show entryFrame m #[(.ref ba), (.int (2 : Int32))] 2 = _ from ef14 m ba]
  show OwnDone p e below _ (T.setTop (mkF m 0 #[.val (.ref ba), .val (.int (2 : Int32))] []))
  refine OwnDone.go (A := (T.setTop (mkF m 8 #[.val (.ref ba), .val (.int (2 : Int32))] [(.int ((XT.ushr (0 : Int32) (31 : Int32)).toInt8.toInt32))]))) (fun tQ kQ => ?_) ?_
  · refine XS.iloadN P.here hx rfl (hb hby d14_0) rfl ?_
    show Steps p.tables e below (T.setTop (mkF m 1 #[.val (.ref ba), .val (.int (2 : Int32))] [(.int (2 : Int32))])) _
    refine XS.aloadN P.here hx rfl (hb hby d14_1) rfl rfl ?_
    show Steps p.tables e below (T.setTop (mkF m 2 #[.val (.ref ba), .val (.int (2 : Int32))] [(.ref ba), (.int (2 : Int32))])) _
    refine own_alen C P Yb d14_2 ?_
    show Steps p.tables e below (T.setTop (mkF m 3 #[.val (.ref ba), .val (.int (2 : Int32))] [(.int (2 : Int32)), (.int (2 : Int32))])) _
    refine XS.isub P.here hx rfl (hb hby d14_3) rfl ?_
    show Steps p.tables e below (T.setTop (mkF m 4 #[.val (.ref ba), .val (.int (2 : Int32))] [(.int (0 : Int32))])) _
    refine XS.bipush P.here hx rfl (hb hby d14_4) ?_
    show Steps p.tables e below (T.setTop (mkF m 6 #[.val (.ref ba), .val (.int (2 : Int32))] [(.int (31 : Int32)), (.int (0 : Int32))])) _
    refine XT.iushr P.here hx rfl (hb hby d14_6) rfl ?_
    show Steps p.tables e below (T.setTop (mkF m 7 #[.val (.ref ba), .val (.int (2 : Int32))] [(.int (XT.ushr (0 : Int32) (31 : Int32)))])) _
    refine XT.i2b P.here hx rfl (hb hby d14_7) rfl ?_
    show Steps p.tables e below (T.setTop (mkF m 8 #[.val (.ref ba), .val (.int (2 : Int32))] [(.int ((XT.ushr (0 : Int32) (31 : Int32)).toInt8.toInt32))])) _
    exact kQ
  show OwnDone p e below _ (T.setTop (mkF m 8 #[.val (.ref ba), .val (.int (2 : Int32))] [(.int ((XT.ushr (0 : Int32) (31 : Int32)).toInt8.toInt32))]))
  refine own_retN C P (by simp) (z' := (0 : Int32)) (by decide) d14_8 (by decide) (by decide) ⟨rfl, rfl⟩
theorem d12_0 : decode jdk_42_method_149_code 0 = .ok (.aload_n 0, 1) := by decide +kernel
theorem d12_1 : decode jdk_42_method_149_code 1 = .ok (.invokespecial 1, 3) := by decide +kernel
theorem d12_4 : decode jdk_42_method_149_code 4 = .ok (.iload_n 3, 1) := by decide +kernel
theorem d12_5 : decode jdk_42_method_149_code 5 = .ok (.ifCond .ne 22, 3) := by decide +kernel
theorem d12_27 : decode jdk_42_method_149_code 27 = .ok (.getstatic 38, 3) := by decide +kernel
theorem d12_30 : decode jdk_42_method_149_code 30 = .ok (.ifCond .eq 28, 3) := by decide +kernel
theorem d12_33 : decode jdk_42_method_149_code 33 = .ok (.aload_n 1, 1) := by decide +kernel
theorem d12_34 : decode jdk_42_method_149_code 34 = .ok (.iload_n 2, 1) := by decide +kernel
theorem d12_35 : decode jdk_42_method_149_code 35 = .ok (.iload_n 3, 1) := by decide +kernel
theorem d12_36 : decode jdk_42_method_149_code 36 = .ok (.invokestatic 177, 3) := by decide +kernel
theorem d12_39 : decode jdk_42_method_149_code 39 = .ok (.astore 5, 2) := by decide +kernel
theorem d12_41 : decode jdk_42_method_149_code 41 = .ok (.aload_n 0, 1) := by decide +kernel
theorem d12_42 : decode jdk_42_method_149_code 42 = .ok (.aload 5, 2) := by decide +kernel
theorem d12_44 : decode jdk_42_method_149_code 44 = .ok (.iload_n 3, 1) := by decide +kernel
theorem d12_45 : decode jdk_42_method_149_code 45 = .ok (.invokestatic 47, 3) := by decide +kernel
theorem d12_48 : decode jdk_42_method_149_code 48 = .ok (.putfield 15, 3) := by decide +kernel
theorem d12_51 : decode jdk_42_method_149_code 51 = .ok (.aload_n 0, 1) := by decide +kernel
theorem d12_52 : decode jdk_42_method_149_code 52 = .ok (.aload 5, 2) := by decide +kernel
theorem d12_54 : decode jdk_42_method_149_code 54 = .ok (.putfield 9, 3) := by decide +kernel
theorem d12_57 : decode jdk_42_method_149_code 57 = .ok (.return_, 1) := by decide +kernel
theorem pn12 : plainName "java/lang/String" = true := by first | (simp [plainName, overriddenIn]; done) | decide +kernel
theorem ef12 (m : MethodId) (a1 : Addr) (va : Addr)  : entryFrame m #[(.ref a1), (.ref va), (.int (0 : Int32)), (.int (2 : Int32)), .null] 6 = mkF m 0 #[.val (.ref a1), .val (.ref va), .val (.int (0 : Int32)), .val (.int (2 : Int32)), .val .null, .unset] [] := by first | (simp [entryFrame, mkF, argsToLocals, Value.category]; done) | rfl
set_option maxRecDepth 65536 in
set_option maxHeartbeats 40000000 in
theorem rm12 (l : Launch) (Z : State) (a0 : Array Value) (hw : ∀ d ∈ tables_1, d.before a0 Z = true) (a1 : Addr) (va : Addr) (kv : ClassId) (c0 c1 : Int32) (h0 : Heap) (hE : Ext Z.heap h0) (g_a1 : Z.heap.size ≤ a1) (O1 : OwnObj Z h0 a1 "java/lang/String" own_lay0 [.null, (.int (0 : Int32))]) (Yv : OwnAry Z h0 va kv .char [(.int c0), (.int c1)]) (nav : a1 ≠ va) (q0 : ¬ (255 : Int32) < c0) (q1 : ¬ (255 : Int32) < c1) (cs : Int32) (C0 : Sta Z Z.heap "java/lang/String" "COMPACT_STRINGS" "Z" (.int cs)) (C1 : ¬ cs = 0) :
    OwnMeets l (⟨"java/lang/String", "<init>", "([CIILjava/lang/Void;)V"⟩ : MethodName) jdk_42_method_149_code 6 none ({ frames := 2, cells := 1, slots := 2, locals := 35 } : Room) Z [a1] #[(.ref a1), (.ref va), (.int (0 : Int32)), (.int (2 : Int32)), .null] h0 (fun v h => v = none) := by
  refine OwnMeets.of (plainFor_of_name pn12) hE (allS g_a1 all0) ?_
  intro p e s m below meth c T C P
  have hx := C.1
  have hby := C.2.2.2.2.1
  rw [show entryFrame m #[(.ref a1), (.ref va), (.int (0 : Int32)), (.int (2 : Int32)), .null] 6 = _ from ef12 m a1 va]
  show OwnDone p e below _ (T.setTop (mkF m 0 #[.val (.ref a1), .val (.ref va), .val (.int (0 : Int32)), .val (.int (2 : Int32)), .val .null, .unset] []))
  refine OwnDone.go (A := (T.setTop (mkF m 1 #[.val (.ref a1), .val (.ref va), .val (.int (0 : Int32)), .val (.int (2 : Int32)), .val .null, .unset] [(.ref a1)]))) (fun tQ kQ => ?_) ?_
  · refine XS.aloadN P.here hx rfl (hb hby d12_0) rfl rfl ?_
    show Steps p.tables e below (T.setTop (mkF m 1 #[.val (.ref a1), .val (.ref va), .val (.int (0 : Int32)), .val (.int (2 : Int32)), .val .null, .unset] [(.ref a1)])) _
    exact kQ
  show OwnDone p e below _ (T.setTop (mkF m 1 #[.val (.ref a1), .val (.ref va), .val (.int (0 : Int32)), .val (.int (2 : Int32)), .val .null, .unset] [(.ref a1)]))
  refine own_initO (wd := 0) (rest := []) C P (hw _ (List.mem_of_getElem? (i := 23) rfl)) (hw _ (List.mem_of_getElem? (i := 24) rfl)) (hw _ (List.mem_of_getElem? (i := 25) rfl)) rfl rfl d12_1 (by decide) (by decide) (fun T1 P1 => ?_)
  show OwnDone p e below _ (T1.setTop (mkF m 4 #[.val (.ref a1), .val (.ref va), .val (.int (0 : Int32)), .val (.int (2 : Int32)), .val .null, .unset] []))
  refine OwnDone.go (A := (T1.setTop (mkF m 5 #[.val (.ref a1), .val (.ref va), .val (.int (0 : Int32)), .val (.int (2 : Int32)), .val .null, .unset] [(.int (2 : Int32))]))) (fun tQ kQ => ?_) ?_
  · refine XS.iloadN P1.here hx rfl (hb hby d12_4) rfl ?_
    show Steps p.tables e below (T1.setTop (mkF m 5 #[.val (.ref a1), .val (.ref va), .val (.int (0 : Int32)), .val (.int (2 : Int32)), .val .null, .unset] [(.int (2 : Int32))])) _
    exact kQ
  show OwnDone p e below _ (T1.setTop (mkF m 5 #[.val (.ref a1), .val (.ref va), .val (.int (0 : Int32)), .val (.int (2 : Int32)), .val .null, .unset] [(.int (2 : Int32))]))
  refine OwnDone.go (A := (T1.setTop (mkF m 27 #[.val (.ref a1), .val (.ref va), .val (.int (0 : Int32)), .val (.int (2 : Int32)), .val .null, .unset] []))) (fun tQ kQ => XS.ifYes P1.here hx rfl (pc0 := 5) (pc' := 27) rfl (hb hby d12_5) rfl (XT.i0_ne_t (by decide)) (by decide) (by decide) kQ) ?_
  show OwnDone p e below _ (T1.setTop (mkF m 27 #[.val (.ref a1), .val (.ref va), .val (.int (0 : Int32)), .val (.int (2 : Int32)), .val .null, .unset] []))
  refine own_getS C P1 (host := "") (Or.inl (hw _ (List.mem_of_getElem? (i := 8) rfl))) Via.refl C0 d12_27 (fun T2 P2 => ?_)
  show OwnDone p e below _ (T2.setTop (mkF m 30 #[.val (.ref a1), .val (.ref va), .val (.int (0 : Int32)), .val (.int (2 : Int32)), .val .null, .unset] [(.int cs)]))
  refine OwnDone.go (A := (T2.setTop (mkF m 33 #[.val (.ref a1), .val (.ref va), .val (.int (0 : Int32)), .val (.int (2 : Int32)), .val .null, .unset] []))) (fun tQ kQ => XS.ifNo P2.here hx rfl (hb hby d12_30) rfl (XT.i0_eq_f C1) kQ) ?_
  show OwnDone p e below _ (T2.setTop (mkF m 33 #[.val (.ref a1), .val (.ref va), .val (.int (0 : Int32)), .val (.int (2 : Int32)), .val .null, .unset] []))
  refine OwnDone.go (A := (T2.setTop (mkF m 36 #[.val (.ref a1), .val (.ref va), .val (.int (0 : Int32)), .val (.int (2 : Int32)), .val .null, .unset] [(.int (2 : Int32)), (.int (0 : Int32)), (.ref va)]))) (fun tQ kQ => ?_) ?_
  · refine XS.aloadN P2.here hx rfl (hb hby d12_33) rfl rfl ?_
    show Steps p.tables e below (T2.setTop (mkF m 34 #[.val (.ref a1), .val (.ref va), .val (.int (0 : Int32)), .val (.int (2 : Int32)), .val .null, .unset] [(.ref va)])) _
    refine XS.iloadN P2.here hx rfl (hb hby d12_34) rfl ?_
    show Steps p.tables e below (T2.setTop (mkF m 35 #[.val (.ref a1), .val (.ref va), .val (.int (0 : Int32)), .val (.int (2 : Int32)), .val .null, .unset] [(.int (0 : Int32)), (.ref va)])) _
    refine XS.iloadN P2.here hx rfl (hb hby d12_35) rfl ?_
    show Steps p.tables e below (T2.setTop (mkF m 36 #[.val (.ref a1), .val (.ref va), .val (.int (0 : Int32)), .val (.int (2 : Int32)), .val .null, .unset] [(.int (2 : Int32)), (.int (0 : Int32)), (.ref va)])) _
    exact kQ
  show OwnDone p e below _ (T2.setTop (mkF m 36 #[.val (.ref a1), .val (.ref va), .val (.int (0 : Int32)), .val (.int (2 : Int32)), .val .null, .unset] [(.int (2 : Int32)), (.int (0 : Int32)), (.ref va)]))
  refine own_callS (y := (⟨"java/lang/StringUTF16", "compress", "([CII)[B"⟩ : MethodName)) C P2 (hw _ (List.mem_of_getElem? (i := 61) rfl)) (hw _ (List.mem_of_getElem? (i := 62) rfl)) (hw _ (List.mem_of_getElem? (i := 63) rfl)) (hw _ (List.mem_of_getElem? (i := 64) rfl)) (by decide) (rm13 l Z a0 hw va kv c0 c1 h0 P2.old Yv q0 q1) (as := [(.ref va), (.int (0 : Int32)), (.int (2 : Int32))]) (rest := []) pd_4 rfl rfl (wd := 0) rfl rfl d12_36 all0 (by decide) (by decide) (by decide) (by decide) (fun T3 h3 v3 P3 K3 hQ3 => ?_)
  obtain ⟨b3, kb3, rfl, Y3, gb3⟩ := hQ3
  have O4_a1 := O1.keep K3 nin0
  have Y5_va := Yv.keep K3 nin0
  have neb3 : a1 ≠ b3 := Nat.ne_of_lt (Nat.lt_of_lt_of_le O1.lt gb3)
  have nev3 : va ≠ b3 := Nat.ne_of_lt (Nat.lt_of_lt_of_le Yv.lt gb3)
  show OwnDone p e below _ (T3.setTop (mkF m 39 #[.val (.ref a1), .val (.ref va), .val (.int (0 : Int32)), .val (.int (2 : Int32)), .val .null, .unset] [(.ref b3)]))
  refine OwnDone.go (A := (T3.setTop (mkF m 45 #[.val (.ref a1), .val (.ref va), .val (.int (0 : Int32)), .val (.int (2 : Int32)), .val .null, .val (.ref b3)] [(.int (2 : Int32)), (.ref b3), (.ref a1)]))) (fun tQ kQ => ?_) ?_
  · refine XS.astore P3.here hx rfl (hb hby d12_39) rfl rfl (l' := #[.val (.ref a1), .val (.ref va), .val (.int (0 : Int32)), .val (.int (2 : Int32)), .val .null, .val (.ref b3)]) rfl ?_
    show Steps p.tables e below (T3.setTop (mkF m 41 #[.val (.ref a1), .val (.ref va), .val (.int (0 : Int32)), .val (.int (2 : Int32)), .val .null, .val (.ref b3)] [])) _
    refine XS.aloadN P3.here hx rfl (hb hby d12_41) rfl rfl ?_
    show Steps p.tables e below (T3.setTop (mkF m 42 #[.val (.ref a1), .val (.ref va), .val (.int (0 : Int32)), .val (.int (2 : Int32)), .val .null, .val (.ref b3)] [(.ref a1)])) _
    refine XS.aload P3.here hx rfl (hb hby d12_42) rfl rfl ?_
    show Steps p.tables e below (T3.setTop (mkF m 44 #[.val (.ref a1), .val (.ref va), .val (.int (0 : Int32)), .val (.int (2 : Int32)), .val .null, .val (.ref b3)] [(.ref b3), (.ref a1)])) _
    refine XS.iloadN P3.here hx rfl (hb hby d12_44) rfl ?_
    show Steps p.tables e below (T3.setTop (mkF m 45 #[.val (.ref a1), .val (.ref va), .val (.int (0 : Int32)), .val (.int (2 : Int32)), .val .null, .val (.ref b3)] [(.int (2 : Int32)), (.ref b3), (.ref a1)])) _
    exact kQ
  show OwnDone p e below _ (T3.setTop (mkF m 45 #[.val (.ref a1), .val (.ref va), .val (.int (0 : Int32)), .val (.int (2 : Int32)), .val .null, .val (.ref b3)] [(.int (2 : Int32)), (.ref b3), (.ref a1)]))
  refine own_callS (y := (⟨"java/lang/StringUTF16", "coderFromArrayLen", "([BI)B"⟩ : MethodName)) C P3 (hw _ (List.mem_of_getElem? (i := 68) rfl)) (hw _ (List.mem_of_getElem? (i := 69) rfl)) (hw _ (List.mem_of_getElem? (i := 63) rfl)) (hw _ (List.mem_of_getElem? (i := 70) rfl)) (by decide) (rm14 l Z a0 hw b3 kb3 (nar .byte (c0.toInt8.toInt32)) (nar .byte (c1.toInt8.toInt32)) h3 P3.old Y3) (as := [(.ref b3), (.int (2 : Int32))]) (rest := [(.ref a1)]) pd_5 rfl rfl (wd := 1) rfl rfl d12_45 all0 (by decide) (by decide) (by decide) (by decide) (fun T6 h6 v6 P6 K6 hQ6 => ?_)
  obtain ⟨rfl, rfl⟩ := hQ6
  show OwnDone p e below _ (T6.setTop (mkF m 48 #[.val (.ref a1), .val (.ref va), .val (.int (0 : Int32)), .val (.int (2 : Int32)), .val .null, .val (.ref b3)] [(.int (0 : Int32)), (.ref a1)]))
  refine own_putO (ty := .byte) C P6 (hw _ (List.mem_of_getElem? (i := 28) rfl)) Via.refl O4_a1 (own_laid0 hw) 1 rfl rfl (Or.inr ⟨(hw _ (List.mem_of_getElem? (i := 29) rfl)), rfl, rfl⟩) (hw _ (List.mem_of_getElem? (i := 14) rfl)) (by decide) (by decide) (by decide) (Or.inl (List.mem_of_getElem? (i := 0) rfl)) d12_48 (vs' := [.null, (.int (0 : Int32))]) rfl (fun T7 h7 P7 K7 O7 => ?_)
  have Y8_va := Y5_va.keep K7 (ninS (Ne.symm nav) nin0)
  have Y9_b3 := Y3.keep K7 (ninS (Ne.symm neb3) nin0)
  show OwnDone p e below _ (T7.setTop (mkF m 51 #[.val (.ref a1), .val (.ref va), .val (.int (0 : Int32)), .val (.int (2 : Int32)), .val .null, .val (.ref b3)] []))
  refine OwnDone.go (A := (T7.setTop (mkF m 54 #[.val (.ref a1), .val (.ref va), .val (.int (0 : Int32)), .val (.int (2 : Int32)), .val .null, .val (.ref b3)] [(.ref b3), (.ref a1)]))) (fun tQ kQ => ?_) ?_
  · refine XS.aloadN P7.here hx rfl (hb hby d12_51) rfl rfl ?_
    show Steps p.tables e below (T7.setTop (mkF m 52 #[.val (.ref a1), .val (.ref va), .val (.int (0 : Int32)), .val (.int (2 : Int32)), .val .null, .val (.ref b3)] [(.ref a1)])) _
    refine XS.aload P7.here hx rfl (hb hby d12_52) rfl rfl ?_
    show Steps p.tables e below (T7.setTop (mkF m 54 #[.val (.ref a1), .val (.ref va), .val (.int (0 : Int32)), .val (.int (2 : Int32)), .val .null, .val (.ref b3)] [(.ref b3), (.ref a1)])) _
    exact kQ
  show OwnDone p e below _ (T7.setTop (mkF m 54 #[.val (.ref a1), .val (.ref va), .val (.int (0 : Int32)), .val (.int (2 : Int32)), .val .null, .val (.ref b3)] [(.ref b3), (.ref a1)]))
  refine own_putO (ty := (.array .byte)) C P7 (hw _ (List.mem_of_getElem? (i := 26) rfl)) Via.refl O7 (own_laid0 hw) 0 rfl rfl (Or.inr ⟨(hw _ (List.mem_of_getElem? (i := 27) rfl)), rfl, rfl⟩) (hw _ (List.mem_of_getElem? (i := 14) rfl)) (by decide) rfl rfl (Or.inl (List.mem_of_getElem? (i := 0) rfl)) d12_54 (vs' := [(.ref b3), (.int (0 : Int32))]) rfl (fun T10 h10 P10 K10 O10 => ?_)
  have Y11_va := Y8_va.keep K10 (ninS (Ne.symm nav) nin0)
  have Y12_b3 := Y9_b3.keep K10 (ninS (Ne.symm neb3) nin0)
  show OwnDone p e below _ (T10.setTop (mkF m 57 #[.val (.ref a1), .val (.ref va), .val (.int (0 : Int32)), .val (.int (2 : Int32)), .val .null, .val (.ref b3)] []))
  refine own_retV C P10 d12_57 (by decide) (by decide) rfl
theorem d11_0 : decode jdk_42_method_3_code 0 = .ok (.aload_n 0, 1) := by decide +kernel
theorem d11_1 : decode jdk_42_method_3_code 1 = .ok (.aload_n 1, 1) := by decide +kernel
theorem d11_2 : decode jdk_42_method_3_code 2 = .ok (.iconst 0, 1) := by decide +kernel
theorem d11_3 : decode jdk_42_method_3_code 3 = .ok (.aload_n 1, 1) := by decide +kernel
theorem d11_4 : decode jdk_42_method_3_code 4 = .ok (.arraylength, 1) := by decide +kernel
theorem d11_5 : decode jdk_42_method_3_code 5 = .ok (.aconst_null, 1) := by decide +kernel
theorem d11_6 : decode jdk_42_method_3_code 6 = .ok (.invokespecial 27, 3) := by decide +kernel
theorem d11_9 : decode jdk_42_method_3_code 9 = .ok (.return_, 1) := by decide +kernel
theorem pn11 : plainName "java/lang/String" = true := by first | (simp [plainName, overriddenIn]; done) | decide +kernel
theorem ef11 (m : MethodId) (a1 : Addr) (va : Addr)  : entryFrame m #[(.ref a1), (.ref va)] 2 = mkF m 0 #[.val (.ref a1), .val (.ref va)] [] := by first | (simp [entryFrame, mkF, argsToLocals, Value.category]; done) | rfl
set_option maxRecDepth 65536 in
set_option maxHeartbeats 40000000 in
theorem rm11 (l : Launch) (Z : State) (a0 : Array Value) (hw : ∀ d ∈ tables_1, d.before a0 Z = true) (a1 : Addr) (va : Addr) (kv : ClassId) (c0 c1 : Int32) (h0 : Heap) (hE : Ext Z.heap h0) (g_a1 : Z.heap.size ≤ a1) (O1 : OwnObj Z h0 a1 "java/lang/String" own_lay0 [.null, (.int (0 : Int32))]) (Yv : OwnAry Z h0 va kv .char [(.int c0), (.int c1)]) (nav : a1 ≠ va) (q0 : ¬ (255 : Int32) < c0) (q1 : ¬ (255 : Int32) < c1) (cs : Int32) (C0 : Sta Z Z.heap "java/lang/String" "COMPACT_STRINGS" "Z" (.int cs)) (C1 : ¬ cs = 0) :
    OwnMeets l (⟨"java/lang/String", "<init>", "([C)V"⟩ : MethodName) jdk_42_method_3_code 2 none ({ frames := 3, cells := 1, slots := 2, locals := 52 } : Room) Z [a1] #[(.ref a1), (.ref va)] h0 (fun v h => v = none) := by
  refine OwnMeets.of (plainFor_of_name pn11) hE (allS g_a1 all0) ?_
  intro p e s m below meth c T C P
  have hx := C.1
  have hby := C.2.2.2.2.1
  rw [show entryFrame m #[(.ref a1), (.ref va)] 2 = _ from ef11 m a1 va]
  show OwnDone p e below _ (T.setTop (mkF m 0 #[.val (.ref a1), .val (.ref va)] []))
  refine OwnDone.go (A := (T.setTop (mkF m 6 #[.val (.ref a1), .val (.ref va)] [.null, (.int (2 : Int32)), (.int (0 : Int32)), (.ref va), (.ref a1)]))) (fun tQ kQ => ?_) ?_
  · refine XS.aloadN P.here hx rfl (hb hby d11_0) rfl rfl ?_
    show Steps p.tables e below (T.setTop (mkF m 1 #[.val (.ref a1), .val (.ref va)] [(.ref a1)])) _
    refine XS.aloadN P.here hx rfl (hb hby d11_1) rfl rfl ?_
    show Steps p.tables e below (T.setTop (mkF m 2 #[.val (.ref a1), .val (.ref va)] [(.ref va), (.ref a1)])) _
    refine XS.iconst P.here hx rfl (hb hby d11_2) ?_
    show Steps p.tables e below (T.setTop (mkF m 3 #[.val (.ref a1), .val (.ref va)] [(.int (0 : Int32)), (.ref va), (.ref a1)])) _
    refine XS.aloadN P.here hx rfl (hb hby d11_3) rfl rfl ?_
    show Steps p.tables e below (T.setTop (mkF m 4 #[.val (.ref a1), .val (.ref va)] [(.ref va), (.int (0 : Int32)), (.ref va), (.ref a1)])) _
    refine own_alen C P Yv d11_4 ?_
    show Steps p.tables e below (T.setTop (mkF m 5 #[.val (.ref a1), .val (.ref va)] [(.int (2 : Int32)), (.int (0 : Int32)), (.ref va), (.ref a1)])) _
    refine XS.aconstNull P.here hx rfl (hb hby d11_5) ?_
    show Steps p.tables e below (T.setTop (mkF m 6 #[.val (.ref a1), .val (.ref va)] [.null, (.int (2 : Int32)), (.int (0 : Int32)), (.ref va), (.ref a1)])) _
    exact kQ
  show OwnDone p e below _ (T.setTop (mkF m 6 #[.val (.ref a1), .val (.ref va)] [.null, (.int (2 : Int32)), (.int (0 : Int32)), (.ref va), (.ref a1)]))
  refine own_callI (y := (⟨"java/lang/String", "<init>", "([CIILjava/lang/Void;)V"⟩ : MethodName)) C P rfl (hw _ (List.mem_of_getElem? (i := 58) rfl)) (hw _ (List.mem_of_getElem? (i := 59) rfl)) (hw _ (List.mem_of_getElem? (i := 6) rfl)) (hw _ (List.mem_of_getElem? (i := 60) rfl)) (by decide) (rm12 l Z a0 hw a1 va kv c0 c1 h0 P.old g_a1 O1 Yv nav q0 q1 cs C0 C1) (as := [(.ref va), (.int (0 : Int32)), (.int (2 : Int32)), .null]) (rest := []) pd_6 rfl rfl (wd := 0) rfl rfl d11_6 (allS (Or.inl (List.mem_of_getElem? (i := 0) rfl)) all0) (by decide) (by decide) (by decide) (by decide) (fun T1 h1 v1 P1 K1 hQ1 => ?_)
  obtain rfl := hQ1
  have Y2_va := Yv.keep K1 (ninS (Ne.symm nav) nin0)
  show OwnDone p e below _ (T1.setTop (mkF m 9 #[.val (.ref a1), .val (.ref va)] []))
  refine own_retV C P1 d11_9 (by decide) (by decide) rfl
theorem d8_0 : decode jdk_30_method_1_code 0 = .ok (.aload_n 0, 1) := by decide +kernel
theorem d8_1 : decode jdk_30_method_1_code 1 = .ok (.invokespecial 1, 3) := by decide +kernel
theorem d8_4 : decode jdk_30_method_1_code 4 = .ok (.return_, 1) := by decide +kernel
theorem pn8 : plainName "java/lang/Record" = true := by first | (simp [plainName, overriddenIn]; done) | decide +kernel
theorem ef8 (m : MethodId) (a1 : Addr)  : entryFrame m #[(.ref a1)] 1 = mkF m 0 #[.val (.ref a1)] [] := by first | (simp [entryFrame, mkF, argsToLocals, Value.category]; done) | rfl
set_option maxRecDepth 65536 in
set_option maxHeartbeats 40000000 in
theorem rm8 (l : Launch) (Z : State) (a0 : Array Value) (hw : ∀ d ∈ tables_1, d.before a0 Z = true) (a1 : Addr)  (h0 : Heap) (hE : Ext Z.heap h0)   :
    OwnMeets l (⟨"java/lang/Record", "<init>", "()V"⟩ : MethodName) jdk_30_method_1_code 1 none ({ frames := 1, cells := 0, slots := 0, locals := 12 } : Room) Z [] #[(.ref a1)] h0 (fun v h => v = none ∧ h0 = h) := by
  refine OwnMeets.of (plainFor_of_name pn8) hE all0 ?_
  intro p e s m below meth c T C P
  have hx := C.1
  have hby := C.2.2.2.2.1
  rw [show entryFrame m #[(.ref a1)] 1 = _ from ef8 m a1]
  show OwnDone p e below _ (T.setTop (mkF m 0 #[.val (.ref a1)] []))
  refine OwnDone.go (A := (T.setTop (mkF m 1 #[.val (.ref a1)] [(.ref a1)]))) (fun tQ kQ => ?_) ?_
  · refine XS.aloadN P.here hx rfl (hb hby d8_0) rfl rfl ?_
    show Steps p.tables e below (T.setTop (mkF m 1 #[.val (.ref a1)] [(.ref a1)])) _
    exact kQ
  show OwnDone p e below _ (T.setTop (mkF m 1 #[.val (.ref a1)] [(.ref a1)]))
  refine own_initO (wd := 0) (rest := []) C P (hw _ (List.mem_of_getElem? (i := 41) rfl)) (hw _ (List.mem_of_getElem? (i := 24) rfl)) (hw _ (List.mem_of_getElem? (i := 25) rfl)) rfl rfl d8_1 (by decide) (by decide) (fun T1 P1 => ?_)
  show OwnDone p e below _ (T1.setTop (mkF m 4 #[.val (.ref a1)] []))
  refine own_retV C P1 d8_4 (by decide) (by decide) ⟨rfl, rfl⟩
theorem own_c255n (x : Int32) : ¬ (255 : Int32) < nar .char ((x &&& (255 : Int32)).toUInt32.toUInt16.toUInt32.toInt32) := by
  have e : nar .char ((x &&& (255 : Int32)).toUInt32.toUInt16.toUInt32.toInt32) = (x &&& (255 : Int32)).toUInt32.toUInt16.toUInt32.toInt32 := by
    simp only [nar, i2c_mask]
  rw [e]; exact own_c255 x
theorem d1_0 : decode method_2_code 0 = .ok (.iload_n 1, 1) := by decide +kernel
theorem d1_1 : decode method_2_code 1 = .ok (.iconst 1, 1) := by decide +kernel
theorem d1_2 : decode method_2_code 2 = .ok (.iand, 1) := by decide +kernel
theorem d1_3 : decode method_2_code 3 = .ok (.ifCond .ne 5, 3) := by decide +kernel
theorem d1_6 : decode method_2_code 6 = .ok (.aconst_null, 1) := by decide +kernel
theorem d1_7 : decode method_2_code 7 = .ok (.areturn, 1) := by decide +kernel
theorem d1_8 : decode method_2_code 8 = .ok (.iload_n 1, 1) := by decide +kernel
theorem d1_9 : decode method_2_code 9 = .ok (.iconst 2, 1) := by decide +kernel
theorem d1_10 : decode method_2_code 10 = .ok (.iand, 1) := by decide +kernel
theorem d1_11 : decode method_2_code 11 = .ok (.ifCond .ne 13, 3) := by decide +kernel
theorem d1_14 : decode method_2_code 14 = .ok (.iload_n 0, 1) := by decide +kernel
theorem d1_15 : decode method_2_code 15 = .ok (.sipush 255, 3) := by decide +kernel
theorem d1_18 : decode method_2_code 18 = .ok (.iand, 1) := by decide +kernel
theorem d1_19 : decode method_2_code 19 = .ok (.i2c, 1) := by decide +kernel
theorem d1_20 : decode method_2_code 20 = .ok (.invokestatic 7, 3) := by decide +kernel
theorem d1_23 : decode method_2_code 23 = .ok (.areturn, 1) := by decide +kernel
theorem d1_24 : decode method_2_code 24 = .ok (.iconst 2, 1) := by decide +kernel
theorem d1_25 : decode method_2_code 25 = .ok (.newarray .char, 2) := by decide +kernel
theorem d1_27 : decode method_2_code 27 = .ok (.astore_n 2, 1) := by decide +kernel
theorem d1_28 : decode method_2_code 28 = .ok (.aload_n 2, 1) := by decide +kernel
theorem d1_29 : decode method_2_code 29 = .ok (.iconst 0, 1) := by decide +kernel
theorem d1_30 : decode method_2_code 30 = .ok (.iload_n 0, 1) := by decide +kernel
theorem d1_31 : decode method_2_code 31 = .ok (.sipush 255, 3) := by decide +kernel
theorem d1_34 : decode method_2_code 34 = .ok (.iand, 1) := by decide +kernel
theorem d1_35 : decode method_2_code 35 = .ok (.i2c, 1) := by decide +kernel
theorem d1_36 : decode method_2_code 36 = .ok (.castore, 1) := by decide +kernel
theorem d1_37 : decode method_2_code 37 = .ok (.aload_n 2, 1) := by decide +kernel
theorem d1_38 : decode method_2_code 38 = .ok (.iconst 1, 1) := by decide +kernel
theorem d1_39 : decode method_2_code 39 = .ok (.iload_n 0, 1) := by decide +kernel
theorem d1_40 : decode method_2_code 40 = .ok (.bipush 8, 2) := by decide +kernel
theorem d1_42 : decode method_2_code 42 = .ok (.iushr, 1) := by decide +kernel
theorem d1_43 : decode method_2_code 43 = .ok (.sipush 255, 3) := by decide +kernel
theorem d1_46 : decode method_2_code 46 = .ok (.iand, 1) := by decide +kernel
theorem d1_47 : decode method_2_code 47 = .ok (.i2c, 1) := by decide +kernel
theorem d1_48 : decode method_2_code 48 = .ok (.castore, 1) := by decide +kernel
theorem d1_49 : decode method_2_code 49 = .ok (.new 8, 3) := by decide +kernel
theorem d1_52 : decode method_2_code 52 = .ok (.dup, 1) := by decide +kernel
theorem d1_53 : decode method_2_code 53 = .ok (.aload_n 2, 1) := by decide +kernel
theorem d1_54 : decode method_2_code 54 = .ok (.invokespecial 13, 3) := by decide +kernel
theorem d1_57 : decode method_2_code 57 = .ok (.areturn, 1) := by decide +kernel
theorem pn1 : plainName "com/example/lapse/lapse/TableQualifierPinLaw" = true := by first | (simp [plainName, overriddenIn]; done) | decide +kernel
theorem ef1 (m : MethodId) (bi : Int32) (fl : Int32)  : entryFrame m #[(.int bi), (.int fl)] 3 = mkF m 0 #[.val (.int bi), .val (.int fl), .unset] [] := by first | (simp [entryFrame, mkF, argsToLocals, Value.category]; done) | rfl
set_option maxRecDepth 65536 in
set_option maxHeartbeats 40000000 in
theorem rm1 (l : Launch) (Z : State) (a0 : Array Value) (hw : ∀ d ∈ tables_1, d.before a0 Z = true) (bi : Int32) (fl : Int32)  (h0 : Heap) (hE : Ext Z.heap h0)   (cs : Int32) (C0 : Sta Z Z.heap "java/lang/String" "COMPACT_STRINGS" "Z" (.int cs)) (C1 : ¬ cs = 0) :
    OwnMeets l (⟨"com/example/lapse/lapse/TableQualifierPinLaw", "drawn", "(II)Ljava/lang/String;"⟩ : MethodName) method_2_code 3 (some (.object "java/lang/String")) ({ frames := 4, cells := 3, slots := 8, locals := 66 } : Room) Z [] #[(.int bi), (.int fl)] h0 (fun v h => ∃ r : Value, v = some r ∧ r.isRef = true) := by
  refine OwnMeets.of (plainFor_of_name pn1) hE all0 ?_
  intro p e s m below meth c T C P
  have hx := C.1
  have hby := C.2.2.2.2.1
  rw [show entryFrame m #[(.int bi), (.int fl)] 3 = _ from ef1 m bi fl]
  show OwnDone p e below _ (T.setTop (mkF m 0 #[.val (.int bi), .val (.int fl), .unset] []))
  refine OwnDone.go (A := (T.setTop (mkF m 3 #[.val (.int bi), .val (.int fl), .unset] [(.int (fl &&& (1 : Int32)))]))) (fun tQ kQ => ?_) ?_
  · refine XS.iloadN P.here hx rfl (hb hby d1_0) rfl ?_
    show Steps p.tables e below (T.setTop (mkF m 1 #[.val (.int bi), .val (.int fl), .unset] [(.int fl)])) _
    refine XS.iconst P.here hx rfl (hb hby d1_1) ?_
    show Steps p.tables e below (T.setTop (mkF m 2 #[.val (.int bi), .val (.int fl), .unset] [(.int (1 : Int32)), (.int fl)])) _
    refine XS.iand P.here hx rfl (hb hby d1_2) rfl ?_
    show Steps p.tables e below (T.setTop (mkF m 3 #[.val (.int bi), .val (.int fl), .unset] [(.int (fl &&& (1 : Int32)))])) _
    exact kQ
  show OwnDone p e below _ (T.setTop (mkF m 3 #[.val (.int bi), .val (.int fl), .unset] [(.int (fl &&& (1 : Int32)))]))
  by_cases hc3 : (fl &&& (1 : Int32)) = (0 : Int32)
  · refine OwnDone.go (A := (T.setTop (mkF m 6 #[.val (.int bi), .val (.int fl), .unset] []))) (fun tQ kQ => XS.ifNo P.here hx rfl (hb hby d1_3) rfl (XT.i0_ne_f hc3) kQ) ?_
    show OwnDone p e below _ (T.setTop (mkF m 6 #[.val (.int bi), .val (.int fl), .unset] []))
    refine OwnDone.go (A := (T.setTop (mkF m 7 #[.val (.int bi), .val (.int fl), .unset] [.null]))) (fun tQ kQ => ?_) ?_
    · refine XS.aconstNull P.here hx rfl (hb hby d1_6) ?_
      show Steps p.tables e below (T.setTop (mkF m 7 #[.val (.int bi), .val (.int fl), .unset] [.null])) _
      exact kQ
    show OwnDone p e below _ (T.setTop (mkF m 7 #[.val (.int bi), .val (.int fl), .unset] [.null]))
    refine own_retA C P rfl rfl d1_7 (by decide) (by decide) ⟨_, rfl, rfl⟩
  · refine OwnDone.go (A := (T.setTop (mkF m 8 #[.val (.int bi), .val (.int fl), .unset] []))) (fun tQ kQ => XS.ifYes P.here hx rfl (pc0 := 3) (pc' := 8) rfl (hb hby d1_3) rfl (XT.i0_ne_t hc3) (by decide) (by decide) kQ) ?_
    show OwnDone p e below _ (T.setTop (mkF m 8 #[.val (.int bi), .val (.int fl), .unset] []))
    refine OwnDone.go (A := (T.setTop (mkF m 11 #[.val (.int bi), .val (.int fl), .unset] [(.int (fl &&& (2 : Int32)))]))) (fun tQ kQ => ?_) ?_
    · refine XS.iloadN P.here hx rfl (hb hby d1_8) rfl ?_
      show Steps p.tables e below (T.setTop (mkF m 9 #[.val (.int bi), .val (.int fl), .unset] [(.int fl)])) _
      refine XS.iconst P.here hx rfl (hb hby d1_9) ?_
      show Steps p.tables e below (T.setTop (mkF m 10 #[.val (.int bi), .val (.int fl), .unset] [(.int (2 : Int32)), (.int fl)])) _
      refine XS.iand P.here hx rfl (hb hby d1_10) rfl ?_
      show Steps p.tables e below (T.setTop (mkF m 11 #[.val (.int bi), .val (.int fl), .unset] [(.int (fl &&& (2 : Int32)))])) _
      exact kQ
    show OwnDone p e below _ (T.setTop (mkF m 11 #[.val (.int bi), .val (.int fl), .unset] [(.int (fl &&& (2 : Int32)))]))
    by_cases hc11 : (fl &&& (2 : Int32)) = (0 : Int32)
    · refine OwnDone.go (A := (T.setTop (mkF m 14 #[.val (.int bi), .val (.int fl), .unset] []))) (fun tQ kQ => XS.ifNo P.here hx rfl (hb hby d1_11) rfl (XT.i0_ne_f hc11) kQ) ?_
      show OwnDone p e below _ (T.setTop (mkF m 14 #[.val (.int bi), .val (.int fl), .unset] []))
      refine OwnDone.go (A := (T.setTop (mkF m 20 #[.val (.int bi), .val (.int fl), .unset] [(.int ((bi &&& (255 : Int32)).toUInt32.toUInt16.toUInt32.toInt32))]))) (fun tQ kQ => ?_) ?_
      · refine XS.iloadN P.here hx rfl (hb hby d1_14) rfl ?_
        show Steps p.tables e below (T.setTop (mkF m 15 #[.val (.int bi), .val (.int fl), .unset] [(.int bi)])) _
        refine XS.sipush P.here hx rfl (hb hby d1_15) ?_
        show Steps p.tables e below (T.setTop (mkF m 18 #[.val (.int bi), .val (.int fl), .unset] [(.int (255 : Int32)), (.int bi)])) _
        refine XS.iand P.here hx rfl (hb hby d1_18) rfl ?_
        show Steps p.tables e below (T.setTop (mkF m 19 #[.val (.int bi), .val (.int fl), .unset] [(.int (bi &&& (255 : Int32)))])) _
        refine XT.i2c P.here hx rfl (hb hby d1_19) rfl ?_
        show Steps p.tables e below (T.setTop (mkF m 20 #[.val (.int bi), .val (.int fl), .unset] [(.int ((bi &&& (255 : Int32)).toUInt32.toUInt16.toUInt32.toInt32))])) _
        exact kQ
      show OwnDone p e below _ (T.setTop (mkF m 20 #[.val (.int bi), .val (.int fl), .unset] [(.int ((bi &&& (255 : Int32)).toUInt32.toUInt16.toUInt32.toInt32))]))
      refine own_callS (y := (⟨"java/lang/String", "valueOf", "(C)Ljava/lang/String;"⟩ : MethodName)) C P (hw _ (List.mem_of_getElem? (i := 4) rfl)) (hw _ (List.mem_of_getElem? (i := 5) rfl)) (hw _ (List.mem_of_getElem? (i := 6) rfl)) (hw _ (List.mem_of_getElem? (i := 7) rfl)) (by decide) (rm2 l Z a0 hw ((bi &&& (255 : Int32)).toUInt32.toUInt16.toUInt32.toInt32) h0 P.old (own_c255 _) cs C0 C1) (as := [(.int ((bi &&& (255 : Int32)).toUInt32.toUInt16.toUInt32.toInt32))]) (rest := []) pd_7 rfl rfl (wd := 0) rfl rfl d1_20 all0 (by decide) (by decide) (by decide) (by decide) (fun T1 h1 v1 P1 K1 hQ1 => ?_)
      obtain ⟨s1, rfl⟩ := hQ1
      show OwnDone p e below _ (T1.setTop (mkF m 23 #[.val (.int bi), .val (.int fl), .unset] [(.ref s1)]))
      refine own_retA C P1 rfl rfl d1_23 (by decide) (by decide) ⟨_, rfl, rfl⟩
    · refine OwnDone.go (A := (T.setTop (mkF m 24 #[.val (.int bi), .val (.int fl), .unset] []))) (fun tQ kQ => XS.ifYes P.here hx rfl (pc0 := 11) (pc' := 24) rfl (hb hby d1_11) rfl (XT.i0_ne_t hc11) (by decide) (by decide) kQ) ?_
      show OwnDone p e below _ (T.setTop (mkF m 24 #[.val (.int bi), .val (.int fl), .unset] []))
      refine OwnDone.go (A := (T.setTop (mkF m 25 #[.val (.int bi), .val (.int fl), .unset] [(.int (2 : Int32))]))) (fun tQ kQ => ?_) ?_
      · refine XS.iconst P.here hx rfl (hb hby d1_24) ?_
        show Steps p.tables e below (T.setTop (mkF m 25 #[.val (.int bi), .val (.int fl), .unset] [(.int (2 : Int32))])) _
        exact kQ
      show OwnDone p e below _ (T.setTop (mkF m 25 #[.val (.int bi), .val (.int fl), .unset] [(.int (2 : Int32))]))
      refine own_newP (aty := .char) (n := (2 : Int32)) (cap := 2) (vs := [(.int (0 : Int32)), (.int (0 : Int32))]) C P (hw _ (List.mem_of_getElem? (i := 53) rfl)) d1_25 (by decide) (by decide) (by decide) (by decide +kernel) rfl (by decide) (by decide) (fun T2 h2 a2 k2 ga2 la2 P2 K2 Y2 N2 => ?_)
      have ge_a2 : h0.size ≤ a2 := by rw [ga2]; exact P.keep.1
      have Y2 : OwnAry Z h2 a2 k2 .char [(.int (0 : Int32)), (.int (0 : Int32))] := Y2
      show OwnDone p e below _ (T2.setTop (mkF m 27 #[.val (.int bi), .val (.int fl), .unset] [(.ref a2)]))
      refine OwnDone.go (A := (T2.setTop (mkF m 36 #[.val (.int bi), .val (.int fl), .val (.ref a2)] [(.int ((bi &&& (255 : Int32)).toUInt32.toUInt16.toUInt32.toInt32)), (.int (0 : Int32)), (.ref a2)]))) (fun tQ kQ => ?_) ?_
      · refine XS.astoreN P2.here hx rfl (hb hby d1_27) rfl rfl (l' := #[.val (.int bi), .val (.int fl), .val (.ref a2)]) rfl ?_
        show Steps p.tables e below (T2.setTop (mkF m 28 #[.val (.int bi), .val (.int fl), .val (.ref a2)] [])) _
        refine XS.aloadN P2.here hx rfl (hb hby d1_28) rfl rfl ?_
        show Steps p.tables e below (T2.setTop (mkF m 29 #[.val (.int bi), .val (.int fl), .val (.ref a2)] [(.ref a2)])) _
        refine XS.iconst P2.here hx rfl (hb hby d1_29) ?_
        show Steps p.tables e below (T2.setTop (mkF m 30 #[.val (.int bi), .val (.int fl), .val (.ref a2)] [(.int (0 : Int32)), (.ref a2)])) _
        refine XS.iloadN P2.here hx rfl (hb hby d1_30) rfl ?_
        show Steps p.tables e below (T2.setTop (mkF m 31 #[.val (.int bi), .val (.int fl), .val (.ref a2)] [(.int bi), (.int (0 : Int32)), (.ref a2)])) _
        refine XS.sipush P2.here hx rfl (hb hby d1_31) ?_
        show Steps p.tables e below (T2.setTop (mkF m 34 #[.val (.int bi), .val (.int fl), .val (.ref a2)] [(.int (255 : Int32)), (.int bi), (.int (0 : Int32)), (.ref a2)])) _
        refine XS.iand P2.here hx rfl (hb hby d1_34) rfl ?_
        show Steps p.tables e below (T2.setTop (mkF m 35 #[.val (.int bi), .val (.int fl), .val (.ref a2)] [(.int (bi &&& (255 : Int32))), (.int (0 : Int32)), (.ref a2)])) _
        refine XT.i2c P2.here hx rfl (hb hby d1_35) rfl ?_
        show Steps p.tables e below (T2.setTop (mkF m 36 #[.val (.int bi), .val (.int fl), .val (.ref a2)] [(.int ((bi &&& (255 : Int32)).toUInt32.toUInt16.toUInt32.toInt32)), (.int (0 : Int32)), (.ref a2)])) _
        exact kQ
      show OwnDone p e below _ (T2.setTop (mkF m 36 #[.val (.int bi), .val (.int fl), .val (.ref a2)] [(.int ((bi &&& (255 : Int32)).toUInt32.toUInt16.toUInt32.toInt32)), (.int (0 : Int32)), (.ref a2)]))
      refine own_castore C P2 Y2 (by decide) (show ((0 : Int32) : Int32).toNatClampNeg < 2 from by decide) (Or.inr ge_a2) d1_36 (vs' := [(.int (nar .char ((bi &&& (255 : Int32)).toUInt32.toUInt16.toUInt32.toInt32))), (.int (0 : Int32))]) rfl (fun T3 h3 P3 K3 Y3 => ?_)
      show OwnDone p e below _ (T3.setTop (mkF m 37 #[.val (.int bi), .val (.int fl), .val (.ref a2)] []))
      refine OwnDone.go (A := (T3.setTop (mkF m 48 #[.val (.int bi), .val (.int fl), .val (.ref a2)] [(.int (((XT.ushr bi (8 : Int32)) &&& (255 : Int32)).toUInt32.toUInt16.toUInt32.toInt32)), (.int (1 : Int32)), (.ref a2)]))) (fun tQ kQ => ?_) ?_
      · refine XS.aloadN P3.here hx rfl (hb hby d1_37) rfl rfl ?_
        show Steps p.tables e below (T3.setTop (mkF m 38 #[.val (.int bi), .val (.int fl), .val (.ref a2)] [(.ref a2)])) _
        refine XS.iconst P3.here hx rfl (hb hby d1_38) ?_
        show Steps p.tables e below (T3.setTop (mkF m 39 #[.val (.int bi), .val (.int fl), .val (.ref a2)] [(.int (1 : Int32)), (.ref a2)])) _
        refine XS.iloadN P3.here hx rfl (hb hby d1_39) rfl ?_
        show Steps p.tables e below (T3.setTop (mkF m 40 #[.val (.int bi), .val (.int fl), .val (.ref a2)] [(.int bi), (.int (1 : Int32)), (.ref a2)])) _
        refine XS.bipush P3.here hx rfl (hb hby d1_40) ?_
        show Steps p.tables e below (T3.setTop (mkF m 42 #[.val (.int bi), .val (.int fl), .val (.ref a2)] [(.int (8 : Int32)), (.int bi), (.int (1 : Int32)), (.ref a2)])) _
        refine XT.iushr P3.here hx rfl (hb hby d1_42) rfl ?_
        show Steps p.tables e below (T3.setTop (mkF m 43 #[.val (.int bi), .val (.int fl), .val (.ref a2)] [(.int (XT.ushr bi (8 : Int32))), (.int (1 : Int32)), (.ref a2)])) _
        refine XS.sipush P3.here hx rfl (hb hby d1_43) ?_
        show Steps p.tables e below (T3.setTop (mkF m 46 #[.val (.int bi), .val (.int fl), .val (.ref a2)] [(.int (255 : Int32)), (.int (XT.ushr bi (8 : Int32))), (.int (1 : Int32)), (.ref a2)])) _
        refine XS.iand P3.here hx rfl (hb hby d1_46) rfl ?_
        show Steps p.tables e below (T3.setTop (mkF m 47 #[.val (.int bi), .val (.int fl), .val (.ref a2)] [(.int ((XT.ushr bi (8 : Int32)) &&& (255 : Int32))), (.int (1 : Int32)), (.ref a2)])) _
        refine XT.i2c P3.here hx rfl (hb hby d1_47) rfl ?_
        show Steps p.tables e below (T3.setTop (mkF m 48 #[.val (.int bi), .val (.int fl), .val (.ref a2)] [(.int (((XT.ushr bi (8 : Int32)) &&& (255 : Int32)).toUInt32.toUInt16.toUInt32.toInt32)), (.int (1 : Int32)), (.ref a2)])) _
        exact kQ
      show OwnDone p e below _ (T3.setTop (mkF m 48 #[.val (.int bi), .val (.int fl), .val (.ref a2)] [(.int (((XT.ushr bi (8 : Int32)) &&& (255 : Int32)).toUInt32.toUInt16.toUInt32.toInt32)), (.int (1 : Int32)), (.ref a2)]))
      refine own_castore C P3 Y3 (by decide) (show ((1 : Int32) : Int32).toNatClampNeg < 2 from by decide) (Or.inr ge_a2) d1_48 (vs' := [(.int (nar .char ((bi &&& (255 : Int32)).toUInt32.toUInt16.toUInt32.toInt32))), (.int (nar .char (((XT.ushr bi (8 : Int32)) &&& (255 : Int32)).toUInt32.toUInt16.toUInt32.toInt32)))]) rfl (fun T4 h4 P4 K4 Y4 => ?_)
      show OwnDone p e below _ (T4.setTop (mkF m 49 #[.val (.int bi), .val (.int fl), .val (.ref a2)] []))
      refine own_new (vs := [.null, (.int (0 : Int32))]) C P4 (hw _ (List.mem_of_getElem? (i := 54) rfl)) (hw _ (List.mem_of_getElem? (i := 14) rfl)) (hw _ (List.mem_of_getElem? (i := 6) rfl)) (own_laid0 hw) (by decide +kernel) d1_49 (by decide) (by decide) (fun T5 h5 a5 ga5 la5 P5 K5 O5 => ?_)
      have ge_a5 : h0.size ≤ a5 := by rw [ga5]; exact P4.keep.1
      have ne_a2_a5 : a2 ≠ a5 := by rw [ga5]; exact Nat.ne_of_lt Y4.lt
      have Y6_a2 := Y4.keep K5 nin0
      show OwnDone p e below _ (T5.setTop (mkF m 52 #[.val (.int bi), .val (.int fl), .val (.ref a2)] [(.ref a5)]))
      refine OwnDone.go (A := (T5.setTop (mkF m 54 #[.val (.int bi), .val (.int fl), .val (.ref a2)] [(.ref a2), (.ref a5), (.ref a5)]))) (fun tQ kQ => ?_) ?_
      · refine XS.dup P5.here hx rfl (hb hby d1_52) rfl rfl ?_
        show Steps p.tables e below (T5.setTop (mkF m 53 #[.val (.int bi), .val (.int fl), .val (.ref a2)] [(.ref a5), (.ref a5)])) _
        refine XS.aloadN P5.here hx rfl (hb hby d1_53) rfl rfl ?_
        show Steps p.tables e below (T5.setTop (mkF m 54 #[.val (.int bi), .val (.int fl), .val (.ref a2)] [(.ref a2), (.ref a5), (.ref a5)])) _
        exact kQ
      show OwnDone p e below _ (T5.setTop (mkF m 54 #[.val (.int bi), .val (.int fl), .val (.ref a2)] [(.ref a2), (.ref a5), (.ref a5)]))
      refine own_callI (y := (⟨"java/lang/String", "<init>", "([C)V"⟩ : MethodName)) C P5 rfl (hw _ (List.mem_of_getElem? (i := 55) rfl)) (hw _ (List.mem_of_getElem? (i := 56) rfl)) (hw _ (List.mem_of_getElem? (i := 6) rfl)) (hw _ (List.mem_of_getElem? (i := 57) rfl)) (by decide) (rm11 l Z a0 hw a5 a2 k2 (nar .char ((bi &&& (255 : Int32)).toUInt32.toUInt16.toUInt32.toInt32)) (nar .char (((XT.ushr bi (8 : Int32)) &&& (255 : Int32)).toUInt32.toUInt16.toUInt32.toInt32)) h5 P5.old (Nat.le_trans hE.1 ge_a5) O5 Y6_a2 (Ne.symm ne_a2_a5) (own_c255n _) (own_c255n _) cs C0 C1) (as := [(.ref a2)]) (rest := [(.ref a5)]) pd_8 rfl rfl (wd := 1) rfl rfl d1_54 (allS (Or.inr ge_a5) all0) (by decide) (by decide) (by decide) (by decide) (fun T7 h7 v7 P7 K7 hQ7 => ?_)
      obtain rfl := hQ7
      have Y8_a2 := Y6_a2.keep K7 (ninS ne_a2_a5 nin0)
      show OwnDone p e below _ (T7.setTop (mkF m 57 #[.val (.int bi), .val (.int fl), .val (.ref a2)] [(.ref a5)]))
      refine own_retA C P7 rfl rfl d1_57 (by decide) (by decide) ⟨_, rfl, rfl⟩
theorem d7_0 : decode prog_12_method_1_code 0 = .ok (.aload_n 0, 1) := by decide +kernel
theorem d7_1 : decode prog_12_method_1_code 1 = .ok (.invokespecial 1, 3) := by decide +kernel
theorem d7_4 : decode prog_12_method_1_code 4 = .ok (.aload_n 0, 1) := by decide +kernel
theorem d7_5 : decode prog_12_method_1_code 5 = .ok (.aload_n 1, 1) := by decide +kernel
theorem d7_6 : decode prog_12_method_1_code 6 = .ok (.putfield 7, 3) := by decide +kernel
theorem d7_9 : decode prog_12_method_1_code 9 = .ok (.aload_n 0, 1) := by decide +kernel
theorem d7_10 : decode prog_12_method_1_code 10 = .ok (.aload_n 2, 1) := by decide +kernel
theorem d7_11 : decode prog_12_method_1_code 11 = .ok (.putfield 13, 3) := by decide +kernel
theorem d7_14 : decode prog_12_method_1_code 14 = .ok (.aload_n 0, 1) := by decide +kernel
theorem d7_15 : decode prog_12_method_1_code 15 = .ok (.aload_n 3, 1) := by decide +kernel
theorem d7_16 : decode prog_12_method_1_code 16 = .ok (.putfield 16, 3) := by decide +kernel
theorem d7_19 : decode prog_12_method_1_code 19 = .ok (.return_, 1) := by decide +kernel
theorem pn7 : plainName "com/example/lapse/lapse/CatalogTables$Table" = true := by first | (simp [plainName, overriddenIn]; done) | decide +kernel
theorem ef7 (m : MethodId) (a1 : Addr) (ca : Value) (sc : Value) (na : Value) (r_ca : ca.isRef = true) (r_sc : sc.isRef = true) (r_na : na.isRef = true) : entryFrame m #[(.ref a1), ca, sc, na] 4 = mkF m 0 #[.val (.ref a1), .val ca, .val sc, .val na] [] := by
  rcases ref_cases r_ca with rfl | ⟨_, rfl⟩
  all_goals rcases ref_cases r_sc with rfl | ⟨_, rfl⟩
  all_goals rcases ref_cases r_na with rfl | ⟨_, rfl⟩
  all_goals first | rfl | (simp [entryFrame, mkF, argsToLocals, Value.category]; done)
set_option maxRecDepth 65536 in
set_option maxHeartbeats 40000000 in
theorem rm7 (l : Launch) (Z : State) (a0 : Array Value) (hw : ∀ d ∈ tables_1, d.before a0 Z = true) (a1 : Addr) (ca : Value) (sc : Value) (na : Value) (r_ca : ca.isRef = true) (r_sc : sc.isRef = true) (r_na : na.isRef = true)  (h0 : Heap) (hE : Ext Z.heap h0) (g_a1 : Z.heap.size ≤ a1) (O1 : OwnObj Z h0 a1 "com/example/lapse/lapse/CatalogTables$Table" own_lay1 [.null, .null, .null]) :
    OwnMeets l (⟨"com/example/lapse/lapse/CatalogTables$Table", "<init>", "(Ljava/lang/String;Ljava/lang/String;Ljava/lang/String;)V"⟩ : MethodName) prog_12_method_1_code 4 none ({ frames := 2, cells := 0, slots := 0, locals := 24 } : Room) Z [a1] #[(.ref a1), ca, sc, na] h0 (fun v h => v = none ∧ OwnObj Z h a1 "com/example/lapse/lapse/CatalogTables$Table" own_lay1 [ca, sc, na]) := by
  refine OwnMeets.of (plainFor_of_name pn7) hE (allS g_a1 all0) ?_
  intro p e s m below meth c T C P
  have hx := C.1
  have hby := C.2.2.2.2.1
  rw [show entryFrame m #[(.ref a1), ca, sc, na] 4 = _ from ef7 m a1 ca sc na r_ca r_sc r_na]
  show OwnDone p e below _ (T.setTop (mkF m 0 #[.val (.ref a1), .val ca, .val sc, .val na] []))
  refine OwnDone.go (A := (T.setTop (mkF m 1 #[.val (.ref a1), .val ca, .val sc, .val na] [(.ref a1)]))) (fun tQ kQ => ?_) ?_
  · refine XS.aloadN P.here hx rfl (hb hby d7_0) rfl rfl ?_
    show Steps p.tables e below (T.setTop (mkF m 1 #[.val (.ref a1), .val ca, .val sc, .val na] [(.ref a1)])) _
    exact kQ
  show OwnDone p e below _ (T.setTop (mkF m 1 #[.val (.ref a1), .val ca, .val sc, .val na] [(.ref a1)]))
  refine own_callI (y := (⟨"java/lang/Record", "<init>", "()V"⟩ : MethodName)) C P rfl (hw _ (List.mem_of_getElem? (i := 36) rfl)) (hw _ (List.mem_of_getElem? (i := 37) rfl)) (hw _ (List.mem_of_getElem? (i := 39) rfl)) (hw _ (List.mem_of_getElem? (i := 40) rfl)) (by decide) (rm8 l Z a0 hw a1 h0 P.old) (as := []) (rest := []) pd_9 rfl rfl (wd := 0) rfl rfl d7_1 all0 (by decide) (by decide) (by decide) (by decide) (fun T1 h1 v1 P1 K1 hQ1 => ?_)
  obtain ⟨rfl, rfl⟩ := hQ1
  show OwnDone p e below _ (T1.setTop (mkF m 4 #[.val (.ref a1), .val ca, .val sc, .val na] []))
  refine OwnDone.go (A := (T1.setTop (mkF m 6 #[.val (.ref a1), .val ca, .val sc, .val na] [ca, (.ref a1)]))) (fun tQ kQ => ?_) ?_
  · refine XS.aloadN P1.here hx rfl (hb hby d7_4) rfl rfl ?_
    show Steps p.tables e below (T1.setTop (mkF m 5 #[.val (.ref a1), .val ca, .val sc, .val na] [(.ref a1)])) _
    refine XS.aloadN P1.here hx rfl (hb hby d7_5) rfl r_ca ?_
    show Steps p.tables e below (T1.setTop (mkF m 6 #[.val (.ref a1), .val ca, .val sc, .val na] [ca, (.ref a1)])) _
    exact kQ
  show OwnDone p e below _ (T1.setTop (mkF m 6 #[.val (.ref a1), .val ca, .val sc, .val na] [ca, (.ref a1)]))
  refine own_putO (ty := (.object "java/lang/String")) C P1 (hw _ (List.mem_of_getElem? (i := 42) rfl)) Via.refl O1 (own_laid1 hw) 0 rfl rfl (Or.inr ⟨(hw _ (List.mem_of_getElem? (i := 43) rfl)), rfl, rfl⟩) (hw _ (List.mem_of_getElem? (i := 31) rfl)) (by decide) (own_nref rfl) (own_fref rfl r_ca) (Or.inl (List.mem_of_getElem? (i := 0) rfl)) d7_6 (vs' := [ca, .null, .null]) rfl (fun T2 h2 P2 K2 O2 => ?_)
  show OwnDone p e below _ (T2.setTop (mkF m 9 #[.val (.ref a1), .val ca, .val sc, .val na] []))
  refine OwnDone.go (A := (T2.setTop (mkF m 11 #[.val (.ref a1), .val ca, .val sc, .val na] [sc, (.ref a1)]))) (fun tQ kQ => ?_) ?_
  · refine XS.aloadN P2.here hx rfl (hb hby d7_9) rfl rfl ?_
    show Steps p.tables e below (T2.setTop (mkF m 10 #[.val (.ref a1), .val ca, .val sc, .val na] [(.ref a1)])) _
    refine XS.aloadN P2.here hx rfl (hb hby d7_10) rfl r_sc ?_
    show Steps p.tables e below (T2.setTop (mkF m 11 #[.val (.ref a1), .val ca, .val sc, .val na] [sc, (.ref a1)])) _
    exact kQ
  show OwnDone p e below _ (T2.setTop (mkF m 11 #[.val (.ref a1), .val ca, .val sc, .val na] [sc, (.ref a1)]))
  refine own_putO (ty := (.object "java/lang/String")) C P2 (hw _ (List.mem_of_getElem? (i := 44) rfl)) Via.refl O2 (own_laid1 hw) 1 rfl rfl (Or.inr ⟨(hw _ (List.mem_of_getElem? (i := 45) rfl)), rfl, rfl⟩) (hw _ (List.mem_of_getElem? (i := 31) rfl)) (by decide) (own_nref rfl) (own_fref rfl r_sc) (Or.inl (List.mem_of_getElem? (i := 0) rfl)) d7_11 (vs' := [ca, sc, .null]) rfl (fun T3 h3 P3 K3 O3 => ?_)
  show OwnDone p e below _ (T3.setTop (mkF m 14 #[.val (.ref a1), .val ca, .val sc, .val na] []))
  refine OwnDone.go (A := (T3.setTop (mkF m 16 #[.val (.ref a1), .val ca, .val sc, .val na] [na, (.ref a1)]))) (fun tQ kQ => ?_) ?_
  · refine XS.aloadN P3.here hx rfl (hb hby d7_14) rfl rfl ?_
    show Steps p.tables e below (T3.setTop (mkF m 15 #[.val (.ref a1), .val ca, .val sc, .val na] [(.ref a1)])) _
    refine XS.aloadN P3.here hx rfl (hb hby d7_15) rfl r_na ?_
    show Steps p.tables e below (T3.setTop (mkF m 16 #[.val (.ref a1), .val ca, .val sc, .val na] [na, (.ref a1)])) _
    exact kQ
  show OwnDone p e below _ (T3.setTop (mkF m 16 #[.val (.ref a1), .val ca, .val sc, .val na] [na, (.ref a1)]))
  refine own_putO (ty := (.object "java/lang/String")) C P3 (hw _ (List.mem_of_getElem? (i := 46) rfl)) Via.refl O3 (own_laid1 hw) 2 rfl rfl (Or.inr ⟨(hw _ (List.mem_of_getElem? (i := 47) rfl)), rfl, rfl⟩) (hw _ (List.mem_of_getElem? (i := 31) rfl)) (by decide) (own_nref rfl) (own_fref rfl r_na) (Or.inl (List.mem_of_getElem? (i := 0) rfl)) d7_16 (vs' := [ca, sc, na]) rfl (fun T4 h4 P4 K4 O4 => ?_)
  show OwnDone p e below _ (T4.setTop (mkF m 19 #[.val (.ref a1), .val ca, .val sc, .val na] []))
  refine own_retV C P4 d7_19 (by decide) (by decide) ⟨rfl, O4⟩
def own_qual (ca sc : Value) : Value := if sc = .null then ca else sc
theorem own_qualR {ca sc : Value} (h1 : ca.isRef = true) (h2 : sc.isRef = true) : (own_qual ca sc).isRef = true := by
  unfold own_qual; split
  · exact h1
  · exact h2
theorem d9_0 : decode prog_12_method_2_code 0 = .ok (.aload_n 0, 1) := by decide +kernel
theorem d9_1 : decode prog_12_method_2_code 1 = .ok (.getfield 13, 3) := by decide +kernel
theorem d9_4 : decode prog_12_method_2_code 4 = .ok (.ifnonnull 10, 3) := by decide +kernel
theorem d9_7 : decode prog_12_method_2_code 7 = .ok (.aload_n 0, 1) := by decide +kernel
theorem d9_8 : decode prog_12_method_2_code 8 = .ok (.getfield 7, 3) := by decide +kernel
theorem d9_11 : decode prog_12_method_2_code 11 = .ok (.goto 7, 3) := by decide +kernel
theorem d9_14 : decode prog_12_method_2_code 14 = .ok (.aload_n 0, 1) := by decide +kernel
theorem d9_15 : decode prog_12_method_2_code 15 = .ok (.getfield 13, 3) := by decide +kernel
theorem d9_18 : decode prog_12_method_2_code 18 = .ok (.areturn, 1) := by decide +kernel
theorem pn9 : plainName "com/example/lapse/lapse/CatalogTables$Table" = true := by first | (simp [plainName, overriddenIn]; done) | decide +kernel
theorem ef9 (m : MethodId) (a1 : Addr)  : entryFrame m #[(.ref a1)] 1 = mkF m 0 #[.val (.ref a1)] [] := by first | (simp [entryFrame, mkF, argsToLocals, Value.category]; done) | rfl
set_option maxRecDepth 65536 in
set_option maxHeartbeats 40000000 in
theorem rm9 (l : Launch) (Z : State) (a0 : Array Value) (hw : ∀ d ∈ tables_1, d.before a0 Z = true) (a1 : Addr) (ca sc na : Value) (h0 : Heap) (hE : Ext Z.heap h0)  (r_ca : ca.isRef = true) (r_sc : sc.isRef = true) (O1 : OwnObj Z h0 a1 "com/example/lapse/lapse/CatalogTables$Table" own_lay1 [ca, sc, na]) :
    OwnMeets l (⟨"com/example/lapse/lapse/CatalogTables$Table", "qualifier", "()Ljava/lang/String;"⟩ : MethodName) prog_12_method_2_code 1 (some (.object "java/lang/String")) ({ frames := 0, cells := 0, slots := 0, locals := 0 } : Room) Z [] #[(.ref a1)] h0 (fun v h => v = some (own_qual ca sc) ∧ h0 = h) := by
  refine OwnMeets.of (plainFor_of_name pn9) hE all0 ?_
  intro p e s m below meth c T C P
  have hx := C.1
  have hby := C.2.2.2.2.1
  rw [show entryFrame m #[(.ref a1)] 1 = _ from ef9 m a1]
  show OwnDone p e below _ (T.setTop (mkF m 0 #[.val (.ref a1)] []))
  refine OwnDone.go (A := (T.setTop (mkF m 1 #[.val (.ref a1)] [(.ref a1)]))) (fun tQ kQ => ?_) ?_
  · refine XS.aloadN P.here hx rfl (hb hby d9_0) rfl rfl ?_
    show Steps p.tables e below (T.setTop (mkF m 1 #[.val (.ref a1)] [(.ref a1)])) _
    exact kQ
  show OwnDone p e below _ (T.setTop (mkF m 1 #[.val (.ref a1)] [(.ref a1)]))
  refine own_getF C P (host := "") (Or.inl (hw _ (List.mem_of_getElem? (i := 44) rfl))) Via.refl (O1.2 1 _ _ _ _ rfl rfl) d9_1 (fun T1 P1 => ?_)
  show OwnDone p e below _ (T1.setTop (mkF m 4 #[.val (.ref a1)] [sc]))
  by_cases hc4 : sc = Value.null
  · refine OwnDone.go (A := (T1.setTop (mkF m 7 #[.val (.ref a1)] []))) (fun tQ kQ => XT.nonnullNo P1.here hx rfl (hb hby d9_4) rfl hc4 kQ) ?_
    show OwnDone p e below _ (T1.setTop (mkF m 7 #[.val (.ref a1)] []))
    refine OwnDone.go (A := (T1.setTop (mkF m 8 #[.val (.ref a1)] [(.ref a1)]))) (fun tQ kQ => ?_) ?_
    · refine XS.aloadN P1.here hx rfl (hb hby d9_7) rfl rfl ?_
      show Steps p.tables e below (T1.setTop (mkF m 8 #[.val (.ref a1)] [(.ref a1)])) _
      exact kQ
    show OwnDone p e below _ (T1.setTop (mkF m 8 #[.val (.ref a1)] [(.ref a1)]))
    refine own_getF C P1 (host := "") (Or.inl (hw _ (List.mem_of_getElem? (i := 42) rfl))) Via.refl (O1.2 0 _ _ _ _ rfl rfl) d9_8 (fun T2 P2 => ?_)
    show OwnDone p e below _ (T2.setTop (mkF m 11 #[.val (.ref a1)] [ca]))
    refine OwnDone.go (A := (T2.setTop (mkF m 18 #[.val (.ref a1)] [ca]))) (fun tQ kQ => ?_) ?_
    · refine XS.goto P2.here hx rfl (pc0 := 11) (pc' := 18) rfl (hb hby d9_11) (by decide) (by decide) ?_
      show Steps p.tables e below (T2.setTop (mkF m 18 #[.val (.ref a1)] [ca])) _
      exact kQ
    show OwnDone p e below _ (T2.setTop (mkF m 18 #[.val (.ref a1)] [ca]))
    refine own_retA C P2 rfl r_ca d9_18 (by decide) (by decide) ⟨by unfold own_qual; simp only [hc4, if_true, if_false], rfl⟩
  · refine OwnDone.go (A := (T1.setTop (mkF m 14 #[.val (.ref a1)] []))) (fun tQ kQ => XT.nonnullYes P1.here hx rfl (pc0 := 4) (pc' := 14) rfl (hb hby d9_4) rfl r_sc hc4 (by decide) (by decide) kQ) ?_
    show OwnDone p e below _ (T1.setTop (mkF m 14 #[.val (.ref a1)] []))
    refine OwnDone.go (A := (T1.setTop (mkF m 15 #[.val (.ref a1)] [(.ref a1)]))) (fun tQ kQ => ?_) ?_
    · refine XS.aloadN P1.here hx rfl (hb hby d9_14) rfl rfl ?_
      show Steps p.tables e below (T1.setTop (mkF m 15 #[.val (.ref a1)] [(.ref a1)])) _
      exact kQ
    show OwnDone p e below _ (T1.setTop (mkF m 15 #[.val (.ref a1)] [(.ref a1)]))
    refine own_getF C P1 (host := "") (Or.inl (hw _ (List.mem_of_getElem? (i := 44) rfl))) Via.refl (O1.2 1 _ _ _ _ rfl rfl) d9_15 (fun T3 P3 => ?_)
    show OwnDone p e below _ (T3.setTop (mkF m 18 #[.val (.ref a1)] [sc]))
    refine own_retA C P3 rfl r_sc d9_18 (by decide) (by decide) ⟨by unfold own_qual; simp only [hc4, if_true, if_false], rfl⟩
theorem pn0 : plainName "com/example/lapse/lapse/TableQualifierPinLaw" = true := by first | (simp [plainName, overriddenIn]; done) | decide +kernel
theorem ef0 (m : MethodId) (p1 : Int32) (p2 : Int32) (p3 : Int32) (p4 : Int32)  : entryFrame m #[(.int p1), (.int p2), (.int p3), (.int p4)] maxLocals = mkF m 0 #[.val (.int p1), .val (.int p2), .val (.int p3), .val (.int p4), .unset, .unset, .unset, .unset, .unset] [] := by first | (simp [entryFrame, mkF, argsToLocals, Value.category, maxLocals]; done) | rfl
set_option maxRecDepth 65536 in
set_option maxHeartbeats 40000000 in
theorem rm0 (l : Launch) (Z : State) (a0 : Array Value) (hw : ∀ d ∈ tables_1, d.before a0 Z = true) (p1 : Int32) (p2 : Int32) (p3 : Int32) (p4 : Int32)  (h0 : Heap) (hE : Ext Z.heap h0)   (cs : Int32) (C0 : Sta Z Z.heap "java/lang/String" "COMPACT_STRINGS" "Z" (.int cs)) (C1 : ¬ cs = 0) :
    OwnMeets l x code maxLocals ret room_1 Z [] #[(.int p1), (.int p2), (.int p3), (.int p4)] h0 (fun v h => v = some (.int 1)) := by
  refine OwnMeets.of (plainFor_of_name pn0) hE all0 ?_
  intro p e s m below meth c T C P
  have hx := C.1
  have hby := C.2.2.2.2.1
  rw [show entryFrame m #[(.int p1), (.int p2), (.int p3), (.int p4)] maxLocals = _ from ef0 m p1 p2 p3 p4]
  show OwnDone p e below _ (T.setTop (mkF m 0 #[.val (.int p1), .val (.int p2), .val (.int p3), .val (.int p4), .unset, .unset, .unset, .unset, .unset] []))
  refine OwnDone.go (A := (T.setTop (mkF m 2 #[.val (.int p1), .val (.int p2), .val (.int p3), .val (.int p4), .unset, .unset, .unset, .unset, .unset] [(.int p1), (.int p2)]))) (fun tQ kQ => ?_) ?_
  · refine XS.iloadN P.here hx rfl (hb hby at_0) rfl ?_
    show Steps p.tables e below (T.setTop (mkF m 1 #[.val (.int p1), .val (.int p2), .val (.int p3), .val (.int p4), .unset, .unset, .unset, .unset, .unset] [(.int p2)])) _
    refine XS.iloadN P.here hx rfl (hb hby at_1) rfl ?_
    show Steps p.tables e below (T.setTop (mkF m 2 #[.val (.int p1), .val (.int p2), .val (.int p3), .val (.int p4), .unset, .unset, .unset, .unset, .unset] [(.int p1), (.int p2)])) _
    exact kQ
  show OwnDone p e below _ (T.setTop (mkF m 2 #[.val (.int p1), .val (.int p2), .val (.int p3), .val (.int p4), .unset, .unset, .unset, .unset, .unset] [(.int p1), (.int p2)]))
  refine own_callS (y := (⟨"com/example/lapse/lapse/TableQualifierPinLaw", "drawn", "(II)Ljava/lang/String;"⟩ : MethodName)) C P (hw _ (List.mem_of_getElem? (i := 0) rfl)) (hw _ (List.mem_of_getElem? (i := 1) rfl)) (hw _ (List.mem_of_getElem? (i := 2) rfl)) (hw _ (List.mem_of_getElem? (i := 3) rfl)) (by decide) (rm1 l Z a0 hw p2 p1 h0 P.old cs C0 C1) (as := [(.int p2), (.int p1)]) (rest := []) pd_10 rfl rfl (wd := 0) rfl rfl at_2 all0 (by decide) (by decide) (by decide) (by decide) (fun T1 h1 v1 P1 K1 hQ1 => ?_)
  obtain ⟨v1_, rfl, r1⟩ := hQ1
  show OwnDone p e below _ (T1.setTop (mkF m 5 #[.val (.int p1), .val (.int p2), .val (.int p3), .val (.int p4), .unset, .unset, .unset, .unset, .unset] [v1_]))
  refine OwnDone.go (A := (T1.setTop (mkF m 11 #[.val (.int p1), .val (.int p2), .val (.int p3), .val (.int p4), .val v1_, .unset, .unset, .unset, .unset] [(.int (XT.ushr p1 (2 : Int32))), (.int p3)]))) (fun tQ kQ => ?_) ?_
  · refine XS.astoreS P1.here hx rfl (hb hby at_5) rfl r1 (XT.cat1 r1) rfl (Or.inl rfl) ?_
    show Steps p.tables e below (T1.setTop (mkF m 7 #[.val (.int p1), .val (.int p2), .val (.int p3), .val (.int p4), .val v1_, .unset, .unset, .unset, .unset] [])) _
    refine XS.iloadN P1.here hx rfl (hb hby at_7) rfl ?_
    show Steps p.tables e below (T1.setTop (mkF m 8 #[.val (.int p1), .val (.int p2), .val (.int p3), .val (.int p4), .val v1_, .unset, .unset, .unset, .unset] [(.int p3)])) _
    refine XS.iloadN P1.here hx rfl (hb hby at_8) rfl ?_
    show Steps p.tables e below (T1.setTop (mkF m 9 #[.val (.int p1), .val (.int p2), .val (.int p3), .val (.int p4), .val v1_, .unset, .unset, .unset, .unset] [(.int p1), (.int p3)])) _
    refine XS.iconst P1.here hx rfl (hb hby at_9) ?_
    show Steps p.tables e below (T1.setTop (mkF m 10 #[.val (.int p1), .val (.int p2), .val (.int p3), .val (.int p4), .val v1_, .unset, .unset, .unset, .unset] [(.int (2 : Int32)), (.int p1), (.int p3)])) _
    refine XT.iushr P1.here hx rfl (hb hby at_10) rfl ?_
    show Steps p.tables e below (T1.setTop (mkF m 11 #[.val (.int p1), .val (.int p2), .val (.int p3), .val (.int p4), .val v1_, .unset, .unset, .unset, .unset] [(.int (XT.ushr p1 (2 : Int32))), (.int p3)])) _
    exact kQ
  show OwnDone p e below _ (T1.setTop (mkF m 11 #[.val (.int p1), .val (.int p2), .val (.int p3), .val (.int p4), .val v1_, .unset, .unset, .unset, .unset] [(.int (XT.ushr p1 (2 : Int32))), (.int p3)]))
  refine own_callS (y := (⟨"com/example/lapse/lapse/TableQualifierPinLaw", "drawn", "(II)Ljava/lang/String;"⟩ : MethodName)) C P1 (hw _ (List.mem_of_getElem? (i := 0) rfl)) (hw _ (List.mem_of_getElem? (i := 1) rfl)) (hw _ (List.mem_of_getElem? (i := 2) rfl)) (hw _ (List.mem_of_getElem? (i := 3) rfl)) (by decide) (rm1 l Z a0 hw p3 (XT.ushr p1 (2 : Int32)) h1 P1.old cs C0 C1) (as := [(.int p3), (.int (XT.ushr p1 (2 : Int32)))]) (rest := []) pd_10 rfl rfl (wd := 0) rfl rfl at_11 all0 (by decide) (by decide) (by decide) (by decide) (fun T2 h2 v2 P2 K2 hQ2 => ?_)
  obtain ⟨v2_, rfl, r2⟩ := hQ2
  show OwnDone p e below _ (T2.setTop (mkF m 14 #[.val (.int p1), .val (.int p2), .val (.int p3), .val (.int p4), .val v1_, .unset, .unset, .unset, .unset] [v2_]))
  refine OwnDone.go (A := (T2.setTop (mkF m 22 #[.val (.int p1), .val (.int p2), .val (.int p3), .val (.int p4), .val v1_, .val v2_, .unset, .unset, .unset] [(.int ((XT.ushr p1 (4 : Int32)) ||| (1 : Int32))), (.int p4)]))) (fun tQ kQ => ?_) ?_
  · refine XS.astoreS P2.here hx rfl (hb hby at_14) rfl r2 (XT.cat1 r2) rfl (Or.inl rfl) ?_
    show Steps p.tables e below (T2.setTop (mkF m 16 #[.val (.int p1), .val (.int p2), .val (.int p3), .val (.int p4), .val v1_, .val v2_, .unset, .unset, .unset] [])) _
    refine XS.iloadN P2.here hx rfl (hb hby at_16) rfl ?_
    show Steps p.tables e below (T2.setTop (mkF m 17 #[.val (.int p1), .val (.int p2), .val (.int p3), .val (.int p4), .val v1_, .val v2_, .unset, .unset, .unset] [(.int p4)])) _
    refine XS.iloadN P2.here hx rfl (hb hby at_17) rfl ?_
    show Steps p.tables e below (T2.setTop (mkF m 18 #[.val (.int p1), .val (.int p2), .val (.int p3), .val (.int p4), .val v1_, .val v2_, .unset, .unset, .unset] [(.int p1), (.int p4)])) _
    refine XS.iconst P2.here hx rfl (hb hby at_18) ?_
    show Steps p.tables e below (T2.setTop (mkF m 19 #[.val (.int p1), .val (.int p2), .val (.int p3), .val (.int p4), .val v1_, .val v2_, .unset, .unset, .unset] [(.int (4 : Int32)), (.int p1), (.int p4)])) _
    refine XT.iushr P2.here hx rfl (hb hby at_19) rfl ?_
    show Steps p.tables e below (T2.setTop (mkF m 20 #[.val (.int p1), .val (.int p2), .val (.int p3), .val (.int p4), .val v1_, .val v2_, .unset, .unset, .unset] [(.int (XT.ushr p1 (4 : Int32))), (.int p4)])) _
    refine XS.iconst P2.here hx rfl (hb hby at_20) ?_
    show Steps p.tables e below (T2.setTop (mkF m 21 #[.val (.int p1), .val (.int p2), .val (.int p3), .val (.int p4), .val v1_, .val v2_, .unset, .unset, .unset] [(.int (1 : Int32)), (.int (XT.ushr p1 (4 : Int32))), (.int p4)])) _
    refine XT.ior P2.here hx rfl (hb hby at_21) rfl ?_
    show Steps p.tables e below (T2.setTop (mkF m 22 #[.val (.int p1), .val (.int p2), .val (.int p3), .val (.int p4), .val v1_, .val v2_, .unset, .unset, .unset] [(.int ((XT.ushr p1 (4 : Int32)) ||| (1 : Int32))), (.int p4)])) _
    exact kQ
  show OwnDone p e below _ (T2.setTop (mkF m 22 #[.val (.int p1), .val (.int p2), .val (.int p3), .val (.int p4), .val v1_, .val v2_, .unset, .unset, .unset] [(.int ((XT.ushr p1 (4 : Int32)) ||| (1 : Int32))), (.int p4)]))
  refine own_callS (y := (⟨"com/example/lapse/lapse/TableQualifierPinLaw", "drawn", "(II)Ljava/lang/String;"⟩ : MethodName)) C P2 (hw _ (List.mem_of_getElem? (i := 0) rfl)) (hw _ (List.mem_of_getElem? (i := 1) rfl)) (hw _ (List.mem_of_getElem? (i := 2) rfl)) (hw _ (List.mem_of_getElem? (i := 3) rfl)) (by decide) (rm1 l Z a0 hw p4 ((XT.ushr p1 (4 : Int32)) ||| (1 : Int32)) h2 P2.old cs C0 C1) (as := [(.int p4), (.int ((XT.ushr p1 (4 : Int32)) ||| (1 : Int32)))]) (rest := []) pd_10 rfl rfl (wd := 0) rfl rfl at_22 all0 (by decide) (by decide) (by decide) (by decide) (fun T3 h3 v3 P3 K3 hQ3 => ?_)
  obtain ⟨v3_, rfl, r3⟩ := hQ3
  show OwnDone p e below _ (T3.setTop (mkF m 25 #[.val (.int p1), .val (.int p2), .val (.int p3), .val (.int p4), .val v1_, .val v2_, .unset, .unset, .unset] [v3_]))
  refine OwnDone.go (A := (T3.setTop (mkF m 27 #[.val (.int p1), .val (.int p2), .val (.int p3), .val (.int p4), .val v1_, .val v2_, .val v3_, .unset, .unset] []))) (fun tQ kQ => ?_) ?_
  · refine XS.astoreS P3.here hx rfl (hb hby at_25) rfl r3 (XT.cat1 r3) rfl (Or.inl rfl) ?_
    show Steps p.tables e below (T3.setTop (mkF m 27 #[.val (.int p1), .val (.int p2), .val (.int p3), .val (.int p4), .val v1_, .val v2_, .val v3_, .unset, .unset] [])) _
    exact kQ
  show OwnDone p e below _ (T3.setTop (mkF m 27 #[.val (.int p1), .val (.int p2), .val (.int p3), .val (.int p4), .val v1_, .val v2_, .val v3_, .unset, .unset] []))
  refine own_new (vs := [.null, .null, .null]) C P3 (hw _ (List.mem_of_getElem? (i := 30) rfl)) (hw _ (List.mem_of_getElem? (i := 31) rfl)) (hw _ (List.mem_of_getElem? (i := 32) rfl)) (own_laid1 hw) (by decide +kernel) at_27 (by decide) (by decide) (fun T4 h4 a4 ga4 la4 P4 K4 O4 => ?_)
  have ge_a4 : h0.size ≤ a4 := by rw [ga4]; exact P3.keep.1
  show OwnDone p e below _ (T4.setTop (mkF m 30 #[.val (.int p1), .val (.int p2), .val (.int p3), .val (.int p4), .val v1_, .val v2_, .val v3_, .unset, .unset] [(.ref a4)]))
  refine OwnDone.go (A := (T4.setTop (mkF m 37 #[.val (.int p1), .val (.int p2), .val (.int p3), .val (.int p4), .val v1_, .val v2_, .val v3_, .unset, .unset] [v3_, v2_, v1_, (.ref a4), (.ref a4)]))) (fun tQ kQ => ?_) ?_
  · refine XS.dup P4.here hx rfl (hb hby at_30) rfl rfl ?_
    show Steps p.tables e below (T4.setTop (mkF m 31 #[.val (.int p1), .val (.int p2), .val (.int p3), .val (.int p4), .val v1_, .val v2_, .val v3_, .unset, .unset] [(.ref a4), (.ref a4)])) _
    refine XS.aload P4.here hx rfl (hb hby at_31) rfl r1 ?_
    show Steps p.tables e below (T4.setTop (mkF m 33 #[.val (.int p1), .val (.int p2), .val (.int p3), .val (.int p4), .val v1_, .val v2_, .val v3_, .unset, .unset] [v1_, (.ref a4), (.ref a4)])) _
    refine XS.aload P4.here hx rfl (hb hby at_33) rfl r2 ?_
    show Steps p.tables e below (T4.setTop (mkF m 35 #[.val (.int p1), .val (.int p2), .val (.int p3), .val (.int p4), .val v1_, .val v2_, .val v3_, .unset, .unset] [v2_, v1_, (.ref a4), (.ref a4)])) _
    refine XS.aload P4.here hx rfl (hb hby at_35) rfl r3 ?_
    show Steps p.tables e below (T4.setTop (mkF m 37 #[.val (.int p1), .val (.int p2), .val (.int p3), .val (.int p4), .val v1_, .val v2_, .val v3_, .unset, .unset] [v3_, v2_, v1_, (.ref a4), (.ref a4)])) _
    exact kQ
  show OwnDone p e below _ (T4.setTop (mkF m 37 #[.val (.int p1), .val (.int p2), .val (.int p3), .val (.int p4), .val v1_, .val v2_, .val v3_, .unset, .unset] [v3_, v2_, v1_, (.ref a4), (.ref a4)]))
  refine own_callI (y := (⟨"com/example/lapse/lapse/CatalogTables$Table", "<init>", "(Ljava/lang/String;Ljava/lang/String;Ljava/lang/String;)V"⟩ : MethodName)) C P4 rfl (hw _ (List.mem_of_getElem? (i := 33) rfl)) (hw _ (List.mem_of_getElem? (i := 34) rfl)) (hw _ (List.mem_of_getElem? (i := 32) rfl)) (hw _ (List.mem_of_getElem? (i := 35) rfl)) (by decide) (rm7 l Z a0 hw a4 v1_ v2_ v3_ r1 r2 r3 h4 P4.old (Nat.le_trans hE.1 ge_a4) O4) (as := [v1_, v2_, v3_]) (rest := [(.ref a4)]) pd_11 rfl rfl (wd := 1) rfl rfl at_37 (allS (Or.inr ge_a4) all0) (by decide) (by decide) (by decide) (by decide) (fun T5 h5 v5 P5 K5 hQ5 => ?_)
  obtain ⟨rfl, O5⟩ := hQ5
  show OwnDone p e below _ (T5.setTop (mkF m 40 #[.val (.int p1), .val (.int p2), .val (.int p3), .val (.int p4), .val v1_, .val v2_, .val v3_, .unset, .unset] [(.ref a4)]))
  refine OwnDone.go (A := (T5.setTop (mkF m 44 #[.val (.int p1), .val (.int p2), .val (.int p3), .val (.int p4), .val v1_, .val v2_, .val v3_, .val (.ref a4), .unset] [(.ref a4)]))) (fun tQ kQ => ?_) ?_
  · refine XS.astore P5.here hx rfl (hb hby at_40) rfl rfl (l' := #[.val (.int p1), .val (.int p2), .val (.int p3), .val (.int p4), .val v1_, .val v2_, .val v3_, .val (.ref a4), .unset]) rfl ?_
    show Steps p.tables e below (T5.setTop (mkF m 42 #[.val (.int p1), .val (.int p2), .val (.int p3), .val (.int p4), .val v1_, .val v2_, .val v3_, .val (.ref a4), .unset] [])) _
    refine XS.aload P5.here hx rfl (hb hby at_42) rfl rfl ?_
    show Steps p.tables e below (T5.setTop (mkF m 44 #[.val (.int p1), .val (.int p2), .val (.int p3), .val (.int p4), .val v1_, .val v2_, .val v3_, .val (.ref a4), .unset] [(.ref a4)])) _
    exact kQ
  show OwnDone p e below _ (T5.setTop (mkF m 44 #[.val (.int p1), .val (.int p2), .val (.int p3), .val (.int p4), .val v1_, .val v2_, .val v3_, .val (.ref a4), .unset] [(.ref a4)]))
  refine own_callV (y := (⟨"com/example/lapse/lapse/CatalogTables$Table", "qualifier", "()Ljava/lang/String;"⟩ : MethodName)) (z := (⟨"com/example/lapse/lapse/CatalogTables$Table", "qualifier", "()Ljava/lang/String;"⟩ : MethodName)) (CC := "com/example/lapse/lapse/CatalogTables$Table") C P5 O5.1 (hw _ (List.mem_of_getElem? (i := 48) rfl)) (hw _ (List.mem_of_getElem? (i := 49) rfl)) (hw _ (List.mem_of_getElem? (i := 51) rfl)) (hw _ (List.mem_of_getElem? (i := 51) rfl)) (hw _ (List.mem_of_getElem? (i := 50) rfl)) (hw _ (List.mem_of_getElem? (i := 32) rfl)) (hw _ (List.mem_of_getElem? (i := 52) rfl)) (by decide) (rm9 l Z a0 hw a4 v1_ v2_ v3_ h5 P5.old r1 r2 O5) (as := []) (rest := []) pd_12 rfl rfl (wd := 0) rfl rfl at_44 all0 (by decide) (by decide) (by decide) (by decide) (fun T6 h6 v6 P6 K6 hQ6 => ?_)
  obtain ⟨rfl, rfl⟩ := hQ6
  show OwnDone p e below _ (T6.setTop (mkF m 47 #[.val (.int p1), .val (.int p2), .val (.int p3), .val (.int p4), .val v1_, .val v2_, .val v3_, .val (.ref a4), .unset] [(own_qual v1_ v2_)]))
  refine OwnDone.go (A := (T6.setTop (mkF m 51 #[.val (.int p1), .val (.int p2), .val (.int p3), .val (.int p4), .val v1_, .val v2_, .val v3_, .val (.ref a4), .val (own_qual v1_ v2_)] [v2_]))) (fun tQ kQ => ?_) ?_
  · refine XS.astoreS P6.here hx rfl (hb hby at_47) rfl (own_qualR r1 r2) (XT.cat1 (own_qualR r1 r2)) rfl (Or.inl rfl) ?_
    show Steps p.tables e below (T6.setTop (mkF m 49 #[.val (.int p1), .val (.int p2), .val (.int p3), .val (.int p4), .val v1_, .val v2_, .val v3_, .val (.ref a4), .val (own_qual v1_ v2_)] [])) _
    refine XS.aload P6.here hx rfl (hb hby at_49) rfl r2 ?_
    show Steps p.tables e below (T6.setTop (mkF m 51 #[.val (.int p1), .val (.int p2), .val (.int p3), .val (.int p4), .val v1_, .val v2_, .val v3_, .val (.ref a4), .val (own_qual v1_ v2_)] [v2_])) _
    exact kQ
  show OwnDone p e below _ (T6.setTop (mkF m 51 #[.val (.int p1), .val (.int p2), .val (.int p3), .val (.int p4), .val v1_, .val v2_, .val v3_, .val (.ref a4), .val (own_qual v1_ v2_)] [v2_]))
  by_cases hc51 : v2_ = Value.null
  · refine OwnDone.go (A := (T6.setTop (mkF m 67 #[.val (.int p1), .val (.int p2), .val (.int p3), .val (.int p4), .val v1_, .val v2_, .val v3_, .val (.ref a4), .val (own_qual v1_ v2_)] []))) (fun tQ kQ => XT.nullYes P6.here hx rfl (pc0 := 51) (pc' := 67) rfl (hb hby at_51) rfl hc51 (by decide) (by decide) kQ) ?_
    show OwnDone p e below _ (T6.setTop (mkF m 67 #[.val (.int p1), .val (.int p2), .val (.int p3), .val (.int p4), .val v1_, .val v2_, .val v3_, .val (.ref a4), .val (own_qual v1_ v2_)] []))
    refine OwnDone.go (A := (T6.setTop (mkF m 71 #[.val (.int p1), .val (.int p2), .val (.int p3), .val (.int p4), .val v1_, .val v2_, .val v3_, .val (.ref a4), .val (own_qual v1_ v2_)] [v1_, (own_qual v1_ v2_)]))) (fun tQ kQ => ?_) ?_
    · refine XS.aload P6.here hx rfl (hb hby at_67) rfl (own_qualR r1 r2) ?_
      show Steps p.tables e below (T6.setTop (mkF m 69 #[.val (.int p1), .val (.int p2), .val (.int p3), .val (.int p4), .val v1_, .val v2_, .val v3_, .val (.ref a4), .val (own_qual v1_ v2_)] [(own_qual v1_ v2_)])) _
      refine XS.aload P6.here hx rfl (hb hby at_69) rfl r1 ?_
      show Steps p.tables e below (T6.setTop (mkF m 71 #[.val (.int p1), .val (.int p2), .val (.int p3), .val (.int p4), .val v1_, .val v2_, .val v3_, .val (.ref a4), .val (own_qual v1_ v2_)] [v1_, (own_qual v1_ v2_)])) _
      exact kQ
    show OwnDone p e below _ (T6.setTop (mkF m 71 #[.val (.int p1), .val (.int p2), .val (.int p3), .val (.int p4), .val v1_, .val v2_, .val v3_, .val (.ref a4), .val (own_qual v1_ v2_)] [v1_, (own_qual v1_ v2_)]))
    refine OwnDone.go (A := (T6.setTop (mkF m 74 #[.val (.int p1), .val (.int p2), .val (.int p3), .val (.int p4), .val v1_, .val v2_, .val v3_, .val (.ref a4), .val (own_qual v1_ v2_)] []))) (fun tQ kQ => XT.acmpNo P6.here hx rfl (hb hby at_71) rfl (own_qualR r1 r2) r1 (XT.aa_ne_f (by unfold own_qual; simp only [hc51, if_true])) kQ) ?_
    show OwnDone p e below _ (T6.setTop (mkF m 74 #[.val (.int p1), .val (.int p2), .val (.int p3), .val (.int p4), .val v1_, .val v2_, .val v3_, .val (.ref a4), .val (own_qual v1_ v2_)] []))
    refine OwnDone.go (A := (T6.setTop (mkF m 79 #[.val (.int p1), .val (.int p2), .val (.int p3), .val (.int p4), .val v1_, .val v2_, .val v3_, .val (.ref a4), .val (own_qual v1_ v2_)] [(.int (1 : Int32))]))) (fun tQ kQ => ?_) ?_
    · refine XS.iconst P6.here hx rfl (hb hby at_74) ?_
      show Steps p.tables e below (T6.setTop (mkF m 75 #[.val (.int p1), .val (.int p2), .val (.int p3), .val (.int p4), .val v1_, .val v2_, .val v3_, .val (.ref a4), .val (own_qual v1_ v2_)] [(.int (1 : Int32))])) _
      refine XS.goto P6.here hx rfl (pc0 := 75) (pc' := 79) rfl (hb hby at_75) (by decide) (by decide) ?_
      show Steps p.tables e below (T6.setTop (mkF m 79 #[.val (.int p1), .val (.int p2), .val (.int p3), .val (.int p4), .val v1_, .val v2_, .val v3_, .val (.ref a4), .val (own_qual v1_ v2_)] [(.int (1 : Int32))])) _
      exact kQ
    show OwnDone p e below _ (T6.setTop (mkF m 79 #[.val (.int p1), .val (.int p2), .val (.int p3), .val (.int p4), .val v1_, .val v2_, .val v3_, .val (.ref a4), .val (own_qual v1_ v2_)] [(.int (1 : Int32))]))
    refine own_retN C P6 (by simp) (z' := (1 : Int32)) (by decide) at_79 (by decide) (by decide) rfl
  · refine OwnDone.go (A := (T6.setTop (mkF m 54 #[.val (.int p1), .val (.int p2), .val (.int p3), .val (.int p4), .val v1_, .val v2_, .val v3_, .val (.ref a4), .val (own_qual v1_ v2_)] []))) (fun tQ kQ => XT.nullNo P6.here hx rfl (hb hby at_51) rfl r2 hc51 kQ) ?_
    show OwnDone p e below _ (T6.setTop (mkF m 54 #[.val (.int p1), .val (.int p2), .val (.int p3), .val (.int p4), .val v1_, .val v2_, .val v3_, .val (.ref a4), .val (own_qual v1_ v2_)] []))
    refine OwnDone.go (A := (T6.setTop (mkF m 58 #[.val (.int p1), .val (.int p2), .val (.int p3), .val (.int p4), .val v1_, .val v2_, .val v3_, .val (.ref a4), .val (own_qual v1_ v2_)] [v2_, (own_qual v1_ v2_)]))) (fun tQ kQ => ?_) ?_
    · refine XS.aload P6.here hx rfl (hb hby at_54) rfl (own_qualR r1 r2) ?_
      show Steps p.tables e below (T6.setTop (mkF m 56 #[.val (.int p1), .val (.int p2), .val (.int p3), .val (.int p4), .val v1_, .val v2_, .val v3_, .val (.ref a4), .val (own_qual v1_ v2_)] [(own_qual v1_ v2_)])) _
      refine XS.aload P6.here hx rfl (hb hby at_56) rfl r2 ?_
      show Steps p.tables e below (T6.setTop (mkF m 58 #[.val (.int p1), .val (.int p2), .val (.int p3), .val (.int p4), .val v1_, .val v2_, .val v3_, .val (.ref a4), .val (own_qual v1_ v2_)] [v2_, (own_qual v1_ v2_)])) _
      exact kQ
    show OwnDone p e below _ (T6.setTop (mkF m 58 #[.val (.int p1), .val (.int p2), .val (.int p3), .val (.int p4), .val v1_, .val v2_, .val v3_, .val (.ref a4), .val (own_qual v1_ v2_)] [v2_, (own_qual v1_ v2_)]))
    refine OwnDone.go (A := (T6.setTop (mkF m 61 #[.val (.int p1), .val (.int p2), .val (.int p3), .val (.int p4), .val v1_, .val v2_, .val v3_, .val (.ref a4), .val (own_qual v1_ v2_)] []))) (fun tQ kQ => XT.acmpNo P6.here hx rfl (hb hby at_58) rfl (own_qualR r1 r2) r2 (XT.aa_ne_f (by unfold own_qual; simp only [hc51, if_false])) kQ) ?_
    show OwnDone p e below _ (T6.setTop (mkF m 61 #[.val (.int p1), .val (.int p2), .val (.int p3), .val (.int p4), .val v1_, .val v2_, .val v3_, .val (.ref a4), .val (own_qual v1_ v2_)] []))
    refine OwnDone.go (A := (T6.setTop (mkF m 66 #[.val (.int p1), .val (.int p2), .val (.int p3), .val (.int p4), .val v1_, .val v2_, .val v3_, .val (.ref a4), .val (own_qual v1_ v2_)] [(.int (1 : Int32))]))) (fun tQ kQ => ?_) ?_
    · refine XS.iconst P6.here hx rfl (hb hby at_61) ?_
      show Steps p.tables e below (T6.setTop (mkF m 62 #[.val (.int p1), .val (.int p2), .val (.int p3), .val (.int p4), .val v1_, .val v2_, .val v3_, .val (.ref a4), .val (own_qual v1_ v2_)] [(.int (1 : Int32))])) _
      refine XS.goto P6.here hx rfl (pc0 := 62) (pc' := 66) rfl (hb hby at_62) (by decide) (by decide) ?_
      show Steps p.tables e below (T6.setTop (mkF m 66 #[.val (.int p1), .val (.int p2), .val (.int p3), .val (.int p4), .val v1_, .val v2_, .val v3_, .val (.ref a4), .val (own_qual v1_ v2_)] [(.int (1 : Int32))])) _
      exact kQ
    show OwnDone p e below _ (T6.setTop (mkF m 66 #[.val (.int p1), .val (.int p2), .val (.int p3), .val (.int p4), .val v1_, .val v2_, .val v3_, .val (.ref a4), .val (own_qual v1_ v2_)] [(.int (1 : Int32))]))
    refine own_retN C P6 (by simp) (z' := (1 : Int32)) (by decide) at_66 (by decide) (by decide) rfl
set_option maxRecDepth 65536 in
set_option maxHeartbeats 40000000 in
theorem comes_1 {Post : Tables → Env → Array Value → State → Outcome → State → Prop} (hpost : ∀ tb e args s v u, (limb_1_1.after args s (.returned v) u = true ∧ limb_1_2.after args s (.returned v) u = true ∧ True) → FrameEnd s (.returned v) u (Jvm.fieldLocs frame_1_writes args s ++ Jvm.arrayLocs frame_1_arrays args s ++ Jvm.staticLocs frame_1_statics s) 32 128 → Post tb e args s (.returned v) u) :
    ArmFor flags0 classFile x code maxLocals ret World_1 tables_1 room_1 Calls_1 rest_1 Pre_1 Post := by
  intro l hfl _ _ p e ha hc hk s m args below hf hA hF happ hP
  obtain ⟨hcalls, hrest, hpre⟩ := hP
  obtain ⟨-, -, -, hnamed, -, -, -, hat⟩ := (Spec.applies_iff hf).mp happ
  obtain ⟨hg, hn⟩ := and_e (Cond.before_iff.mp (show (Jvm.Cond.and given_1 narrow_1).before args s = true from hpre))
  obtain ⟨hcount, hg⟩ := and_e hg
  obtain ⟨w0, w1, w2, w3, rfl⟩ : ∃ w0 w1 w2 w3 : Value, args = #[w0, w1, w2, w3] := by
    have hs : args.size = 4 := by simpa [Cond.value, given_1] using hcount
    obtain ⟨L⟩ := args
    match L, hs with
    | [w0, w1, w2, w3], _ => exact ⟨w0, w1, w2, w3, rfl⟩
  have hw := fun d (hd : d ∈ tables_1) => atoms_spec (ws := Jvm.Cond.code x code maxLocals ret :: tables_1) hat d (List.mem_cons_of_mem _ hd)
  have hfit : Fit s := fun {y c} hc i hi => by
    obtain ⟨ha, rfl⟩ := Array.getElem?_eq_some_iff.mp hc
    have q := List.all_eq_true.mp ((Array.all_eq_true_iff_forall_mem.mp hF) _ (Array.getElem_mem ha)) i (List.mem_range.mpr hi)
    simpa [Array.getElem?_eq_getElem hi] using q
  obtain ⟨hg0, hg⟩ := and_e hg
  obtain ⟨i0, ei0⟩ := is_v hg0
  obtain rfl : w0 = (.int i0) := Option.some.inj ei0
  obtain ⟨hg1, hg⟩ := and_e hg
  obtain ⟨i1, ei1⟩ := is_v hg1
  obtain rfl : w1 = (.int i1) := Option.some.inj ei1
  obtain ⟨hg2, hg⟩ := and_e hg
  obtain ⟨i2, ei2⟩ := is_v hg2
  obtain rfl : w2 = (.int i2) := Option.some.inj ei2
  obtain ⟨i3, ei3⟩ := is_v hg
  obtain rfl : w3 = (.int i3) := Option.some.inj ei3
  obtain ⟨hsets, hown0⟩ := atoms_of _ (rest_1_c_eq ▸ (show rest_1_c.before _ s = true from hrest))
  have nc := not_v (Cond.before_iff.mp (hsets _ (List.mem_of_getElem? (i := 2) rfl)))
  obtain ⟨cs, ec⟩ := is_v (Cond.before_iff.mp (hsets _ (List.mem_of_getElem? (i := 1) rfl)))
  have C0 : Sta s s.heap "java/lang/String" "COMPACT_STRINGS" "Z" (.int cs) := Sta.start ec (Or.inl (hsets _ (List.mem_of_getElem? (i := 0) rfl)))
  have C1 : ¬ (cs = (0 : Int32)) := gotF (Cond.eq_ints ec (Term.int_eval (0))) nc
  obtain ⟨n, o, h1, h2, h3, _, L, rfl, ⟨rfl, -, N⟩, hq⟩ := rm0 l s _ hw i0 i1 i2 i3 s.heap ⟨Nat.le_refl _, fun _ _ q => q⟩ cs C0 C1 tables_1 p e ha hc hk s m _ below hf ((Spec.applies_iff_loose hf).mp happ).1 ⟨rfl, State.Warmed39.refl s, rfl⟩ trivial
  refine ⟨n, _, h1, h2, h3, hpost _ _ _ _ _ _ ⟨Cond.after_iff.mpr rfl, Cond.after_iff.mpr (eq_i res_at (Term.int_eval (1)) rfl), trivial⟩ ⟨hq.1, hq.2.1, (hq.2.2.sift fun y hy => Or.inr ((N y hy).elim (fun q => (nomatch q)) id)).mono (by decide) (by decide)⟩⟩
theorem main_1_1 : Claimed_1_1 := comes_1 fun _ _ _ _ _ _ h hF => ⟨h.1, hF⟩
theorem main_1_2 : Claimed_1_2 := comes_1 fun _ _ _ _ _ _ h hF => ⟨h.2.1, hF⟩
end Jvm.Pilot.@@N@@
namespace Jvm.Pilot.@@N@@
open Jvm Jvm.ClassFile Sem Op Lib Jvm.Free Jvm.Stand Jvm.Pilot.@@N@@.Jvm.D
/-! MADE BY PROGRAM (witnessworld.py) out of the Statement's table words and the real class files: 21 classes; the members and pool entries that the words name. The judged class is class 1, her method 2. -/
namespace start1
open Jvm.ClassFile
def u (s : String) : CpInfo := .utf8 (stringToUtf16 s)
/-- a pool by its gaps: so many unusable entries, then the entry; so many at the end -/
def gap : Nat → List CpInfo → List CpInfo
  | 0, r => r
  | n + 1, r => .unusable :: gap n r
def poolList (es : List (Nat × CpInfo)) (last : Nat) : List CpInfo := es.foldr (fun e r => gap e.1 (e.2 :: r)) (gap last [])
def pool (es : List (Nat × CpInfo)) (last : Nat) : Array CpInfo := ⟨poolList es last⟩
def fileOf (pool : Array CpInfo) (this : Nat) (attrs : Array Attribute := #[]) (ms : Array MethodInfo := #[]) (fl : Nat := 33) (sup : Nat := 0) (ifs : Array Nat := #[]) (fds : Array FieldInfo := #[]) : ClassFile where
  minorVersion := 0
  majorVersion := 65
  constantPool := pool
  accessFlags := fl
  thisClass := this
  superClass := sup
  interfaces := ifs
  fields := fds
  methods := ms
  attributes := attrs
def plain (name : String) (sup : Option ClassId) : Class where
  name := name
  kind := .ordinary
  loader := none
  accessFlags := 33
  super := sup
  interfaces := #[]
  cf := none
  fields := #[]
  methods := #[]
  instanceTypes := #[]
  staticTypes := #[]
  resolved := #[]
  callSites := []
  init := .initialized
  statics := none
  mirror := none

def pool0 : Array CpInfo := pool [(5, u "<init>"), (0, u "()V"), (1, .class_ 10), (1, u "java/lang/Object")] 113

def k0c0 : Code := { maxStack := 0, maxLocals := 1, code := object_method_1_code, exceptionTable := #[], attributes := #[] }
def k0m0 : Method := { name := "<init>", desc := "()V", sig := { parameters := [], returnType := none }, accessFlags := 1, code := some k0c0 }
/-- java/lang/Object -/
def k0 : Class := { plain "java/lang/Object" none with
  accessFlags := 33
  interfaces := #[]
  cf := some (fileOf pool0 8 #[] #[{ accessFlags := 1, nameIndex := 5, descriptorIndex := 6, attributes := #[] }] 33 0 #[] #[])
  fields := #[]
  methods := #[k0m0]
  instanceTypes := #[]
  staticTypes := #[]
  resolved := Array.replicate 124 none
  statics := none }

def pool1 : Array CpInfo := pool [(2, .class_ 4), (1, u "java/lang/Object"), (0, u "<init>"), (0, u "()V"), (0, .methodref 8 9), (0, .class_ 10), (0, .nameAndType 11 12), (0, u "java/lang/String"), (0, u "valueOf"), (0, u "(C)Ljava/lang/String;"), (0, .methodref 8 14), (0, .nameAndType 5 15), (0, u "([C)V"), (0, .methodref 17 18), (0, .class_ 19), (0, .nameAndType 20 21), (0, u "com/example/lapse/lapse/TableQualifierPinLaw"), (0, u "drawn"), (0, u "(II)Ljava/lang/String;"), (0, .class_ 23), (0, u "com/example/lapse/lapse/CatalogTables$Table"), (0, .methodref 22 25), (0, .nameAndType 5 26), (0, u "(Ljava/lang/String;Ljava/lang/String;Ljava/lang/String;)V"), (0, .methodref 22 28), (0, .nameAndType 29 30), (0, u "qualifier"), (0, u "()Ljava/lang/String;"), (3, u "law"), (0, u "(IIII)Z")] 6

def k1m0 : Method := { name := "<init>", desc := "()V", sig := { parameters := [], returnType := none }, accessFlags := 1, code := none }
def k1c1 : Code := { maxStack := 4, maxLocals := 3, code := method_2_code, exceptionTable := #[], attributes := #[] }
def k1m1 : Method := { name := "drawn", desc := "(II)Ljava/lang/String;", sig := { parameters := [.int, .int], returnType := some (.object "java/lang/String") }, accessFlags := 10, code := some k1c1 }
def k1c2 : Code := { maxStack := 5, maxLocals := 9, code := code, exceptionTable := #[], attributes := #[] }
def k1m2 : Method := { name := "law", desc := "(IIII)Z", sig := { parameters := [.int, .int, .int, .int], returnType := some .boolean }, accessFlags := 9, code := some k1c2 }
/-- com/example/lapse/lapse/TableQualifierPinLaw -/
def k1 : Class := { plain "com/example/lapse/lapse/TableQualifierPinLaw" (some 0) with
  accessFlags := 49
  interfaces := #[]
  cf := some (fileOf pool1 17 #[] #[{ accessFlags := 1, nameIndex := 5, descriptorIndex := 6, attributes := #[] }, { accessFlags := 10, nameIndex := 20, descriptorIndex := 21, attributes := #[] }, { accessFlags := 9, nameIndex := 34, descriptorIndex := 35, attributes := #[] }] 49 2 #[] #[])
  fields := #[]
  methods := #[k1m0, k1m1, k1m2]
  instanceTypes := #[]
  staticTypes := #[]
  resolved := Array.replicate 42 none
  statics := none }

def pool2 : Array CpInfo := pool [(1, .class_ 2), (0, u "java/io/Serializable"), (0, .class_ 4), (0, u "java/lang/Object")] 2

/-- java/io/Serializable -/
def k2 : Class := { plain "java/io/Serializable" (some 0) with
  accessFlags := 1537
  interfaces := #[]
  cf := some (fileOf pool2 1 #[] #[] 1537 3 #[] #[])
  fields := #[]
  methods := #[]
  instanceTypes := #[]
  staticTypes := #[]
  resolved := Array.replicate 7 none
  statics := none }

def pool3 : Array CpInfo := pool [(1, .class_ 2), (0, u "java/lang/Comparable"), (0, .class_ 4), (0, u "java/lang/Object")] 7

/-- java/lang/Comparable -/
def k3 : Class := { plain "java/lang/Comparable" (some 0) with
  accessFlags := 1537
  interfaces := #[]
  cf := some (fileOf pool3 1 #[] #[] 1537 3 #[] #[])
  fields := #[]
  methods := #[]
  instanceTypes := #[]
  staticTypes := #[]
  resolved := Array.replicate 12 none
  statics := none }

def pool4 : Array CpInfo := pool [(2, .class_ 4), (1, u "java/lang/CharSequence"), (42, .class_ 48), (0, u "java/lang/CharSequence$1CodePointIterator"), (10, .class_ 60), (0, u "java/lang/CharSequence$1CharIterator"), (5, .class_ 67), (0, u "java/lang/Object")] 63

/-- java/lang/CharSequence -/
def k4 : Class := { plain "java/lang/CharSequence" (some 0) with
  accessFlags := 1537
  interfaces := #[]
  cf := some (fileOf pool4 2 #[.nestMembers #[47, 59]] #[] 1537 66 #[] #[])
  fields := #[]
  methods := #[]
  instanceTypes := #[]
  staticTypes := #[]
  resolved := Array.replicate 131 none
  statics := none }

def pool5 : Array CpInfo := pool [(1, .class_ 2), (0, u "java/lang/constant/Constable"), (0, .class_ 4), (0, u "java/lang/Object")] 6

/-- java/lang/constant/Constable -/
def k5 : Class := { plain "java/lang/constant/Constable" (some 0) with
  accessFlags := 1537
  interfaces := #[]
  cf := some (fileOf pool5 1 #[] #[] 1537 3 #[] #[])
  fields := #[]
  methods := #[]
  instanceTypes := #[]
  staticTypes := #[]
  resolved := Array.replicate 11 none
  statics := none }

def pool6 : Array CpInfo := pool [(1, .class_ 2), (0, u "java/lang/constant/ConstantDesc"), (0, .class_ 4), (0, u "java/lang/Object")] 32

/-- java/lang/constant/ConstantDesc -/
def k6 : Class := { plain "java/lang/constant/ConstantDesc" (some 0) with
  accessFlags := 1537
  interfaces := #[]
  cf := some (fileOf pool6 1 #[] #[] 1537 3 #[] #[])
  fields := #[]
  methods := #[]
  instanceTypes := #[]
  staticTypes := #[]
  resolved := Array.replicate 37 none
  statics := none }

def pool7 : Array CpInfo := pool [(1, .methodref 2 3), (0, .class_ 4), (0, .nameAndType 5 6), (0, u "java/lang/Object"), (0, u "<init>"), (0, u "()V"), (2, .fieldref 10 11), (0, .class_ 12), (0, .nameAndType 13 14), (0, u "java/lang/String"), (0, u "value"), (0, u "[B"), (0, .fieldref 10 16), (0, .nameAndType 17 18), (0, u "coder"), (0, u "B"), (2, u "hash"), (0, u "I"), (2, u "hashIsZero"), (0, u "Z"), (0, .methodref 10 28), (0, .nameAndType 5 29), (0, u "([CIILjava/lang/Void;)V"), (8, .fieldref 10 39), (0, .nameAndType 40 26), (0, u "COMPACT_STRINGS"), (1, .class_ 44), (1, u "java/lang/StringUTF16"), (0, u "compress"), (1, .methodref 42 48), (0, .nameAndType 49 50), (0, u "coderFromArrayLen"), (0, u "([BI)B"), (2, u "toBytes"), (53, .class_ 109), (1, u "java/lang/StringLatin1"), (67, .methodref 42 178), (0, .nameAndType 45 179), (0, u "([CII)[B"), (29, .methodref 10 210), (0, .nameAndType 5 211), (0, u "([BB)V"), (157, u "(C)Z"), (205, .class_ 576), (0, u "java/lang/CharSequence"), (22, u "CASE_INSENSITIVE_ORDER"), (0, u "Ljava/util/Comparator;"), (181, u "valueOf"), (0, u "(C)Ljava/lang/String;"), (226, u "([C)V"), (4, .methodref 107 1016), (0, .nameAndType 1017 369), (0, u "canEncode"), (0, .methodref 107 1019), (0, .nameAndType 53 1020), (0, u "(C)[B"), (80, u "serialPersistentFields"), (0, u "[Ljava/io/ObjectStreamField;"), (0, .class_ 1104), (0, u "java/lang/String$CaseInsensitiveComparator"), (1, .class_ 1107), (0, u "java/io/Serializable"), (0, .class_ 1109), (0, u "java/lang/Comparable"), (0, .class_ 1111), (0, u "java/lang/constant/Constable"), (0, .class_ 1113), (0, u "java/lang/constant/ConstantDesc"), (2, u "serialVersionUID"), (0, u "J"), (3, u "REPL"), (0, u "C"), (2, u "LATIN1"), (1, u "UTF16")] 323

def k7m0 : Method := { name := "<init>", desc := "()V", sig := { parameters := [], returnType := none }, accessFlags := 1, code := none }
def k7c1 : Code := { maxStack := 5, maxLocals := 2, code := jdk_42_method_3_code, exceptionTable := #[], attributes := #[] }
def k7m1 : Method := { name := "<init>", desc := "([C)V", sig := { parameters := [(.array .char)], returnType := none }, accessFlags := 1, code := some k7c1 }
def k7c2 : Code := { maxStack := 4, maxLocals := 1, code := jdk_42_method_139_code, exceptionTable := #[], attributes := #[] }
def k7m2 : Method := { name := "valueOf", desc := "(C)Ljava/lang/String;", sig := { parameters := [.char], returnType := some (.object "java/lang/String") }, accessFlags := 9, code := some k7c2 }
def k7c3 : Code := { maxStack := 4, maxLocals := 6, code := jdk_42_method_149_code, exceptionTable := #[], attributes := #[] }
def k7m3 : Method := { name := "<init>", desc := "([CIILjava/lang/Void;)V", sig := { parameters := [(.array .char), .int, .int, (.object "java/lang/Void")], returnType := none }, accessFlags := 2, code := some k7c3 }
def k7c4 : Code := { maxStack := 2, maxLocals := 3, code := jdk_42_method_151_code, exceptionTable := #[], attributes := #[] }
def k7m4 : Method := { name := "<init>", desc := "([BB)V", sig := { parameters := [(.array .byte), .byte], returnType := none }, accessFlags := 0, code := some k7c4 }
/-- java/lang/String -/
def k7 : Class := { plain "java/lang/String" (some 0) with
  accessFlags := 49
  interfaces := #[2, 3, 4, 5, 6]
  cf := some (fileOf pool7 10 #[.nestMembers #[1103]] #[{ accessFlags := 1, nameIndex := 5, descriptorIndex := 6, attributes := #[] }, { accessFlags := 1, nameIndex := 5, descriptorIndex := 1010, attributes := #[] }, { accessFlags := 9, nameIndex := 782, descriptorIndex := 783, attributes := #[] }, { accessFlags := 2, nameIndex := 5, descriptorIndex := 29, attributes := #[] }, { accessFlags := 0, nameIndex := 5, descriptorIndex := 211, attributes := #[] }] 49 2 #[1106, 1108, 575, 1110, 1112] #[{ accessFlags := 18, nameIndex := 13, descriptorIndex := 14, attributes := #[] }, { accessFlags := 18, nameIndex := 17, descriptorIndex := 18, attributes := #[] }, { accessFlags := 2, nameIndex := 21, descriptorIndex := 22, attributes := #[] }, { accessFlags := 2, nameIndex := 25, descriptorIndex := 26, attributes := #[] }, { accessFlags := 26, nameIndex := 1116, descriptorIndex := 1117, attributes := #[] }, { accessFlags := 24, nameIndex := 40, descriptorIndex := 26, attributes := #[] }, { accessFlags := 26, nameIndex := 1101, descriptorIndex := 1102, attributes := #[] }, { accessFlags := 26, nameIndex := 1121, descriptorIndex := 1122, attributes := #[] }, { accessFlags := 25, nameIndex := 599, descriptorIndex := 600, attributes := #[] }, { accessFlags := 24, nameIndex := 1125, descriptorIndex := 18, attributes := #[] }, { accessFlags := 24, nameIndex := 1127, descriptorIndex := 18, attributes := #[] }])
  fields := #[{ name := "value", type := (.array .byte), accessFlags := 18, slot := 0, constantValue := 0 }, { name := "coder", type := .byte, accessFlags := 18, slot := 1, constantValue := 0 }, { name := "hash", type := .int, accessFlags := 2, slot := 2, constantValue := 0 }, { name := "hashIsZero", type := .boolean, accessFlags := 2, slot := 3, constantValue := 0 }, { name := "serialVersionUID", type := .long, accessFlags := 26, slot := 0, constantValue := 0 }, { name := "COMPACT_STRINGS", type := .boolean, accessFlags := 24, slot := 1, constantValue := 0 }, { name := "serialPersistentFields", type := (.array (.object "java/io/ObjectStreamField")), accessFlags := 26, slot := 2, constantValue := 0 }, { name := "REPL", type := .char, accessFlags := 26, slot := 3, constantValue := 0 }, { name := "CASE_INSENSITIVE_ORDER", type := (.object "java/util/Comparator"), accessFlags := 25, slot := 4, constantValue := 0 }, { name := "LATIN1", type := .byte, accessFlags := 24, slot := 5, constantValue := 0 }, { name := "UTF16", type := .byte, accessFlags := 24, slot := 6, constantValue := 0 }]
  methods := #[k7m0, k7m1, k7m2, k7m3, k7m4]
  instanceTypes := #[(.array .byte), .byte, .int, .boolean]
  staticTypes := #[.long, .boolean, (.array (.object "java/io/ObjectStreamField")), .char, (.object "java/util/Comparator"), .byte, .byte]
  resolved := Array.replicate 1451 none
  statics := some 0 }

def pool8 : Array CpInfo := pool [(4, .class_ 6), (1, u "java/lang/Object"), (0, u "<init>"), (0, u "()V"), (5, .class_ 16), (1, u "java/lang/StringLatin1"), (73, u "canEncode"), (14, u "(C)Z"), (15, u "$assertionsDisabled"), (0, u "Z"), (98, .class_ 223), (1, u "java/lang/StringLatin1$LinesSpliterator"), (156, u "toBytes"), (1, u "(C)[B"), (7, .class_ 391), (0, u "java/lang/StringLatin1$CharsSpliterator")] 3

def k8m0 : Method := { name := "<init>", desc := "()V", sig := { parameters := [], returnType := none }, accessFlags := 0, code := none }
def k8c1 : Code := { maxStack := 2, maxLocals := 1, code := jdk_43_method_3_code, exceptionTable := #[], attributes := #[] }
def k8m1 : Method := { name := "canEncode", desc := "(C)Z", sig := { parameters := [.char], returnType := some .boolean }, accessFlags := 9, code := some k8c1 }
def k8c2 : Code := { maxStack := 4, maxLocals := 1, code := jdk_43_method_46_code, exceptionTable := #[], attributes := #[] }
def k8m2 : Method := { name := "toBytes", desc := "(C)[B", sig := { parameters := [.char], returnType := some (.array .byte) }, accessFlags := 9, code := some k8c2 }
/-- java/lang/StringLatin1 -/
def k8 : Class := { plain "java/lang/StringLatin1" (some 0) with
  accessFlags := 48
  interfaces := #[]
  cf := some (fileOf pool8 14 #[.nestMembers #[390, 221]] #[{ accessFlags := 0, nameIndex := 7, descriptorIndex := 8, attributes := #[] }, { accessFlags := 9, nameIndex := 90, descriptorIndex := 105, attributes := #[] }, { accessFlags := 9, nameIndex := 380, descriptorIndex := 382, attributes := #[] }] 48 4 #[] #[{ accessFlags := 4120, nameIndex := 121, descriptorIndex := 122, attributes := #[] }])
  fields := #[{ name := "$assertionsDisabled", type := .boolean, accessFlags := 4120, slot := 0, constantValue := 0 }]
  methods := #[k8m0, k8m1, k8m2]
  instanceTypes := #[]
  staticTypes := #[.boolean]
  resolved := Array.replicate 395 none
  statics := none }

def pool9 : Array CpInfo := pool [(1, .methodref 2 3), (0, .class_ 4), (0, .nameAndType 5 6), (0, u "java/lang/Object"), (0, u "<init>"), (0, u "()V"), (0, .class_ 8), (0, u "java/lang/Record")] 13

def k9c0 : Code := { maxStack := 1, maxLocals := 1, code := jdk_30_method_1_code, exceptionTable := #[], attributes := #[] }
def k9m0 : Method := { name := "<init>", desc := "()V", sig := { parameters := [], returnType := none }, accessFlags := 4, code := some k9c0 }
/-- java/lang/Record -/
def k9 : Class := { plain "java/lang/Record" (some 0) with
  accessFlags := 1057
  interfaces := #[]
  cf := some (fileOf pool9 7 #[] #[{ accessFlags := 4, nameIndex := 5, descriptorIndex := 6, attributes := #[] }] 1057 2 #[] #[])
  fields := #[]
  methods := #[k9m0]
  instanceTypes := #[]
  staticTypes := #[]
  resolved := Array.replicate 22 none
  statics := none }

def pool10 : Array CpInfo := pool [(1, .methodref 2 3), (0, .class_ 4), (0, .nameAndType 5 6), (0, u "java/lang/Record"), (0, u "<init>"), (0, u "()V"), (0, .fieldref 8 9), (0, .class_ 10), (0, .nameAndType 11 12), (0, u "com/example/lapse/lapse/CatalogTables$Table"), (0, u "catalog"), (0, u "Ljava/lang/String;"), (0, .fieldref 8 14), (0, .nameAndType 15 12), (0, u "schema"), (0, .fieldref 8 17), (0, .nameAndType 18 12), (0, u "name"), (6, u "qualifier"), (0, u "()Ljava/lang/String;"), (25, u "(Ljava/lang/String;Ljava/lang/String;Ljava/lang/String;)V"), (11, .class_ 65), (0, u "com/example/lapse/lapse/CatalogTables")] 33

def k10c0 : Code := { maxStack := 2, maxLocals := 4, code := prog_12_method_1_code, exceptionTable := #[], attributes := #[] }
def k10m0 : Method := { name := "<init>", desc := "(Ljava/lang/String;Ljava/lang/String;Ljava/lang/String;)V", sig := { parameters := [(.object "java/lang/String"), (.object "java/lang/String"), (.object "java/lang/String")], returnType := none }, accessFlags := 0, code := some k10c0 }
def k10c1 : Code := { maxStack := 1, maxLocals := 1, code := prog_12_method_2_code, exceptionTable := #[], attributes := #[] }
def k10m1 : Method := { name := "qualifier", desc := "()Ljava/lang/String;", sig := { parameters := [], returnType := some (.object "java/lang/String") }, accessFlags := 0, code := some k10c1 }
/-- com/example/lapse/lapse/CatalogTables$Table -/
def k10 : Class := { plain "com/example/lapse/lapse/CatalogTables$Table" (some 9) with
  accessFlags := 48
  interfaces := #[]
  cf := some (fileOf pool10 8 #[.nestHost 64] #[{ accessFlags := 0, nameIndex := 5, descriptorIndex := 52, attributes := #[] }, { accessFlags := 0, nameIndex := 25, descriptorIndex := 26, attributes := #[] }] 48 2 #[] #[{ accessFlags := 18, nameIndex := 11, descriptorIndex := 12, attributes := #[] }, { accessFlags := 18, nameIndex := 15, descriptorIndex := 12, attributes := #[] }, { accessFlags := 18, nameIndex := 18, descriptorIndex := 12, attributes := #[] }])
  fields := #[{ name := "catalog", type := (.object "java/lang/String"), accessFlags := 18, slot := 0, constantValue := 0 }, { name := "schema", type := (.object "java/lang/String"), accessFlags := 18, slot := 1, constantValue := 0 }, { name := "name", type := (.object "java/lang/String"), accessFlags := 18, slot := 2, constantValue := 0 }]
  methods := #[k10m0, k10m1]
  instanceTypes := #[(.object "java/lang/String"), (.object "java/lang/String"), (.object "java/lang/String")]
  staticTypes := #[]
  resolved := Array.replicate 99 none
  statics := none }

def pool11 : Array CpInfo := pool [(6, .class_ 8), (1, u "java/lang/Object"), (0, u "<init>"), (0, u "()V"), (1, .class_ 14), (1, u "java/lang/StringUTF16"), (31, u "$assertionsDisabled"), (0, u "Z"), (13, u "HI_BYTE_SHIFT"), (0, u "I"), (2, u "LO_BYTE_SHIFT"), (49, .methodref 12 116), (0, .nameAndType 117 118), (0, u "compress"), (0, u "([CI[BII)I"), (3, u "([CII)[B"), (138, u "coderFromArrayLen"), (0, u "([BI)B"), (106, .class_ 371), (1, u "java/lang/StringUTF16$LinesSpliterator"), (58, u "MAX_LENGTH"), (196, .class_ 628), (0, u "java/lang/StringUTF16$CodePointsSpliterator"), (0, .class_ 630), (0, u "java/lang/StringUTF16$CharsSpliterator")] 4

def k11m0 : Method := { name := "<init>", desc := "()V", sig := { parameters := [], returnType := none }, accessFlags := 0, code := none }
def k11c1 : Code := { maxStack := 2, maxLocals := 2, code := jdk_52_method_15_code, exceptionTable := #[], attributes := #[] }
def k11m1 : Method := { name := "coderFromArrayLen", desc := "([BI)B", sig := { parameters := [(.array .byte), .int], returnType := some .byte }, accessFlags := 8, code := some k11c1 }
def k11c2 : Code := { maxStack := 5, maxLocals := 6, code := jdk_52_method_16_code, exceptionTable := #[], attributes := #[] }
def k11m2 : Method := { name := "compress", desc := "([CII)[B", sig := { parameters := [(.array .char), .int, .int], returnType := some (.array .byte) }, accessFlags := 9, code := some k11c2 }
def k11c3 : Code := { maxStack := 3, maxLocals := 7, code := jdk_52_method_21_code, exceptionTable := #[], attributes := #[] }
def k11m3 : Method := { name := "compress", desc := "([CI[BII)I", sig := { parameters := [(.array .char), .int, (.array .byte), .int, .int], returnType := some .int }, accessFlags := 9, code := some k11c3 }
/-- java/lang/StringUTF16 -/
def k11 : Class := { plain "java/lang/StringUTF16" (some 0) with
  accessFlags := 48
  interfaces := #[]
  cf := some (fileOf pool11 12 #[.nestMembers #[627, 629, 369]] #[{ accessFlags := 0, nameIndex := 9, descriptorIndex := 10, attributes := #[] }, { accessFlags := 8, nameIndex := 261, descriptorIndex := 262, attributes := #[] }, { accessFlags := 9, nameIndex := 117, descriptorIndex := 122, attributes := #[] }, { accessFlags := 9, nameIndex := 117, descriptorIndex := 118, attributes := #[] }] 48 6 #[] #[{ accessFlags := 26, nameIndex := 61, descriptorIndex := 62, attributes := #[] }, { accessFlags := 26, nameIndex := 65, descriptorIndex := 62, attributes := #[] }, { accessFlags := 24, nameIndex := 430, descriptorIndex := 62, attributes := #[] }, { accessFlags := 4120, nameIndex := 46, descriptorIndex := 47, attributes := #[] }])
  fields := #[{ name := "HI_BYTE_SHIFT", type := .int, accessFlags := 26, slot := 0, constantValue := 0 }, { name := "LO_BYTE_SHIFT", type := .int, accessFlags := 26, slot := 1, constantValue := 0 }, { name := "MAX_LENGTH", type := .int, accessFlags := 24, slot := 2, constantValue := 0 }, { name := "$assertionsDisabled", type := .boolean, accessFlags := 4120, slot := 3, constantValue := 0 }]
  methods := #[k11m0, k11m1, k11m2, k11m3]
  instanceTypes := #[]
  staticTypes := #[.int, .int, .int, .boolean]
  resolved := Array.replicate 635 none
  statics := none }

def pool12 : Array CpInfo := pool [(2, .class_ 4), (1, u "java/lang/Object"), (0, u "<init>"), (0, u "()V"), (17, .class_ 26), (1, u "jdk/internal/util/Preconditions"), (28, .class_ 56), (0, u "jdk/internal/util/Preconditions$4"), (57, .class_ 115), (0, u "jdk/internal/util/Preconditions$1"), (7, u "SIOOBE_FORMATTER"), (0, u "Ljava/util/function/BiFunction;"), (0, .class_ 126), (0, u "jdk/internal/util/Preconditions$2"), (3, u "AIOOBE_FORMATTER"), (0, .class_ 132), (0, u "jdk/internal/util/Preconditions$3"), (3, u "IOOBE_FORMATTER")] 57

def k12m0 : Method := { name := "<init>", desc := "()V", sig := { parameters := [], returnType := none }, accessFlags := 1, code := none }
/-- jdk/internal/util/Preconditions -/
def k12 : Class := { plain "jdk/internal/util/Preconditions" (some 0) with
  accessFlags := 33
  interfaces := #[]
  cf := some (fileOf pool12 24 #[.nestMembers #[55, 131, 125, 114]] #[{ accessFlags := 1, nameIndex := 5, descriptorIndex := 6, attributes := #[] }] 33 2 #[] #[{ accessFlags := 25, nameIndex := 123, descriptorIndex := 124, attributes := #[] }, { accessFlags := 25, nameIndex := 130, descriptorIndex := 124, attributes := #[] }, { accessFlags := 25, nameIndex := 136, descriptorIndex := 124, attributes := #[] }])
  fields := #[{ name := "SIOOBE_FORMATTER", type := (.object "java/util/function/BiFunction"), accessFlags := 25, slot := 0, constantValue := 0 }, { name := "AIOOBE_FORMATTER", type := (.object "java/util/function/BiFunction"), accessFlags := 25, slot := 1, constantValue := 0 }, { name := "IOOBE_FORMATTER", type := (.object "java/util/function/BiFunction"), accessFlags := 25, slot := 2, constantValue := 0 }]
  methods := #[k12m0]
  instanceTypes := #[]
  staticTypes := #[(.object "java/util/function/BiFunction"), (.object "java/util/function/BiFunction"), (.object "java/util/function/BiFunction")]
  resolved := Array.replicate 194 none
  statics := some 1 }

def pool13 : Array CpInfo := pool [(9, u "<init>"), (6, .class_ 18), (1, u "java/lang/Object"), (0, u "()V"), (1, .class_ 23), (1, u "jdk/internal/util/ArraysSupport"), (0, u "LOG2_ARRAY_LONG_INDEX_SCALE"), (0, u "I"), (2, u "U"), (0, u "Ljdk/internal/misc/Unsafe;"), (8, u "BIG_ENDIAN"), (0, u "Z"), (8, u "LOG2_BYTE_BIT_SIZE"), (4, u "LOG2_ARRAY_INT_INDEX_SCALE"), (54, u "JLA"), (0, u "Ljdk/internal/access/JavaLangAccess;"), (11, u "LOG2_ARRAY_BOOLEAN_INDEX_SCALE"), (9, u "LOG2_ARRAY_BYTE_INDEX_SCALE"), (5, u "LOG2_ARRAY_CHAR_INDEX_SCALE"), (5, u "LOG2_ARRAY_SHORT_INDEX_SCALE"), (18, u "LOG2_ARRAY_FLOAT_INDEX_SCALE"), (24, u "LOG2_ARRAY_DOUBLE_INDEX_SCALE"), (89, u "T_BOOLEAN"), (2, u "T_CHAR"), (1, u "T_FLOAT"), (1, u "T_DOUBLE"), (1, u "T_BYTE"), (1, u "T_SHORT"), (1, u "T_INT"), (1, u "T_LONG"), (1, u "SOFT_MAX_ARRAY_LENGTH")] 83

def k13m0 : Method := { name := "<init>", desc := "()V", sig := { parameters := [], returnType := none }, accessFlags := 2, code := none }
/-- jdk/internal/util/ArraysSupport -/
def k13 : Class := { plain "jdk/internal/util/ArraysSupport" (some 0) with
  accessFlags := 33
  interfaces := #[]
  cf := some (fileOf pool13 21 #[] #[{ accessFlags := 2, nameIndex := 9, descriptorIndex := 19, attributes := #[] }] 33 16 #[] #[{ accessFlags := 24, nameIndex := 28, descriptorIndex := 29, attributes := #[] }, { accessFlags := 26, nameIndex := 38, descriptorIndex := 39, attributes := #[] }, { accessFlags := 25, nameIndex := 121, descriptorIndex := 25, attributes := #[] }, { accessFlags := 25, nameIndex := 131, descriptorIndex := 25, attributes := #[] }, { accessFlags := 25, nameIndex := 137, descriptorIndex := 25, attributes := #[] }, { accessFlags := 25, nameIndex := 143, descriptorIndex := 25, attributes := #[] }, { accessFlags := 25, nameIndex := 53, descriptorIndex := 25, attributes := #[] }, { accessFlags := 25, nameIndex := 24, descriptorIndex := 25, attributes := #[] }, { accessFlags := 25, nameIndex := 162, descriptorIndex := 25, attributes := #[] }, { accessFlags := 25, nameIndex := 187, descriptorIndex := 25, attributes := #[] }, { accessFlags := 26, nameIndex := 48, descriptorIndex := 25, attributes := #[] }, { accessFlags := 25, nameIndex := 277, descriptorIndex := 25, attributes := #[] }, { accessFlags := 25, nameIndex := 280, descriptorIndex := 25, attributes := #[] }, { accessFlags := 25, nameIndex := 282, descriptorIndex := 25, attributes := #[] }, { accessFlags := 25, nameIndex := 284, descriptorIndex := 25, attributes := #[] }, { accessFlags := 25, nameIndex := 286, descriptorIndex := 25, attributes := #[] }, { accessFlags := 25, nameIndex := 288, descriptorIndex := 25, attributes := #[] }, { accessFlags := 25, nameIndex := 290, descriptorIndex := 25, attributes := #[] }, { accessFlags := 25, nameIndex := 292, descriptorIndex := 25, attributes := #[] }, { accessFlags := 26, nameIndex := 108, descriptorIndex := 109, attributes := #[] }, { accessFlags := 25, nameIndex := 294, descriptorIndex := 25, attributes := #[] }])
  fields := #[{ name := "U", type := (.object "jdk/internal/misc/Unsafe"), accessFlags := 24, slot := 0, constantValue := 0 }, { name := "BIG_ENDIAN", type := .boolean, accessFlags := 26, slot := 1, constantValue := 0 }, { name := "LOG2_ARRAY_BOOLEAN_INDEX_SCALE", type := .int, accessFlags := 25, slot := 2, constantValue := 0 }, { name := "LOG2_ARRAY_BYTE_INDEX_SCALE", type := .int, accessFlags := 25, slot := 3, constantValue := 0 }, { name := "LOG2_ARRAY_CHAR_INDEX_SCALE", type := .int, accessFlags := 25, slot := 4, constantValue := 0 }, { name := "LOG2_ARRAY_SHORT_INDEX_SCALE", type := .int, accessFlags := 25, slot := 5, constantValue := 0 }, { name := "LOG2_ARRAY_INT_INDEX_SCALE", type := .int, accessFlags := 25, slot := 6, constantValue := 0 }, { name := "LOG2_ARRAY_LONG_INDEX_SCALE", type := .int, accessFlags := 25, slot := 7, constantValue := 0 }, { name := "LOG2_ARRAY_FLOAT_INDEX_SCALE", type := .int, accessFlags := 25, slot := 8, constantValue := 0 }, { name := "LOG2_ARRAY_DOUBLE_INDEX_SCALE", type := .int, accessFlags := 25, slot := 9, constantValue := 0 }, { name := "LOG2_BYTE_BIT_SIZE", type := .int, accessFlags := 26, slot := 10, constantValue := 0 }, { name := "T_BOOLEAN", type := .int, accessFlags := 25, slot := 11, constantValue := 0 }, { name := "T_CHAR", type := .int, accessFlags := 25, slot := 12, constantValue := 0 }, { name := "T_FLOAT", type := .int, accessFlags := 25, slot := 13, constantValue := 0 }, { name := "T_DOUBLE", type := .int, accessFlags := 25, slot := 14, constantValue := 0 }, { name := "T_BYTE", type := .int, accessFlags := 25, slot := 15, constantValue := 0 }, { name := "T_SHORT", type := .int, accessFlags := 25, slot := 16, constantValue := 0 }, { name := "T_INT", type := .int, accessFlags := 25, slot := 17, constantValue := 0 }, { name := "T_LONG", type := .int, accessFlags := 25, slot := 18, constantValue := 0 }, { name := "JLA", type := (.object "jdk/internal/access/JavaLangAccess"), accessFlags := 26, slot := 19, constantValue := 0 }, { name := "SOFT_MAX_ARRAY_LENGTH", type := .int, accessFlags := 25, slot := 20, constantValue := 0 }]
  methods := #[k13m0]
  instanceTypes := #[]
  staticTypes := #[(.object "jdk/internal/misc/Unsafe"), .boolean, .int, .int, .int, .int, .int, .int, .int, .int, .int, .int, .int, .int, .int, .int, .int, .int, .int, (.object "jdk/internal/access/JavaLangAccess"), .int]
  resolved := Array.replicate 378 none
  statics := none }

def pool14 : Array CpInfo := pool [(1, u "java/lang/Cloneable"), (0, .class_ 1), (0, u "java/lang/Object"), (0, .class_ 3)] 3

/-- java/lang/Cloneable -/
def k14 : Class := { plain "java/lang/Cloneable" (some 0) with
  accessFlags := 1537
  interfaces := #[]
  cf := some (fileOf pool14 2 #[] #[] 1537 4 #[] #[])
  fields := #[]
  methods := #[]
  instanceTypes := #[]
  staticTypes := #[]
  resolved := Array.replicate 8 none
  statics := none }

/-- the primitive byte -/
def k15 : Class := { plain "byte" none with kind := .primitive 'B', accessFlags := 0x411 }
/-- [B -/
def k16 : Class := { plain "[B" (some 0) with kind := .array 15 .byte, interfaces := #[14, 2], accessFlags := 1041 }

/-- the primitive char -/
def k17 : Class := { plain "char" none with kind := .primitive 'C', accessFlags := 0x411 }
/-- [C -/
def k18 : Class := { plain "[C" (some 0) with kind := .array 17 .char, interfaces := #[14, 2], accessFlags := 1041 }

/-- the primitive int -/
def k19 : Class := { plain "int" none with kind := .primitive 'I', accessFlags := 0x411 }
/-- [I -/
def k20 : Class := { plain "[I" (some 0) with kind := .array 19 .int, interfaces := #[14, 2], accessFlags := 1041 }

def heap : Heap := #[{ cls := 7, slots := #[.long 0, .int 1, .null, .int 0, .null, .int 0, .int 0], vm := .statics 7 },
  { cls := 12, slots := #[.null, .null, .null], vm := .statics 12 }]
def classes : Array Class := #[k0, k1, k2, k3, k4, k5, k6, k7, k8, k9, k10, k11, k12, k13, k14, k15, k16, k17, k18, k19, k20]
def interned : List (Array UInt16 × Addr) := []
def slotsUsed : Nat := 10
def theMethod : MethodId := ⟨1, 2⟩
def args0 : Array Value := #[.int 5, .int 7, .int 3, .int 1]
def aboutOver (below : List Frame) : State where
  vm := { classes := classes, interned := interned.toArray }
  heap := heap
  slotsUsed := slotsUsed
  threads := #[{ frames := .invoking theMethod args0 :: below }]
def below0 : List Frame := [.native { method := ⟨0, 0⟩, args := #[] }]
def about1 : State := aboutOver below0
def p0 : Program := .bare "" "" ""
def e0 : Env := launch0.env 0 0 0
theorem w_frames : about1.frames = Frame.invoking theMethod args0 :: below0 := rfl
set_option maxRecDepth 65536 in
theorem w_args : argsFit about1.vm theMethod args0 = true := by decide +kernel
set_option maxRecDepth 65536 in
theorem w_heap : heapFits about1 = true := by decide +kernel
set_option maxRecDepth 65536 in
theorem w_runnable : about1.curStatus? = some .runnable := by decide +kernel
set_option maxRecDepth 65536 in
theorem w_alone : about1.alone = true := by decide +kernel
set_option maxRecDepth 65536 in
theorem w_named : about1.methodNamed? x = some theMethod := by decide +kernel
set_option maxRecDepth 65536 in
theorem w_hears : about1.hears theMethod below0 = true := by decide +kernel
set_option maxRecDepth 65536 in
theorem w_ripe : about1.ripe theMethod args0 below0 = true := by decide +kernel
theorem w_running : about1.status = .running := rfl
set_option maxRecDepth 65536 in
theorem w_room : about1.hasRoom e0.platform room_1 = true :=
  launch0.hasRoom_least _ room_1 (by decide +kernel) (by decide +kernel) (by decide +kernel) (by decide +kernel) (by decide +kernel) (by decide +kernel)
theorem allAtoms_all (ts : List Jvm.Cond) (a : Array Jvm.Value) (st : Jvm.State) : (allAtoms ts).before a st = ts.all (fun c => c.before a st) := by
  induction ts with
  | nil => rfl
  | cons c t ih =>
    show (Jvm.Cond.and c (allAtoms t)).before a st = _
    rw [Jvm.Cond.before_and, ih, List.all_cons]
def words1 : List Jvm.Cond := Jvm.Cond.code x code maxLocals ret :: tables_1
/-- a 'code' word, met by the world's own term for the bytes: nothing is compared byte by byte -/
theorem code_word {y : MethodName} {bytes : ByteArray} {mx : Nat} {rt : Option FieldType} {a : Array Value} {s : State} {m : MethodId} {meth : Method} {c : Code} (h1 : s.methodNamed? y = some m) (h2 : s.vm.method? m = some meth) (h3 : meth.code = some c) (h4 : c.code = bytes)
    (h5 : (c.maxLocals == mx && c.exceptionTable.isEmpty && decide (c.maxStack ≤ mostOperands) && decide (meth.sig.returnType = rt) && !meth.locks && decide (parseMethodDescriptor y.desc = some meth.sig)) = true) : (Jvm.Cond.code y bytes mx rt).before a s = true := by
  simp only [Bool.and_eq_true, beq_iff_eq, Bool.not_eq_true', decide_eq_true_eq] at h5
  obtain ⟨⟨⟨⟨⟨g1, g2⟩, g3⟩, g4⟩, g5⟩, g6⟩ := h5
  simp [Cond.before, Cond.holds, Cond.value, h1, h2, h3, h4, g1, g2, g3, g4, g5, g6]
def isCode : Jvm.Cond → Bool
  | .code _ _ _ _ => true
  | _ => false
theorem all_split {L : List Jvm.Cond} {P : Jvm.Cond → Bool} (h1 : L.all (fun c => isCode c || P c) = true) (h2 : ∀ c ∈ L.filter isCode, P c = true) : L.all P = true := by
  refine List.all_eq_true.mpr fun c hc => ?_
  have h := List.all_eq_true.mp h1 c hc
  rcases Bool.eq_false_or_eq_true (isCode c) with hi | hi
  · exact h2 c (List.mem_filter.mpr ⟨hc, hi⟩)
  · simpa [hi] using h
set_option maxRecDepth 65536 in
theorem w_c0 : (Jvm.Cond.code x code maxLocals ret).before args0 about1 = true := code_word (m := ⟨1, 2⟩) (meth := k1m2) (c := k1c2) (by decide +kernel) rfl rfl rfl (by decide +kernel)
set_option maxRecDepth 65536 in
theorem w_c1 : (Jvm.Cond.code ({ cls := "com/example/lapse/lapse/TableQualifierPinLaw", name := "drawn", desc := "(II)Ljava/lang/String;" } : Jvm.MethodName) method_2_code (3 : Nat) (Option.some (Jvm.ClassFile.FieldType.object "java/lang/String"))).before args0 about1 = true := code_word (m := ⟨1, 1⟩) (meth := k1m1) (c := k1c1) (by decide +kernel) rfl rfl rfl (by decide +kernel)
set_option maxRecDepth 65536 in
theorem w_c2 : (Jvm.Cond.code ({ cls := "java/lang/String", name := "valueOf", desc := "(C)Ljava/lang/String;" } : Jvm.MethodName) jdk_42_method_139_code (1 : Nat) (Option.some (Jvm.ClassFile.FieldType.object "java/lang/String"))).before args0 about1 = true := code_word (m := ⟨7, 2⟩) (meth := k7m2) (c := k7c2) (by decide +kernel) rfl rfl rfl (by decide +kernel)
set_option maxRecDepth 65536 in
theorem w_c3 : (Jvm.Cond.code ({ cls := "java/lang/StringLatin1", name := "canEncode", desc := "(C)Z" } : Jvm.MethodName) jdk_43_method_3_code (1 : Nat) (Option.some Jvm.ClassFile.FieldType.boolean)).before args0 about1 = true := code_word (m := ⟨8, 1⟩) (meth := k8m1) (c := k8c1) (by decide +kernel) rfl rfl rfl (by decide +kernel)
set_option maxRecDepth 65536 in
theorem w_c4 : (Jvm.Cond.code ({ cls := "java/lang/StringLatin1", name := "toBytes", desc := "(C)[B" } : Jvm.MethodName) jdk_43_method_46_code (1 : Nat) (Option.some (Jvm.ClassFile.FieldType.array Jvm.ClassFile.FieldType.byte))).before args0 about1 = true := code_word (m := ⟨8, 2⟩) (meth := k8m2) (c := k8c2) (by decide +kernel) rfl rfl rfl (by decide +kernel)
set_option maxRecDepth 65536 in
theorem w_c5 : (Jvm.Cond.code ({ cls := "java/lang/String", name := "<init>", desc := "([BB)V" } : Jvm.MethodName) jdk_42_method_151_code (3 : Nat) (Option.none : Option Jvm.ClassFile.FieldType)).before args0 about1 = true := code_word (m := ⟨7, 4⟩) (meth := k7m4) (c := k7c4) (by decide +kernel) rfl rfl rfl (by decide +kernel)
set_option maxRecDepth 65536 in
theorem w_c6 : (Jvm.Cond.code ({ cls := "java/lang/Object", name := "<init>", desc := "()V" } : Jvm.MethodName) object_method_1_code (1 : Nat) (Option.none : Option Jvm.ClassFile.FieldType)).before args0 about1 = true := code_word (m := ⟨0, 0⟩) (meth := k0m0) (c := k0c0) (by decide +kernel) rfl rfl rfl (by decide +kernel)
set_option maxRecDepth 65536 in
theorem w_c7 : (Jvm.Cond.code ({ cls := "com/example/lapse/lapse/CatalogTables$Table", name := "<init>", desc := "(Ljava/lang/String;Ljava/lang/String;Ljava/lang/String;)V" } : Jvm.MethodName) prog_12_method_1_code (4 : Nat) (Option.none : Option Jvm.ClassFile.FieldType)).before args0 about1 = true := code_word (m := ⟨10, 0⟩) (meth := k10m0) (c := k10c0) (by decide +kernel) rfl rfl rfl (by decide +kernel)
set_option maxRecDepth 65536 in
theorem w_c8 : (Jvm.Cond.code ({ cls := "java/lang/Record", name := "<init>", desc := "()V" } : Jvm.MethodName) jdk_30_method_1_code (1 : Nat) (Option.none : Option Jvm.ClassFile.FieldType)).before args0 about1 = true := code_word (m := ⟨9, 0⟩) (meth := k9m0) (c := k9c0) (by decide +kernel) rfl rfl rfl (by decide +kernel)
set_option maxRecDepth 65536 in
theorem w_c9 : (Jvm.Cond.code ({ cls := "com/example/lapse/lapse/CatalogTables$Table", name := "qualifier", desc := "()Ljava/lang/String;" } : Jvm.MethodName) prog_12_method_2_code (1 : Nat) (Option.some (Jvm.ClassFile.FieldType.object "java/lang/String"))).before args0 about1 = true := code_word (m := ⟨10, 1⟩) (meth := k10m1) (c := k10c1) (by decide +kernel) rfl rfl rfl (by decide +kernel)
set_option maxRecDepth 65536 in
theorem w_c10 : (Jvm.Cond.code ({ cls := "java/lang/String", name := "<init>", desc := "([C)V" } : Jvm.MethodName) jdk_42_method_3_code (2 : Nat) (Option.none : Option Jvm.ClassFile.FieldType)).before args0 about1 = true := code_word (m := ⟨7, 1⟩) (meth := k7m1) (c := k7c1) (by decide +kernel) rfl rfl rfl (by decide +kernel)
set_option maxRecDepth 65536 in
theorem w_c11 : (Jvm.Cond.code ({ cls := "java/lang/String", name := "<init>", desc := "([CIILjava/lang/Void;)V" } : Jvm.MethodName) jdk_42_method_149_code (6 : Nat) (Option.none : Option Jvm.ClassFile.FieldType)).before args0 about1 = true := code_word (m := ⟨7, 3⟩) (meth := k7m3) (c := k7c3) (by decide +kernel) rfl rfl rfl (by decide +kernel)
set_option maxRecDepth 65536 in
theorem w_c12 : (Jvm.Cond.code ({ cls := "java/lang/StringUTF16", name := "compress", desc := "([CII)[B" } : Jvm.MethodName) jdk_52_method_16_code (6 : Nat) (Option.some (Jvm.ClassFile.FieldType.array Jvm.ClassFile.FieldType.byte))).before args0 about1 = true := code_word (m := ⟨11, 2⟩) (meth := k11m2) (c := k11c2) (by decide +kernel) rfl rfl rfl (by decide +kernel)
set_option maxRecDepth 65536 in
theorem w_c13 : (Jvm.Cond.code ({ cls := "java/lang/StringUTF16", name := "compress", desc := "([CI[BII)I" } : Jvm.MethodName) jdk_52_method_21_code (7 : Nat) (Option.some Jvm.ClassFile.FieldType.int)).before args0 about1 = true := code_word (m := ⟨11, 3⟩) (meth := k11m3) (c := k11c3) (by decide +kernel) rfl rfl rfl (by decide +kernel)
set_option maxRecDepth 65536 in
theorem w_c14 : (Jvm.Cond.code ({ cls := "java/lang/StringUTF16", name := "coderFromArrayLen", desc := "([BI)B" } : Jvm.MethodName) jdk_52_method_15_code (2 : Nat) (Option.some Jvm.ClassFile.FieldType.byte)).before args0 about1 = true := code_word (m := ⟨11, 1⟩) (meth := k11m1) (c := k11c1) (by decide +kernel) rfl rfl rfl (by decide +kernel)
def codes1 : List Jvm.Cond := [Jvm.Cond.code x code maxLocals ret, Jvm.Cond.code ({ cls := "com/example/lapse/lapse/TableQualifierPinLaw", name := "drawn", desc := "(II)Ljava/lang/String;" } : Jvm.MethodName) method_2_code (3 : Nat) (Option.some (Jvm.ClassFile.FieldType.object "java/lang/String")), Jvm.Cond.code ({ cls := "java/lang/String", name := "valueOf", desc := "(C)Ljava/lang/String;" } : Jvm.MethodName) jdk_42_method_139_code (1 : Nat) (Option.some (Jvm.ClassFile.FieldType.object "java/lang/String")), Jvm.Cond.code ({ cls := "java/lang/StringLatin1", name := "canEncode", desc := "(C)Z" } : Jvm.MethodName) jdk_43_method_3_code (1 : Nat) (Option.some Jvm.ClassFile.FieldType.boolean), Jvm.Cond.code ({ cls := "java/lang/StringLatin1", name := "toBytes", desc := "(C)[B" } : Jvm.MethodName) jdk_43_method_46_code (1 : Nat) (Option.some (Jvm.ClassFile.FieldType.array Jvm.ClassFile.FieldType.byte)), Jvm.Cond.code ({ cls := "java/lang/String", name := "<init>", desc := "([BB)V" } : Jvm.MethodName) jdk_42_method_151_code (3 : Nat) (Option.none : Option Jvm.ClassFile.FieldType), Jvm.Cond.code ({ cls := "java/lang/Object", name := "<init>", desc := "()V" } : Jvm.MethodName) object_method_1_code (1 : Nat) (Option.none : Option Jvm.ClassFile.FieldType), Jvm.Cond.code ({ cls := "com/example/lapse/lapse/CatalogTables$Table", name := "<init>", desc := "(Ljava/lang/String;Ljava/lang/String;Ljava/lang/String;)V" } : Jvm.MethodName) prog_12_method_1_code (4 : Nat) (Option.none : Option Jvm.ClassFile.FieldType), Jvm.Cond.code ({ cls := "java/lang/Record", name := "<init>", desc := "()V" } : Jvm.MethodName) jdk_30_method_1_code (1 : Nat) (Option.none : Option Jvm.ClassFile.FieldType), Jvm.Cond.code ({ cls := "com/example/lapse/lapse/CatalogTables$Table", name := "qualifier", desc := "()Ljava/lang/String;" } : Jvm.MethodName) prog_12_method_2_code (1 : Nat) (Option.some (Jvm.ClassFile.FieldType.object "java/lang/String")), Jvm.Cond.code ({ cls := "java/lang/String", name := "<init>", desc := "([C)V" } : Jvm.MethodName) jdk_42_method_3_code (2 : Nat) (Option.none : Option Jvm.ClassFile.FieldType), Jvm.Cond.code ({ cls := "java/lang/String", name := "<init>", desc := "([CIILjava/lang/Void;)V" } : Jvm.MethodName) jdk_42_method_149_code (6 : Nat) (Option.none : Option Jvm.ClassFile.FieldType), Jvm.Cond.code ({ cls := "java/lang/StringUTF16", name := "compress", desc := "([CII)[B" } : Jvm.MethodName) jdk_52_method_16_code (6 : Nat) (Option.some (Jvm.ClassFile.FieldType.array Jvm.ClassFile.FieldType.byte)), Jvm.Cond.code ({ cls := "java/lang/StringUTF16", name := "compress", desc := "([CI[BII)I" } : Jvm.MethodName) jdk_52_method_21_code (7 : Nat) (Option.some Jvm.ClassFile.FieldType.int), Jvm.Cond.code ({ cls := "java/lang/StringUTF16", name := "coderFromArrayLen", desc := "([BI)B" } : Jvm.MethodName) jdk_52_method_15_code (2 : Nat) (Option.some Jvm.ClassFile.FieldType.byte)]
set_option maxRecDepth 65536 in
theorem codes_eq : words1.filter isCode = codes1 := rfl
theorem w_codes : ∀ c ∈ words1.filter isCode, c.before args0 about1 = true := by
  rw [codes_eq]
  intro c hc
  simp only [codes1, List.mem_cons, List.not_mem_nil, or_false] at hc
  rcases hc with rfl | rfl | rfl | rfl | rfl | rfl | rfl | rfl | rfl | rfl | rfl | rfl | rfl | rfl | rfl
  · exact w_c0
  · exact w_c1
  · exact w_c2
  · exact w_c3
  · exact w_c4
  · exact w_c5
  · exact w_c6
  · exact w_c7
  · exact w_c8
  · exact w_c9
  · exact w_c10
  · exact w_c11
  · exact w_c12
  · exact w_c13
  · exact w_c14
set_option maxRecDepth 65536 in
theorem w_t1 : (words1.take 24).all (fun c => isCode c || c.before args0 about1) = true := by decide +kernel
set_option maxRecDepth 65536 in
theorem w_t2 : ((words1.drop 24).take 24).all (fun c => isCode c || c.before args0 about1) = true := by decide +kernel
set_option maxRecDepth 65536 in
theorem w_t3 : ((words1.drop 24).drop 24).all (fun c => isCode c || c.before args0 about1) = true := by decide +kernel
theorem w_tables : (allAtoms (Jvm.Cond.code x code maxLocals ret :: tables_1)).before args0 about1 = true := by
  rw [allAtoms_all]
  show words1.all (fun c => c.before args0 about1) = true
  refine all_split ?_ w_codes
  rw [← List.take_append_drop 24 words1, List.all_append, w_t1, ← List.take_append_drop 24 (words1.drop 24), List.all_append, w_t2, w_t3]
  rfl
set_option maxRecDepth 65536 in
theorem w_rest : rest_1_c.before args0 about1 = true := by decide +kernel
set_option maxRecDepth 65536 in
theorem w_case : (Jvm.Cond.and given_1 narrow_1).before args0 about1 = true := by decide +kernel
theorem w_applies : (headSpec (Jvm.Cond.code x code maxLocals ret :: tables_1) room_1).applies x e0.platform about1 = true :=
  (Spec.applies_iff w_frames).mpr ⟨w_running, w_runnable, w_alone, w_named, w_hears, w_ripe, w_room, w_tables⟩
theorem atStart : AtStart classFile x code maxLocals ret World_1 tables_1 room_1 Calls_1 rest_1 Pre_1 launch0 p0 e0 about1 theMethod args0 below0 :=
  ⟨lists_1, trivial, launch0.admits_env _ _ _, launch0.least_env, fairChoices_fair.cas, fairChoices_fair.clock, w_frames, w_args, w_heap, w_applies, trivial, w_rest, w_case⟩
end start1
theorem witness_1 : WitnessClaimed_1 := ⟨start1.p0, start1.e0, start1.about1, start1.theMethod, start1.args0, start1.below0, start1.atStart⟩
end Jvm.Pilot.@@N@@
