import JvmDerived
import JvmDerived.Pilot.@@N@@Statement
import JvmDerived.Pilot.@@N@@Code
set_option linter.unusedVariables false
set_option linter.unusedSimpArgs false
namespace Jvm.Pilot.@@N@@
open Jvm Jvm.ClassFile Sem Op Lib Jvm.Free Jvm.Stand Jvm.LawKit Jvm.RoadKit Bundle Jvm.Pilot.@@N@@.Jvm.D
section OwnKit
variable {p : Program} {l : Launch} {e : Env} {R : Room} {s : State} {m : MethodId} {args : Array Value} {below : List Frame} {meth : Method} {c : Code} {Z : State} {y : MethodName} {ret : Option FieldType} {code : ByteArray} {ml : Nat} {ws : List Addr} {T : State} {h : Heap} {cells slots : Nat} {C : Outcome → State → Prop} {a0 : Array Value}
/-- the run goes on from this frame to an end that C allows -/
def own_Go (p : Program) (e : Env) (below : List Frame) (C : Outcome → State → Prop) (T : State) (g : JFrame) : Prop :=
  ∃ u o, Steps p.tables e below (T.setTop g) u ∧ u.status = .running ∧ Ended u below o ∧ C o u
/-- what was written lies at one of ws, or is new since s -/
def own_Fw (s : State) (ws : List Addr) (L : List Loc) : Prop := ∀ y ∈ L, y.base ∈ ws ∨ s.heap.size ≤ y.base
/-- where the walk stands: what is fixed of this body; the heap h; nothing old written but at ws -/
def own_W (p : Program) (l : Launch) (e : Env) (R : Room) (s : State) (m : MethodId) (args : Array Value) (below : List Frame) (meth : Method) (c : Code) (Z : State) (y : MethodName) (ret : Option FieldType) (code : ByteArray) (ml : Nat) (ws : List Addr) (T : State) (h : Heap) (cells slots : Nat) : Prop :=
  (p.tables.exec = Jvm.exec ∧ c.code = code ∧ c.maxLocals = ml ∧ s.vm.findClass y.cls = some m.cls ∧ meth.name = y.name ∧ meth.sig.returnType = ret ∧ meth.locks = false ∧ Z.Warmed39 s.vm) ∧ ∃ locs, Stand p l e R s m args below meth c T locs cells slots ∧ T.heap = h ∧ own_Fw s ws locs
/-- what a call leaves: written at ws or new alone; all else kept; where nothing is made or written the heap itself; and Q -/
def own_Q (ws : List Addr) (rm : Room) (h0 : Heap) (Q : Option Value → Heap → Prop) (v : Option Value) (h : Heap) (L : List Loc) : Prop := (∀ y ∈ L, y.base ∈ ws ∨ h0.size ≤ y.base) ∧ Keep h0 h ws ∧ (rm.cells = 0 → ws = [] → h = h0) ∧ Q v h
/-- a body's contract: called with A at the heap h0 it returns, Q holds of what it returns and of the heap, nothing old is written but at ws -/
def own_M (l : Launch) (Z : State) (wo : List Jvm.Cond) (y : MethodName) (bytes : ByteArray) (maxL : Nat) (ret : Option FieldType) (rm : Room) (ws : List Addr) (A : Array Value) (h0 : Heap) (Q : Option Value → Heap → Prop) : Prop :=
  MetFree l y (head1 (Jvm.Cond.code y bytes maxL ret :: wo) rm) (fun a U => a = A ∧ Z.Warmed39 U.vm ∧ U.heap = h0) (fun _ _ _ _ _ => True) (fun _ U o U' => ∃ v L, o = .returned v ∧ own_Q ws rm h0 Q v U'.heap L ∧ FrameEnd U o U' L rm.cells rm.slots)
theorem own_keep {u : State} {L : List Loc} {k n : Nat} (q : s.sameButNew ({ u with vm := s.vm } : State) L k n) (F : own_Fw s ws L) : Keep s.heap u.heap ws := by
  obtain ⟨-, q2, -, -, -, q6⟩ := q
  refine ⟨q2, fun x c hx hn => ?_, fun x c hx => ?_⟩
  · obtain ⟨c', h1, h2, h3, h4⟩ := q6 x c hx
    have h5 : c'.slots = c.slots := by
      apply Array.ext_getElem?
      intro i
      refine h4 i fun hm => ?_
      rcases F _ hm with w | w
      · exact hn w
      · exact absurd (Array.getElem?_eq_some_iff.mp hx).1 (Nat.not_lt.mpr w)
    rw [h5] at h2
    rw [h2] at h1
    exact h1
  · obtain ⟨c', h1, h2, h3, h4⟩ := q6 x c hx
    exact ⟨c', h1, by rw [h2], by rw [h2], h3⟩
theorem own_same0 {u : State} {L : List Loc} {n : Nat} (q : s.sameButNew ({ u with vm := s.vm } : State) L 0 n) (K : Keep s.heap u.heap []) : u.heap = s.heap := by
  obtain ⟨-, q2, q3, -⟩ := q
  apply Array.ext_getElem?
  intro i
  rcases Nat.lt_or_ge i s.heap.size with hi | hi
  · have hs : s.heap[i]? = some s.heap[i] := Array.getElem?_eq_getElem hi
    rw [hs]
    exact K.2.1 i _ hs nin0
  · have h1 : u.heap.size ≤ i := Nat.le_trans q3 hi
    rw [Array.getElem?_eq_none hi, Array.getElem?_eq_none h1]
theorem own_st {T' : State} {g g' : JFrame} (q : ∀ t, Steps p.tables e below (T'.setTop g') t → Steps p.tables e below (T.setTop g) t) (k : own_Go p e below C T' g') : own_Go p e below C T g := by
  obtain ⟨u, o, h1, h2⟩ := k
  exact ⟨u, o, q _ h1, h2⟩
theorem own_tr {T' : State} {g g' : JFrame} (q : Steps p.tables e below (T.setTop g) (T'.setTop g')) (k : own_Go p e below C T' g') : own_Go p e below C T g := by
  obtain ⟨u, o, h1, h2⟩ := k
  exact ⟨u, o, q.trans h1, h2⟩
theorem own_body {wo : List Jvm.Cond} {maxL : Nat} {rm : Room} {A : Array Value} {h0 : Heap} {Q : Option Value → Heap → Prop} {L0 : Array Slot} (hpl : plainFor y = true) (hef : ∀ m, entryFrame m A maxL = mkF m 0 L0 [])
    (body : ∀ p e s m below meth c (C : Outcome → State → Prop) (_ : ∀ v L u, own_Fw s ws L → Q v u.heap → FrameEnd s (.returned v) u L rm.cells rm.slots → C (.returned v) u) T0,
      own_W p l e rm s m A below meth c Z y ret code maxL ws T0 h0 0 0 → own_Go p e below C T0 (mkF m 0 L0 [])) :
    own_M l Z wo y code maxL ret rm ws A h0 Q := by
  refine MetFree.of_bodySF hpl hisR ?_
  intro p e s m args below meth c s₁ Bd hml0 hP hK
  obtain ⟨rfl, hZ, rfl⟩ := hP
  have X0 : Stand p l e rm s m _ below meth c s₁ [] 0 0 := Stand.of_body Bd
  have e0 : s₁.heap = s.heap := by rw [Bd.state]; rfl
  have hlk : meth.locks = false := BodyLoose.notSynchronized Bd
  have k := body p e s m below meth c (fun o U' => ∃ v L, o = .returned v ∧ own_Q ws rm s.heap Q v U'.heap L ∧ FrameEnd s o U' L rm.cells rm.slots)
    (fun v L u h1 h2 h3 => by
      have K := own_keep h3.2.2 h1
      refine ⟨v, L, rfl, ⟨h1, K, fun hc hw => ?_, h2⟩, h3⟩
      subst hw
      have h4 := h3.2.2
      rw [hc] at h4
      exact own_same0 h4 K) s₁
    ⟨⟨Bd.exec, Bd.bytes, hml0, findClass_of_methodNamed Bd.named, (name_of_methodNamed Bd.named Bd.method).1, Bd.returns, hlk, hZ⟩, [], X0, e0, fun _ hy => nomatch hy⟩
  obtain ⟨u, o, h1, h2⟩ := k
  exact ⟨u, o, castTop (hef m) h1, h2⟩
theorem own_Fw_snoc {L : List Loc} {a : Addr} {sl : Nat} (N : own_Fw s ws L) (q : a ∈ ws ∨ s.heap.size ≤ a) : own_Fw s ws (L ++ [⟨a, sl⟩]) := fun y hy => by
  rcases List.mem_append.mp hy with w | w
  · exact N y w
  · cases List.mem_singleton.mp w; exact q
theorem own_Fw_app {L L' : List Loc} {wc' : List Addr} (N : own_Fw s ws L) (q : ∀ y ∈ L', y.base ∈ wc' ∨ h.size ≤ y.base) (r : ∀ b ∈ wc', b ∈ ws ∨ s.heap.size ≤ b) (z : s.heap.size ≤ h.size) : own_Fw s ws (L ++ L') := fun y hy => by
  rcases List.mem_append.mp hy with w | w
  · exact N y w
  · rcases q y w with u | u
    · exact r _ u
    · exact Or.inr (Nat.le_trans z u)
theorem own_le (W : own_W p l e R s m args below meth c Z y ret code ml ws T h cells slots) : s.heap.size ≤ h.size := by
  obtain ⟨-, locs, X, rfl, -⟩ := W
  exact X.same.2.1
theorem own_isub (W : own_W p l e R s m args below meth c Z y ret code ml ws T h cells slots) {u v : Int32} {pc : Nat} (pc' : Nat) {L : Array Slot} {st : List Value} (hd : decode code pc = .ok (.isub, 1))  (hp : pc + 1 = pc') (k : own_Go p e below C T (mkF m pc' L (.int (u - v) :: st))) : own_Go p e below C T (mkF m pc L (.int v :: .int u :: st)) := by
  have hsz := own_le W
  obtain ⟨⟨hx, hby, hml, hown, hnm, hrt, hlk, hZ⟩, locs, X, eT, N⟩ := W
  subst hp
  exact own_st (fun _ k => XS.isub X.here hx rfl (hb hby hd) rfl k) k
theorem own_iand (W : own_W p l e R s m args below meth c Z y ret code ml ws T h cells slots) {u v : Int32} {pc : Nat} (pc' : Nat) {L : Array Slot} {st : List Value} (hd : decode code pc = .ok (.iand, 1))  (hp : pc + 1 = pc') (k : own_Go p e below C T (mkF m pc' L (.int (u &&& v) :: st))) : own_Go p e below C T (mkF m pc L (.int v :: .int u :: st)) := by
  have hsz := own_le W
  obtain ⟨⟨hx, hby, hml, hown, hnm, hrt, hlk, hZ⟩, locs, X, eT, N⟩ := W
  subst hp
  exact own_st (fun _ k => XS.iand X.here hx rfl (hb hby hd) rfl k) k
theorem own_ishr (W : own_W p l e R s m args below meth c Z y ret code ml ws T h cells slots) {u v : Int32} {pc : Nat} (pc' : Nat) {L : Array Slot} {st : List Value} (hd : decode code pc = .ok (.ishr, 1))  (hp : pc + 1 = pc') (k : own_Go p e below C T (mkF m pc' L (.int (u >>> (v &&& 31)) :: st))) : own_Go p e below C T (mkF m pc L (.int v :: .int u :: st)) := by
  have hsz := own_le W
  obtain ⟨⟨hx, hby, hml, hown, hnm, hrt, hlk, hZ⟩, locs, X, eT, N⟩ := W
  subst hp
  exact own_st (fun _ k => XS.ishr X.here hx rfl (hb hby hd) rfl k) k
theorem own_iushr (W : own_W p l e R s m args below meth c Z y ret code ml ws T h cells slots) {u v : Int32} {pc : Nat} (pc' : Nat) {L : Array Slot} {st : List Value} (hd : decode code pc = .ok (.iushr, 1))  (hp : pc + 1 = pc') (k : own_Go p e below C T (mkF m pc' L (.int ((u.toUInt32 >>> (v &&& 31).toUInt32).toInt32) :: st))) : own_Go p e below C T (mkF m pc L (.int v :: .int u :: st)) := by
  have hsz := own_le W
  obtain ⟨⟨hx, hby, hml, hown, hnm, hrt, hlk, hZ⟩, locs, X, eT, N⟩ := W
  subst hp
  exact own_st (fun _ k => XS.iushr X.here hx rfl (hb hby hd) rfl k) k
theorem own_i2b (W : own_W p l e R s m args below meth c Z y ret code ml ws T h cells slots) {u : Int32} {pc : Nat} (pc' : Nat) {L : Array Slot} {st : List Value} (hd : decode code pc = .ok (.i2b, 1))  (hp : pc + 1 = pc') (k : own_Go p e below C T (mkF m pc' L (.int u.toInt8.toInt32 :: st))) : own_Go p e below C T (mkF m pc L (.int u :: st)) := by
  have hsz := own_le W
  obtain ⟨⟨hx, hby, hml, hown, hnm, hrt, hlk, hZ⟩, locs, X, eT, N⟩ := W
  subst hp
  exact own_st (fun _ k => XS.i2b X.here hx rfl (hb hby hd) rfl k) k
theorem own_i2c (W : own_W p l e R s m args below meth c Z y ret code ml ws T h cells slots) {u : Int32} {pc : Nat} (pc' : Nat) {L : Array Slot} {st : List Value} (hd : decode code pc = .ok (.i2c, 1))  (hp : pc + 1 = pc') (k : own_Go p e below C T (mkF m pc' L (.int u.toUInt32.toUInt16.toUInt32.toInt32 :: st))) : own_Go p e below C T (mkF m pc L (.int u :: st)) := by
  have hsz := own_le W
  obtain ⟨⟨hx, hby, hml, hown, hnm, hrt, hlk, hZ⟩, locs, X, eT, N⟩ := W
  subst hp
  exact own_st (fun _ k => XS.i2c X.here hx rfl (hb hby hd) rfl k) k
theorem own_iconst (W : own_W p l e R s m args below meth c Z y ret code ml ws T h cells slots) {i : Int} (v : Int32) {pc : Nat} (pc' : Nat) {L : Array Slot} {st : List Value} (hd : decode code pc = .ok (.iconst i, 1)) (hv : Int32.ofInt i = v) (hp : pc + 1 = pc') (k : own_Go p e below C T (mkF m pc' L (.int v :: st))) : own_Go p e below C T (mkF m pc L st) := by
  have hsz := own_le W
  obtain ⟨⟨hx, hby, hml, hown, hnm, hrt, hlk, hZ⟩, locs, X, eT, N⟩ := W
  subst hp hv
  exact own_st (fun _ k => XS.iconst X.here hx rfl (hb hby hd) k) k
theorem own_bipush (W : own_W p l e R s m args below meth c Z y ret code ml ws T h cells slots) {i : Int} (v : Int32) {pc : Nat} (pc' : Nat) {L : Array Slot} {st : List Value} (hd : decode code pc = .ok (.bipush i, 2)) (hv : (Int8.ofInt i).toInt32 = v) (hp : pc + 2 = pc') (k : own_Go p e below C T (mkF m pc' L (.int v :: st))) : own_Go p e below C T (mkF m pc L st) := by
  have hsz := own_le W
  obtain ⟨⟨hx, hby, hml, hown, hnm, hrt, hlk, hZ⟩, locs, X, eT, N⟩ := W
  subst hp hv
  exact own_st (fun _ k => XS.bipush X.here hx rfl (hb hby hd) k) k
theorem own_sipush (W : own_W p l e R s m args below meth c Z y ret code ml ws T h cells slots) {i : Int} (v : Int32) {pc : Nat} (pc' : Nat) {L : Array Slot} {st : List Value} (hd : decode code pc = .ok (.sipush i, 3)) (hv : (Int16.ofInt i).toInt32 = v) (hp : pc + 3 = pc') (k : own_Go p e below C T (mkF m pc' L (.int v :: st))) : own_Go p e below C T (mkF m pc L st) := by
  have hsz := own_le W
  obtain ⟨⟨hx, hby, hml, hown, hnm, hrt, hlk, hZ⟩, locs, X, eT, N⟩ := W
  subst hp hv
  exact own_st (fun _ k => XS.sipush X.here hx rfl (hb hby hd) k) k
theorem own_aconst_null (W : own_W p l e R s m args below meth c Z y ret code ml ws T h cells slots) {pc : Nat} (pc' : Nat) {L : Array Slot} {st : List Value} (hd : decode code pc = .ok (.aconst_null, 1)) (hp : pc + 1 = pc') (k : own_Go p e below C T (mkF m pc' L (.null :: st))) : own_Go p e below C T (mkF m pc L st) := by
  have hsz := own_le W
  obtain ⟨⟨hx, hby, hml, hown, hnm, hrt, hlk, hZ⟩, locs, X, eT, N⟩ := W
  subst hp
  exact own_st (fun _ k => XS.aconstNull X.here hx rfl (hb hby hd) k) k
theorem own_iloadN (W : own_W p l e R s m args below meth c Z y ret code ml ws T h cells slots) {i : Fin 4} {v : Int32} {pc : Nat} (pc' : Nat) {L : Array Slot} {st : List Value} (hd : decode code pc = .ok (.iload_n i, 1)) (hl : L[i.val]? = some (.val (.int v))) (hp : pc + 1 = pc') (k : own_Go p e below C T (mkF m pc' L (.int v :: st))) : own_Go p e below C T (mkF m pc L st) := by
  have hsz := own_le W
  obtain ⟨⟨hx, hby, hml, hown, hnm, hrt, hlk, hZ⟩, locs, X, eT, N⟩ := W
  subst hp
  exact own_st (fun _ k => XS.iloadN X.here hx rfl (hb hby hd) hl k) k
theorem own_iload (W : own_W p l e R s m args below meth c Z y ret code ml ws T h cells slots) {i : Nat} {v : Int32} {pc : Nat} (pc' : Nat) {L : Array Slot} {st : List Value} (hd : decode code pc = .ok (.iload i, 2)) (hl : L[i]? = some (.val (.int v))) (hp : pc + 2 = pc') (k : own_Go p e below C T (mkF m pc' L (.int v :: st))) : own_Go p e below C T (mkF m pc L st) := by
  have hsz := own_le W
  obtain ⟨⟨hx, hby, hml, hown, hnm, hrt, hlk, hZ⟩, locs, X, eT, N⟩ := W
  subst hp
  exact own_st (fun _ k => XS.iload X.here hx rfl (hb hby hd) hl k) k
theorem own_aloadN (W : own_W p l e R s m args below meth c Z y ret code ml ws T h cells slots) {i : Fin 4} {v : Value} {pc : Nat} (pc' : Nat) {L : Array Slot} {st : List Value} (hd : decode code pc = .ok (.aload_n i, 1)) (hl : L[i.val]? = some (.val v)) (hv : v.isRef = true) (hp : pc + 1 = pc') (k : own_Go p e below C T (mkF m pc' L (v :: st))) : own_Go p e below C T (mkF m pc L st) := by
  have hsz := own_le W
  obtain ⟨⟨hx, hby, hml, hown, hnm, hrt, hlk, hZ⟩, locs, X, eT, N⟩ := W
  subst hp
  exact own_st (fun _ k => XS.aloadN X.here hx rfl (hb hby hd) hl hv k) k
theorem own_aload (W : own_W p l e R s m args below meth c Z y ret code ml ws T h cells slots) {i : Nat} {v : Value} {pc : Nat} (pc' : Nat) {L : Array Slot} {st : List Value} (hd : decode code pc = .ok (.aload i, 2)) (hl : L[i]? = some (.val v)) (hv : v.isRef = true) (hp : pc + 2 = pc') (k : own_Go p e below C T (mkF m pc' L (v :: st))) : own_Go p e below C T (mkF m pc L st) := by
  have hsz := own_le W
  obtain ⟨⟨hx, hby, hml, hown, hnm, hrt, hlk, hZ⟩, locs, X, eT, N⟩ := W
  subst hp
  exact own_st (fun _ k => XS.aload X.here hx rfl (hb hby hd) hl hv k) k
theorem own_istoreN (W : own_W p l e R s m args below meth c Z y ret code ml ws T h cells slots) {i : Fin 4} {v : Int32} {pc : Nat} (pc' : Nat) {L : Array Slot} (L' : Array Slot) {st : List Value} (hd : decode code pc = .ok (.istore_n i, 1)) (hl : storeLocals L i.val (.int v) = some L') (hp : pc + 1 = pc') (k : own_Go p e below C T (mkF m pc' L' st)) : own_Go p e below C T (mkF m pc L (.int v :: st)) := by
  have hsz := own_le W
  obtain ⟨⟨hx, hby, hml, hown, hnm, hrt, hlk, hZ⟩, locs, X, eT, N⟩ := W
  subst hp
  exact own_st (fun _ k => XS.istoreN X.here hx rfl (hb hby hd) rfl hl k) k
theorem own_istore (W : own_W p l e R s m args below meth c Z y ret code ml ws T h cells slots) {i : Nat} {v : Int32} {pc : Nat} (pc' : Nat) {L : Array Slot} (L' : Array Slot) {st : List Value} (hd : decode code pc = .ok (.istore i, 2)) (hl : storeLocals L i (.int v) = some L') (hp : pc + 2 = pc') (k : own_Go p e below C T (mkF m pc' L' st)) : own_Go p e below C T (mkF m pc L (.int v :: st)) := by
  have hsz := own_le W
  obtain ⟨⟨hx, hby, hml, hown, hnm, hrt, hlk, hZ⟩, locs, X, eT, N⟩ := W
  subst hp
  exact own_st (fun _ k => XS.istore X.here hx rfl (hb hby hd) rfl hl k) k
theorem own_astoreN (W : own_W p l e R s m args below meth c Z y ret code ml ws T h cells slots) {i : Fin 4} {v : Value} {pc : Nat} (pc' : Nat) {L : Array Slot} (L' : Array Slot) {st : List Value} (hd : decode code pc = .ok (.astore_n i, 1)) (hv : v.isRef = true) (hl : storeLocals L i.val v = some L') (hp : pc + 1 = pc') (k : own_Go p e below C T (mkF m pc' L' st)) : own_Go p e below C T (mkF m pc L (v :: st)) := by
  have hsz := own_le W
  obtain ⟨⟨hx, hby, hml, hown, hnm, hrt, hlk, hZ⟩, locs, X, eT, N⟩ := W
  subst hp
  exact own_st (fun _ k => XS.astoreN X.here hx rfl (hb hby hd) rfl hv hl k) k
theorem own_astore (W : own_W p l e R s m args below meth c Z y ret code ml ws T h cells slots) {i : Nat} {v : Value} {pc : Nat} (pc' : Nat) {L : Array Slot} (L' : Array Slot) {st : List Value} (hd : decode code pc = .ok (.astore i, 2)) (hv : v.isRef = true) (hl : storeLocals L i v = some L') (hp : pc + 2 = pc') (k : own_Go p e below C T (mkF m pc' L' st)) : own_Go p e below C T (mkF m pc L (v :: st)) := by
  have hsz := own_le W
  obtain ⟨⟨hx, hby, hml, hown, hnm, hrt, hlk, hZ⟩, locs, X, eT, N⟩ := W
  subst hp
  exact own_st (fun _ k => XS.astore X.here hx rfl (hb hby hd) rfl hv hl k) k
theorem own_iinc (W : own_W p l e R s m args below meth c Z y ret code ml ws T h cells slots) {i : Nat} {cst : Int} {v : Int32} (v' : Int32) {pc : Nat} (pc' : Nat) {L : Array Slot} (L' : Array Slot) {st : List Value} (hd : decode code pc = .ok (.iinc i cst, 3)) (hv : L[i]? = some (.val (.int v))) (hv' : v + Int32.ofInt cst = v') (hl : storeLocals L i (.int v') = some L') (hp : pc + 3 = pc') (k : own_Go p e below C T (mkF m pc' L' st)) : own_Go p e below C T (mkF m pc L st) := by
  have hsz := own_le W
  obtain ⟨⟨hx, hby, hml, hown, hnm, hrt, hlk, hZ⟩, locs, X, eT, N⟩ := W
  subst hp hv'
  exact own_st (fun _ k => XS.iinc X.here hx rfl (hb hby hd) hv hl k) k
theorem own_dup (W : own_W p l e R s m args below meth c Z y ret code ml ws T h cells slots) {v : Value} {pc : Nat} (pc' : Nat) {L : Array Slot} {st : List Value} (hd : decode code pc = .ok (.dup, 1)) (hc : v.category = 1) (hp : pc + 1 = pc') (k : own_Go p e below C T (mkF m pc' L (v :: v :: st))) : own_Go p e below C T (mkF m pc L (v :: st)) := by
  have hsz := own_le W
  obtain ⟨⟨hx, hby, hml, hown, hnm, hrt, hlk, hZ⟩, locs, X, eT, N⟩ := W
  subst hp
  exact own_st (fun _ k => XS.dup X.here hx rfl (hb hby hd) rfl hc k) k
theorem own_pop (W : own_W p l e R s m args below meth c Z y ret code ml ws T h cells slots) {v : Value} {pc : Nat} (pc' : Nat) {L : Array Slot} {st : List Value} (hd : decode code pc = .ok (.pop, 1)) (hc : v.category = 1) (hp : pc + 1 = pc') (k : own_Go p e below C T (mkF m pc' L st)) : own_Go p e below C T (mkF m pc L (v :: st)) := by
  have hsz := own_le W
  obtain ⟨⟨hx, hby, hml, hown, hnm, hrt, hlk, hZ⟩, locs, X, eT, N⟩ := W
  subst hp
  exact own_st (fun _ k => XS.pop X.here hx rfl (hb hby hd) rfl hc k) k
theorem own_goto (W : own_W p l e R s m args below meth c Z y ret code ml ws T h cells slots) {o : Int} {pc : Nat} (pc' : Nat) {L : Array Slot} {st : List Value} (hd : decode code pc = .ok (.goto o, 3)) (ho : 0 ≤ (pc : Int) + o) (hp : ((pc : Int) + o).toNat = pc') (k : own_Go p e below C T (mkF m pc' L st)) : own_Go p e below C T (mkF m pc L st) := by
  have hsz := own_le W
  obtain ⟨⟨hx, hby, hml, hown, hnm, hrt, hlk, hZ⟩, locs, X, eT, N⟩ := W
  exact own_st (fun _ k => XS.goto X.here hx rfl rfl (hb hby hd) ho hp k) k
theorem own_ifY (W : own_W p l e R s m args below meth c Z y ret code ml ws T h cells slots) {cd : ClassFile.Cond} {o : Int} {u : Int32} {pc : Nat} (pc' : Nat) {L : Array Slot} {st : List Value} (hd : decode code pc = .ok (.ifCond cd o, 3)) (hc : ifCond.holds cd u = true) (ho : 0 ≤ (pc : Int) + o) (hp : ((pc : Int) + o).toNat = pc') (k : own_Go p e below C T (mkF m pc' L st)) : own_Go p e below C T (mkF m pc L (.int u :: st)) := by
  have hsz := own_le W
  obtain ⟨⟨hx, hby, hml, hown, hnm, hrt, hlk, hZ⟩, locs, X, eT, N⟩ := W
  exact own_st (fun _ k => XS.ifYes X.here hx rfl rfl (hb hby hd) rfl hc ho hp k) k
theorem own_ifN (W : own_W p l e R s m args below meth c Z y ret code ml ws T h cells slots) {cd : ClassFile.Cond} {o : Int} {u : Int32} {pc : Nat} (pc' : Nat) {L : Array Slot} {st : List Value} (hd : decode code pc = .ok (.ifCond cd o, 3)) (hc : ifCond.holds cd u = false) (hp : pc + 3 = pc') (k : own_Go p e below C T (mkF m pc' L st)) : own_Go p e below C T (mkF m pc L (.int u :: st)) := by
  have hsz := own_le W
  obtain ⟨⟨hx, hby, hml, hown, hnm, hrt, hlk, hZ⟩, locs, X, eT, N⟩ := W
  subst hp
  exact own_st (fun _ k => XS.ifNo X.here hx rfl (hb hby hd) rfl hc k) k
theorem own_icmpY (W : own_W p l e R s m args below meth c Z y ret code ml ws T h cells slots) {cd : ClassFile.Cond} {o : Int} {u v : Int32} {pc : Nat} (pc' : Nat) {L : Array Slot} {st : List Value} (hd : decode code pc = .ok (.if_icmp cd o, 3)) (hc : if_icmp.holds cd u v = true) (ho : 0 ≤ (pc : Int) + o) (hp : ((pc : Int) + o).toNat = pc') (k : own_Go p e below C T (mkF m pc' L st)) : own_Go p e below C T (mkF m pc L (.int v :: .int u :: st)) := by
  have hsz := own_le W
  obtain ⟨⟨hx, hby, hml, hown, hnm, hrt, hlk, hZ⟩, locs, X, eT, N⟩ := W
  exact own_st (fun _ k => XS.icmpYes X.here hx rfl rfl (hb hby hd) rfl hc ho hp k) k
theorem own_icmpN (W : own_W p l e R s m args below meth c Z y ret code ml ws T h cells slots) {cd : ClassFile.Cond} {o : Int} {u v : Int32} {pc : Nat} (pc' : Nat) {L : Array Slot} {st : List Value} (hd : decode code pc = .ok (.if_icmp cd o, 3)) (hc : if_icmp.holds cd u v = false) (hp : pc + 3 = pc') (k : own_Go p e below C T (mkF m pc' L st)) : own_Go p e below C T (mkF m pc L (.int v :: .int u :: st)) := by
  have hsz := own_le W
  obtain ⟨⟨hx, hby, hml, hown, hnm, hrt, hlk, hZ⟩, locs, X, eT, N⟩ := W
  subst hp
  exact own_st (fun _ k => XS.icmpNo X.here hx rfl (hb hby hd) rfl hc k) k
theorem own_acmp (W : own_W p l e R s m args below meth c Z y ret code ml ws T h cells slots) {cd : ACond} {o : Int} {u v : Value} {same : Bool} {pc : Nat} (pc' : Nat) {L : Array Slot} {st : List Value} (hd : decode code pc = .ok (.if_acmp cd o, 3)) (h1 : u.isRef = true) (h2 : v.isRef = true) (hq : decide (u = v) = same) (ho : 0 ≤ (pc : Int) + o) (hp : pc' = if acV cd same = true then ((pc : Int) + o).toNat else pc + 3) (k : own_Go p e below C T (mkF m pc' L st)) : own_Go p e below C T (mkF m pc L (v :: u :: st)) := by
  have hsz := own_le W
  obtain ⟨⟨hx, hby, hml, hown, hnm, hrt, hlk, hZ⟩, locs, X, eT, N⟩ := W
  exact own_st (fun _ k => Jvm.RoadKit.acmp X hx rfl h1 h2 rfl (hb hby hd) rfl hq ho hp k) k
theorem own_retI {Q : Option Value → Heap → Prop} {kc ks : Nat} {z : Int32}  (W : own_W p l e R s m args below meth c Z y (some .int) code ml ws T h cells slots) (hC : ∀ v L u, own_Fw s ws L → Q v u.heap → FrameEnd s (.returned v) u L kc ks → C (.returned v) u) (hcl : cells ≤ kc) (hsl : slots ≤ ks) {pc : Nat} {L : Array Slot} {st : List Value} (hd : decode code pc = .ok (.ireturn, 1)) (hq : Q (some (.int z)) h) : own_Go p e below C T (mkF m pc L (.int z :: st)) := by
  have hsz := own_le W
  obtain ⟨⟨hx, hby, hml, hown, hnm, hrt, hlk, hZ⟩, locs, X, eT, N⟩ := W
  subst eT
  obtain ⟨fs, hr, hrun, hended, hW, hsame⟩ := X.leave (v := (some (.int z))) (fun h => by rw [hrt] at h; cases h) hlk
  refine ⟨_, _, ?_, hrun, hended, hC _ _ _ N hq ⟨⟨_, rfl⟩, hW, hsame.mono hcl hsl⟩⟩
  have hn : narrow .int (.int z) = .int z := rfl
  show Steps p.tables e below (T.setTop { method := m, pc := pc, locals := L, stack := _ :: st, locked := none }) _
  have hm' := X.method'
  jvm_step X.here [X.here.top, hx, (hb hby hd), hm', hrt, hn]
  first | (intro acts; rw [hr _ acts rfl rfl rfl]) | rw [hr _ _ rfl rfl rfl]
  exact Steps.refl _
theorem own_retZ {Q : Option Value → Heap → Prop} {kc ks : Nat} {z : Int32}  (W : own_W p l e R s m args below meth c Z y (some .boolean) code ml ws T h cells slots) (hC : ∀ v L u, own_Fw s ws L → Q v u.heap → FrameEnd s (.returned v) u L kc ks → C (.returned v) u) (hcl : cells ≤ kc) (hsl : slots ≤ ks) {pc : Nat} {L : Array Slot} {st : List Value} (hd : decode code pc = .ok (.ireturn, 1)) (hq : Q (some (.int (z &&& 1))) h) : own_Go p e below C T (mkF m pc L (.int z :: st)) := by
  have hsz := own_le W
  obtain ⟨⟨hx, hby, hml, hown, hnm, hrt, hlk, hZ⟩, locs, X, eT, N⟩ := W
  subst eT
  obtain ⟨fs, hr, hrun, hended, hW, hsame⟩ := X.leave (v := (some (.int (z &&& 1)))) (fun h => by rw [hrt] at h; cases h) hlk
  refine ⟨_, _, ?_, hrun, hended, hC _ _ _ N hq ⟨⟨_, rfl⟩, hW, hsame.mono hcl hsl⟩⟩
  exact retN X hx (t := .boolean) hrt (by simp) (hb hby hd) hr
theorem own_retB {Q : Option Value → Heap → Prop} {kc ks : Nat} {z : Int32}  (W : own_W p l e R s m args below meth c Z y (some .byte) code ml ws T h cells slots) (hC : ∀ v L u, own_Fw s ws L → Q v u.heap → FrameEnd s (.returned v) u L kc ks → C (.returned v) u) (hcl : cells ≤ kc) (hsl : slots ≤ ks) {pc : Nat} {L : Array Slot} {st : List Value} (hd : decode code pc = .ok (.ireturn, 1)) (hq : Q (some (.int z.toInt8.toInt32)) h) : own_Go p e below C T (mkF m pc L (.int z :: st)) := by
  have hsz := own_le W
  obtain ⟨⟨hx, hby, hml, hown, hnm, hrt, hlk, hZ⟩, locs, X, eT, N⟩ := W
  subst eT
  obtain ⟨fs, hr, hrun, hended, hW, hsame⟩ := X.leave (v := (some (.int z.toInt8.toInt32))) (fun h => by rw [hrt] at h; cases h) hlk
  refine ⟨_, _, ?_, hrun, hended, hC _ _ _ N hq ⟨⟨_, rfl⟩, hW, hsame.mono hcl hsl⟩⟩
  exact retN X hx (t := .byte) hrt (by simp) (hb hby hd) hr
theorem own_retC {Q : Option Value → Heap → Prop} {kc ks : Nat} {z : Int32}  (W : own_W p l e R s m args below meth c Z y (some .char) code ml ws T h cells slots) (hC : ∀ v L u, own_Fw s ws L → Q v u.heap → FrameEnd s (.returned v) u L kc ks → C (.returned v) u) (hcl : cells ≤ kc) (hsl : slots ≤ ks) {pc : Nat} {L : Array Slot} {st : List Value} (hd : decode code pc = .ok (.ireturn, 1)) (hq : Q (some (.int z.toUInt32.toUInt16.toUInt32.toInt32)) h) : own_Go p e below C T (mkF m pc L (.int z :: st)) := by
  have hsz := own_le W
  obtain ⟨⟨hx, hby, hml, hown, hnm, hrt, hlk, hZ⟩, locs, X, eT, N⟩ := W
  subst eT
  obtain ⟨fs, hr, hrun, hended, hW, hsame⟩ := X.leave (v := (some (.int z.toUInt32.toUInt16.toUInt32.toInt32))) (fun h => by rw [hrt] at h; cases h) hlk
  refine ⟨_, _, ?_, hrun, hended, hC _ _ _ N hq ⟨⟨_, rfl⟩, hW, hsame.mono hcl hsl⟩⟩
  exact retN X hx (t := .char) hrt (by simp) (hb hby hd) hr
theorem own_retV {Q : Option Value → Heap → Prop} {kc ks : Nat}  (W : own_W p l e R s m args below meth c Z y none code ml ws T h cells slots) (hC : ∀ v L u, own_Fw s ws L → Q v u.heap → FrameEnd s (.returned v) u L kc ks → C (.returned v) u) (hcl : cells ≤ kc) (hsl : slots ≤ ks) {pc : Nat} {L : Array Slot} (hd : decode code pc = .ok (.return_, 1)) (hq : Q none h) : own_Go p e below C T (mkF m pc L []) := by
  have hsz := own_le W
  obtain ⟨⟨hx, hby, hml, hown, hnm, hrt, hlk, hZ⟩, locs, X, eT, N⟩ := W
  subst eT
  obtain ⟨fs, hr, hrun, hended, hW, hsame⟩ := X.leave (v := none) (fun _ => rfl) hlk
  refine ⟨_, _, ?_, hrun, hended, hC _ _ _ N hq ⟨⟨_, rfl⟩, hW, hsame.mono hcl hsl⟩⟩
  exact X.returnOut hx hrt (hb hby hd) hr
theorem own_retA {Q : Option Value → Heap → Prop} {kc ks : Nat} {rt : FieldType} {z : Value} (W : own_W p l e R s m args below meth c Z y (some rt) code ml ws T h cells slots) (hC : ∀ v L u, own_Fw s ws L → Q v u.heap → FrameEnd s (.returned v) u L kc ks → C (.returned v) u) (hcl : cells ≤ kc) (hsl : slots ≤ ks) (hrr : rt.isReference = true) (hzr : z.isRef = true) {pc : Nat} {L : Array Slot} {st : List Value} (hd : decode code pc = .ok (.areturn, 1)) (hn : narrow rt z = z) (hq : Q (some z) h) : own_Go p e below C T (mkF m pc L (z :: st)) := by
  have hsz := own_le W
  obtain ⟨⟨hx, hby, hml, hown, hnm, hrt, hlk, hZ⟩, locs, X, eT, N⟩ := W
  subst eT
  obtain ⟨fs, hr, hrun, hended, hW, hsame⟩ := X.leave (v := some z) (fun h => by rw [hrt] at h; cases h) hlk
  refine ⟨_, _, ?_, hrun, hended, hC _ _ _ N hq ⟨⟨_, rfl⟩, hW, hsame.mono hcl hsl⟩⟩
  exact retOut X hx hrt hn (Or.inr (Or.inr (Or.inr (Or.inr ⟨rfl, hrr, hzr⟩)))) (hb hby hd) hr
/-- an array by its places: n of them, place j holds f j -/
def own_A (Z : State) (h : Heap) (a : Addr) (ty : FieldType) (n : Nat) (f : Nat → Value) : Prop := ∃ cl : Cell, Arr Z h a cl ty ∧ cl.slots.size = n ∧ ∀ j, j < n → cl.slots[j]? = some (f j)
def own_upd (f : Nat → Value) (k : Nat) (v : Value) : Nat → Value := fun j => if j = k then v else f j
theorem own_A.lt {a : Addr} {ty : FieldType} {n : Nat} {f : Nat → Value} (F : own_A Z h a ty n f) : a < h.size := by obtain ⟨cl, A, -⟩ := F; exact A.lt
theorem own_A.ext {h' : Heap} {a : Addr} {ty : FieldType} {n : Nat} {f : Nat → Value} (F : own_A Z h a ty n f) (E : Ext h h') : own_A Z h' a ty n f := by obtain ⟨cl, A, r⟩ := F; exact ⟨cl, A.ext E, r⟩
theorem own_A.other {h' : Heap} {a b : Addr} {sl : Nat} {v : Value} {ty : FieldType} {n : Nat} {f : Nat → Value} (F : own_A Z h b ty n f) (q : Wr h h' a sl v) (ne : b ≠ a) : own_A Z h' b ty n f := by obtain ⟨cl, A, r⟩ := F; exact ⟨cl, A.other q ne, r⟩
theorem own_A.keep {h' : Heap} {ws : List Addr} {a : Addr} {ty : FieldType} {n : Nat} {f : Nat → Value} (F : own_A Z h a ty n f) (K : Keep h h' ws) (q : a ∉ ws) : own_A Z h' a ty n f := by obtain ⟨cl, A, r⟩ := F; exact ⟨cl, ⟨K.2.1 a cl A.1 q, A.2⟩, r⟩
theorem own_A.congr {a : Addr} {ty : FieldType} {n : Nat} {f g : Nat → Value} (F : own_A Z h a ty n f) (q : ∀ j, j < n → f j = g j) : own_A Z h a ty n g := by obtain ⟨cl, A, r1, r2⟩ := F; exact ⟨cl, A, r1, fun j hj => by rw [r2 j hj, q j hj]⟩
theorem own_nn {z : Int32} {k : Nat} (hz : z.toInt = (k : Int)) : ¬ z < 0 := by rw [Int32.lt_iff_toInt_lt]; have : (0 : Int32).toInt = 0 := rfl; omega
theorem own_cl {z : Int32} {k : Nat} (hz : z.toInt = (k : Int)) : z.toNatClampNeg = k := by
  have h := nat_of (own_nn hz)
  omega
theorem own_in {z : Int32} {k n : Nat} {cl : Cell} (hz : z.toInt = (k : Int)) (hs : cl.slots.size = n) (hk : k < n) : ¬ (z < 0 ∨ cl.slots.size ≤ z.toNatClampNeg) := by
  rintro (q | q)
  · exact own_nn hz q
  · rw [own_cl hz] at q; omega
theorem own_A.set {h' : Heap} {a : Addr} {ty : FieldType} {n k : Nat} {f : Nat → Value} {v : Value} (F : own_A Z h a ty n f) (q : Wr h h' a k v) (hk : k < n) : own_A Z h' a ty n (own_upd f k v) := by
  obtain ⟨cl, A, r1, r2⟩ := F
  refine ⟨cl.setSlot k v, Arr.same q A, by rw [sz_set]; exact r1, fun j hj => ?_⟩
  by_cases e : j = k
  · subst e; simp [own_upd, Cell.setSlot, r1, hj]
  · simp only [own_upd, if_neg e, Cell.setSlot]
    rw [Array.getElem?_setIfInBounds_ne (Ne.symm e)]; exact r2 j hj
theorem own_newarray (W : own_W p l e R s m args below meth c Z y ret code ml ws T h cells slots) {aty : ArrayType} {z : Int32} (N cap : Nat) {pc : Nat} (pc' : Nat) {L : Array Slot} {st : List Value} (hd : decode code pc = .ok (.newarray aty, 2)) (w : (Jvm.Cond.arrayClass (newarray.typeOf aty)).before a0 Z = true) (hz : z.toInt = (N : Int)) (hcap : N ≤ cap) (hb8 : cap * 8 ≤ 536870912) (hc : cells + 1 ≤ R.cells) (hl : slots + cap ≤ R.slots) (hp : pc + 2 = pc') (k : ∀ T' h' a, own_W p l e R s m args below meth c Z y ret code ml ws T' h' (cells + 1) (slots + cap) → Ext h h' → a = h.size → s.heap.size ≤ a → own_A Z h' a (newarray.typeOf aty) N (fun _ => defaultValue (newarray.typeOf aty)) → own_Go p e below C T' (mkF m pc' L (.ref a :: st))) : own_Go p e below C T (mkF m pc L (.int z :: st)) := by
  have hsz := own_le W
  obtain ⟨⟨hx, hby, hml, hown, hnm, hrt, hlk, hZ⟩, locs, X, eT, Nf⟩ := W
  subst hp
  have hcl := own_cl hz
  obtain ⟨T', h', cA, X', e', E', A', st'⟩ := newP X hx hZ w eT (g := mkF m pc L (.int z :: st)) rfl (hb hby hd) rfl (own_nn hz) (cap := cap) (by rw [hcl]; exact hcap) hb8 hc hl
  refine own_st st' (k T' h' h.size ⟨⟨hx, hby, hml, hown, hnm, hrt, hlk, hZ⟩, locs, X', e', Nf⟩ E' rfl hsz ⟨_, A', by rw [sz_new, hcl], fun j hj => ?_⟩)
  simp [newA, hcl, hj]
theorem own_baload (W : own_W p l e R s m args below meth c Z y ret code ml ws T h cells slots) {a : Addr} {z : Int32} {n : Nat} {f : Nat → Value} (k : Nat) (v : Int32) {pc : Nat} (pc' : Nat) {L : Array Slot} {st : List Value} (hd : decode code pc = .ok (.baload, 1)) (F : own_A Z h a .byte n f) (hz : z.toInt = (k : Int)) (hk : k < n) (hv : f k = (.int v)) (hp : pc + 1 = pc') (kk : own_Go p e below C T (mkF m pc' L ((.int v) :: st))) : own_Go p e below C T (mkF m pc L (.int z :: .ref a :: st)) := by
  have hsz := own_le W
  obtain ⟨⟨hx, hby, hml, hown, hnm, hrt, hlk, hZ⟩, locs, X, eT, N⟩ := W
  subst hp eT
  obtain ⟨cl, A, hs, hf⟩ := F
  have hat : cl.slots[z.toNatClampNeg]? = some (.int v) := by rw [own_cl hz, hf k hk, hv]
  exact own_st (fun t q => X.baloadBytes hx A.1 (State.isArrayOf_alike hZ.alike A.2.1) A.2.2 (own_in hz hs hk) hat (g := mkF m pc L (.int z :: .ref a :: st)) rfl rfl (hb hby hd) t q) kk
theorem own_caload (W : own_W p l e R s m args below meth c Z y ret code ml ws T h cells slots) {a : Addr} {z : Int32} {n : Nat} {f : Nat → Value} (k : Nat) (v : Int32) {pc : Nat} (pc' : Nat) {L : Array Slot} {st : List Value} (hd : decode code pc = .ok (.caload, 1)) (F : own_A Z h a .char n f) (hz : z.toInt = (k : Int)) (hk : k < n) (hv : f k = (.int v)) (hp : pc + 1 = pc') (kk : own_Go p e below C T (mkF m pc' L ((.int v) :: st))) : own_Go p e below C T (mkF m pc L (.int z :: .ref a :: st)) := by
  have hsz := own_le W
  obtain ⟨⟨hx, hby, hml, hown, hnm, hrt, hlk, hZ⟩, locs, X, eT, N⟩ := W
  subst hp eT
  obtain ⟨cl, A, hs, hf⟩ := F
  have hat : cl.slots[z.toNatClampNeg]? = some (.int v) := by rw [own_cl hz, hf k hk, hv]
  exact own_st (fun t q => X.caload hx A.1 (State.isArrayOf_alike hZ.alike A.2.1) A.2.2 (own_in hz hs hk) hat (g := mkF m pc L (.int z :: .ref a :: st)) rfl rfl (hb hby hd) t q) kk
theorem own_bastore (W : own_W p l e R s m args below meth c Z y ret code ml ws T h cells slots) {a : Addr} {z : Int32} {n : Nat} {f : Nat → Value} {xx : Int32} (k : Nat) {pc : Nat} (pc' : Nat) {L : Array Slot} {st : List Value} (hd : decode code pc = .ok (.bastore, 1)) (F : own_A Z h a .byte n f) (ha : a ∈ ws ∨ s.heap.size ≤ a) (hz : z.toInt = (k : Int)) (hk : k < n) (hp : pc + 1 = pc') (kk : ∀ T' h', own_W p l e R s m args below meth c Z y ret code ml ws T' h' cells slots → Wr h h' a k (.int xx.toInt8.toInt32) → own_A Z h' a .byte n (own_upd f k (.int xx.toInt8.toInt32)) → own_Go p e below C T' (mkF m pc' L st)) : own_Go p e below C T (mkF m pc L (.int xx :: .int z :: .ref a :: st)) := by
  have hsz := own_le W
  obtain ⟨⟨hx, hby, hml, hown, hnm, hrt, hlk, hZ⟩, locs, X, eT, N⟩ := W
  subst hp
  have F' := F
  obtain ⟨cl, A, hs, hf⟩ := F
  obtain ⟨T', h', X', e', W', st'⟩ := stB X hx hZ eT A (j := z) (own_in hz hs hk) (g := mkF m pc L (.int xx :: .int z :: .ref a :: st)) rfl rfl (hb hby hd)
  rw [own_cl hz] at W'
  exact own_st st' (kk T' h' ⟨⟨hx, hby, hml, hown, hnm, hrt, hlk, hZ⟩, _, X', e', own_Fw_snoc N ha⟩ W' (F'.set W' hk))
theorem own_castore (W : own_W p l e R s m args below meth c Z y ret code ml ws T h cells slots) {a : Addr} {z : Int32} {n : Nat} {f : Nat → Value} {xx : Int32} (k : Nat) {pc : Nat} (pc' : Nat) {L : Array Slot} {st : List Value} (hd : decode code pc = .ok (.castore, 1)) (F : own_A Z h a .char n f) (ha : a ∈ ws ∨ s.heap.size ≤ a) (hz : z.toInt = (k : Int)) (hk : k < n) (hp : pc + 1 = pc') (kk : ∀ T' h', own_W p l e R s m args below meth c Z y ret code ml ws T' h' cells slots → Wr h h' a k (.int xx.toUInt32.toUInt16.toUInt32.toInt32) → own_A Z h' a .char n (own_upd f k (.int xx.toUInt32.toUInt16.toUInt32.toInt32)) → own_Go p e below C T' (mkF m pc' L st)) : own_Go p e below C T (mkF m pc L (.int xx :: .int z :: .ref a :: st)) := by
  have hsz := own_le W
  obtain ⟨⟨hx, hby, hml, hown, hnm, hrt, hlk, hZ⟩, locs, X, eT, N⟩ := W
  subst hp
  have F' := F
  obtain ⟨cl, A, hs, hf⟩ := F
  obtain ⟨T', h', X', e', W', st'⟩ := stC X hx hZ eT A (j := z) (own_in hz hs hk) (g := mkF m pc L (.int xx :: .int z :: .ref a :: st)) rfl rfl (hb hby hd)
  rw [own_cl hz] at W'
  exact own_st st' (kk T' h' ⟨⟨hx, hby, hml, hown, hnm, hrt, hlk, hZ⟩, _, X', e', own_Fw_snoc N ha⟩ W' (F'.set W' hk))
theorem own_arraylength (W : own_W p l e R s m args below meth c Z y ret code ml ws T h cells slots) {a : Addr} {ty : FieldType} {n : Nat} {f : Nat → Value} (z : Int32) {pc : Nat} (pc' : Nat) {L : Array Slot} {st : List Value} (hd : decode code pc = .ok (.arraylength, 1)) (F : own_A Z h a ty n f) (hz : n.toInt32 = z) (hp : pc + 1 = pc') (k : own_Go p e below C T (mkF m pc' L (.int z :: st))) : own_Go p e below C T (mkF m pc L (.ref a :: st)) := by
  have hsz := own_le W
  obtain ⟨⟨hx, hby, hml, hown, hnm, hrt, hlk, hZ⟩, locs, X, eT, N⟩ := W
  subst hp eT
  obtain ⟨cl, A, hs, hf⟩ := F
  subst hs hz
  exact own_st (fun t q => X.arraylength hx A.1 (State.isArrayOf_alike hZ.alike A.2.1) (g := mkF m pc L (.ref a :: st)) rfl rfl (hb hby hd) t q) k
/-- an array of references to objects of C (and of what may be stored there) -/
def own_R (Z : State) (h : Heap) (a : Addr) (C0 : String) (n : Nat) (f : Nat → Value) : Prop := ∃ cl : Cell, Arr Z h a cl (.object C0) ∧ Ovr Z cl.cls C0 ∧ cl.slots.size = n ∧ ∀ j, j < n → cl.slots[j]? = some (f j)
theorem own_R.lt {a : Addr} {C0 : String} {n : Nat} {f : Nat → Value} (F : own_R Z h a C0 n f) : a < h.size := by obtain ⟨cl, A, -⟩ := F; exact A.lt
theorem own_R.ext {h' : Heap} {a : Addr} {C0 : String} {n : Nat} {f : Nat → Value} (F : own_R Z h a C0 n f) (E : Ext h h') : own_R Z h' a C0 n f := by obtain ⟨cl, A, r⟩ := F; exact ⟨cl, A.ext E, r⟩
theorem own_R.other {h' : Heap} {a b : Addr} {sl : Nat} {v : Value} {C0 : String} {n : Nat} {f : Nat → Value} (F : own_R Z h b C0 n f) (q : Wr h h' a sl v) (ne : b ≠ a) : own_R Z h' b C0 n f := by obtain ⟨cl, A, r⟩ := F; exact ⟨cl, A.other q ne, r⟩
theorem own_R.keep {h' : Heap} {ws : List Addr} {a : Addr} {C0 : String} {n : Nat} {f : Nat → Value} (F : own_R Z h a C0 n f) (K : Keep h h' ws) (q : a ∉ ws) : own_R Z h' a C0 n f := by obtain ⟨cl, A, r⟩ := F; exact ⟨cl, ⟨K.2.1 a cl A.1 q, A.2⟩, r⟩
theorem own_R.set {h' : Heap} {a : Addr} {C0 : String} {n k : Nat} {f : Nat → Value} {v : Value} (F : own_R Z h a C0 n f) (q : Wr h h' a k v) (hk : k < n) : own_R Z h' a C0 n (own_upd f k v) := by
  obtain ⟨cl, A, O, r1, r2⟩ := F
  refine ⟨cl.setSlot k v, Arr.same q A, O, by rw [sz_set]; exact r1, fun j hj => ?_⟩
  by_cases e : j = k
  · subst e; simp [own_upd, Cell.setSlot, r1, hj]
  · simp only [own_upd, if_neg e, Cell.setSlot]
    rw [Array.getElem?_setIfInBounds_ne (Ne.symm e)]; exact r2 j hj
theorem own_gd {n k : Nat} {f : Nat → Value} {d : Value} (hk : k < n) : ((List.range n).map f).getD k d = f k := by simp [List.getD, hk]
theorem own_A.arv {a : Addr} {ty : FieldType} {n : Nat} {f : Nat → Value} (F : own_A Z h a ty n f) (hn : n < 2147483648) (hf : ∀ j, j < n → fits ty (f j) = true) (d : Value) : ∃ k, Arv Z h a k ty n.toInt32 ((List.range n).map f) d := by
  obtain ⟨cl, A, r1, r2⟩ := F
  have hz : n.toInt32.toInt = (n : Int) := len_toInt hn
  refine ⟨cl.cls, cl, A, rfl, by rw [r1, own_cl hz], own_nn hz, fun k hk => ?_, fun i hi => ?_⟩
  · rw [r1] at hk
    rw [r2 k hk, own_gd hk]
  · rw [r1] at hi
    rw [own_gd hi]; exact hf i hi
theorem own_A.of_arv {a : Addr} {k : ClassId} {ty : FieldType} {z : Int32} {n : Nat} {vs : List Value} {d : Value} (F : Arv Z h a k ty z vs d) (hz : z.toInt = (n : Int)) : own_A Z h a ty n (fun j => vs.getD j d) := by
  obtain ⟨cl, A, -, r2, -, H, -⟩ := F
  rw [own_cl hz] at r2
  exact ⟨cl, A, r2, fun j hj => H j (by rw [r2]; exact hj)⟩
theorem own_new (W : own_W p l e R s m args below meth c Z y ret code ml ws T h cells slots) {C0 : String} {i nn : Nat} {pc : Nat} (pc' : Nat) {L : Array Slot} {st : List Value} (hd : decode code pc = .ok (.new i, 3)) (w : (Jvm.Cond.classLink y.cls i C0).before a0 Z = true) (wi : (Jvm.Cond.instantiable C0 nn).before a0 Z = true) (wz : (Jvm.Cond.initialized C0).before a0 Z = true) (hc : cells + 1 ≤ R.cells) (hl : slots + nn ≤ R.slots) (hp : pc + 3 = pc') (k : ∀ T' h' a, own_W p l e R s m args below meth c Z y ret code ml ws T' h' (cells + 1) (slots + nn) → Ext h h' → a = h.size → s.heap.size ≤ a → Exa Z h' a C0 → (∀ {O nm d : String} {ty : FieldType}, Laid Z a0 C0 O nm d → parseFieldDescriptor d = some ty → Fld Z h' a O nm d (defaultValue ty)) → own_Go p e below C T' (mkF m pc' L (.ref a :: st))) : own_Go p e below C T (mkF m pc L st) := by
  have hsz := own_le W
  obtain ⟨⟨hx, hby, hml, hown, hnm, hrt, hlk, hZ⟩, locs, X, eT, N⟩ := W
  subst hp
  obtain ⟨T', h', X', e', E', A', D', -, st'⟩ := newO X hx hZ hown w wi wz eT (g := mkF m pc L st) rfl (hb hby hd) hc hl
  exact own_st st' (k T' h' h.size ⟨⟨hx, hby, hml, hown, hnm, hrt, hlk, hZ⟩, locs, X', e', N⟩ E' rfl hsz A' D')
theorem own_getfield (W : own_W p l e R s m args below meth c Z y ret code ml ws T h cells slots) {O n d : String} {i : Nat} {a : Addr} {v : Value} {pc : Nat} (pc' : Nat) {L : Array Slot} {st : List Value} (hd : decode code pc = .ok (.getfield i, 3)) (w : (Jvm.Cond.fieldLink y.cls i O n d).before a0 Z = true) (F : Fld Z h a O n d v) (hp : pc + 3 = pc') (k : ∀ T', own_W p l e R s m args below meth c Z y ret code ml ws T' h cells slots → own_Go p e below C T' (mkF m pc' L (v :: st))) : own_Go p e below C T (mkF m pc L (.ref a :: st)) := by
  have hsz := own_le W
  obtain ⟨⟨hx, hby, hml, hown, hnm, hrt, hlk, hZ⟩, locs, X, eT, N⟩ := W
  subst hp
  obtain ⟨T', X', e', st'⟩ := getF X hx hZ hown (host := "") (Or.inl w) Via.refl eT F (g := mkF m pc L (.ref a :: st)) rfl rfl (hb hby hd)
  exact own_st st' (k T' ⟨⟨hx, hby, hml, hown, hnm, hrt, hlk, hZ⟩, locs, X', e', N⟩)
theorem own_getstatic (W : own_W p l e R s m args below meth c Z y ret code ml ws T h cells slots) {O n d : String} {i : Nat} {v : Value} {pc : Nat} (pc' : Nat) {L : Array Slot} {st : List Value} (hd : decode code pc = .ok (.getstatic i, 3)) (w : (Jvm.Cond.fieldLink y.cls i O n d).before a0 Z = true) (F : Sta Z h O n d v) (hp : pc + 3 = pc') (k : ∀ T', own_W p l e R s m args below meth c Z y ret code ml ws T' h cells slots → own_Go p e below C T' (mkF m pc' L (v :: st))) : own_Go p e below C T (mkF m pc L st) := by
  have hsz := own_le W
  obtain ⟨⟨hx, hby, hml, hown, hnm, hrt, hlk, hZ⟩, locs, X, eT, N⟩ := W
  subst hp
  obtain ⟨T', X', e', st'⟩ := getS X hx hZ hown (host := "") w Via.refl eT F (g := mkF m pc L st) rfl (hb hby hd)
  exact own_st st' (k T' ⟨⟨hx, hby, hml, hown, hnm, hrt, hlk, hZ⟩, locs, X', e', N⟩)
theorem own_putfield (W : own_W p l e R s m args below meth c Z y ret code ml ws T h cells slots) {O n d C0 : String} {i kk : Nat} {ty : FieldType} {a : Addr} {v old : Value} (v' : Value) {pc : Nat} (pc' : Nat) {L : Array Slot} {st : List Value} (hd : decode code pc = .ok (.putfield i, 3)) (w : (Jvm.Cond.fieldLink y.cls i O n d).before a0 Z = true) (F : Fld Z h a O n d old) (E : Exa Z h a C0) (La : (Jvm.Cond.lays C0 O n d).before a0 Z = true ∨ ((Jvm.Cond.laysFinal C0 O n d).before a0 Z = true ∧ y.cls = O ∧ y.name = "<init>")) (wi : (Jvm.Cond.instantiable C0 kk).before a0 Z = true) (ha : a ∈ ws ∨ s.heap.size ≤ a) (hty : parseFieldDescriptor d = some ty) (hn : narrow ty v = v') (hf : fits ty v' = true) (hp : pc + 3 = pc') (k : ∀ T' h', own_W p l e R s m args below meth c Z y ret code ml ws T' h' cells slots → Wr h h' a (Jvm.RoadKit.slotOf Z O n d) v' → Fld Z h' a O n d v' → own_Go p e below C T' (mkF m pc' L st)) : own_Go p e below C T (mkF m pc L (v :: .ref a :: st)) := by
  have hsz := own_le W
  obtain ⟨⟨hx, hby, hml, hown, hnm, hrt, hlk, hZ⟩, locs, X, eT, N⟩ := W
  subst hp
  obtain ⟨T', h', X', e', W', st'⟩ := putFN X hx hZ hown w Via.refl eT F E (by rw [hnm]; exact La) wi hty hn hf (g := mkF m pc L (v :: .ref a :: st)) rfl rfl (hb hby hd)
  exact own_st st' (k T' h' ⟨⟨hx, hby, hml, hown, hnm, hrt, hlk, hZ⟩, _, X', e', own_Fw_snoc N ha⟩ W' (F.same W'))
theorem own_callS (W : own_W p l e R s m args below meth c Z y ret code ml ws T h cells slots) {i : Nat} {yc : MethodName} {bytes : ByteArray} {maxL : Nat} {rt : Option FieldType} {rm : Room} {Q : Option Value → Heap → Prop} {ps : List FieldType} {rr : Option FieldType} {wc' : List Addr} (A : List Value) (wt : Nat) {pc : Nat} (pc' : Nat) {L : Array Slot} {st : List Value} (hd : decode code pc = .ok (.invokestatic i, 3)) (wl : (Jvm.Cond.methodLink y.cls i yc).before a0 Z = true) (wst : (Jvm.Cond.static yc).before a0 Z = true) (wz : (Jvm.Cond.initialized yc.cls).before a0 Z = true) (wc : (Jvm.Cond.code yc bytes maxL rt).before a0 Z = true) (hy : yc.cls ≠ "java/lang/invoke/MethodHandle" ∧ yc.cls ≠ "java/lang/invoke/VarHandle") (hM : own_M l Z [] yc bytes maxL rt rm wc' A.toArray h Q) (hws : ∀ b ∈ wc', b ∈ ws ∨ s.heap.size ≤ b) (hL : L.size = ml) (hds : parseMethodDescriptor yc.desc = some ⟨ps, rr⟩) (hA : A.length = ps.length) (hwt : (st.map fun v => v.category).sum ≤ wt) (hf : rm.frames + 1 ≤ R.frames) (hlo : wt + (maxL + 11) + rm.locals ≤ R.locals) (hc : cells + rm.cells ≤ R.cells) (hs : slots + rm.slots ≤ R.slots) (hp : pc + 3 = pc') (k : ∀ T' h' v, own_W p l e R s m args below meth c Z y ret code ml ws T' h' (cells + rm.cells) (slots + rm.slots) → Keep h h' wc' → (rm.cells = 0 → wc' = [] → h' = h) → Q v h' → own_Go p e below C T' (mkF m pc' L (v.toList ++ st))) : own_Go p e below C T (mkF m pc L (A.reverse ++ st)) := by
  have hsz := own_le W
  obtain ⟨⟨hx, hby, hml, hown, hnm, hrt, hlk, hZ⟩, locs, X, eT, N⟩ := W
  subst hp
  obtain ⟨_, _, ⟨T', L', k', n'⟩, -, X', ⟨Lc', hQ', l', y', z'⟩, st'⟩ := Jvm.LawKit.callS X hx (y := yc) hown (mvT hZ wl) (mvT hZ wst) (mvT hZ wz) (mvT hZ wc) hy (backOf (W := wt) hM hZ wc wz hf hlo) (g := mkF m pc L (A.reverse ++ st)) rfl (by rw [hml]; exact hL) (argsL := A) (rest := st) (lenOf hds hA) rfl (by show 2 * 0 + _ ≤ _; omega) (hb hby hd) (fun _ _ => ⟨rfl, eT, hc, hs⟩)
  dsimp only [Pt.U, Pt.locs, Pt.cells, Pt.slots] at X' l' y' z' st' hQ'
  subst l' y' z'
  exact own_st st' (k T' _ _ ⟨⟨hx, hby, hml, hown, hnm, hrt, hlk, hZ⟩, _, X', rfl, own_Fw_app N hQ'.1 hws hsz⟩ hQ'.2.1 hQ'.2.2.1 hQ'.2.2.2)
theorem own_callN (W : own_W p l e R s m args below meth c Z y ret code ml ws T h cells slots) {i : Nat} {yc : MethodName} {bytes : ByteArray} {maxL : Nat} {rm : Room} {Q : Option Value → Heap → Prop} {ps : List FieldType} {rr : Option FieldType} {a : Addr} {wc' : List Addr} (A : List Value) (wt : Nat) {pc : Nat} (pc' : Nat) {L : Array Slot} {st : List Value} (hd : decode code pc = .ok (.invokespecial i, 3)) (hi : yc.name = "<init>") (wl : (Jvm.Cond.methodLink y.cls i yc).before a0 Z = true) (wst : (Jvm.Cond.instanceMethod yc).before a0 Z = true) (wz : (Jvm.Cond.initialized yc.cls).before a0 Z = true) (wc : (Jvm.Cond.code yc bytes maxL none).before a0 Z = true) (hy : yc.cls ≠ "java/lang/invoke/MethodHandle" ∧ yc.cls ≠ "java/lang/invoke/VarHandle") (hM : own_M l Z [] yc bytes maxL none rm wc' (.ref a :: A).toArray h Q) (hws : ∀ b ∈ wc', b ∈ ws ∨ s.heap.size ≤ b) (hL : L.size = ml) (hds : parseMethodDescriptor yc.desc = some ⟨ps, rr⟩) (hA : A.length = ps.length) (hwt : (st.map fun v => v.category).sum ≤ wt) (hf : rm.frames + 1 ≤ R.frames) (hlo : wt + (maxL + 11) + rm.locals ≤ R.locals) (hc : cells + rm.cells ≤ R.cells) (hs : slots + rm.slots ≤ R.slots) (hp : pc + 3 = pc') (k : ∀ T' h' v, own_W p l e R s m args below meth c Z y ret code ml ws T' h' (cells + rm.cells) (slots + rm.slots) → Keep h h' wc' → (rm.cells = 0 → wc' = [] → h' = h) → Q v h' → own_Go p e below C T' (mkF m pc' L (v.toList ++ st))) : own_Go p e below C T (mkF m pc L (A.reverse ++ .ref a :: st)) := by
  have hsz := own_le W
  obtain ⟨⟨hx, hby, hml, hown, hnm, hrt, hlk, hZ⟩, locs, X, eT, N⟩ := W
  subst hp
  obtain ⟨_, _, ⟨T', L', k', n'⟩, -, X', ⟨Lc', hQ', l', y', z'⟩, st'⟩ := X.specialBack hx (y := yc) hi hown (mvT hZ wl) (mvT hZ wst) (mvT hZ wc) hy (backOf (W := wt) hM hZ wc wz hf hlo) (g := mkF m pc L (A.reverse ++ .ref a :: st)) rfl (by rw [hml]; exact hL) (Steps.refl _) (a := a) (argsL := A) (rest := st) (lenOf hds hA) rfl (by show 2 * 0 + _ ≤ _; omega) (hb hby hd) (fun _ _ => ⟨rfl, eT, hc, hs⟩)
  dsimp only [Pt.U, Pt.locs, Pt.cells, Pt.slots] at X' l' y' z' st' hQ'
  subst l' y' z'
  exact own_tr st' (k T' _ _ ⟨⟨hx, hby, hml, hown, hnm, hrt, hlk, hZ⟩, _, X', rfl, own_Fw_app N hQ'.1 hws hsz⟩ hQ'.2.1 hQ'.2.2.1 hQ'.2.2.2)
theorem own_callV (W : own_W p l e R s m args below meth c Z y ret code ml ws T h cells slots) {C0 : String} {i : Nat} {yc zc : MethodName} {bytes : ByteArray} {maxL : Nat} {rt : Option FieldType} {rm : Room} {Q : Option Value → Heap → Prop} {ps : List FieldType} {rr : Option FieldType} {a : Addr} {wc' : List Addr} (A : List Value) (wt : Nat) {pc : Nat} (pc' : Nat) {L : Array Slot} {st : List Value} (hd : decode code pc = .ok (.invokevirtual i, 3)) (wl : (Jvm.Cond.methodLink y.cls i yc).before a0 Z = true) (wd : (Jvm.Cond.declares yc).before a0 Z = true) (nf : NotFace s yc) (wse : (Jvm.Cond.selects C0 yc zc).before a0 Z = true) (wst : (Jvm.Cond.instanceMethod zc).before a0 Z = true) (wz : (Jvm.Cond.initialized zc.cls).before a0 Z = true) (wc : (Jvm.Cond.code zc bytes maxL rt).before a0 Z = true) (hy : yc.cls ≠ "java/lang/invoke/MethodHandle" ∧ yc.cls ≠ "java/lang/invoke/VarHandle") (E : Exa Z h a C0) (hM : own_M l Z [] zc bytes maxL rt rm wc' (.ref a :: A).toArray h Q) (hws : ∀ b ∈ wc', b ∈ ws ∨ s.heap.size ≤ b) (hL : L.size = ml) (hds : parseMethodDescriptor yc.desc = some ⟨ps, rr⟩) (hA : A.length = ps.length) (hwt : (st.map fun v => v.category).sum ≤ wt) (hf : rm.frames + 1 ≤ R.frames) (hlo : wt + (maxL + 11) + rm.locals ≤ R.locals) (hc : cells + rm.cells ≤ R.cells) (hs : slots + rm.slots ≤ R.slots) (hp : pc + 3 = pc') (k : ∀ T' h' v, own_W p l e R s m args below meth c Z y ret code ml ws T' h' (cells + rm.cells) (slots + rm.slots) → Keep h h' wc' → (rm.cells = 0 → wc' = [] → h' = h) → Q v h' → own_Go p e below C T' (mkF m pc' L (v.toList ++ st))) : own_Go p e below C T (mkF m pc L (A.reverse ++ .ref a :: st)) := by
  have hsz := own_le W
  obtain ⟨⟨hx, hby, hml, hown, hnm, hrt, hlk, hZ⟩, locs, X, eT, N⟩ := W
  subst hp
  obtain ⟨cq, kq, qa, qb, qc⟩ := isOf hZ eT E
  obtain ⟨_, _, ⟨T', L', k', n'⟩, -, X', ⟨Lc', hQ', l', y', z'⟩, st'⟩ := X.virtualBack hx (y := yc) (z := zc) hown (mvT hZ wl) (mvT hZ wd) nf (mvT hZ wse) (mvT hZ wst) hy (backOf (W := wt) hM hZ wc wz hf hlo) qa qc (g := mkF m pc L (A.reverse ++ .ref a :: st)) rfl (by rw [hml]; exact hL) (Steps.refl _) (argsL := A) (rest := st) (lenOf hds hA) rfl (by show 2 * 0 + _ ≤ _; omega) (hb hby hd) (fun _ _ => ⟨rfl, eT, hc, hs⟩)
  dsimp only [Pt.U, Pt.locs, Pt.cells, Pt.slots] at X' l' y' z' st' hQ'
  subst l' y' z'
  exact own_tr st' (k T' _ _ ⟨⟨hx, hby, hml, hown, hnm, hrt, hlk, hZ⟩, _, X', rfl, own_Fw_app N hQ'.1 hws hsz⟩ hQ'.2.1 hQ'.2.2.1 hQ'.2.2.2)
theorem own_nf (W : own_W p l e R s m args below meth c Z y ret code ml ws T h cells slots) {C0 : String} {yc : MethodName} (wse : (Jvm.Cond.selects C0 yc yc).before a0 Z = true) : NotFace s yc := by
  have hsz := own_le W
  obtain ⟨⟨hx, hby, hml, hown, hnm, hrt, hlk, hZ⟩, locs, X, eT, N⟩ := W
  exact notFace_of_selects (args := #[]) (mvT hZ wse)
theorem own_initO (W : own_W p l e R s m args below meth c Z y ret code ml ws T h cells slots) {i : Nat} {a : Addr} (wt : Nat) {pc : Nat} (pc' : Nat) {L : Array Slot} {st : List Value} (hd : decode code pc = .ok (.invokespecial i, 3)) (w1 : (Jvm.Cond.methodLink y.cls i Lib.objectInit).before a0 Z = true) (w2 : (Jvm.Cond.instanceMethod Lib.objectInit).before a0 Z = true) (w3 : (Jvm.Cond.code Lib.objectInit ⟨#[0xb1]⟩ 1 none).before a0 Z = true) (hL : L.size = ml) (hwt : (st.map fun v => v.category).sum ≤ wt) (hf : 1 ≤ R.frames) (hlo : wt + 12 ≤ R.locals) (hp : pc + 3 = pc') (k : ∀ T', own_W p l e R s m args below meth c Z y ret code ml ws T' h cells slots → own_Go p e below C T' (mkF m pc' L st)) : own_Go p e below C T (mkF m pc L (.ref a :: st)) := by
  have hsz := own_le W
  obtain ⟨⟨hx, hby, hml, hown, hnm, hrt, hlk, hZ⟩, locs, X, eT, N⟩ := W
  subst hp
  obtain ⟨T', X', e', st'⟩ := initO X hx hZ hown w1 w2 w3 eT (g := mkF m pc L (.ref a :: st)) rfl (by rw [hml]; exact hL) rfl (hb hby hd) hf (W := wt) (by show 2 * 0 + _ ≤ _; omega) hlo
  exact own_st st' (k T' ⟨⟨hx, hby, hml, hown, hnm, hrt, hlk, hZ⟩, locs, X', e', N⟩)
end OwnKit

theorem wd0 {a0 : Array Value} {Z : State} (hw : ∀ d ∈ tables_1, d.before a0 Z = true) : (Jvm.Cond.stringLink "com/example/aeneas/aeneas/SideWithLabelPinLaw" (7 : Nat) "client").before a0 Z = true := hw _ (List.mem_of_getElem? (i := 0) rfl)
theorem wd1 {a0 : Array Value} {Z : State} (hw : ∀ d ∈ tables_1, d.before a0 Z = true) : (Jvm.Cond.initialized "java/lang/String").before a0 Z = true := hw _ (List.mem_of_getElem? (i := 1) rfl)
theorem wd2 {a0 : Array Value} {Z : State} (hw : ∀ d ∈ tables_1, d.before a0 Z = true) : (Jvm.Cond.instantiable "java/lang/String" (4 : Nat)).before a0 Z = true := hw _ (List.mem_of_getElem? (i := 2) rfl)
theorem wd3 {a0 : Array Value} {Z : State} (hw : ∀ d ∈ tables_1, d.before a0 Z = true) : (Jvm.Cond.arrayClass Jvm.ClassFile.FieldType.byte).before a0 Z = true := hw _ (List.mem_of_getElem? (i := 3) rfl)
theorem wd4 {a0 : Array Value} {Z : State} (hw : ∀ d ∈ tables_1, d.before a0 Z = true) : (Jvm.Cond.laysFinal "java/lang/String" "java/lang/String" "value" "[B").before a0 Z = true := hw _ (List.mem_of_getElem? (i := 4) rfl)
theorem wd5 {a0 : Array Value} {Z : State} (hw : ∀ d ∈ tables_1, d.before a0 Z = true) : (Jvm.Cond.laysFinal "java/lang/String" "java/lang/String" "coder" "B").before a0 Z = true := hw _ (List.mem_of_getElem? (i := 5) rfl)
theorem wd8 {a0 : Array Value} {Z : State} (hw : ∀ d ∈ tables_1, d.before a0 Z = true) : (Jvm.Cond.methodLink "com/example/aeneas/aeneas/SideWithLabelPinLaw" (13 : Nat) ({ cls := "com/example/aeneas/aeneas/SideWithLabelPinLaw", name := "make", desc := "(ILjava/lang/String;IC)Ljava/lang/String;" } : Jvm.MethodName)).before a0 Z = true := hw _ (List.mem_of_getElem? (i := 8) rfl)
theorem wd9 {a0 : Array Value} {Z : State} (hw : ∀ d ∈ tables_1, d.before a0 Z = true) : (Jvm.Cond.static ({ cls := "com/example/aeneas/aeneas/SideWithLabelPinLaw", name := "make", desc := "(ILjava/lang/String;IC)Ljava/lang/String;" } : Jvm.MethodName)).before a0 Z = true := hw _ (List.mem_of_getElem? (i := 9) rfl)
theorem wd10 {a0 : Array Value} {Z : State} (hw : ∀ d ∈ tables_1, d.before a0 Z = true) : (Jvm.Cond.initialized "com/example/aeneas/aeneas/SideWithLabelPinLaw").before a0 Z = true := hw _ (List.mem_of_getElem? (i := 10) rfl)
theorem wd11 {a0 : Array Value} {Z : State} (hw : ∀ d ∈ tables_1, d.before a0 Z = true) : (Jvm.Cond.code ({ cls := "com/example/aeneas/aeneas/SideWithLabelPinLaw", name := "make", desc := "(ILjava/lang/String;IC)Ljava/lang/String;" } : Jvm.MethodName) method_4_code (4 : Nat) (Option.some (Jvm.ClassFile.FieldType.object "java/lang/String"))).before a0 Z = true := hw _ (List.mem_of_getElem? (i := 11) rfl)
theorem wd12 {a0 : Array Value} {Z : State} (hw : ∀ d ∈ tables_1, d.before a0 Z = true) : (Jvm.Cond.classLink "com/example/aeneas/aeneas/SideWithLabelPinLaw" (26 : Nat) "java/lang/String").before a0 Z = true := hw _ (List.mem_of_getElem? (i := 12) rfl)
theorem wd13 {a0 : Array Value} {Z : State} (hw : ∀ d ∈ tables_1, d.before a0 Z = true) : (Jvm.Cond.arrayClass Jvm.ClassFile.FieldType.char).before a0 Z = true := hw _ (List.mem_of_getElem? (i := 13) rfl)
theorem wd14 {a0 : Array Value} {Z : State} (hw : ∀ d ∈ tables_1, d.before a0 Z = true) : (Jvm.Cond.methodLink "com/example/aeneas/aeneas/SideWithLabelPinLaw" (52 : Nat) ({ cls := "com/example/aeneas/aeneas/SideWithLabelPinLaw", name := "at", desc := "(Ljava/lang/String;IIC)C" } : Jvm.MethodName)).before a0 Z = true := hw _ (List.mem_of_getElem? (i := 14) rfl)
theorem wd15 {a0 : Array Value} {Z : State} (hw : ∀ d ∈ tables_1, d.before a0 Z = true) : (Jvm.Cond.static ({ cls := "com/example/aeneas/aeneas/SideWithLabelPinLaw", name := "at", desc := "(Ljava/lang/String;IIC)C" } : Jvm.MethodName)).before a0 Z = true := hw _ (List.mem_of_getElem? (i := 15) rfl)
theorem wd16 {a0 : Array Value} {Z : State} (hw : ∀ d ∈ tables_1, d.before a0 Z = true) : (Jvm.Cond.code ({ cls := "com/example/aeneas/aeneas/SideWithLabelPinLaw", name := "at", desc := "(Ljava/lang/String;IIC)C" } : Jvm.MethodName) method_3_code (4 : Nat) (Option.some Jvm.ClassFile.FieldType.char)).before a0 Z = true := hw _ (List.mem_of_getElem? (i := 16) rfl)
theorem wd17 {a0 : Array Value} {Z : State} (hw : ∀ d ∈ tables_1, d.before a0 Z = true) : (Jvm.Cond.methodLink "com/example/aeneas/aeneas/SideWithLabelPinLaw" (41 : Nat) ({ cls := "java/lang/String", name := "length", desc := "()I" } : Jvm.MethodName)).before a0 Z = true := hw _ (List.mem_of_getElem? (i := 17) rfl)
theorem wd18 {a0 : Array Value} {Z : State} (hw : ∀ d ∈ tables_1, d.before a0 Z = true) : (Jvm.Cond.declares ({ cls := "java/lang/String", name := "length", desc := "()I" } : Jvm.MethodName)).before a0 Z = true := hw _ (List.mem_of_getElem? (i := 18) rfl)
theorem wd19 {a0 : Array Value} {Z : State} (hw : ∀ d ∈ tables_1, d.before a0 Z = true) : (Jvm.Cond.instanceMethod ({ cls := "java/lang/String", name := "length", desc := "()I" } : Jvm.MethodName)).before a0 Z = true := hw _ (List.mem_of_getElem? (i := 19) rfl)
theorem wd20 {a0 : Array Value} {Z : State} (hw : ∀ d ∈ tables_1, d.before a0 Z = true) : (Jvm.Cond.selects "java/lang/String" ({ cls := "java/lang/String", name := "length", desc := "()I" } : Jvm.MethodName) ({ cls := "java/lang/String", name := "length", desc := "()I" } : Jvm.MethodName)).before a0 Z = true := hw _ (List.mem_of_getElem? (i := 20) rfl)
theorem wd21 {a0 : Array Value} {Z : State} (hw : ∀ d ∈ tables_1, d.before a0 Z = true) : (Jvm.Cond.code ({ cls := "java/lang/String", name := "length", desc := "()I" } : Jvm.MethodName) jdk_42_method_54_code (1 : Nat) (Option.some Jvm.ClassFile.FieldType.int)).before a0 Z = true := hw _ (List.mem_of_getElem? (i := 21) rfl)
theorem wd22 {a0 : Array Value} {Z : State} (hw : ∀ d ∈ tables_1, d.before a0 Z = true) : (Jvm.Cond.fieldLink "java/lang/String" (9 : Nat) "java/lang/String" "value" "[B").before a0 Z = true := hw _ (List.mem_of_getElem? (i := 22) rfl)
theorem wd23 {a0 : Array Value} {Z : State} (hw : ∀ d ∈ tables_1, d.before a0 Z = true) : (Jvm.Cond.methodLink "java/lang/String" (335 : Nat) ({ cls := "java/lang/String", name := "coder", desc := "()B" } : Jvm.MethodName)).before a0 Z = true := hw _ (List.mem_of_getElem? (i := 23) rfl)
theorem wd24 {a0 : Array Value} {Z : State} (hw : ∀ d ∈ tables_1, d.before a0 Z = true) : (Jvm.Cond.declares ({ cls := "java/lang/String", name := "coder", desc := "()B" } : Jvm.MethodName)).before a0 Z = true := hw _ (List.mem_of_getElem? (i := 24) rfl)
theorem wd25 {a0 : Array Value} {Z : State} (hw : ∀ d ∈ tables_1, d.before a0 Z = true) : (Jvm.Cond.instanceMethod ({ cls := "java/lang/String", name := "coder", desc := "()B" } : Jvm.MethodName)).before a0 Z = true := hw _ (List.mem_of_getElem? (i := 25) rfl)
theorem wd26 {a0 : Array Value} {Z : State} (hw : ∀ d ∈ tables_1, d.before a0 Z = true) : (Jvm.Cond.selects "java/lang/String" ({ cls := "java/lang/String", name := "coder", desc := "()B" } : Jvm.MethodName) ({ cls := "java/lang/String", name := "coder", desc := "()B" } : Jvm.MethodName)).before a0 Z = true := hw _ (List.mem_of_getElem? (i := 26) rfl)
theorem wd27 {a0 : Array Value} {Z : State} (hw : ∀ d ∈ tables_1, d.before a0 Z = true) : (Jvm.Cond.code ({ cls := "java/lang/String", name := "coder", desc := "()B" } : Jvm.MethodName) jdk_42_method_152_code (1 : Nat) (Option.some Jvm.ClassFile.FieldType.byte)).before a0 Z = true := hw _ (List.mem_of_getElem? (i := 27) rfl)
theorem wd28 {a0 : Array Value} {Z : State} (hw : ∀ d ∈ tables_1, d.before a0 Z = true) : (Jvm.Cond.fieldLink "java/lang/String" (38 : Nat) "java/lang/String" "COMPACT_STRINGS" "Z").before a0 Z = true := hw _ (List.mem_of_getElem? (i := 28) rfl)
theorem wd29 {a0 : Array Value} {Z : State} (hw : ∀ d ∈ tables_1, d.before a0 Z = true) : (Jvm.Cond.fieldLink "java/lang/String" (15 : Nat) "java/lang/String" "coder" "B").before a0 Z = true := hw _ (List.mem_of_getElem? (i := 29) rfl)
theorem wd30 {a0 : Array Value} {Z : State} (hw : ∀ d ∈ tables_1, d.before a0 Z = true) : (Jvm.Cond.methodLink "com/example/aeneas/aeneas/SideWithLabelPinLaw" (45 : Nat) ({ cls := "java/lang/String", name := "charAt", desc := "(I)C" } : Jvm.MethodName)).before a0 Z = true := hw _ (List.mem_of_getElem? (i := 30) rfl)
theorem wd31 {a0 : Array Value} {Z : State} (hw : ∀ d ∈ tables_1, d.before a0 Z = true) : (Jvm.Cond.declares ({ cls := "java/lang/String", name := "charAt", desc := "(I)C" } : Jvm.MethodName)).before a0 Z = true := hw _ (List.mem_of_getElem? (i := 31) rfl)
theorem wd32 {a0 : Array Value} {Z : State} (hw : ∀ d ∈ tables_1, d.before a0 Z = true) : (Jvm.Cond.instanceMethod ({ cls := "java/lang/String", name := "charAt", desc := "(I)C" } : Jvm.MethodName)).before a0 Z = true := hw _ (List.mem_of_getElem? (i := 32) rfl)
theorem wd33 {a0 : Array Value} {Z : State} (hw : ∀ d ∈ tables_1, d.before a0 Z = true) : (Jvm.Cond.selects "java/lang/String" ({ cls := "java/lang/String", name := "charAt", desc := "(I)C" } : Jvm.MethodName) ({ cls := "java/lang/String", name := "charAt", desc := "(I)C" } : Jvm.MethodName)).before a0 Z = true := hw _ (List.mem_of_getElem? (i := 33) rfl)
theorem wd34 {a0 : Array Value} {Z : State} (hw : ∀ d ∈ tables_1, d.before a0 Z = true) : (Jvm.Cond.code ({ cls := "java/lang/String", name := "charAt", desc := "(I)C" } : Jvm.MethodName) jdk_42_method_56_code (2 : Nat) (Option.some Jvm.ClassFile.FieldType.char)).before a0 Z = true := hw _ (List.mem_of_getElem? (i := 34) rfl)
theorem wd35 {a0 : Array Value} {Z : State} (hw : ∀ d ∈ tables_1, d.before a0 Z = true) : (Jvm.Cond.methodLink "java/lang/String" (492 : Nat) ({ cls := "java/lang/String", name := "isLatin1", desc := "()Z" } : Jvm.MethodName)).before a0 Z = true := hw _ (List.mem_of_getElem? (i := 35) rfl)
theorem wd36 {a0 : Array Value} {Z : State} (hw : ∀ d ∈ tables_1, d.before a0 Z = true) : (Jvm.Cond.declares ({ cls := "java/lang/String", name := "isLatin1", desc := "()Z" } : Jvm.MethodName)).before a0 Z = true := hw _ (List.mem_of_getElem? (i := 36) rfl)
theorem wd37 {a0 : Array Value} {Z : State} (hw : ∀ d ∈ tables_1, d.before a0 Z = true) : (Jvm.Cond.instanceMethod ({ cls := "java/lang/String", name := "isLatin1", desc := "()Z" } : Jvm.MethodName)).before a0 Z = true := hw _ (List.mem_of_getElem? (i := 37) rfl)
theorem wd38 {a0 : Array Value} {Z : State} (hw : ∀ d ∈ tables_1, d.before a0 Z = true) : (Jvm.Cond.selects "java/lang/String" ({ cls := "java/lang/String", name := "isLatin1", desc := "()Z" } : Jvm.MethodName) ({ cls := "java/lang/String", name := "isLatin1", desc := "()Z" } : Jvm.MethodName)).before a0 Z = true := hw _ (List.mem_of_getElem? (i := 38) rfl)
theorem wd39 {a0 : Array Value} {Z : State} (hw : ∀ d ∈ tables_1, d.before a0 Z = true) : (Jvm.Cond.code ({ cls := "java/lang/String", name := "isLatin1", desc := "()Z" } : Jvm.MethodName) jdk_42_method_154_code (1 : Nat) (Option.some Jvm.ClassFile.FieldType.boolean)).before a0 Z = true := hw _ (List.mem_of_getElem? (i := 39) rfl)
theorem wd40 {a0 : Array Value} {Z : State} (hw : ∀ d ∈ tables_1, d.before a0 Z = true) : (Jvm.Cond.methodLink "java/lang/String" (495 : Nat) ({ cls := "java/lang/StringLatin1", name := "charAt", desc := "([BI)C" } : Jvm.MethodName)).before a0 Z = true := hw _ (List.mem_of_getElem? (i := 40) rfl)
theorem wd41 {a0 : Array Value} {Z : State} (hw : ∀ d ∈ tables_1, d.before a0 Z = true) : (Jvm.Cond.static ({ cls := "java/lang/StringLatin1", name := "charAt", desc := "([BI)C" } : Jvm.MethodName)).before a0 Z = true := hw _ (List.mem_of_getElem? (i := 41) rfl)
theorem wd42 {a0 : Array Value} {Z : State} (hw : ∀ d ∈ tables_1, d.before a0 Z = true) : (Jvm.Cond.initialized "java/lang/StringLatin1").before a0 Z = true := hw _ (List.mem_of_getElem? (i := 42) rfl)
theorem wd43 {a0 : Array Value} {Z : State} (hw : ∀ d ∈ tables_1, d.before a0 Z = true) : (Jvm.Cond.code ({ cls := "java/lang/StringLatin1", name := "charAt", desc := "([BI)C" } : Jvm.MethodName) jdk_43_method_2_code (2 : Nat) (Option.some Jvm.ClassFile.FieldType.char)).before a0 Z = true := hw _ (List.mem_of_getElem? (i := 43) rfl)
theorem wd44 {a0 : Array Value} {Z : State} (hw : ∀ d ∈ tables_1, d.before a0 Z = true) : (Jvm.Cond.methodLink "java/lang/StringLatin1" (9 : Nat) ({ cls := "java/lang/String", name := "checkIndex", desc := "(II)V" } : Jvm.MethodName)).before a0 Z = true := hw _ (List.mem_of_getElem? (i := 44) rfl)
theorem wd45 {a0 : Array Value} {Z : State} (hw : ∀ d ∈ tables_1, d.before a0 Z = true) : (Jvm.Cond.static ({ cls := "java/lang/String", name := "checkIndex", desc := "(II)V" } : Jvm.MethodName)).before a0 Z = true := hw _ (List.mem_of_getElem? (i := 45) rfl)
theorem wd46 {a0 : Array Value} {Z : State} (hw : ∀ d ∈ tables_1, d.before a0 Z = true) : (Jvm.Cond.code ({ cls := "java/lang/String", name := "checkIndex", desc := "(II)V" } : Jvm.MethodName) jdk_42_method_155_code (2 : Nat) (Option.none : Option Jvm.ClassFile.FieldType)).before a0 Z = true := hw _ (List.mem_of_getElem? (i := 46) rfl)
theorem wd47 {a0 : Array Value} {Z : State} (hw : ∀ d ∈ tables_1, d.before a0 Z = true) : (Jvm.Cond.fieldLink "java/lang/String" (1053 : Nat) "jdk/internal/util/Preconditions" "SIOOBE_FORMATTER" "Ljava/util/function/BiFunction;").before a0 Z = true := hw _ (List.mem_of_getElem? (i := 47) rfl)
theorem wd48 {a0 : Array Value} {Z : State} (hw : ∀ d ∈ tables_1, d.before a0 Z = true) : (Jvm.Cond.initialized "jdk/internal/util/Preconditions").before a0 Z = true := hw _ (List.mem_of_getElem? (i := 48) rfl)
theorem wd49 {a0 : Array Value} {Z : State} (hw : ∀ d ∈ tables_1, d.before a0 Z = true) : (Jvm.Cond.methodLink "java/lang/String" (1059 : Nat) ({ cls := "jdk/internal/util/Preconditions", name := "checkIndex", desc := "(IILjava/util/function/BiFunction;)I" } : Jvm.MethodName)).before a0 Z = true := hw _ (List.mem_of_getElem? (i := 49) rfl)
theorem wd50 {a0 : Array Value} {Z : State} (hw : ∀ d ∈ tables_1, d.before a0 Z = true) : (Jvm.Cond.static ({ cls := "jdk/internal/util/Preconditions", name := "checkIndex", desc := "(IILjava/util/function/BiFunction;)I" } : Jvm.MethodName)).before a0 Z = true := hw _ (List.mem_of_getElem? (i := 50) rfl)
theorem wd51 {a0 : Array Value} {Z : State} (hw : ∀ d ∈ tables_1, d.before a0 Z = true) : (Jvm.Cond.code ({ cls := "jdk/internal/util/Preconditions", name := "checkIndex", desc := "(IILjava/util/function/BiFunction;)I" } : Jvm.MethodName) jdk_41_method_11_code (3 : Nat) (Option.some Jvm.ClassFile.FieldType.int)).before a0 Z = true := hw _ (List.mem_of_getElem? (i := 51) rfl)
theorem wd52 {a0 : Array Value} {Z : State} (hw : ∀ d ∈ tables_1, d.before a0 Z = true) : (Jvm.Cond.methodLink "com/example/aeneas/aeneas/SideWithLabelPinLaw" (49 : Nat) ({ cls := "java/lang/String", name := "<init>", desc := "([C)V" } : Jvm.MethodName)).before a0 Z = true := hw _ (List.mem_of_getElem? (i := 52) rfl)
theorem wd53 {a0 : Array Value} {Z : State} (hw : ∀ d ∈ tables_1, d.before a0 Z = true) : (Jvm.Cond.instanceMethod ({ cls := "java/lang/String", name := "<init>", desc := "([C)V" } : Jvm.MethodName)).before a0 Z = true := hw _ (List.mem_of_getElem? (i := 53) rfl)
theorem wd54 {a0 : Array Value} {Z : State} (hw : ∀ d ∈ tables_1, d.before a0 Z = true) : (Jvm.Cond.code ({ cls := "java/lang/String", name := "<init>", desc := "([C)V" } : Jvm.MethodName) jdk_42_method_3_code (2 : Nat) (Option.none : Option Jvm.ClassFile.FieldType)).before a0 Z = true := hw _ (List.mem_of_getElem? (i := 54) rfl)
theorem wd55 {a0 : Array Value} {Z : State} (hw : ∀ d ∈ tables_1, d.before a0 Z = true) : (Jvm.Cond.methodLink "java/lang/String" (27 : Nat) ({ cls := "java/lang/String", name := "<init>", desc := "([CIILjava/lang/Void;)V" } : Jvm.MethodName)).before a0 Z = true := hw _ (List.mem_of_getElem? (i := 55) rfl)
theorem wd56 {a0 : Array Value} {Z : State} (hw : ∀ d ∈ tables_1, d.before a0 Z = true) : (Jvm.Cond.instanceMethod ({ cls := "java/lang/String", name := "<init>", desc := "([CIILjava/lang/Void;)V" } : Jvm.MethodName)).before a0 Z = true := hw _ (List.mem_of_getElem? (i := 56) rfl)
theorem wd58 {a0 : Array Value} {Z : State} (hw : ∀ d ∈ tables_1, d.before a0 Z = true) : (Jvm.Cond.code ({ cls := "java/lang/String", name := "<init>", desc := "([CIILjava/lang/Void;)V" } : Jvm.MethodName) jdk_42_method_149_code (6 : Nat) (Option.none : Option Jvm.ClassFile.FieldType)).before a0 Z = true := hw _ (List.mem_of_getElem? (i := 58) rfl)
theorem wd59 {a0 : Array Value} {Z : State} (hw : ∀ d ∈ tables_1, d.before a0 Z = true) : (Jvm.Cond.methodLink "java/lang/String" (1 : Nat) ({ cls := "java/lang/Object", name := "<init>", desc := "()V" } : Jvm.MethodName)).before a0 Z = true := hw _ (List.mem_of_getElem? (i := 59) rfl)
theorem wd60 {a0 : Array Value} {Z : State} (hw : ∀ d ∈ tables_1, d.before a0 Z = true) : (Jvm.Cond.instanceMethod ({ cls := "java/lang/Object", name := "<init>", desc := "()V" } : Jvm.MethodName)).before a0 Z = true := hw _ (List.mem_of_getElem? (i := 60) rfl)
theorem wd61 {a0 : Array Value} {Z : State} (hw : ∀ d ∈ tables_1, d.before a0 Z = true) : (Jvm.Cond.code ({ cls := "java/lang/Object", name := "<init>", desc := "()V" } : Jvm.MethodName) object_method_1_code (1 : Nat) (Option.none : Option Jvm.ClassFile.FieldType)).before a0 Z = true := hw _ (List.mem_of_getElem? (i := 61) rfl)
theorem wd62 {a0 : Array Value} {Z : State} (hw : ∀ d ∈ tables_1, d.before a0 Z = true) : (Jvm.Cond.methodLink "java/lang/String" (177 : Nat) ({ cls := "java/lang/StringUTF16", name := "compress", desc := "([CII)[B" } : Jvm.MethodName)).before a0 Z = true := hw _ (List.mem_of_getElem? (i := 62) rfl)
theorem wd63 {a0 : Array Value} {Z : State} (hw : ∀ d ∈ tables_1, d.before a0 Z = true) : (Jvm.Cond.static ({ cls := "java/lang/StringUTF16", name := "compress", desc := "([CII)[B" } : Jvm.MethodName)).before a0 Z = true := hw _ (List.mem_of_getElem? (i := 63) rfl)
theorem wd64 {a0 : Array Value} {Z : State} (hw : ∀ d ∈ tables_1, d.before a0 Z = true) : (Jvm.Cond.initialized "java/lang/StringUTF16").before a0 Z = true := hw _ (List.mem_of_getElem? (i := 64) rfl)
theorem wd65 {a0 : Array Value} {Z : State} (hw : ∀ d ∈ tables_1, d.before a0 Z = true) : (Jvm.Cond.code ({ cls := "java/lang/StringUTF16", name := "compress", desc := "([CII)[B" } : Jvm.MethodName) jdk_52_method_16_code (6 : Nat) (Option.some (Jvm.ClassFile.FieldType.array Jvm.ClassFile.FieldType.byte))).before a0 Z = true := hw _ (List.mem_of_getElem? (i := 65) rfl)
theorem wd66 {a0 : Array Value} {Z : State} (hw : ∀ d ∈ tables_1, d.before a0 Z = true) : (Jvm.Cond.methodLink "java/lang/StringUTF16" (115 : Nat) ({ cls := "java/lang/StringUTF16", name := "compress", desc := "([CI[BII)I" } : Jvm.MethodName)).before a0 Z = true := hw _ (List.mem_of_getElem? (i := 66) rfl)
theorem wd67 {a0 : Array Value} {Z : State} (hw : ∀ d ∈ tables_1, d.before a0 Z = true) : (Jvm.Cond.static ({ cls := "java/lang/StringUTF16", name := "compress", desc := "([CI[BII)I" } : Jvm.MethodName)).before a0 Z = true := hw _ (List.mem_of_getElem? (i := 67) rfl)
theorem wd68 {a0 : Array Value} {Z : State} (hw : ∀ d ∈ tables_1, d.before a0 Z = true) : (Jvm.Cond.code ({ cls := "java/lang/StringUTF16", name := "compress", desc := "([CI[BII)I" } : Jvm.MethodName) jdk_52_method_21_code (7 : Nat) (Option.some Jvm.ClassFile.FieldType.int)).before a0 Z = true := hw _ (List.mem_of_getElem? (i := 68) rfl)
theorem wd69 {a0 : Array Value} {Z : State} (hw : ∀ d ∈ tables_1, d.before a0 Z = true) : (Jvm.Cond.methodLink "java/lang/String" (47 : Nat) ({ cls := "java/lang/StringUTF16", name := "coderFromArrayLen", desc := "([BI)B" } : Jvm.MethodName)).before a0 Z = true := hw _ (List.mem_of_getElem? (i := 69) rfl)
theorem wd70 {a0 : Array Value} {Z : State} (hw : ∀ d ∈ tables_1, d.before a0 Z = true) : (Jvm.Cond.static ({ cls := "java/lang/StringUTF16", name := "coderFromArrayLen", desc := "([BI)B" } : Jvm.MethodName)).before a0 Z = true := hw _ (List.mem_of_getElem? (i := 70) rfl)
theorem wd71 {a0 : Array Value} {Z : State} (hw : ∀ d ∈ tables_1, d.before a0 Z = true) : (Jvm.Cond.code ({ cls := "java/lang/StringUTF16", name := "coderFromArrayLen", desc := "([BI)B" } : Jvm.MethodName) jdk_52_method_15_code (2 : Nat) (Option.some Jvm.ClassFile.FieldType.byte)).before a0 Z = true := hw _ (List.mem_of_getElem? (i := 71) rfl)
theorem wd72 {a0 : Array Value} {Z : State} (hw : ∀ d ∈ tables_1, d.before a0 Z = true) : (Jvm.Cond.methodLink "com/example/aeneas/aeneas/SideWithLabelPinLaw" (19 : Nat) ({ cls := "com/example/aeneas/aeneas/Side", name := "withLabel", desc := "(Ljava/lang/String;)Lcom/example/aeneas/aeneas/Side;" } : Jvm.MethodName)).before a0 Z = true := hw _ (List.mem_of_getElem? (i := 72) rfl)
theorem wd73 {a0 : Array Value} {Z : State} (hw : ∀ d ∈ tables_1, d.before a0 Z = true) : (Jvm.Cond.static ({ cls := "com/example/aeneas/aeneas/Side", name := "withLabel", desc := "(Ljava/lang/String;)Lcom/example/aeneas/aeneas/Side;" } : Jvm.MethodName)).before a0 Z = true := hw _ (List.mem_of_getElem? (i := 73) rfl)
theorem wd74 {a0 : Array Value} {Z : State} (hw : ∀ d ∈ tables_1, d.before a0 Z = true) : (Jvm.Cond.initialized "com/example/aeneas/aeneas/Side").before a0 Z = true := hw _ (List.mem_of_getElem? (i := 74) rfl)
theorem wd75 {a0 : Array Value} {Z : State} (hw : ∀ d ∈ tables_1, d.before a0 Z = true) : (Jvm.Cond.code ({ cls := "com/example/aeneas/aeneas/Side", name := "withLabel", desc := "(Ljava/lang/String;)Lcom/example/aeneas/aeneas/Side;" } : Jvm.MethodName) prog_25_method_6_code (6 : Nat) (Option.some (Jvm.ClassFile.FieldType.object "com/example/aeneas/aeneas/Side"))).before a0 Z = true := hw _ (List.mem_of_getElem? (i := 75) rfl)
theorem wd76 {a0 : Array Value} {Z : State} (hw : ∀ d ∈ tables_1, d.before a0 Z = true) : (Jvm.Cond.methodLink "com/example/aeneas/aeneas/Side" (41 : Nat) ({ cls := "com/example/aeneas/aeneas/Side", name := "values", desc := "()[Lcom/example/aeneas/aeneas/Side;" } : Jvm.MethodName)).before a0 Z = true := hw _ (List.mem_of_getElem? (i := 76) rfl)
theorem wd77 {a0 : Array Value} {Z : State} (hw : ∀ d ∈ tables_1, d.before a0 Z = true) : (Jvm.Cond.static ({ cls := "com/example/aeneas/aeneas/Side", name := "values", desc := "()[Lcom/example/aeneas/aeneas/Side;" } : Jvm.MethodName)).before a0 Z = true := hw _ (List.mem_of_getElem? (i := 77) rfl)
theorem wd78 {a0 : Array Value} {Z : State} (hw : ∀ d ∈ tables_1, d.before a0 Z = true) : (Jvm.Cond.code ({ cls := "com/example/aeneas/aeneas/Side", name := "values", desc := "()[Lcom/example/aeneas/aeneas/Side;" } : Jvm.MethodName) prog_25_method_1_code (0 : Nat) (Option.some (Jvm.ClassFile.FieldType.array (Jvm.ClassFile.FieldType.object "com/example/aeneas/aeneas/Side")))).before a0 Z = true := hw _ (List.mem_of_getElem? (i := 78) rfl)
theorem wd79 {a0 : Array Value} {Z : State} (hw : ∀ d ∈ tables_1, d.before a0 Z = true) : (Jvm.Cond.fieldLink "com/example/aeneas/aeneas/Side" (13 : Nat) "com/example/aeneas/aeneas/Side" "$VALUES" "[Lcom/example/aeneas/aeneas/Side;").before a0 Z = true := hw _ (List.mem_of_getElem? (i := 79) rfl)
theorem wd81 {a0 : Array Value} {Z : State} (hw : ∀ d ∈ tables_1, d.before a0 Z = true) : (Jvm.Cond.methodLink "com/example/aeneas/aeneas/Side" (17 : Nat) ({ cls := "[Lcom/example/aeneas/aeneas/Side;", name := "clone", desc := "()Ljava/lang/Object;" } : Jvm.MethodName)).before a0 Z = true := hw _ (List.mem_of_getElem? (i := 81) rfl)
theorem wd82 {a0 : Array Value} {Z : State} (hw : ∀ d ∈ tables_1, d.before a0 Z = true) : (Jvm.Cond.sameMethod "[Lcom/example/aeneas/aeneas/Side;" "java/lang/Object" "clone" "()Ljava/lang/Object;").before a0 Z = true := hw _ (List.mem_of_getElem? (i := 82) rfl)
theorem wd84 {a0 : Array Value} {Z : State} (hw : ∀ d ∈ tables_1, d.before a0 Z = true) : (Jvm.Cond.instanceMethod ({ cls := "java/lang/Object", name := "clone", desc := "()Ljava/lang/Object;" } : Jvm.MethodName)).before a0 Z = true := hw _ (List.mem_of_getElem? (i := 84) rfl)
theorem wd85 {a0 : Array Value} {Z : State} (hw : ∀ d ∈ tables_1, d.before a0 Z = true) : (Jvm.Cond.selects "[Lcom/example/aeneas/aeneas/Side;" ({ cls := "[Lcom/example/aeneas/aeneas/Side;", name := "clone", desc := "()Ljava/lang/Object;" } : Jvm.MethodName) ({ cls := "java/lang/Object", name := "clone", desc := "()Ljava/lang/Object;" } : Jvm.MethodName)).before a0 Z = true := hw _ (List.mem_of_getElem? (i := 85) rfl)
theorem wd86 {a0 : Array Value} {Z : State} (hw : ∀ d ∈ tables_1, d.before a0 Z = true) : (Jvm.Cond.native ({ cls := "java/lang/Object", name := "clone", desc := "()Ljava/lang/Object;" } : Jvm.MethodName)).before a0 Z = true := hw _ (List.mem_of_getElem? (i := 86) rfl)
theorem wd87 {a0 : Array Value} {Z : State} (hw : ∀ d ∈ tables_1, d.before a0 Z = true) : (Jvm.Cond.castable "[Lcom/example/aeneas/aeneas/Side;" "java/lang/Cloneable").before a0 Z = true := hw _ (List.mem_of_getElem? (i := 87) rfl)
theorem wd92 {a0 : Array Value} {Z : State} (hw : ∀ d ∈ tables_1, d.before a0 Z = true) : (Jvm.Cond.classLink "com/example/aeneas/aeneas/Side" (18 : Nat) "[Lcom/example/aeneas/aeneas/Side;").before a0 Z = true := hw _ (List.mem_of_getElem? (i := 92) rfl)
theorem wd93 {a0 : Array Value} {Z : State} (hw : ∀ d ∈ tables_1, d.before a0 Z = true) : (Jvm.Cond.castable "[Lcom/example/aeneas/aeneas/Side;" "[Lcom/example/aeneas/aeneas/Side;").before a0 Z = true := hw _ (List.mem_of_getElem? (i := 93) rfl)
theorem wd94 {a0 : Array Value} {Z : State} (hw : ∀ d ∈ tables_1, d.before a0 Z = true) : (Jvm.Cond.fieldLink "com/example/aeneas/aeneas/Side" (32 : Nat) "com/example/aeneas/aeneas/Side" "label" "Ljava/lang/String;").before a0 Z = true := hw _ (List.mem_of_getElem? (i := 94) rfl)
theorem wd96 {a0 : Array Value} {Z : State} (hw : ∀ d ∈ tables_1, d.before a0 Z = true) : (Jvm.Cond.methodLink "com/example/aeneas/aeneas/Side" (57 : Nat) ({ cls := "java/lang/String", name := "equals", desc := "(Ljava/lang/Object;)Z" } : Jvm.MethodName)).before a0 Z = true := hw _ (List.mem_of_getElem? (i := 96) rfl)
theorem wd97 {a0 : Array Value} {Z : State} (hw : ∀ d ∈ tables_1, d.before a0 Z = true) : (Jvm.Cond.declares ({ cls := "java/lang/String", name := "equals", desc := "(Ljava/lang/Object;)Z" } : Jvm.MethodName)).before a0 Z = true := hw _ (List.mem_of_getElem? (i := 97) rfl)
theorem wd98 {a0 : Array Value} {Z : State} (hw : ∀ d ∈ tables_1, d.before a0 Z = true) : (Jvm.Cond.instanceMethod ({ cls := "java/lang/String", name := "equals", desc := "(Ljava/lang/Object;)Z" } : Jvm.MethodName)).before a0 Z = true := hw _ (List.mem_of_getElem? (i := 98) rfl)
theorem wd99 {a0 : Array Value} {Z : State} (hw : ∀ d ∈ tables_1, d.before a0 Z = true) : (Jvm.Cond.selects "java/lang/String" ({ cls := "java/lang/String", name := "equals", desc := "(Ljava/lang/Object;)Z" } : Jvm.MethodName) ({ cls := "java/lang/String", name := "equals", desc := "(Ljava/lang/Object;)Z" } : Jvm.MethodName)).before a0 Z = true := hw _ (List.mem_of_getElem? (i := 99) rfl)
theorem wd100 {a0 : Array Value} {Z : State} (hw : ∀ d ∈ tables_1, d.before a0 Z = true) : (Jvm.Cond.code ({ cls := "java/lang/String", name := "equals", desc := "(Ljava/lang/Object;)Z" } : Jvm.MethodName) jdk_42_method_66_code (3 : Nat) (Option.some Jvm.ClassFile.FieldType.boolean)).before a0 Z = true := hw _ (List.mem_of_getElem? (i := 100) rfl)
theorem wd101 {a0 : Array Value} {Z : State} (hw : ∀ d ∈ tables_1, d.before a0 Z = true) : (Jvm.Cond.classLink "java/lang/String" (10 : Nat) "java/lang/String").before a0 Z = true := hw _ (List.mem_of_getElem? (i := 101) rfl)
theorem wd102 {a0 : Array Value} {Z : State} (hw : ∀ d ∈ tables_1, d.before a0 Z = true) : (Jvm.Cond.methodLink "java/lang/String" (541 : Nat) ({ cls := "java/lang/StringLatin1", name := "equals", desc := "([B[B)Z" } : Jvm.MethodName)).before a0 Z = true := hw _ (List.mem_of_getElem? (i := 102) rfl)
theorem wd103 {a0 : Array Value} {Z : State} (hw : ∀ d ∈ tables_1, d.before a0 Z = true) : (Jvm.Cond.static ({ cls := "java/lang/StringLatin1", name := "equals", desc := "([B[B)Z" } : Jvm.MethodName)).before a0 Z = true := hw _ (List.mem_of_getElem? (i := 103) rfl)
theorem wd104 {a0 : Array Value} {Z : State} (hw : ∀ d ∈ tables_1, d.before a0 Z = true) : (Jvm.Cond.code ({ cls := "java/lang/StringLatin1", name := "equals", desc := "([B[B)Z" } : Jvm.MethodName) jdk_43_method_13_code (3 : Nat) (Option.some Jvm.ClassFile.FieldType.boolean)).before a0 Z = true := hw _ (List.mem_of_getElem? (i := 104) rfl)
theorem wd105 {a0 : Array Value} {Z : State} (hw : ∀ d ∈ tables_1, d.before a0 Z = true) : (Jvm.Cond.methodLink "com/example/aeneas/aeneas/SideWithLabelPinLaw" (25 : Nat) ({ cls := "java/lang/String", name := "equals", desc := "(Ljava/lang/Object;)Z" } : Jvm.MethodName)).before a0 Z = true := hw _ (List.mem_of_getElem? (i := 105) rfl)
theorem wd106 {a0 : Array Value} {Z : State} (hw : ∀ d ∈ tables_1, d.before a0 Z = true) : (Jvm.Cond.stringLink "com/example/aeneas/aeneas/SideWithLabelPinLaw" (9 : Nat) "agent").before a0 Z = true := hw _ (List.mem_of_getElem? (i := 106) rfl)
theorem wd107 {a0 : Array Value} {Z : State} (hw : ∀ d ∈ tables_1, d.before a0 Z = true) : (Jvm.Cond.stringLink "com/example/aeneas/aeneas/SideWithLabelPinLaw" (11 : Nat) "aeneas").before a0 Z = true := hw _ (List.mem_of_getElem? (i := 107) rfl)
theorem wd108 {a0 : Array Value} {Z : State} (hw : ∀ d ∈ tables_1, d.before a0 Z = true) : (Jvm.Cond.stringLink "java/lang/String" (7 : Nat) "").before a0 Z = true := hw _ (List.mem_of_getElem? (i := 108) rfl)
theorem wd109 {a0 : Array Value} {Z : State} (hw : ∀ d ∈ tables_1, d.before a0 Z = true) : (Jvm.Cond.fieldLink "com/example/aeneas/aeneas/SideWithLabelPinLaw" (35 : Nat) "com/example/aeneas/aeneas/Side" "AGENT" "Lcom/example/aeneas/aeneas/Side;").before a0 Z = true := hw _ (List.mem_of_getElem? (i := 109) rfl)
theorem wd110 {a0 : Array Value} {Z : State} (hw : ∀ d ∈ tables_1, d.before a0 Z = true) : (Jvm.Cond.fieldLink "com/example/aeneas/aeneas/SideWithLabelPinLaw" (31 : Nat) "com/example/aeneas/aeneas/Side" "CLIENT" "Lcom/example/aeneas/aeneas/Side;").before a0 Z = true := hw _ (List.mem_of_getElem? (i := 110) rfl)
theorem wd111 {a0 : Array Value} {Z : State} (hw : ∀ d ∈ tables_1, d.before a0 Z = true) : (Jvm.Cond.fieldLink "com/example/aeneas/aeneas/SideWithLabelPinLaw" (38 : Nat) "com/example/aeneas/aeneas/Side" "AENEAS" "Lcom/example/aeneas/aeneas/Side;").before a0 Z = true := hw _ (List.mem_of_getElem? (i := 111) rfl)
theorem d4_0 : decode jdk_42_method_152_code 0 = .ok (.getstatic 38, 3) := by decide +kernel
theorem d4_3 : decode jdk_42_method_152_code 3 = .ok (.ifCond .eq 10, 3) := by decide +kernel
theorem d4_6 : decode jdk_42_method_152_code 6 = .ok (.aload_n 0, 1) := by decide +kernel
theorem d4_7 : decode jdk_42_method_152_code 7 = .ok (.getfield 15, 3) := by decide +kernel
theorem d4_10 : decode jdk_42_method_152_code 10 = .ok (.goto 4, 3) := by decide +kernel
theorem d4_14 : decode jdk_42_method_152_code 14 = .ok (.ireturn, 1) := by decide +kernel
theorem pn_4 : plainName "java/lang/String" = true := by first | (simp [plainName, overriddenIn]; done) | decide +kernel
theorem d3_0 : decode jdk_42_method_54_code 0 = .ok (.aload_n 0, 1) := by decide +kernel
theorem d3_1 : decode jdk_42_method_54_code 1 = .ok (.getfield 9, 3) := by decide +kernel
theorem d3_4 : decode jdk_42_method_54_code 4 = .ok (.arraylength, 1) := by decide +kernel
theorem d3_5 : decode jdk_42_method_54_code 5 = .ok (.aload_n 0, 1) := by decide +kernel
theorem pd_0 : parseMethodDescriptor "()B" = some ⟨[], some .byte⟩ := by decide +kernel
theorem d3_6 : decode jdk_42_method_54_code 6 = .ok (.invokevirtual 335, 3) := by decide +kernel
theorem d3_9 : decode jdk_42_method_54_code 9 = .ok (.ishr, 1) := by decide +kernel
theorem d3_10 : decode jdk_42_method_54_code 10 = .ok (.ireturn, 1) := by decide +kernel
theorem pn_3 : plainName "java/lang/String" = true := by first | (simp [plainName, overriddenIn]; done) | decide +kernel
theorem d6_0 : decode jdk_42_method_154_code 0 = .ok (.getstatic 38, 3) := by decide +kernel
theorem d6_3 : decode jdk_42_method_154_code 3 = .ok (.ifCond .eq 14, 3) := by decide +kernel
theorem d6_6 : decode jdk_42_method_154_code 6 = .ok (.aload_n 0, 1) := by decide +kernel
theorem d6_7 : decode jdk_42_method_154_code 7 = .ok (.getfield 15, 3) := by decide +kernel
theorem d6_10 : decode jdk_42_method_154_code 10 = .ok (.ifCond .ne 7, 3) := by decide +kernel
theorem d6_13 : decode jdk_42_method_154_code 13 = .ok (.iconst 1, 1) := by decide +kernel
theorem d6_14 : decode jdk_42_method_154_code 14 = .ok (.goto 4, 3) := by decide +kernel
theorem d6_18 : decode jdk_42_method_154_code 18 = .ok (.ireturn, 1) := by decide +kernel
theorem pn_6 : plainName "java/lang/String" = true := by first | (simp [plainName, overriddenIn]; done) | decide +kernel
theorem d9_0 : decode jdk_41_method_11_code 0 = .ok (.iload_n 0, 1) := by decide +kernel
theorem d9_1 : decode jdk_41_method_11_code 1 = .ok (.ifCond .lt 8, 3) := by decide +kernel
theorem d9_4 : decode jdk_41_method_11_code 4 = .ok (.iload_n 0, 1) := by decide +kernel
theorem d9_5 : decode jdk_41_method_11_code 5 = .ok (.iload_n 1, 1) := by decide +kernel
theorem d9_6 : decode jdk_41_method_11_code 6 = .ok (.if_icmp .lt 10, 3) := by decide +kernel
theorem d9_16 : decode jdk_41_method_11_code 16 = .ok (.iload_n 0, 1) := by decide +kernel
theorem d9_17 : decode jdk_41_method_11_code 17 = .ok (.ireturn, 1) := by decide +kernel
theorem pn_9 : plainName "jdk/internal/util/Preconditions" = true := by first | (simp [plainName, overriddenIn]; done) | decide +kernel
theorem d8_0 : decode jdk_42_method_155_code 0 = .ok (.iload_n 0, 1) := by decide +kernel
theorem d8_1 : decode jdk_42_method_155_code 1 = .ok (.iload_n 1, 1) := by decide +kernel
theorem d8_2 : decode jdk_42_method_155_code 2 = .ok (.getstatic 1053, 3) := by decide +kernel
theorem pd_1 : parseMethodDescriptor "(IILjava/util/function/BiFunction;)I" = some ⟨[.int, .int, (.object "java/util/function/BiFunction")], some .int⟩ := by decide +kernel
theorem d8_5 : decode jdk_42_method_155_code 5 = .ok (.invokestatic 1059, 3) := by decide +kernel
theorem d8_8 : decode jdk_42_method_155_code 8 = .ok (.pop, 1) := by decide +kernel
theorem d8_9 : decode jdk_42_method_155_code 9 = .ok (.return_, 1) := by decide +kernel
theorem pn_8 : plainName "java/lang/String" = true := by first | (simp [plainName, overriddenIn]; done) | decide +kernel
theorem d7_0 : decode jdk_43_method_2_code 0 = .ok (.iload_n 1, 1) := by decide +kernel
theorem d7_1 : decode jdk_43_method_2_code 1 = .ok (.aload_n 0, 1) := by decide +kernel
theorem d7_2 : decode jdk_43_method_2_code 2 = .ok (.arraylength, 1) := by decide +kernel
theorem pd_2 : parseMethodDescriptor "(II)V" = some ⟨[.int, .int], none⟩ := by decide +kernel
theorem d7_3 : decode jdk_43_method_2_code 3 = .ok (.invokestatic 9, 3) := by decide +kernel
theorem d7_6 : decode jdk_43_method_2_code 6 = .ok (.aload_n 0, 1) := by decide +kernel
theorem d7_7 : decode jdk_43_method_2_code 7 = .ok (.iload_n 1, 1) := by decide +kernel
theorem d7_8 : decode jdk_43_method_2_code 8 = .ok (.baload, 1) := by decide +kernel
theorem d7_9 : decode jdk_43_method_2_code 9 = .ok (.sipush 255, 3) := by decide +kernel
theorem d7_12 : decode jdk_43_method_2_code 12 = .ok (.iand, 1) := by decide +kernel
theorem d7_13 : decode jdk_43_method_2_code 13 = .ok (.i2c, 1) := by decide +kernel
theorem d7_14 : decode jdk_43_method_2_code 14 = .ok (.ireturn, 1) := by decide +kernel
theorem pn_7 : plainName "java/lang/StringLatin1" = true := by first | (simp [plainName, overriddenIn]; done) | decide +kernel
theorem d5_0 : decode jdk_42_method_56_code 0 = .ok (.aload_n 0, 1) := by decide +kernel
theorem pd_3 : parseMethodDescriptor "()Z" = some ⟨[], some .boolean⟩ := by decide +kernel
theorem d5_1 : decode jdk_42_method_56_code 1 = .ok (.invokevirtual 492, 3) := by decide +kernel
theorem d5_4 : decode jdk_42_method_56_code 4 = .ok (.ifCond .eq 12, 3) := by decide +kernel
theorem d5_7 : decode jdk_42_method_56_code 7 = .ok (.aload_n 0, 1) := by decide +kernel
theorem d5_8 : decode jdk_42_method_56_code 8 = .ok (.getfield 9, 3) := by decide +kernel
theorem d5_11 : decode jdk_42_method_56_code 11 = .ok (.iload_n 1, 1) := by decide +kernel
theorem pd_4 : parseMethodDescriptor "([BI)C" = some ⟨[(.array .byte), .int], some .char⟩ := by decide +kernel
theorem d5_12 : decode jdk_42_method_56_code 12 = .ok (.invokestatic 495, 3) := by decide +kernel
theorem d5_15 : decode jdk_42_method_56_code 15 = .ok (.ireturn, 1) := by decide +kernel
theorem pn_5 : plainName "java/lang/String" = true := by first | (simp [plainName, overriddenIn]; done) | decide +kernel
theorem d2_0 : decode method_3_code 0 = .ok (.iload_n 1, 1) := by decide +kernel
theorem d2_1 : decode method_3_code 1 = .ok (.iload_n 2, 1) := by decide +kernel
theorem d2_2 : decode method_3_code 2 = .ok (.if_icmp .ne 5, 3) := by decide +kernel
theorem d2_5 : decode method_3_code 5 = .ok (.iload_n 3, 1) := by decide +kernel
theorem d2_6 : decode method_3_code 6 = .ok (.ireturn, 1) := by decide +kernel
theorem d2_7 : decode method_3_code 7 = .ok (.iload_n 1, 1) := by decide +kernel
theorem d2_8 : decode method_3_code 8 = .ok (.aload_n 0, 1) := by decide +kernel
theorem pd_5 : parseMethodDescriptor "()I" = some ⟨[], some .int⟩ := by decide +kernel
theorem d2_9 : decode method_3_code 9 = .ok (.invokevirtual 41, 3) := by decide +kernel
theorem d2_12 : decode method_3_code 12 = .ok (.if_icmp .ge 9, 3) := by decide +kernel
theorem d2_15 : decode method_3_code 15 = .ok (.aload_n 0, 1) := by decide +kernel
theorem d2_16 : decode method_3_code 16 = .ok (.iload_n 1, 1) := by decide +kernel
theorem pd_6 : parseMethodDescriptor "(I)C" = some ⟨[.int], some .char⟩ := by decide +kernel
theorem d2_17 : decode method_3_code 17 = .ok (.invokevirtual 45, 3) := by decide +kernel
theorem d2_20 : decode method_3_code 20 = .ok (.ireturn, 1) := by decide +kernel
theorem d2_21 : decode method_3_code 21 = .ok (.iload_n 3, 1) := by decide +kernel
theorem d2_22 : decode method_3_code 22 = .ok (.ireturn, 1) := by decide +kernel
theorem pn_2 : plainName "com/example/aeneas/aeneas/SideWithLabelPinLaw" = true := by first | (simp [plainName, overriddenIn]; done) | decide +kernel
theorem d14_0 : decode jdk_52_method_21_code 0 = .ok (.iconst 0, 1) := by decide +kernel
theorem d14_1 : decode jdk_52_method_21_code 1 = .ok (.istore 5, 2) := by decide +kernel
theorem d14_3 : decode jdk_52_method_21_code 3 = .ok (.iload 5, 2) := by decide +kernel
theorem d14_5 : decode jdk_52_method_21_code 5 = .ok (.iload 4, 2) := by decide +kernel
theorem d14_7 : decode jdk_52_method_21_code 7 = .ok (.if_icmp .ge 37, 3) := by decide +kernel
theorem d14_44 : decode jdk_52_method_21_code 44 = .ok (.iload 4, 2) := by decide +kernel
theorem d14_46 : decode jdk_52_method_21_code 46 = .ok (.ireturn, 1) := by decide +kernel
theorem d14_10 : decode jdk_52_method_21_code 10 = .ok (.aload_n 0, 1) := by decide +kernel
theorem d14_11 : decode jdk_52_method_21_code 11 = .ok (.iload_n 1, 1) := by decide +kernel
theorem d14_12 : decode jdk_52_method_21_code 12 = .ok (.caload, 1) := by decide +kernel
theorem d14_13 : decode jdk_52_method_21_code 13 = .ok (.istore 6, 2) := by decide +kernel
theorem d14_15 : decode jdk_52_method_21_code 15 = .ok (.iload 6, 2) := by decide +kernel
theorem d14_17 : decode jdk_52_method_21_code 17 = .ok (.sipush 255, 3) := by decide +kernel
theorem d14_20 : decode jdk_52_method_21_code 20 = .ok (.if_icmp .le 6, 3) := by decide +kernel
theorem d14_26 : decode jdk_52_method_21_code 26 = .ok (.aload_n 2, 1) := by decide +kernel
theorem d14_27 : decode jdk_52_method_21_code 27 = .ok (.iload_n 3, 1) := by decide +kernel
theorem d14_28 : decode jdk_52_method_21_code 28 = .ok (.iload 6, 2) := by decide +kernel
theorem d14_30 : decode jdk_52_method_21_code 30 = .ok (.i2b, 1) := by decide +kernel
theorem d14_31 : decode jdk_52_method_21_code 31 = .ok (.bastore, 1) := by decide +kernel
theorem d14_32 : decode jdk_52_method_21_code 32 = .ok (.iinc 1 1, 3) := by decide +kernel
theorem d14_35 : decode jdk_52_method_21_code 35 = .ok (.iinc 3 1, 3) := by decide +kernel
theorem d14_38 : decode jdk_52_method_21_code 38 = .ok (.iinc 5 1, 3) := by decide +kernel
theorem d14_41 : decode jdk_52_method_21_code 41 = .ok (.goto (-38), 3) := by decide +kernel
theorem pn_14 : plainName "java/lang/StringUTF16" = true := by first | (simp [plainName, overriddenIn]; done) | decide +kernel
theorem d13_0 : decode jdk_52_method_16_code 0 = .ok (.iload_n 2, 1) := by decide +kernel
theorem d13_1 : decode jdk_52_method_16_code 1 = .ok (.newarray .byte, 2) := by decide +kernel
theorem d13_3 : decode jdk_52_method_16_code 3 = .ok (.astore_n 3, 1) := by decide +kernel
theorem d13_4 : decode jdk_52_method_16_code 4 = .ok (.aload_n 0, 1) := by decide +kernel
theorem d13_5 : decode jdk_52_method_16_code 5 = .ok (.iload_n 1, 1) := by decide +kernel
theorem d13_6 : decode jdk_52_method_16_code 6 = .ok (.aload_n 3, 1) := by decide +kernel
theorem d13_7 : decode jdk_52_method_16_code 7 = .ok (.iconst 0, 1) := by decide +kernel
theorem d13_8 : decode jdk_52_method_16_code 8 = .ok (.iload_n 2, 1) := by decide +kernel
theorem pd_7 : parseMethodDescriptor "([CI[BII)I" = some ⟨[(.array .char), .int, (.array .byte), .int, .int], some .int⟩ := by decide +kernel
theorem d13_9 : decode jdk_52_method_16_code 9 = .ok (.invokestatic 115, 3) := by decide +kernel
theorem d13_12 : decode jdk_52_method_16_code 12 = .ok (.istore 4, 2) := by decide +kernel
theorem d13_14 : decode jdk_52_method_16_code 14 = .ok (.iload 4, 2) := by decide +kernel
theorem d13_16 : decode jdk_52_method_16_code 16 = .ok (.iload_n 2, 1) := by decide +kernel
theorem d13_17 : decode jdk_52_method_16_code 17 = .ok (.if_icmp .eq 40, 3) := by decide +kernel
theorem d13_57 : decode jdk_52_method_16_code 57 = .ok (.aload_n 3, 1) := by decide +kernel
theorem d13_58 : decode jdk_52_method_16_code 58 = .ok (.areturn, 1) := by decide +kernel
theorem pn_13 : plainName "java/lang/StringUTF16" = true := by first | (simp [plainName, overriddenIn]; done) | decide +kernel
theorem d15_0 : decode jdk_52_method_15_code 0 = .ok (.iload_n 1, 1) := by decide +kernel
theorem d15_1 : decode jdk_52_method_15_code 1 = .ok (.aload_n 0, 1) := by decide +kernel
theorem d15_2 : decode jdk_52_method_15_code 2 = .ok (.arraylength, 1) := by decide +kernel
theorem d15_3 : decode jdk_52_method_15_code 3 = .ok (.isub, 1) := by decide +kernel
theorem d15_4 : decode jdk_52_method_15_code 4 = .ok (.bipush 31, 2) := by decide +kernel
theorem d15_6 : decode jdk_52_method_15_code 6 = .ok (.iushr, 1) := by decide +kernel
theorem d15_7 : decode jdk_52_method_15_code 7 = .ok (.i2b, 1) := by decide +kernel
theorem d15_8 : decode jdk_52_method_15_code 8 = .ok (.ireturn, 1) := by decide +kernel
theorem pn_15 : plainName "java/lang/StringUTF16" = true := by first | (simp [plainName, overriddenIn]; done) | decide +kernel
theorem d11_0 : decode jdk_42_method_149_code 0 = .ok (.aload_n 0, 1) := by decide +kernel
theorem d11_1 : decode jdk_42_method_149_code 1 = .ok (.invokespecial 1, 3) := by decide +kernel
theorem d11_4 : decode jdk_42_method_149_code 4 = .ok (.iload_n 3, 1) := by decide +kernel
theorem d11_5 : decode jdk_42_method_149_code 5 = .ok (.ifCond .ne 22, 3) := by decide +kernel
theorem d11_27 : decode jdk_42_method_149_code 27 = .ok (.getstatic 38, 3) := by decide +kernel
theorem d11_30 : decode jdk_42_method_149_code 30 = .ok (.ifCond .eq 28, 3) := by decide +kernel
theorem d11_33 : decode jdk_42_method_149_code 33 = .ok (.aload_n 1, 1) := by decide +kernel
theorem d11_34 : decode jdk_42_method_149_code 34 = .ok (.iload_n 2, 1) := by decide +kernel
theorem d11_35 : decode jdk_42_method_149_code 35 = .ok (.iload_n 3, 1) := by decide +kernel
theorem pd_8 : parseMethodDescriptor "([CII)[B" = some ⟨[(.array .char), .int, .int], some (.array .byte)⟩ := by decide +kernel
theorem d11_36 : decode jdk_42_method_149_code 36 = .ok (.invokestatic 177, 3) := by decide +kernel
theorem d11_39 : decode jdk_42_method_149_code 39 = .ok (.astore 5, 2) := by decide +kernel
theorem d11_41 : decode jdk_42_method_149_code 41 = .ok (.aload_n 0, 1) := by decide +kernel
theorem d11_42 : decode jdk_42_method_149_code 42 = .ok (.aload 5, 2) := by decide +kernel
theorem d11_44 : decode jdk_42_method_149_code 44 = .ok (.iload_n 3, 1) := by decide +kernel
theorem pd_9 : parseMethodDescriptor "([BI)B" = some ⟨[(.array .byte), .int], some .byte⟩ := by decide +kernel
theorem d11_45 : decode jdk_42_method_149_code 45 = .ok (.invokestatic 47, 3) := by decide +kernel
theorem d11_48 : decode jdk_42_method_149_code 48 = .ok (.putfield 15, 3) := by decide +kernel
theorem d11_51 : decode jdk_42_method_149_code 51 = .ok (.aload_n 0, 1) := by decide +kernel
theorem d11_52 : decode jdk_42_method_149_code 52 = .ok (.aload 5, 2) := by decide +kernel
theorem d11_54 : decode jdk_42_method_149_code 54 = .ok (.putfield 9, 3) := by decide +kernel
theorem d11_57 : decode jdk_42_method_149_code 57 = .ok (.return_, 1) := by decide +kernel
theorem pn_11 : plainName "java/lang/String" = true := by first | (simp [plainName, overriddenIn]; done) | decide +kernel
theorem d10_0 : decode jdk_42_method_3_code 0 = .ok (.aload_n 0, 1) := by decide +kernel
theorem d10_1 : decode jdk_42_method_3_code 1 = .ok (.aload_n 1, 1) := by decide +kernel
theorem d10_2 : decode jdk_42_method_3_code 2 = .ok (.iconst 0, 1) := by decide +kernel
theorem d10_3 : decode jdk_42_method_3_code 3 = .ok (.aload_n 1, 1) := by decide +kernel
theorem d10_4 : decode jdk_42_method_3_code 4 = .ok (.arraylength, 1) := by decide +kernel
theorem d10_5 : decode jdk_42_method_3_code 5 = .ok (.aconst_null, 1) := by decide +kernel
theorem pd_10 : parseMethodDescriptor "([CIILjava/lang/Void;)V" = some ⟨[(.array .char), .int, .int, (.object "java/lang/Void")], none⟩ := by decide +kernel
theorem d10_6 : decode jdk_42_method_3_code 6 = .ok (.invokespecial 27, 3) := by decide +kernel
theorem d10_9 : decode jdk_42_method_3_code 9 = .ok (.return_, 1) := by decide +kernel
theorem pn_10 : plainName "java/lang/String" = true := by first | (simp [plainName, overriddenIn]; done) | decide +kernel
theorem d19_0 : decode jdk_43_method_13_code 0 = .ok (.aload_n 0, 1) := by decide +kernel
theorem d19_1 : decode jdk_43_method_13_code 1 = .ok (.arraylength, 1) := by decide +kernel
theorem d19_2 : decode jdk_43_method_13_code 2 = .ok (.aload_n 1, 1) := by decide +kernel
theorem d19_3 : decode jdk_43_method_13_code 3 = .ok (.arraylength, 1) := by decide +kernel
theorem d19_4 : decode jdk_43_method_13_code 4 = .ok (.if_icmp .ne 30, 3) := by decide +kernel
theorem d19_7 : decode jdk_43_method_13_code 7 = .ok (.iconst 0, 1) := by decide +kernel
theorem d19_8 : decode jdk_43_method_13_code 8 = .ok (.istore_n 2, 1) := by decide +kernel
theorem d19_9 : decode jdk_43_method_13_code 9 = .ok (.iload_n 2, 1) := by decide +kernel
theorem d19_10 : decode jdk_43_method_13_code 10 = .ok (.aload_n 0, 1) := by decide +kernel
theorem d19_11 : decode jdk_43_method_13_code 11 = .ok (.arraylength, 1) := by decide +kernel
theorem d19_12 : decode jdk_43_method_13_code 12 = .ok (.if_icmp .ge 20, 3) := by decide +kernel
theorem d19_32 : decode jdk_43_method_13_code 32 = .ok (.iconst 1, 1) := by decide +kernel
theorem d19_33 : decode jdk_43_method_13_code 33 = .ok (.ireturn, 1) := by decide +kernel
theorem d19_15 : decode jdk_43_method_13_code 15 = .ok (.aload_n 0, 1) := by decide +kernel
theorem d19_16 : decode jdk_43_method_13_code 16 = .ok (.iload_n 2, 1) := by decide +kernel
theorem d19_17 : decode jdk_43_method_13_code 17 = .ok (.baload, 1) := by decide +kernel
theorem d19_18 : decode jdk_43_method_13_code 18 = .ok (.aload_n 1, 1) := by decide +kernel
theorem d19_19 : decode jdk_43_method_13_code 19 = .ok (.iload_n 2, 1) := by decide +kernel
theorem d19_20 : decode jdk_43_method_13_code 20 = .ok (.baload, 1) := by decide +kernel
theorem d19_21 : decode jdk_43_method_13_code 21 = .ok (.if_icmp .eq 5, 3) := by decide +kernel
theorem d19_26 : decode jdk_43_method_13_code 26 = .ok (.iinc 2 1, 3) := by decide +kernel
theorem d19_29 : decode jdk_43_method_13_code 29 = .ok (.goto (-20), 3) := by decide +kernel
theorem d19_24 : decode jdk_43_method_13_code 24 = .ok (.iconst 0, 1) := by decide +kernel
theorem d19_25 : decode jdk_43_method_13_code 25 = .ok (.ireturn, 1) := by decide +kernel
theorem d19_34 : decode jdk_43_method_13_code 34 = .ok (.iconst 0, 1) := by decide +kernel
theorem d19_35 : decode jdk_43_method_13_code 35 = .ok (.ireturn, 1) := by decide +kernel
theorem pn_19 : plainName "java/lang/StringLatin1" = true := by first | (simp [plainName, overriddenIn]; done) | decide +kernel
theorem d18_0 : decode jdk_42_method_66_code 0 = .ok (.aload_n 0, 1) := by decide +kernel
theorem d18_1 : decode jdk_42_method_66_code 1 = .ok (.aload_n 1, 1) := by decide +kernel
theorem d18_2 : decode jdk_42_method_66_code 2 = .ok (.if_acmp .ne 5, 3) := by decide +kernel
theorem d18_5 : decode jdk_42_method_66_code 5 = .ok (.iconst 1, 1) := by decide +kernel
theorem d18_6 : decode jdk_42_method_66_code 6 = .ok (.ireturn, 1) := by decide +kernel
theorem d18_7 : decode jdk_42_method_66_code 7 = .ok (.aload_n 1, 1) := by decide +kernel
theorem d18_8 : decode jdk_42_method_66_code 8 = .ok (.instanceof 10, 3) := by decide +kernel
theorem d18_11 : decode jdk_42_method_66_code 11 = .ok (.ifCond .eq 43, 3) := by decide +kernel
theorem d18_14 : decode jdk_42_method_66_code 14 = .ok (.aload_n 1, 1) := by decide +kernel
theorem d18_15 : decode jdk_42_method_66_code 15 = .ok (.checkcast 10, 3) := by decide +kernel
theorem d18_18 : decode jdk_42_method_66_code 18 = .ok (.astore_n 2, 1) := by decide +kernel
theorem d18_19 : decode jdk_42_method_66_code 19 = .ok (.getstatic 38, 3) := by decide +kernel
theorem d18_22 : decode jdk_42_method_66_code 22 = .ok (.ifCond .eq 14, 3) := by decide +kernel
theorem d18_25 : decode jdk_42_method_66_code 25 = .ok (.aload_n 0, 1) := by decide +kernel
theorem d18_26 : decode jdk_42_method_66_code 26 = .ok (.getfield 15, 3) := by decide +kernel
theorem d18_29 : decode jdk_42_method_66_code 29 = .ok (.aload_n 2, 1) := by decide +kernel
theorem d18_30 : decode jdk_42_method_66_code 30 = .ok (.getfield 15, 3) := by decide +kernel
theorem d18_33 : decode jdk_42_method_66_code 33 = .ok (.if_icmp .ne 21, 3) := by decide +kernel
theorem d18_36 : decode jdk_42_method_66_code 36 = .ok (.aload_n 0, 1) := by decide +kernel
theorem d18_37 : decode jdk_42_method_66_code 37 = .ok (.getfield 9, 3) := by decide +kernel
theorem d18_40 : decode jdk_42_method_66_code 40 = .ok (.aload_n 2, 1) := by decide +kernel
theorem d18_41 : decode jdk_42_method_66_code 41 = .ok (.getfield 9, 3) := by decide +kernel
theorem pd_11 : parseMethodDescriptor "([B[B)Z" = some ⟨[(.array .byte), (.array .byte)], some .boolean⟩ := by decide +kernel
theorem d18_44 : decode jdk_42_method_66_code 44 = .ok (.invokestatic 541, 3) := by decide +kernel
theorem d18_47 : decode jdk_42_method_66_code 47 = .ok (.ifCond .eq 7, 3) := by decide +kernel
theorem d18_54 : decode jdk_42_method_66_code 54 = .ok (.iconst 0, 1) := by decide +kernel
theorem d18_55 : decode jdk_42_method_66_code 55 = .ok (.ireturn, 1) := by decide +kernel
theorem d18_50 : decode jdk_42_method_66_code 50 = .ok (.iconst 1, 1) := by decide +kernel
theorem d18_51 : decode jdk_42_method_66_code 51 = .ok (.goto 4, 3) := by decide +kernel
theorem pn_18 : plainName "java/lang/String" = true := by first | (simp [plainName, overriddenIn]; done) | decide +kernel
theorem d17_0 : decode prog_25_method_1_code 0 = .ok (.getstatic 13, 3) := by decide +kernel
theorem d17_3 : decode prog_25_method_1_code 3 = .ok (.invokevirtual 17, 3) := by decide +kernel
theorem d17_6 : decode prog_25_method_1_code 6 = .ok (.checkcast 18, 3) := by decide +kernel
theorem d17_9 : decode prog_25_method_1_code 9 = .ok (.areturn, 1) := by decide +kernel
theorem pn_17 : plainName "com/example/aeneas/aeneas/Side" = true := by first | (simp [plainName, overriddenIn]; done) | decide +kernel
theorem d16_0 : decode prog_25_method_6_code 0 = .ok (.aconst_null, 1) := by decide +kernel
theorem d16_1 : decode prog_25_method_6_code 1 = .ok (.astore_n 1, 1) := by decide +kernel
theorem pd_12 : parseMethodDescriptor "()[Lcom/example/aeneas/aeneas/Side;" = some ⟨[], some (.array (.object "com/example/aeneas/aeneas/Side"))⟩ := by decide +kernel
theorem d16_2 : decode prog_25_method_6_code 2 = .ok (.invokestatic 41, 3) := by decide +kernel
theorem d16_5 : decode prog_25_method_6_code 5 = .ok (.astore_n 2, 1) := by decide +kernel
theorem d16_6 : decode prog_25_method_6_code 6 = .ok (.aload_n 2, 1) := by decide +kernel
theorem d16_7 : decode prog_25_method_6_code 7 = .ok (.arraylength, 1) := by decide +kernel
theorem d16_8 : decode prog_25_method_6_code 8 = .ok (.istore_n 3, 1) := by decide +kernel
theorem d16_9 : decode prog_25_method_6_code 9 = .ok (.iconst 0, 1) := by decide +kernel
theorem d16_10 : decode prog_25_method_6_code 10 = .ok (.istore 4, 2) := by decide +kernel
theorem d16_12 : decode prog_25_method_6_code 12 = .ok (.iload 4, 2) := by decide +kernel
theorem d16_14 : decode prog_25_method_6_code 14 = .ok (.iload_n 3, 1) := by decide +kernel
theorem d16_15 : decode prog_25_method_6_code 15 = .ok (.if_icmp .ge 33, 3) := by decide +kernel
theorem d16_18 : decode prog_25_method_6_code 18 = .ok (.aload_n 2, 1) := by decide +kernel
theorem d16_19 : decode prog_25_method_6_code 19 = .ok (.iload 4, 2) := by decide +kernel
theorem d16_21 : decode prog_25_method_6_code 21 = .ok (.aaload, 1) := by decide +kernel
theorem d16_22 : decode prog_25_method_6_code 22 = .ok (.astore 5, 2) := by decide +kernel
theorem d16_24 : decode prog_25_method_6_code 24 = .ok (.aload 5, 2) := by decide +kernel
theorem d16_26 : decode prog_25_method_6_code 26 = .ok (.getfield 32, 3) := by decide +kernel
theorem d16_29 : decode prog_25_method_6_code 29 = .ok (.aload_n 0, 1) := by decide +kernel
theorem pd_13 : parseMethodDescriptor "(Ljava/lang/Object;)Z" = some ⟨[(.object "java/lang/Object")], some .boolean⟩ := by decide +kernel
theorem d16_30 : decode prog_25_method_6_code 30 = .ok (.invokevirtual 57, 3) := by decide +kernel
theorem d16_33 : decode prog_25_method_6_code 33 = .ok (.ifCond .eq 9, 3) := by decide +kernel
theorem d16_42 : decode prog_25_method_6_code 42 = .ok (.iinc 4 1, 3) := by decide +kernel
theorem d16_45 : decode prog_25_method_6_code 45 = .ok (.goto (-33), 3) := by decide +kernel
theorem d16_48 : decode prog_25_method_6_code 48 = .ok (.aload_n 1, 1) := by decide +kernel
theorem d16_49 : decode prog_25_method_6_code 49 = .ok (.areturn, 1) := by decide +kernel
theorem d16_36 : decode prog_25_method_6_code 36 = .ok (.aload 5, 2) := by decide +kernel
theorem d16_38 : decode prog_25_method_6_code 38 = .ok (.astore_n 1, 1) := by decide +kernel
theorem d16_39 : decode prog_25_method_6_code 39 = .ok (.goto 9, 3) := by decide +kernel
theorem pn_16 : plainName "com/example/aeneas/aeneas/Side" = true := by first | (simp [plainName, overriddenIn]; done) | decide +kernel
theorem d1_0 : decode method_4_code 0 = .ok (.iload_n 0, 1) := by decide +kernel
theorem d1_1 : decode method_4_code 1 = .ok (.ifCond .ne 14, 3) := by decide +kernel
theorem d1_15 : decode method_4_code 15 = .ok (.iload_n 0, 1) := by decide +kernel
theorem d1_16 : decode method_4_code 16 = .ok (.iconst 1, 1) := by decide +kernel
theorem d1_17 : decode method_4_code 17 = .ok (.if_icmp .ne 24, 3) := by decide +kernel
theorem d1_20 : decode method_4_code 20 = .ok (.new 26, 3) := by decide +kernel
theorem d1_23 : decode method_4_code 23 = .ok (.dup, 1) := by decide +kernel
theorem d1_24 : decode method_4_code 24 = .ok (.iconst 1, 1) := by decide +kernel
theorem d1_25 : decode method_4_code 25 = .ok (.newarray .char, 2) := by decide +kernel
theorem d1_27 : decode method_4_code 27 = .ok (.dup, 1) := by decide +kernel
theorem d1_28 : decode method_4_code 28 = .ok (.iconst 0, 1) := by decide +kernel
theorem d1_29 : decode method_4_code 29 = .ok (.aload_n 1, 1) := by decide +kernel
theorem d1_30 : decode method_4_code 30 = .ok (.iconst 0, 1) := by decide +kernel
theorem d1_31 : decode method_4_code 31 = .ok (.iload_n 2, 1) := by decide +kernel
theorem d1_32 : decode method_4_code 32 = .ok (.iload_n 3, 1) := by decide +kernel
theorem pd_14 : parseMethodDescriptor "(Ljava/lang/String;IIC)C" = some ⟨[(.object "java/lang/String"), .int, .int, .char], some .char⟩ := by decide +kernel
theorem d1_33 : decode method_4_code 33 = .ok (.invokestatic 52, 3) := by decide +kernel
theorem d1_36 : decode method_4_code 36 = .ok (.castore, 1) := by decide +kernel
theorem pd_15 : parseMethodDescriptor "([C)V" = some ⟨[(.array .char)], none⟩ := by decide +kernel
theorem d1_37 : decode method_4_code 37 = .ok (.invokespecial 49, 3) := by decide +kernel
theorem d1_40 : decode method_4_code 40 = .ok (.areturn, 1) := by decide +kernel
theorem pn_1 : plainName "com/example/aeneas/aeneas/SideWithLabelPinLaw" = true := by first | (simp [plainName, overriddenIn]; done) | decide +kernel
theorem d1_41 : decode method_4_code 41 = .ok (.iload_n 0, 1) := by decide +kernel
theorem d1_42 : decode method_4_code 42 = .ok (.iconst 2, 1) := by decide +kernel
theorem d1_43 : decode method_4_code 43 = .ok (.if_icmp .ne 34, 3) := by decide +kernel
theorem d1_46 : decode method_4_code 46 = .ok (.new 26, 3) := by decide +kernel
theorem d1_49 : decode method_4_code 49 = .ok (.dup, 1) := by decide +kernel
theorem d1_50 : decode method_4_code 50 = .ok (.iconst 2, 1) := by decide +kernel
theorem d1_51 : decode method_4_code 51 = .ok (.newarray .char, 2) := by decide +kernel
theorem d1_53 : decode method_4_code 53 = .ok (.dup, 1) := by decide +kernel
theorem d1_54 : decode method_4_code 54 = .ok (.iconst 0, 1) := by decide +kernel
theorem d1_55 : decode method_4_code 55 = .ok (.aload_n 1, 1) := by decide +kernel
theorem d1_56 : decode method_4_code 56 = .ok (.iconst 0, 1) := by decide +kernel
theorem d1_57 : decode method_4_code 57 = .ok (.iload_n 2, 1) := by decide +kernel
theorem d1_58 : decode method_4_code 58 = .ok (.iload_n 3, 1) := by decide +kernel
theorem d1_59 : decode method_4_code 59 = .ok (.invokestatic 52, 3) := by decide +kernel
theorem d1_62 : decode method_4_code 62 = .ok (.castore, 1) := by decide +kernel
theorem d1_63 : decode method_4_code 63 = .ok (.dup, 1) := by decide +kernel
theorem d1_64 : decode method_4_code 64 = .ok (.iconst 1, 1) := by decide +kernel
theorem d1_65 : decode method_4_code 65 = .ok (.aload_n 1, 1) := by decide +kernel
theorem d1_66 : decode method_4_code 66 = .ok (.iconst 1, 1) := by decide +kernel
theorem d1_67 : decode method_4_code 67 = .ok (.iload_n 2, 1) := by decide +kernel
theorem d1_68 : decode method_4_code 68 = .ok (.iload_n 3, 1) := by decide +kernel
theorem d1_69 : decode method_4_code 69 = .ok (.invokestatic 52, 3) := by decide +kernel
theorem d1_72 : decode method_4_code 72 = .ok (.castore, 1) := by decide +kernel
theorem d1_73 : decode method_4_code 73 = .ok (.invokespecial 49, 3) := by decide +kernel
theorem d1_76 : decode method_4_code 76 = .ok (.areturn, 1) := by decide +kernel
theorem d1_77 : decode method_4_code 77 = .ok (.iload_n 0, 1) := by decide +kernel
theorem d1_78 : decode method_4_code 78 = .ok (.iconst 3, 1) := by decide +kernel
theorem d1_79 : decode method_4_code 79 = .ok (.if_icmp .ne 44, 3) := by decide +kernel
theorem d1_82 : decode method_4_code 82 = .ok (.new 26, 3) := by decide +kernel
theorem d1_85 : decode method_4_code 85 = .ok (.dup, 1) := by decide +kernel
theorem d1_86 : decode method_4_code 86 = .ok (.iconst 3, 1) := by decide +kernel
theorem d1_87 : decode method_4_code 87 = .ok (.newarray .char, 2) := by decide +kernel
theorem d1_89 : decode method_4_code 89 = .ok (.dup, 1) := by decide +kernel
theorem d1_90 : decode method_4_code 90 = .ok (.iconst 0, 1) := by decide +kernel
theorem d1_91 : decode method_4_code 91 = .ok (.aload_n 1, 1) := by decide +kernel
theorem d1_92 : decode method_4_code 92 = .ok (.iconst 0, 1) := by decide +kernel
theorem d1_93 : decode method_4_code 93 = .ok (.iload_n 2, 1) := by decide +kernel
theorem d1_94 : decode method_4_code 94 = .ok (.iload_n 3, 1) := by decide +kernel
theorem d1_95 : decode method_4_code 95 = .ok (.invokestatic 52, 3) := by decide +kernel
theorem d1_98 : decode method_4_code 98 = .ok (.castore, 1) := by decide +kernel
theorem d1_99 : decode method_4_code 99 = .ok (.dup, 1) := by decide +kernel
theorem d1_100 : decode method_4_code 100 = .ok (.iconst 1, 1) := by decide +kernel
theorem d1_101 : decode method_4_code 101 = .ok (.aload_n 1, 1) := by decide +kernel
theorem d1_102 : decode method_4_code 102 = .ok (.iconst 1, 1) := by decide +kernel
theorem d1_103 : decode method_4_code 103 = .ok (.iload_n 2, 1) := by decide +kernel
theorem d1_104 : decode method_4_code 104 = .ok (.iload_n 3, 1) := by decide +kernel
theorem d1_105 : decode method_4_code 105 = .ok (.invokestatic 52, 3) := by decide +kernel
theorem d1_108 : decode method_4_code 108 = .ok (.castore, 1) := by decide +kernel
theorem d1_109 : decode method_4_code 109 = .ok (.dup, 1) := by decide +kernel
theorem d1_110 : decode method_4_code 110 = .ok (.iconst 2, 1) := by decide +kernel
theorem d1_111 : decode method_4_code 111 = .ok (.aload_n 1, 1) := by decide +kernel
theorem d1_112 : decode method_4_code 112 = .ok (.iconst 2, 1) := by decide +kernel
theorem d1_113 : decode method_4_code 113 = .ok (.iload_n 2, 1) := by decide +kernel
theorem d1_114 : decode method_4_code 114 = .ok (.iload_n 3, 1) := by decide +kernel
theorem d1_115 : decode method_4_code 115 = .ok (.invokestatic 52, 3) := by decide +kernel
theorem d1_118 : decode method_4_code 118 = .ok (.castore, 1) := by decide +kernel
theorem d1_119 : decode method_4_code 119 = .ok (.invokespecial 49, 3) := by decide +kernel
theorem d1_122 : decode method_4_code 122 = .ok (.areturn, 1) := by decide +kernel
theorem d1_123 : decode method_4_code 123 = .ok (.iload_n 0, 1) := by decide +kernel
theorem d1_124 : decode method_4_code 124 = .ok (.iconst 4, 1) := by decide +kernel
theorem d1_125 : decode method_4_code 125 = .ok (.if_icmp .ne 54, 3) := by decide +kernel
theorem d1_128 : decode method_4_code 128 = .ok (.new 26, 3) := by decide +kernel
theorem d1_131 : decode method_4_code 131 = .ok (.dup, 1) := by decide +kernel
theorem d1_132 : decode method_4_code 132 = .ok (.iconst 4, 1) := by decide +kernel
theorem d1_133 : decode method_4_code 133 = .ok (.newarray .char, 2) := by decide +kernel
theorem d1_135 : decode method_4_code 135 = .ok (.dup, 1) := by decide +kernel
theorem d1_136 : decode method_4_code 136 = .ok (.iconst 0, 1) := by decide +kernel
theorem d1_137 : decode method_4_code 137 = .ok (.aload_n 1, 1) := by decide +kernel
theorem d1_138 : decode method_4_code 138 = .ok (.iconst 0, 1) := by decide +kernel
theorem d1_139 : decode method_4_code 139 = .ok (.iload_n 2, 1) := by decide +kernel
theorem d1_140 : decode method_4_code 140 = .ok (.iload_n 3, 1) := by decide +kernel
theorem d1_141 : decode method_4_code 141 = .ok (.invokestatic 52, 3) := by decide +kernel
theorem d1_144 : decode method_4_code 144 = .ok (.castore, 1) := by decide +kernel
theorem d1_145 : decode method_4_code 145 = .ok (.dup, 1) := by decide +kernel
theorem d1_146 : decode method_4_code 146 = .ok (.iconst 1, 1) := by decide +kernel
theorem d1_147 : decode method_4_code 147 = .ok (.aload_n 1, 1) := by decide +kernel
theorem d1_148 : decode method_4_code 148 = .ok (.iconst 1, 1) := by decide +kernel
theorem d1_149 : decode method_4_code 149 = .ok (.iload_n 2, 1) := by decide +kernel
theorem d1_150 : decode method_4_code 150 = .ok (.iload_n 3, 1) := by decide +kernel
theorem d1_151 : decode method_4_code 151 = .ok (.invokestatic 52, 3) := by decide +kernel
theorem d1_154 : decode method_4_code 154 = .ok (.castore, 1) := by decide +kernel
theorem d1_155 : decode method_4_code 155 = .ok (.dup, 1) := by decide +kernel
theorem d1_156 : decode method_4_code 156 = .ok (.iconst 2, 1) := by decide +kernel
theorem d1_157 : decode method_4_code 157 = .ok (.aload_n 1, 1) := by decide +kernel
theorem d1_158 : decode method_4_code 158 = .ok (.iconst 2, 1) := by decide +kernel
theorem d1_159 : decode method_4_code 159 = .ok (.iload_n 2, 1) := by decide +kernel
theorem d1_160 : decode method_4_code 160 = .ok (.iload_n 3, 1) := by decide +kernel
theorem d1_161 : decode method_4_code 161 = .ok (.invokestatic 52, 3) := by decide +kernel
theorem d1_164 : decode method_4_code 164 = .ok (.castore, 1) := by decide +kernel
theorem d1_165 : decode method_4_code 165 = .ok (.dup, 1) := by decide +kernel
theorem d1_166 : decode method_4_code 166 = .ok (.iconst 3, 1) := by decide +kernel
theorem d1_167 : decode method_4_code 167 = .ok (.aload_n 1, 1) := by decide +kernel
theorem d1_168 : decode method_4_code 168 = .ok (.iconst 3, 1) := by decide +kernel
theorem d1_169 : decode method_4_code 169 = .ok (.iload_n 2, 1) := by decide +kernel
theorem d1_170 : decode method_4_code 170 = .ok (.iload_n 3, 1) := by decide +kernel
theorem d1_171 : decode method_4_code 171 = .ok (.invokestatic 52, 3) := by decide +kernel
theorem d1_174 : decode method_4_code 174 = .ok (.castore, 1) := by decide +kernel
theorem d1_175 : decode method_4_code 175 = .ok (.invokespecial 49, 3) := by decide +kernel
theorem d1_178 : decode method_4_code 178 = .ok (.areturn, 1) := by decide +kernel
theorem d1_179 : decode method_4_code 179 = .ok (.iload_n 0, 1) := by decide +kernel
theorem d1_180 : decode method_4_code 180 = .ok (.iconst 5, 1) := by decide +kernel
theorem d1_181 : decode method_4_code 181 = .ok (.if_icmp .ne 64, 3) := by decide +kernel
theorem d1_184 : decode method_4_code 184 = .ok (.new 26, 3) := by decide +kernel
theorem d1_187 : decode method_4_code 187 = .ok (.dup, 1) := by decide +kernel
theorem d1_188 : decode method_4_code 188 = .ok (.iconst 5, 1) := by decide +kernel
theorem d1_189 : decode method_4_code 189 = .ok (.newarray .char, 2) := by decide +kernel
theorem d1_191 : decode method_4_code 191 = .ok (.dup, 1) := by decide +kernel
theorem d1_192 : decode method_4_code 192 = .ok (.iconst 0, 1) := by decide +kernel
theorem d1_193 : decode method_4_code 193 = .ok (.aload_n 1, 1) := by decide +kernel
theorem d1_194 : decode method_4_code 194 = .ok (.iconst 0, 1) := by decide +kernel
theorem d1_195 : decode method_4_code 195 = .ok (.iload_n 2, 1) := by decide +kernel
theorem d1_196 : decode method_4_code 196 = .ok (.iload_n 3, 1) := by decide +kernel
theorem d1_197 : decode method_4_code 197 = .ok (.invokestatic 52, 3) := by decide +kernel
theorem d1_200 : decode method_4_code 200 = .ok (.castore, 1) := by decide +kernel
theorem d1_201 : decode method_4_code 201 = .ok (.dup, 1) := by decide +kernel
theorem d1_202 : decode method_4_code 202 = .ok (.iconst 1, 1) := by decide +kernel
theorem d1_203 : decode method_4_code 203 = .ok (.aload_n 1, 1) := by decide +kernel
theorem d1_204 : decode method_4_code 204 = .ok (.iconst 1, 1) := by decide +kernel
theorem d1_205 : decode method_4_code 205 = .ok (.iload_n 2, 1) := by decide +kernel
theorem d1_206 : decode method_4_code 206 = .ok (.iload_n 3, 1) := by decide +kernel
theorem d1_207 : decode method_4_code 207 = .ok (.invokestatic 52, 3) := by decide +kernel
theorem d1_210 : decode method_4_code 210 = .ok (.castore, 1) := by decide +kernel
theorem d1_211 : decode method_4_code 211 = .ok (.dup, 1) := by decide +kernel
theorem d1_212 : decode method_4_code 212 = .ok (.iconst 2, 1) := by decide +kernel
theorem d1_213 : decode method_4_code 213 = .ok (.aload_n 1, 1) := by decide +kernel
theorem d1_214 : decode method_4_code 214 = .ok (.iconst 2, 1) := by decide +kernel
theorem d1_215 : decode method_4_code 215 = .ok (.iload_n 2, 1) := by decide +kernel
theorem d1_216 : decode method_4_code 216 = .ok (.iload_n 3, 1) := by decide +kernel
theorem d1_217 : decode method_4_code 217 = .ok (.invokestatic 52, 3) := by decide +kernel
theorem d1_220 : decode method_4_code 220 = .ok (.castore, 1) := by decide +kernel
theorem d1_221 : decode method_4_code 221 = .ok (.dup, 1) := by decide +kernel
theorem d1_222 : decode method_4_code 222 = .ok (.iconst 3, 1) := by decide +kernel
theorem d1_223 : decode method_4_code 223 = .ok (.aload_n 1, 1) := by decide +kernel
theorem d1_224 : decode method_4_code 224 = .ok (.iconst 3, 1) := by decide +kernel
theorem d1_225 : decode method_4_code 225 = .ok (.iload_n 2, 1) := by decide +kernel
theorem d1_226 : decode method_4_code 226 = .ok (.iload_n 3, 1) := by decide +kernel
theorem d1_227 : decode method_4_code 227 = .ok (.invokestatic 52, 3) := by decide +kernel
theorem d1_230 : decode method_4_code 230 = .ok (.castore, 1) := by decide +kernel
theorem d1_231 : decode method_4_code 231 = .ok (.dup, 1) := by decide +kernel
theorem d1_232 : decode method_4_code 232 = .ok (.iconst 4, 1) := by decide +kernel
theorem d1_233 : decode method_4_code 233 = .ok (.aload_n 1, 1) := by decide +kernel
theorem d1_234 : decode method_4_code 234 = .ok (.iconst 4, 1) := by decide +kernel
theorem d1_235 : decode method_4_code 235 = .ok (.iload_n 2, 1) := by decide +kernel
theorem d1_236 : decode method_4_code 236 = .ok (.iload_n 3, 1) := by decide +kernel
theorem d1_237 : decode method_4_code 237 = .ok (.invokestatic 52, 3) := by decide +kernel
theorem d1_240 : decode method_4_code 240 = .ok (.castore, 1) := by decide +kernel
theorem d1_241 : decode method_4_code 241 = .ok (.invokespecial 49, 3) := by decide +kernel
theorem d1_244 : decode method_4_code 244 = .ok (.areturn, 1) := by decide +kernel
theorem d1_245 : decode method_4_code 245 = .ok (.iload_n 0, 1) := by decide +kernel
theorem d1_246 : decode method_4_code 246 = .ok (.bipush 6, 2) := by decide +kernel
theorem d1_248 : decode method_4_code 248 = .ok (.if_icmp .ne 75, 3) := by decide +kernel
theorem d1_251 : decode method_4_code 251 = .ok (.new 26, 3) := by decide +kernel
theorem d1_254 : decode method_4_code 254 = .ok (.dup, 1) := by decide +kernel
theorem d1_255 : decode method_4_code 255 = .ok (.bipush 6, 2) := by decide +kernel
theorem d1_257 : decode method_4_code 257 = .ok (.newarray .char, 2) := by decide +kernel
theorem d1_259 : decode method_4_code 259 = .ok (.dup, 1) := by decide +kernel
theorem d1_260 : decode method_4_code 260 = .ok (.iconst 0, 1) := by decide +kernel
theorem d1_261 : decode method_4_code 261 = .ok (.aload_n 1, 1) := by decide +kernel
theorem d1_262 : decode method_4_code 262 = .ok (.iconst 0, 1) := by decide +kernel
theorem d1_263 : decode method_4_code 263 = .ok (.iload_n 2, 1) := by decide +kernel
theorem d1_264 : decode method_4_code 264 = .ok (.iload_n 3, 1) := by decide +kernel
theorem d1_265 : decode method_4_code 265 = .ok (.invokestatic 52, 3) := by decide +kernel
theorem d1_268 : decode method_4_code 268 = .ok (.castore, 1) := by decide +kernel
theorem d1_269 : decode method_4_code 269 = .ok (.dup, 1) := by decide +kernel
theorem d1_270 : decode method_4_code 270 = .ok (.iconst 1, 1) := by decide +kernel
theorem d1_271 : decode method_4_code 271 = .ok (.aload_n 1, 1) := by decide +kernel
theorem d1_272 : decode method_4_code 272 = .ok (.iconst 1, 1) := by decide +kernel
theorem d1_273 : decode method_4_code 273 = .ok (.iload_n 2, 1) := by decide +kernel
theorem d1_274 : decode method_4_code 274 = .ok (.iload_n 3, 1) := by decide +kernel
theorem d1_275 : decode method_4_code 275 = .ok (.invokestatic 52, 3) := by decide +kernel
theorem d1_278 : decode method_4_code 278 = .ok (.castore, 1) := by decide +kernel
theorem d1_279 : decode method_4_code 279 = .ok (.dup, 1) := by decide +kernel
theorem d1_280 : decode method_4_code 280 = .ok (.iconst 2, 1) := by decide +kernel
theorem d1_281 : decode method_4_code 281 = .ok (.aload_n 1, 1) := by decide +kernel
theorem d1_282 : decode method_4_code 282 = .ok (.iconst 2, 1) := by decide +kernel
theorem d1_283 : decode method_4_code 283 = .ok (.iload_n 2, 1) := by decide +kernel
theorem d1_284 : decode method_4_code 284 = .ok (.iload_n 3, 1) := by decide +kernel
theorem d1_285 : decode method_4_code 285 = .ok (.invokestatic 52, 3) := by decide +kernel
theorem d1_288 : decode method_4_code 288 = .ok (.castore, 1) := by decide +kernel
theorem d1_289 : decode method_4_code 289 = .ok (.dup, 1) := by decide +kernel
theorem d1_290 : decode method_4_code 290 = .ok (.iconst 3, 1) := by decide +kernel
theorem d1_291 : decode method_4_code 291 = .ok (.aload_n 1, 1) := by decide +kernel
theorem d1_292 : decode method_4_code 292 = .ok (.iconst 3, 1) := by decide +kernel
theorem d1_293 : decode method_4_code 293 = .ok (.iload_n 2, 1) := by decide +kernel
theorem d1_294 : decode method_4_code 294 = .ok (.iload_n 3, 1) := by decide +kernel
theorem d1_295 : decode method_4_code 295 = .ok (.invokestatic 52, 3) := by decide +kernel
theorem d1_298 : decode method_4_code 298 = .ok (.castore, 1) := by decide +kernel
theorem d1_299 : decode method_4_code 299 = .ok (.dup, 1) := by decide +kernel
theorem d1_300 : decode method_4_code 300 = .ok (.iconst 4, 1) := by decide +kernel
theorem d1_301 : decode method_4_code 301 = .ok (.aload_n 1, 1) := by decide +kernel
theorem d1_302 : decode method_4_code 302 = .ok (.iconst 4, 1) := by decide +kernel
theorem d1_303 : decode method_4_code 303 = .ok (.iload_n 2, 1) := by decide +kernel
theorem d1_304 : decode method_4_code 304 = .ok (.iload_n 3, 1) := by decide +kernel
theorem d1_305 : decode method_4_code 305 = .ok (.invokestatic 52, 3) := by decide +kernel
theorem d1_308 : decode method_4_code 308 = .ok (.castore, 1) := by decide +kernel
theorem d1_309 : decode method_4_code 309 = .ok (.dup, 1) := by decide +kernel
theorem d1_310 : decode method_4_code 310 = .ok (.iconst 5, 1) := by decide +kernel
theorem d1_311 : decode method_4_code 311 = .ok (.aload_n 1, 1) := by decide +kernel
theorem d1_312 : decode method_4_code 312 = .ok (.iconst 5, 1) := by decide +kernel
theorem d1_313 : decode method_4_code 313 = .ok (.iload_n 2, 1) := by decide +kernel
theorem d1_314 : decode method_4_code 314 = .ok (.iload_n 3, 1) := by decide +kernel
theorem d1_315 : decode method_4_code 315 = .ok (.invokestatic 52, 3) := by decide +kernel
theorem d1_318 : decode method_4_code 318 = .ok (.castore, 1) := by decide +kernel
theorem d1_319 : decode method_4_code 319 = .ok (.invokespecial 49, 3) := by decide +kernel
theorem d1_322 : decode method_4_code 322 = .ok (.areturn, 1) := by decide +kernel
theorem d1_323 : decode method_4_code 323 = .ok (.new 26, 3) := by decide +kernel
theorem d1_326 : decode method_4_code 326 = .ok (.dup, 1) := by decide +kernel
theorem d1_327 : decode method_4_code 327 = .ok (.bipush 7, 2) := by decide +kernel
theorem d1_329 : decode method_4_code 329 = .ok (.newarray .char, 2) := by decide +kernel
theorem d1_331 : decode method_4_code 331 = .ok (.dup, 1) := by decide +kernel
theorem d1_332 : decode method_4_code 332 = .ok (.iconst 0, 1) := by decide +kernel
theorem d1_333 : decode method_4_code 333 = .ok (.aload_n 1, 1) := by decide +kernel
theorem d1_334 : decode method_4_code 334 = .ok (.iconst 0, 1) := by decide +kernel
theorem d1_335 : decode method_4_code 335 = .ok (.iload_n 2, 1) := by decide +kernel
theorem d1_336 : decode method_4_code 336 = .ok (.iload_n 3, 1) := by decide +kernel
theorem d1_337 : decode method_4_code 337 = .ok (.invokestatic 52, 3) := by decide +kernel
theorem d1_340 : decode method_4_code 340 = .ok (.castore, 1) := by decide +kernel
theorem d1_341 : decode method_4_code 341 = .ok (.dup, 1) := by decide +kernel
theorem d1_342 : decode method_4_code 342 = .ok (.iconst 1, 1) := by decide +kernel
theorem d1_343 : decode method_4_code 343 = .ok (.aload_n 1, 1) := by decide +kernel
theorem d1_344 : decode method_4_code 344 = .ok (.iconst 1, 1) := by decide +kernel
theorem d1_345 : decode method_4_code 345 = .ok (.iload_n 2, 1) := by decide +kernel
theorem d1_346 : decode method_4_code 346 = .ok (.iload_n 3, 1) := by decide +kernel
theorem d1_347 : decode method_4_code 347 = .ok (.invokestatic 52, 3) := by decide +kernel
theorem d1_350 : decode method_4_code 350 = .ok (.castore, 1) := by decide +kernel
theorem d1_351 : decode method_4_code 351 = .ok (.dup, 1) := by decide +kernel
theorem d1_352 : decode method_4_code 352 = .ok (.iconst 2, 1) := by decide +kernel
theorem d1_353 : decode method_4_code 353 = .ok (.aload_n 1, 1) := by decide +kernel
theorem d1_354 : decode method_4_code 354 = .ok (.iconst 2, 1) := by decide +kernel
theorem d1_355 : decode method_4_code 355 = .ok (.iload_n 2, 1) := by decide +kernel
theorem d1_356 : decode method_4_code 356 = .ok (.iload_n 3, 1) := by decide +kernel
theorem d1_357 : decode method_4_code 357 = .ok (.invokestatic 52, 3) := by decide +kernel
theorem d1_360 : decode method_4_code 360 = .ok (.castore, 1) := by decide +kernel
theorem d1_361 : decode method_4_code 361 = .ok (.dup, 1) := by decide +kernel
theorem d1_362 : decode method_4_code 362 = .ok (.iconst 3, 1) := by decide +kernel
theorem d1_363 : decode method_4_code 363 = .ok (.aload_n 1, 1) := by decide +kernel
theorem d1_364 : decode method_4_code 364 = .ok (.iconst 3, 1) := by decide +kernel
theorem d1_365 : decode method_4_code 365 = .ok (.iload_n 2, 1) := by decide +kernel
theorem d1_366 : decode method_4_code 366 = .ok (.iload_n 3, 1) := by decide +kernel
theorem d1_367 : decode method_4_code 367 = .ok (.invokestatic 52, 3) := by decide +kernel
theorem d1_370 : decode method_4_code 370 = .ok (.castore, 1) := by decide +kernel
theorem d1_371 : decode method_4_code 371 = .ok (.dup, 1) := by decide +kernel
theorem d1_372 : decode method_4_code 372 = .ok (.iconst 4, 1) := by decide +kernel
theorem d1_373 : decode method_4_code 373 = .ok (.aload_n 1, 1) := by decide +kernel
theorem d1_374 : decode method_4_code 374 = .ok (.iconst 4, 1) := by decide +kernel
theorem d1_375 : decode method_4_code 375 = .ok (.iload_n 2, 1) := by decide +kernel
theorem d1_376 : decode method_4_code 376 = .ok (.iload_n 3, 1) := by decide +kernel
theorem d1_377 : decode method_4_code 377 = .ok (.invokestatic 52, 3) := by decide +kernel
theorem d1_380 : decode method_4_code 380 = .ok (.castore, 1) := by decide +kernel
theorem d1_381 : decode method_4_code 381 = .ok (.dup, 1) := by decide +kernel
theorem d1_382 : decode method_4_code 382 = .ok (.iconst 5, 1) := by decide +kernel
theorem d1_383 : decode method_4_code 383 = .ok (.aload_n 1, 1) := by decide +kernel
theorem d1_384 : decode method_4_code 384 = .ok (.iconst 5, 1) := by decide +kernel
theorem d1_385 : decode method_4_code 385 = .ok (.iload_n 2, 1) := by decide +kernel
theorem d1_386 : decode method_4_code 386 = .ok (.iload_n 3, 1) := by decide +kernel
theorem d1_387 : decode method_4_code 387 = .ok (.invokestatic 52, 3) := by decide +kernel
theorem d1_390 : decode method_4_code 390 = .ok (.castore, 1) := by decide +kernel
theorem d1_391 : decode method_4_code 391 = .ok (.dup, 1) := by decide +kernel
theorem d1_392 : decode method_4_code 392 = .ok (.bipush 6, 2) := by decide +kernel
theorem d1_394 : decode method_4_code 394 = .ok (.aload_n 1, 1) := by decide +kernel
theorem d1_395 : decode method_4_code 395 = .ok (.bipush 6, 2) := by decide +kernel
theorem d1_397 : decode method_4_code 397 = .ok (.iload_n 2, 1) := by decide +kernel
theorem d1_398 : decode method_4_code 398 = .ok (.iload_n 3, 1) := by decide +kernel
theorem d1_399 : decode method_4_code 399 = .ok (.invokestatic 52, 3) := by decide +kernel
theorem d1_402 : decode method_4_code 402 = .ok (.castore, 1) := by decide +kernel
theorem d1_403 : decode method_4_code 403 = .ok (.invokespecial 49, 3) := by decide +kernel
theorem d1_406 : decode method_4_code 406 = .ok (.areturn, 1) := by decide +kernel
theorem d11_8 : decode jdk_42_method_149_code 8 = .ok (.aload_n 0, 1) := by decide +kernel
theorem d11_9 : decode jdk_42_method_149_code 9 = .ok (.ldc 7, 2) := by decide +kernel
theorem d11_11 : decode jdk_42_method_149_code 11 = .ok (.getfield 9, 3) := by decide +kernel
theorem d11_14 : decode jdk_42_method_149_code 14 = .ok (.putfield 9, 3) := by decide +kernel
theorem d11_17 : decode jdk_42_method_149_code 17 = .ok (.aload_n 0, 1) := by decide +kernel
theorem d11_18 : decode jdk_42_method_149_code 18 = .ok (.ldc 7, 2) := by decide +kernel
theorem d11_20 : decode jdk_42_method_149_code 20 = .ok (.getfield 15, 3) := by decide +kernel
theorem d11_23 : decode jdk_42_method_149_code 23 = .ok (.putfield 15, 3) := by decide +kernel
theorem d11_26 : decode jdk_42_method_149_code 26 = .ok (.return_, 1) := by decide +kernel
theorem d1_4 : decode method_4_code 4 = .ok (.new 26, 3) := by decide +kernel
theorem d1_7 : decode method_4_code 7 = .ok (.dup, 1) := by decide +kernel
theorem d1_8 : decode method_4_code 8 = .ok (.iconst 0, 1) := by decide +kernel
theorem d1_9 : decode method_4_code 9 = .ok (.newarray .char, 2) := by decide +kernel
theorem d1_11 : decode method_4_code 11 = .ok (.invokespecial 49, 3) := by decide +kernel
theorem d1_14 : decode method_4_code 14 = .ok (.areturn, 1) := by decide +kernel
theorem pd_16 : parseMethodDescriptor "(ILjava/lang/String;IC)Ljava/lang/String;" = some ⟨[.int, (.object "java/lang/String"), .int, .char], some (.object "java/lang/String")⟩ := by decide +kernel
theorem pd_17 : parseMethodDescriptor "(Ljava/lang/String;)Lcom/example/aeneas/aeneas/Side;" = some ⟨[(.object "java/lang/String")], some (.object "com/example/aeneas/aeneas/Side")⟩ := by decide +kernel
theorem pn_0 : plainName "com/example/aeneas/aeneas/SideWithLabelPinLaw" = true := by first | (simp [plainName, overriddenIn]; done) | decide +kernel
section OwnArr
variable {p : Program} {l : Launch} {e : Env} {R : Room} {s : State} {m : MethodId} {args : Array Value} {below : List Frame} {meth : Method} {c : Code} {Z : State} {y : MethodName} {ret : Option FieldType} {code : ByteArray} {ml : Nat} {ws : List Addr} {T : State} {h : Heap} {cells slots : Nat} {C : Outcome → State → Prop} {a0 : Array Value}
theorem own_clone (W : own_W p l e R s m args below meth c Z y ret code ml ws T h cells slots) {ad : String} {i : Nat} {a : Addr} {ty : FieldType} {n : Nat} {f : Nat → Value} (cap wt : Nat) {pc : Nat} (pc' : Nat) {L : Array Slot} {st : List Value} (hd : decode code pc = .ok (.invokevirtual i, 3)) (w1 : (Jvm.Cond.methodLink y.cls i ⟨ad, "clone", "()Ljava/lang/Object;"⟩).before a0 Z = true) (w2 : (Jvm.Cond.sameMethod ad "java/lang/Object" "clone" "()Ljava/lang/Object;").before a0 Z = true) (w3 : (Jvm.Cond.native ⟨"java/lang/Object", "clone", "()Ljava/lang/Object;"⟩).before a0 Z = true) (w4 : (Jvm.Cond.instanceMethod ⟨"java/lang/Object", "clone", "()Ljava/lang/Object;"⟩).before a0 Z = true) (w5 : (Jvm.Cond.selects ad ⟨ad, "clone", "()Ljava/lang/Object;"⟩ ⟨"java/lang/Object", "clone", "()Ljava/lang/Object;"⟩).before a0 Z = true) (w6 : (Jvm.Cond.castable ad "java/lang/Cloneable").before a0 Z = true) (F : own_A Z h a ty n f) (E : Exa Z h a ad) (hfit : ∀ j, j < n → fits ty (f j) = true) (hL : L.size = ml) (hwt : (st.map fun v => v.category).sum ≤ wt) (hf : 1 ≤ R.frames) (hlo : wt + 14 ≤ R.locals) (hcap : n ≤ cap) (hc : cells + 1 ≤ R.cells) (hsl : slots + cap ≤ R.slots) (hp : pc + 3 = pc') (k : ∀ T' h' b, own_W p l e R s m args below meth c Z y ret code ml ws T' h' (cells + 1) (slots + cap) → Ext h h' → b = h.size → s.heap.size ≤ b → own_A Z h' b ty n f → Exa Z h' b ad → own_Go p e below C T' (mkF m pc' L (.ref b :: st))) : own_Go p e below C T (mkF m pc L (.ref a :: st)) := by
  have hsz := own_le W
  obtain ⟨⟨hx, hby, hml, hown, hnm, hrt, hlk, hZ⟩, locs, X, eT, N⟩ := W
  subst hp
  obtain ⟨cl, A, r1, r2⟩ := F
  have FC : FitC Z cl := fitC_of A (fun i hi v hv => by
    rw [r1] at hi
    rw [r2 i hi] at hv
    cases hv
    exact hfit i hi)
  obtain ⟨T', h', X', e', E', A', Y', st'⟩ := cloneA X hx hZ hown w1 w2 w3 w4 w5 w6 eT A E FC (g := mkF m pc L (.ref a :: st)) rfl (by rw [hml]; exact hL) rfl (hb hby hd) hf (W := wt) (cap := cap) (by show 2 * 0 + _ ≤ _; omega) hlo (by rw [r1]; exact hcap) hc hsl
  exact own_st st' (k T' h' h.size ⟨⟨hx, hby, hml, hown, hnm, hrt, hlk, hZ⟩, locs, X', e', N⟩ E' rfl hsz ⟨_, A', r1, r2⟩ Y')
theorem own_checkcast (W : own_W p l e R s m args below meth c Z y ret code ml ws T h cells slots) {K0 : String} {i : Nat} {a : Addr} {pc : Nat} (pc' : Nat) {L : Array Slot} {st : List Value} (hd : decode code pc = .ok (.checkcast i, 3)) (w : (Jvm.Cond.classLink y.cls i K0).before a0 Z = true) (I : Ins Z h a K0 true) (hp : pc + 3 = pc') (k : ∀ T', own_W p l e R s m args below meth c Z y ret code ml ws T' h cells slots → own_Go p e below C T' (mkF m pc' L (.ref a :: st))) : own_Go p e below C T (mkF m pc L (.ref a :: st)) := by
  have hsz := own_le W
  obtain ⟨⟨hx, hby, hml, hown, hnm, hrt, hlk, hZ⟩, locs, X, eT, N⟩ := W
  subst hp
  obtain ⟨T', X', e', st'⟩ := castY X hx hZ hown w eT I (g := mkF m pc L (.ref a :: st)) rfl rfl (hb hby hd)
  exact own_st st' (k T' ⟨⟨hx, hby, hml, hown, hnm, hrt, hlk, hZ⟩, locs, X', e', N⟩)
end OwnArr
theorem own_inc {u : Int32} {k : Nat} (h : u.toInt = (k : Int)) (hk : k < 2000000000) : (u + (1 : Int32)).toInt = ((k + 1 : Nat) : Int) := by
  have h1 := c_iadd u 1
  have h2 := rng32 (u + 1)
  have h3 : (1 : Int32).toInt = 1 := rfl
  omega
theorem own_ltN {u v : Int32} {i j : Nat} (hu : u.toInt = (i : Int)) (hv : v.toInt = (j : Int)) : u < v ↔ i < j := by
  rw [Int32.lt_iff_toInt_lt]; omega
theorem own_lt0 {u : Int32} : u < 0 ↔ u.toInt < 0 := by
  rw [Int32.lt_iff_toInt_lt]; have : (0 : Int32).toInt = 0 := rfl
  rw [this]
theorem own_lt4 {n : Nat} (h : n < 4) : n = 0 ∨ n = 1 ∨ n = 2 ∨ n = 3 := by omega
def own_g (x0 x1 x2 x3 : Int32) (j : Nat) : Int32 := if j = 0 then x0 else if j = 1 then x1 else if j = 2 then x2 else x3
section OwnStr
variable {p : Program} {l : Launch} {e : Env} {R : Room} {s : State} {m : MethodId} {args : Array Value} {below : List Frame} {meth : Method} {c : Code} {Z : State} {y : MethodName} {ret : Option FieldType} {code : ByteArray} {ml : Nat} {ws : List Addr} {T : State} {h : Heap} {cells slots : Nat} {C : Outcome → State → Prop} {a0 : Array Value}
theorem own_instY (W : own_W p l e R s m args below meth c Z y ret code ml ws T h cells slots) {K0 : String} {i : Nat} {a : Addr} {pc : Nat} (pc' : Nat) {L : Array Slot} {st : List Value} (hd : decode code pc = .ok (.instanceof i, 3)) (w : (Jvm.Cond.classLink y.cls i K0).before a0 Z = true) (I : Ins Z h a K0 true) (hp : pc + 3 = pc') (k : ∀ T', own_W p l e R s m args below meth c Z y ret code ml ws T' h cells slots → own_Go p e below C T' (mkF m pc' L (.int 1 :: st))) : own_Go p e below C T (mkF m pc L (.ref a :: st)) := by
  obtain ⟨⟨hx, hby, hml, hown, hnm, hrt, hlk, hZ⟩, locs, X, eT, N⟩ := W
  subst hp
  obtain ⟨T', X', e', st'⟩ := instY X hx hZ hown w eT I (g := mkF m pc L (.ref a :: st)) rfl rfl (hb hby hd)
  exact own_st st' (k T' ⟨⟨hx, hby, hml, hown, hnm, hrt, hlk, hZ⟩, locs, X', e', N⟩)
end OwnStr
theorem own_shr0 (z : Int32) : z >>> ((0 : Int32) &&& 31) = z := by
  apply Int32.toInt_inj.mp
  rw [c_ishr z 0 0 (by decide)]
  simp
theorem own_c16 {z : Int32} (h0 : 0 ≤ z.toInt) (h1 : z.toInt ≤ 255) : z.toUInt32.toUInt16.toUInt32.toInt32.toInt = z.toInt := by
  have h := c_i2c z
  omega
theorem own_255 (z : Int32) : 0 ≤ (z &&& (255 : Int32)).toInt ∧ (z &&& (255 : Int32)).toInt ≤ 255 := by
  have h := c_mask z 255 8 (by decide) (by decide)
  simp only [Nat.reducePow] at h
  omega
def own_eqf : Nat → Nat → (Nat → Int32) → (Nat → Int32) → Int32
  | 0, _, _, _ => 1
  | r + 1, i, g1, g2 => if g1 i = g2 i then own_eqf r (i + 1) g1 g2 else 0
def own_eqs (n1 : Nat) (g1 : Nat → Int32) (n2 : Nat) (g2 : Nat → Int32) : Int32 := if n1 = n2 then own_eqf n1 0 g1 g2 else 0
theorem own_eqf01 : ∀ (r i : Nat) (g1 g2 : Nat → Int32), own_eqf r i g1 g2 = 0 ∨ own_eqf r i g1 g2 = 1
  | 0, _, _, _ => Or.inr rfl
  | r + 1, i, g1, g2 => by
    unfold own_eqf
    split
    · exact own_eqf01 r (i + 1) g1 g2
    · exact Or.inl rfl
theorem own_eqs01 (n1 : Nat) (g1 : Nat → Int32) (n2 : Nat) (g2 : Nat → Int32) : own_eqs n1 g1 n2 g2 = 0 ∨ own_eqs n1 g1 n2 g2 = 1 := by
  unfold own_eqs
  split
  · exact own_eqf01 _ _ _ _
  · exact Or.inl rfl
theorem own_eqfself : ∀ (r i : Nat) (g : Nat → Int32), own_eqf r i g g = 1
  | 0, _, _ => rfl
  | r + 1, i, g => by
    unfold own_eqf
    rw [if_pos rfl]
    exact own_eqfself r (i + 1) g
theorem own_eqsself (n : Nat) (g : Nat → Int32) : own_eqs n g n g = 1 := by
  unfold own_eqs
  rw [if_pos rfl]
  exact own_eqfself _ _ _
theorem own_eqfc : ∀ (r i n : Nat) (g1 g2 g : Nat → Int32), i + r ≤ n → (∀ j, j < n → g1 j = g2 j) → own_eqf r i g1 g = own_eqf r i g2 g
  | 0, _, _, _, _, _, _, _ => rfl
  | r + 1, i, n, g1, g2, g, h, q => by
    unfold own_eqf
    rw [q i (by omega), own_eqfc r (i + 1) n g1 g2 g (by omega) q]
theorem own_eqsc {n1 n2 : Nat} {g1 g2 g : Nat → Int32} (q : ∀ j, j < n1 → g1 j = g2 j) : own_eqs n1 g1 n2 g = own_eqs n1 g2 n2 g := by
  unfold own_eqs
  rw [own_eqfc n1 0 n1 g1 g2 g (by omega) q]
theorem own_staK0 {Z : State} {h h' : Heap} {O n d : String} {v : Value} (F : Sta Z h O n d v) (K : Keep h h' []) : Sta Z h' O n d v := by
  obtain ⟨cf, i, k, f, st, cell, h1, h2, h3, h4, h5, r⟩ := F
  exact ⟨cf, i, k, f, st, cell, h1, h2, h3, h4, K.2.1 _ _ h5 nin0, r⟩
theorem ef_m4 (m : MethodId) (x0 : Addr) : entryFrame m #[(.ref x0)] 1 = mkF m 0 #[.val (.ref x0)] [] := by first | (simp [entryFrame, mkF, argsToLocals, Value.category]; done) | rfl
set_option maxRecDepth 65536 in
set_option maxHeartbeats 40000000 in
theorem own_m4 (l : Launch) (Z : State) (a0 : Array Value) (hw : ∀ d ∈ tables_1, d.before a0 Z = true) (wo : List Jvm.Cond) (h0 : Heap) (a1 : Addr) (cs : Int32) (S_cs : Sta Z h0 "java/lang/String" "COMPACT_STRINGS" "Z" (.int cs)) (F_coder_a1 : Fld Z h0 a1 "java/lang/String" "coder" "B" (.int (0 : Int32))) (hcs : ¬ cs = (0 : Int32)) :
    own_M l Z wo (⟨"java/lang/String", "coder", "()B"⟩ : MethodName) jdk_42_method_152_code 1 (some .byte) ({ frames := 0, cells := 0, slots := 0, locals := 0 } : Room) [] #[(.ref a1)] h0 (fun v h => v = some (.int (0 : Int32))) := by
  refine own_body (plainFor_of_name pn_4) (fun m => ef_m4 m a1) ?_
  intro p e s m below meth c C hC T0 W0
  refine own_getstatic W0 3 d4_0 (wd28 hw) S_cs rfl ?_
  intro T1 W1
  show own_Go p e below C T1 (mkF m 3 #[.val (.ref a1)] [(.int cs)])
  refine own_ifN W1 6 d4_3 ((if0 _ _).trans (feq (hcs : ¬ (cs = (0 : Int32)))).1) rfl ?_
  refine own_aloadN W1 7 d4_6 rfl rfl rfl ?_
  refine own_getfield W1 10 d4_7 (wd29 hw) F_coder_a1 rfl ?_
  intro T2 W2
  show own_Go p e below C T2 (mkF m 10 #[.val (.ref a1)] [(.int (0 : Int32))])
  refine own_goto W2 14 d4_10 (by decide) (by decide) ?_
  refine own_retB (Q := fun v h => v = some (.int (0 : Int32))) W2 hC (by decide) (by decide) d4_14 ?_
  exact rfl
theorem ef_m3 (m : MethodId) (x0 : Addr) : entryFrame m #[(.ref x0)] 1 = mkF m 0 #[.val (.ref x0)] [] := by first | (simp [entryFrame, mkF, argsToLocals, Value.category]; done) | rfl
set_option maxRecDepth 65536 in
set_option maxHeartbeats 40000000 in
theorem own_m3 (l : Launch) (Z : State) (a0 : Array Value) (hw : ∀ d ∈ tables_1, d.before a0 Z = true) (wo : List Jvm.Cond) (h0 : Heap) (a1 : Addr) (cs : Int32) (b : Addr) (n : Nat) (g : Nat → Int32) (z : Int32) (S_cs : Sta Z h0 "java/lang/String" "COMPACT_STRINGS" "Z" (.int cs)) (X_a1 : Exa Z h0 a1 "java/lang/String") (F_value_a1 : Fld Z h0 a1 "java/lang/String" "value" "[B" (.ref b)) (F_coder_a1 : Fld Z h0 a1 "java/lang/String" "coder" "B" (.int (0 : Int32))) (V_b : own_A Z h0 b .byte n (fun j => .int (g j))) (hcs : ¬ cs = (0 : Int32)) (hz : n.toInt32 = z) (hzn : z.toInt = (n : Int)) :
    own_M l Z wo (⟨"java/lang/String", "length", "()I"⟩ : MethodName) jdk_42_method_54_code 1 (some .int) ({ frames := 1, cells := 0, slots := 0, locals := 13 } : Room) [] #[(.ref a1)] h0 (fun v h => v = some (.int z)) := by
  refine own_body (plainFor_of_name pn_3) (fun m => ef_m3 m a1) ?_
  intro p e s m below meth c C hC T0 W0
  refine own_aloadN W0 1 d3_0 rfl rfl rfl ?_
  refine own_getfield W0 4 d3_1 (wd22 hw) F_value_a1 rfl ?_
  intro T1 W1
  show own_Go p e below C T1 (mkF m 4 #[.val (.ref a1)] [(.ref b)])
  refine own_arraylength W1 z 5 d3_4 V_b hz rfl ?_
  refine own_aloadN W1 6 d3_5 rfl rfl rfl ?_
  refine own_callV W1 (A := []) (wt := 1) (pc' := 9) (st := [(.int z)]) d3_6 (wd23 hw) (wd24 hw) (own_nf W1 (wd26 hw)) (wd26 hw) (wd25 hw) (wd1 hw) (wd27 hw) (by decide) X_a1 (own_m4 l Z a0 hw [] h0 a1 cs S_cs F_coder_a1 hcs) all0 rfl pd_0 rfl (Nat.le_of_eq rfl) (by decide) (by decide) (by decide) (by decide) rfl ?_
  rintro T2 h2 _ W2 K2 P2 rfl
  rw [P2 rfl rfl] at W2
  show own_Go p e below C T2 (mkF m 9 #[.val (.ref a1)] [(.int (0 : Int32)), (.int z)])
  refine own_ishr W2 10 d3_9 rfl ?_
  rw [show (z >>> ((0 : Int32) &&& 31)) = z from own_shr0 z]
  refine own_retI (Q := fun v h => v = some (.int z)) W2 hC (by decide) (by decide) d3_10 ?_
  exact rfl
theorem ef_m6 (m : MethodId) (x0 : Addr) : entryFrame m #[(.ref x0)] 1 = mkF m 0 #[.val (.ref x0)] [] := by first | (simp [entryFrame, mkF, argsToLocals, Value.category]; done) | rfl
set_option maxRecDepth 65536 in
set_option maxHeartbeats 40000000 in
theorem own_m6 (l : Launch) (Z : State) (a0 : Array Value) (hw : ∀ d ∈ tables_1, d.before a0 Z = true) (wo : List Jvm.Cond) (h0 : Heap) (a1 : Addr) (cs : Int32) (S_cs : Sta Z h0 "java/lang/String" "COMPACT_STRINGS" "Z" (.int cs)) (F_coder_a1 : Fld Z h0 a1 "java/lang/String" "coder" "B" (.int (0 : Int32))) (hcs : ¬ cs = (0 : Int32)) :
    own_M l Z wo (⟨"java/lang/String", "isLatin1", "()Z"⟩ : MethodName) jdk_42_method_154_code 1 (some .boolean) ({ frames := 0, cells := 0, slots := 0, locals := 0 } : Room) [] #[(.ref a1)] h0 (fun v h => v = some (.int (1 : Int32))) := by
  refine own_body (plainFor_of_name pn_6) (fun m => ef_m6 m a1) ?_
  intro p e s m below meth c C hC T0 W0
  refine own_getstatic W0 3 d6_0 (wd28 hw) S_cs rfl ?_
  intro T1 W1
  show own_Go p e below C T1 (mkF m 3 #[.val (.ref a1)] [(.int cs)])
  refine own_ifN W1 6 d6_3 ((if0 _ _).trans (feq (hcs : ¬ (cs = (0 : Int32)))).1) rfl ?_
  refine own_aloadN W1 7 d6_6 rfl rfl rfl ?_
  refine own_getfield W1 10 d6_7 (wd29 hw) F_coder_a1 rfl ?_
  intro T2 W2
  show own_Go p e below C T2 (mkF m 10 #[.val (.ref a1)] [(.int (0 : Int32))])
  refine own_ifN W2 13 d6_10 ((if0 _ _).trans (teq (rfl : (0 : Int32) = (0 : Int32))).2) rfl ?_
  refine own_iconst W2 (1 : Int32) 14 d6_13 rfl rfl ?_
  refine own_goto W2 18 d6_14 (by decide) (by decide) ?_
  refine own_retZ (Q := fun v h => v = some (.int (1 : Int32))) W2 hC (by decide) (by decide) d6_18 ?_
  exact rfl
theorem ef_m9n (m : MethodId) (x0 : Int32) (x1 : Int32) : entryFrame m #[(.int x0), (.int x1), .null] 3 = mkF m 0 #[.val (.int x0), .val (.int x1), .val .null] [] := by first | (simp [entryFrame, mkF, argsToLocals, Value.category]; done) | rfl
set_option maxRecDepth 65536 in
set_option maxHeartbeats 40000000 in
theorem own_m9n (l : Launch) (Z : State) (a0 : Array Value) (hw : ∀ d ∈ tables_1, d.before a0 Z = true) (wo : List Jvm.Cond) (h0 : Heap) (p1 : Int32) (p2 : Int32) (hz0 : ¬ p1 < (0 : Int32)) (hz1 : p1 < p2) :
    own_M l Z wo (⟨"jdk/internal/util/Preconditions", "checkIndex", "(IILjava/util/function/BiFunction;)I"⟩ : MethodName) jdk_41_method_11_code 3 (some .int) ({ frames := 0, cells := 0, slots := 0, locals := 0 } : Room) [] #[(.int p1), (.int p2), .null] h0 (fun v h => v = some (.int p1)) := by
  refine own_body (plainFor_of_name pn_9) (fun m => ef_m9n m p1 p2) ?_
  intro p e s m below meth c C hC T0 W0
  refine own_iloadN W0 1 d9_0 rfl rfl ?_
  refine own_ifN W0 4 d9_1 ((if0 _ _).trans (flt (hz0 : ¬ (p1 < (0 : Int32)))).1) rfl ?_
  refine own_iloadN W0 5 d9_4 rfl rfl ?_
  refine own_iloadN W0 6 d9_5 rfl rfl ?_
  refine own_icmpY W0 16 d9_6 ((tlt (hz1 : p1 < p2)).1) (by decide) (by decide) ?_
  refine own_iloadN W0 17 d9_16 rfl rfl ?_
  refine own_retI (Q := fun v h => v = some (.int p1)) W0 hC (by decide) (by decide) d9_17 ?_
  exact rfl
theorem ef_m9r (m : MethodId) (x0 : Int32) (x1 : Int32) (x2 : Addr) : entryFrame m #[(.int x0), (.int x1), (.ref x2)] 3 = mkF m 0 #[.val (.int x0), .val (.int x1), .val (.ref x2)] [] := by first | (simp [entryFrame, mkF, argsToLocals, Value.category]; done) | rfl
set_option maxRecDepth 65536 in
set_option maxHeartbeats 40000000 in
theorem own_m9r (l : Launch) (Z : State) (a0 : Array Value) (hw : ∀ d ∈ tables_1, d.before a0 Z = true) (wo : List Jvm.Cond) (h0 : Heap) (p1 : Int32) (p2 : Int32) (a3 : Addr) (hz0 : ¬ p1 < (0 : Int32)) (hz1 : p1 < p2) :
    own_M l Z wo (⟨"jdk/internal/util/Preconditions", "checkIndex", "(IILjava/util/function/BiFunction;)I"⟩ : MethodName) jdk_41_method_11_code 3 (some .int) ({ frames := 0, cells := 0, slots := 0, locals := 0 } : Room) [] #[(.int p1), (.int p2), (.ref a3)] h0 (fun v h => v = some (.int p1)) := by
  refine own_body (plainFor_of_name pn_9) (fun m => ef_m9r m p1 p2 a3) ?_
  intro p e s m below meth c C hC T0 W0
  refine own_iloadN W0 1 d9_0 rfl rfl ?_
  refine own_ifN W0 4 d9_1 ((if0 _ _).trans (flt (hz0 : ¬ (p1 < (0 : Int32)))).1) rfl ?_
  refine own_iloadN W0 5 d9_4 rfl rfl ?_
  refine own_iloadN W0 6 d9_5 rfl rfl ?_
  refine own_icmpY W0 16 d9_6 ((tlt (hz1 : p1 < p2)).1) (by decide) (by decide) ?_
  refine own_iloadN W0 17 d9_16 rfl rfl ?_
  refine own_retI (Q := fun v h => v = some (.int p1)) W0 hC (by decide) (by decide) d9_17 ?_
  exact rfl
theorem ef_m8 (m : MethodId) (x0 : Int32) (x1 : Int32) : entryFrame m #[(.int x0), (.int x1)] 2 = mkF m 0 #[.val (.int x0), .val (.int x1)] [] := by first | (simp [entryFrame, mkF, argsToLocals, Value.category]; done) | rfl
set_option maxRecDepth 65536 in
set_option maxHeartbeats 40000000 in
theorem own_m8 (l : Launch) (Z : State) (a0 : Array Value) (hw : ∀ d ∈ tables_1, d.before a0 Z = true) (wo : List Jvm.Cond) (h0 : Heap) (p1 : Int32) (p2 : Int32) (sv : Value) (S_sf : Sta Z h0 "jdk/internal/util/Preconditions" "SIOOBE_FORMATTER" "Ljava/util/function/BiFunction;" sv) (hsv : sv.isRef = true) (hz0 : ¬ p1 < (0 : Int32)) (hz1 : p1 < p2) :
    own_M l Z wo (⟨"java/lang/String", "checkIndex", "(II)V"⟩ : MethodName) jdk_42_method_155_code 2 none ({ frames := 1, cells := 0, slots := 0, locals := 14 } : Room) [] #[(.int p1), (.int p2)] h0 (fun v h => v = none ∧ (True)) := by
  refine own_body (plainFor_of_name pn_8) (fun m => ef_m8 m p1 p2) ?_
  intro p e s m below meth c C hC T0 W0
  refine own_iloadN W0 1 d8_0 rfl rfl ?_
  refine own_iloadN W0 2 d8_1 rfl rfl ?_
  rcases ref_cases hsv with rfl | ⟨fb, rfl⟩
  · refine own_getstatic W0 5 d8_2 (wd47 hw) S_sf rfl ?_
    intro T1 W1
    show own_Go p e below C T1 (mkF m 5 #[.val (.int p1), .val (.int p2)] [.null, (.int p2), (.int p1)])
    refine own_callS W1 (A := [(.int p1), (.int p2), .null]) (wt := 0) (pc' := 8) (st := []) d8_5 (wd49 hw) (wd50 hw) (wd48 hw) (wd51 hw) (by decide) (own_m9n l Z a0 hw [] h0 p1 p2 hz0 hz1) all0 rfl pd_1 rfl (Nat.le_of_eq rfl) (by decide) (by decide) (by decide) (by decide) rfl ?_
    rintro T2 h2 _ W2 K2 P2 rfl
    rw [P2 rfl rfl] at W2
    show own_Go p e below C T2 (mkF m 8 #[.val (.int p1), .val (.int p2)] [(.int p1)])
    refine own_pop W2 9 d8_8 rfl rfl ?_
    refine own_retV (Q := fun v h => v = none ∧ (True)) W2 hC (by decide) (by decide) d8_9 ?_
    exact ⟨rfl, trivial⟩
  · refine own_getstatic W0 5 d8_2 (wd47 hw) S_sf rfl ?_
    intro T3 W3
    show own_Go p e below C T3 (mkF m 5 #[.val (.int p1), .val (.int p2)] [(.ref fb), (.int p2), (.int p1)])
    refine own_callS W3 (A := [(.int p1), (.int p2), (.ref fb)]) (wt := 0) (pc' := 8) (st := []) d8_5 (wd49 hw) (wd50 hw) (wd48 hw) (wd51 hw) (by decide) (own_m9r l Z a0 hw [] h0 p1 p2 fb hz0 hz1) all0 rfl pd_1 rfl (Nat.le_of_eq rfl) (by decide) (by decide) (by decide) (by decide) rfl ?_
    rintro T4 h4 _ W4 K4 P4 rfl
    rw [P4 rfl rfl] at W4
    show own_Go p e below C T4 (mkF m 8 #[.val (.int p1), .val (.int p2)] [(.int p1)])
    refine own_pop W4 9 d8_8 rfl rfl ?_
    refine own_retV (Q := fun v h => v = none ∧ (True)) W4 hC (by decide) (by decide) d8_9 ?_
    exact ⟨rfl, trivial⟩
theorem ef_m7 (m : MethodId) (x0 : Addr) (x1 : Int32) : entryFrame m #[(.ref x0), (.int x1)] 2 = mkF m 0 #[.val (.ref x0), .val (.int x1)] [] := by first | (simp [entryFrame, mkF, argsToLocals, Value.category]; done) | rfl
set_option maxRecDepth 65536 in
set_option maxHeartbeats 40000000 in
theorem own_m7 (l : Launch) (Z : State) (a0 : Array Value) (hw : ∀ d ∈ tables_1, d.before a0 Z = true) (wo : List Jvm.Cond) (h0 : Heap) (a1 : Addr) (p2 : Int32) (sv : Value) (n : Nat) (g : Nat → Int32) (z : Int32) (k : Nat) (S_sf : Sta Z h0 "jdk/internal/util/Preconditions" "SIOOBE_FORMATTER" "Ljava/util/function/BiFunction;" sv) (V_a1 : own_A Z h0 a1 .byte n (fun j => .int (g j))) (hsv : sv.isRef = true) (hz : n.toInt32 = z) (hzn : z.toInt = (n : Int)) (hk : p2.toInt = (k : Int)) (hkn : k < n) :
    own_M l Z wo (⟨"java/lang/StringLatin1", "charAt", "([BI)C"⟩ : MethodName) jdk_43_method_2_code 2 (some .char) ({ frames := 2, cells := 0, slots := 0, locals := 27 } : Room) [] #[(.ref a1), (.int p2)] h0 (fun v h => ∃ r, v = some (.int r) ∧ 0 ≤ r.toInt ∧ r.toInt ≤ 255) := by
  refine own_body (plainFor_of_name pn_7) (fun m => ef_m7 m a1 p2) ?_
  intro p e s m below meth c C hC T0 W0
  refine own_iloadN W0 1 d7_0 rfl rfl ?_
  refine own_aloadN W0 2 d7_1 rfl rfl rfl ?_
  refine own_arraylength W0 z 3 d7_2 V_a1 hz rfl ?_
  refine own_callS W0 (A := [(.int p2), (.int z)]) (wt := 0) (pc' := 6) (st := []) d7_3 (wd44 hw) (wd45 hw) (wd1 hw) (wd46 hw) (by decide) (own_m8 l Z a0 hw [] h0 p2 z sv S_sf hsv (by rw [own_lt0]; omega) ((own_ltN hk hzn).mpr hkn)) all0 rfl pd_2 rfl (Nat.le_of_eq rfl) (by decide) (by decide) (by decide) (by decide) rfl ?_
  rintro T1 h1 _ W1 K1 P1 ⟨rfl, -⟩
  rw [P1 rfl rfl] at W1
  show own_Go p e below C T1 (mkF m 6 #[.val (.ref a1), .val (.int p2)] [])
  refine own_aloadN W1 7 d7_6 rfl rfl rfl ?_
  refine own_iloadN W1 8 d7_7 rfl rfl ?_
  refine own_baload W1 k (g k) 9 d7_8 V_a1 hk hkn rfl rfl ?_
  refine own_sipush W1 (255 : Int32) 12 d7_9 rfl rfl ?_
  refine own_iand W1 13 d7_12 rfl ?_
  refine own_i2c W1 14 d7_13 rfl ?_
  refine own_retC (Q := fun v h => ∃ r, v = some (.int r) ∧ 0 ≤ r.toInt ∧ r.toInt ≤ 255) W1 hC (by decide) (by decide) d7_14 ?_
  exact (by have h1 := own_255 (g k); have h2 := own_c16 h1.1 h1.2; have h3 := own_c16 (z := ((g k) &&& (255 : Int32)).toUInt32.toUInt16.toUInt32.toInt32) (by omega) (by omega); exact ⟨_, rfl, by omega, by omega⟩)
theorem ef_m5 (m : MethodId) (x0 : Addr) (x1 : Int32) : entryFrame m #[(.ref x0), (.int x1)] 2 = mkF m 0 #[.val (.ref x0), .val (.int x1)] [] := by first | (simp [entryFrame, mkF, argsToLocals, Value.category]; done) | rfl
set_option maxRecDepth 65536 in
set_option maxHeartbeats 40000000 in
theorem own_m5 (l : Launch) (Z : State) (a0 : Array Value) (hw : ∀ d ∈ tables_1, d.before a0 Z = true) (wo : List Jvm.Cond) (h0 : Heap) (a1 : Addr) (p2 : Int32) (cs : Int32) (sv : Value) (b : Addr) (n : Nat) (g : Nat → Int32) (z : Int32) (k : Nat) (S_cs : Sta Z h0 "java/lang/String" "COMPACT_STRINGS" "Z" (.int cs)) (S_sf : Sta Z h0 "jdk/internal/util/Preconditions" "SIOOBE_FORMATTER" "Ljava/util/function/BiFunction;" sv) (X_a1 : Exa Z h0 a1 "java/lang/String") (F_value_a1 : Fld Z h0 a1 "java/lang/String" "value" "[B" (.ref b)) (F_coder_a1 : Fld Z h0 a1 "java/lang/String" "coder" "B" (.int (0 : Int32))) (V_b : own_A Z h0 b .byte n (fun j => .int (g j))) (hcs : ¬ cs = (0 : Int32)) (hsv : sv.isRef = true) (hz : n.toInt32 = z) (hzn : z.toInt = (n : Int)) (hk : p2.toInt = (k : Int)) (hkn : k < n) :
    own_M l Z wo (⟨"java/lang/String", "charAt", "(I)C"⟩ : MethodName) jdk_42_method_56_code 2 (some .char) ({ frames := 3, cells := 0, slots := 0, locals := 40 } : Room) [] #[(.ref a1), (.int p2)] h0 (fun v h => ∃ r, v = some (.int r) ∧ 0 ≤ r.toInt ∧ r.toInt ≤ 255) := by
  refine own_body (plainFor_of_name pn_5) (fun m => ef_m5 m a1 p2) ?_
  intro p e s m below meth c C hC T0 W0
  refine own_aloadN W0 1 d5_0 rfl rfl rfl ?_
  refine own_callV W0 (A := []) (wt := 0) (pc' := 4) (st := []) d5_1 (wd35 hw) (wd36 hw) (own_nf W0 (wd38 hw)) (wd38 hw) (wd37 hw) (wd1 hw) (wd39 hw) (by decide) X_a1 (own_m6 l Z a0 hw [] h0 a1 cs S_cs F_coder_a1 hcs) all0 rfl pd_3 rfl (Nat.le_of_eq rfl) (by decide) (by decide) (by decide) (by decide) rfl ?_
  rintro T1 h1 _ W1 K1 P1 rfl
  rw [P1 rfl rfl] at W1
  show own_Go p e below C T1 (mkF m 4 #[.val (.ref a1), .val (.int p2)] [(.int (1 : Int32))])
  refine own_ifN W1 7 d5_4 ((if0 _ _).trans (feq ((by decide) : ¬ ((1 : Int32) = (0 : Int32)))).1) rfl ?_
  refine own_aloadN W1 8 d5_7 rfl rfl rfl ?_
  refine own_getfield W1 11 d5_8 (wd22 hw) F_value_a1 rfl ?_
  intro T2 W2
  show own_Go p e below C T2 (mkF m 11 #[.val (.ref a1), .val (.int p2)] [(.ref b)])
  refine own_iloadN W2 12 d5_11 rfl rfl ?_
  refine own_callS W2 (A := [(.ref b), (.int p2)]) (wt := 0) (pc' := 15) (st := []) d5_12 (wd40 hw) (wd41 hw) (wd42 hw) (wd43 hw) (by decide) (own_m7 l Z a0 hw [] h0 b p2 sv n g z k S_sf V_b hsv hz hzn hk hkn) all0 rfl pd_4 rfl (Nat.le_of_eq rfl) (by decide) (by decide) (by decide) (by decide) rfl ?_
  rintro T3 h3 _ W3 K3 P3 ⟨r, rfl, hr0, hr1⟩
  rw [P3 rfl rfl] at W3
  show own_Go p e below C T3 (mkF m 15 #[.val (.ref a1), .val (.int p2)] [(.int r)])
  refine own_retC (Q := fun v h => ∃ r, v = some (.int r) ∧ 0 ≤ r.toInt ∧ r.toInt ≤ 255) W3 hC (by decide) (by decide) d5_15 ?_
  exact ⟨_, rfl, by rw [own_c16 hr0 hr1]; exact hr0, by rw [own_c16 hr0 hr1]; exact hr1⟩
theorem ef_m2 (m : MethodId) (x0 : Addr) (x1 : Int32) (x2 : Int32) (x3 : Int32) : entryFrame m #[(.ref x0), (.int x1), (.int x2), (.int x3)] 4 = mkF m 0 #[.val (.ref x0), .val (.int x1), .val (.int x2), .val (.int x3)] [] := by first | (simp [entryFrame, mkF, argsToLocals, Value.category]; done) | rfl
set_option maxRecDepth 65536 in
set_option maxHeartbeats 40000000 in
theorem own_m2 (l : Launch) (Z : State) (a0 : Array Value) (hw : ∀ d ∈ tables_1, d.before a0 Z = true) (wo : List Jvm.Cond) (h0 : Heap) (a1 : Addr) (p2 : Int32) (p3 : Int32) (p4 : Int32) (cs : Int32) (sv : Value) (b : Addr) (n : Nat) (g : Nat → Int32) (z : Int32) (k : Nat) (S_cs : Sta Z h0 "java/lang/String" "COMPACT_STRINGS" "Z" (.int cs)) (S_sf : Sta Z h0 "jdk/internal/util/Preconditions" "SIOOBE_FORMATTER" "Ljava/util/function/BiFunction;" sv) (X_a1 : Exa Z h0 a1 "java/lang/String") (F_value_a1 : Fld Z h0 a1 "java/lang/String" "value" "[B" (.ref b)) (F_coder_a1 : Fld Z h0 a1 "java/lang/String" "coder" "B" (.int (0 : Int32))) (V_b : own_A Z h0 b .byte n (fun j => .int (g j))) (hcs : ¬ cs = (0 : Int32)) (hsv : sv.isRef = true) (hz : n.toInt32 = z) (hzn : z.toInt = (n : Int)) (hk : p2.toInt = (k : Int)) (hc0 : 0 ≤ p4.toInt) (hc1 : p4.toInt ≤ 255) :
    own_M l Z wo (⟨"com/example/aeneas/aeneas/SideWithLabelPinLaw", "at", "(Ljava/lang/String;IIC)C"⟩ : MethodName) method_3_code 4 (some .char) ({ frames := 4, cells := 0, slots := 0, locals := 53 } : Room) [] #[(.ref a1), (.int p2), (.int p3), (.int p4)] h0 (fun v h => ∃ r, v = some (.int r) ∧ 0 ≤ r.toInt ∧ r.toInt ≤ 255) := by
  refine own_body (plainFor_of_name pn_2) (fun m => ef_m2 m a1 p2 p3 p4) ?_
  intro p e s m below meth c C hC T0 W0
  refine own_iloadN W0 1 d2_0 rfl rfl ?_
  refine own_iloadN W0 2 d2_1 rfl rfl ?_
  by_cases c1 : p2 = p3
  · refine own_icmpN W0 5 d2_2 ((teq c1).2) rfl ?_
    refine own_iloadN W0 6 d2_5 rfl rfl ?_
    refine own_retC (Q := fun v h => ∃ r, v = some (.int r) ∧ 0 ≤ r.toInt ∧ r.toInt ≤ 255) W0 hC (by decide) (by decide) d2_6 ?_
    exact ⟨_, rfl, by rw [own_c16 hc0 hc1]; exact hc0, by rw [own_c16 hc0 hc1]; exact hc1⟩
  · refine own_icmpY W0 7 d2_2 ((feq c1).2) (by decide) (by decide) ?_
    refine own_iloadN W0 8 d2_7 rfl rfl ?_
    refine own_aloadN W0 9 d2_8 rfl rfl rfl ?_
    refine own_callV W0 (A := []) (wt := 1) (pc' := 12) (st := [(.int p2)]) d2_9 (wd17 hw) (wd18 hw) (own_nf W0 (wd20 hw)) (wd20 hw) (wd19 hw) (wd1 hw) (wd21 hw) (by decide) X_a1 (own_m3 l Z a0 hw [] h0 a1 cs b n g z S_cs X_a1 F_value_a1 F_coder_a1 V_b hcs hz hzn) all0 rfl pd_5 rfl (Nat.le_of_eq rfl) (by decide) (by decide) (by decide) (by decide) rfl ?_
    rintro T2 h2 _ W2 K2 P2 rfl
    rw [P2 rfl rfl] at W2
    show own_Go p e below C T2 (mkF m 12 #[.val (.ref a1), .val (.int p2), .val (.int p3), .val (.int p4)] [(.int z), (.int p2)])
    by_cases c3 : p2 < z
    · refine own_icmpN W2 15 d2_12 ((tlt c3).2.1) rfl ?_
      have hkn : k < n := by have h9 := c3; rw [own_ltN hk hzn] at h9; exact h9
      refine own_aloadN W2 16 d2_15 rfl rfl rfl ?_
      refine own_iloadN W2 17 d2_16 rfl rfl ?_
      refine own_callV W2 (A := [(.int p2)]) (wt := 0) (pc' := 20) (st := []) d2_17 (wd30 hw) (wd31 hw) (own_nf W2 (wd33 hw)) (wd33 hw) (wd32 hw) (wd1 hw) (wd34 hw) (by decide) X_a1 (own_m5 l Z a0 hw [] h0 a1 p2 cs sv b n g z k S_cs S_sf X_a1 F_value_a1 F_coder_a1 V_b hcs hsv hz hzn hk hkn) all0 rfl pd_6 rfl (Nat.le_of_eq rfl) (by decide) (by decide) (by decide) (by decide) rfl ?_
      rintro T4 h4 _ W4 K4 P4 ⟨r, rfl, hr0, hr1⟩
      rw [P4 rfl rfl] at W4
      show own_Go p e below C T4 (mkF m 20 #[.val (.ref a1), .val (.int p2), .val (.int p3), .val (.int p4)] [(.int r)])
      refine own_retC (Q := fun v h => ∃ r, v = some (.int r) ∧ 0 ≤ r.toInt ∧ r.toInt ≤ 255) W4 hC (by decide) (by decide) d2_20 ?_
      exact ⟨_, rfl, by rw [own_c16 hr0 hr1]; exact hr0, by rw [own_c16 hr0 hr1]; exact hr1⟩
    · refine own_icmpY W2 21 d2_12 ((flt c3).2.1) (by decide) (by decide) ?_
      refine own_iloadN W2 22 d2_21 rfl rfl ?_
      refine own_retC (Q := fun v h => ∃ r, v = some (.int r) ∧ 0 ≤ r.toInt ∧ r.toInt ≤ 255) W2 hC (by decide) (by decide) d2_22 ?_
      exact ⟨_, rfl, by rw [own_c16 hc0 hc1]; exact hc0, by rw [own_c16 hc0 hc1]; exact hc1⟩
theorem own_upI (g : Nat → Int32) (k : Nat) (v : Int32) : ∃ g' : Nat → Int32, ∀ j, own_upd (fun j => .int (g j)) k (.int v) j = .int (g' j) := by
  refine ⟨fun j => if j = k then v else g j, fun j => ?_⟩
  show (if j = k then Value.int v else Value.int (g j)) = Value.int (if j = k then v else g j)
  split <;> rfl
theorem own_le_ {p : Program} {l : Launch} {e : Env} {R : Room} {s : State} {m : MethodId} {args : Array Value} {below : List Frame} {meth : Method} {c : Code} {Z : State} {y : MethodName} {ret : Option FieldType} {code : ByteArray} {ml : Nat} {ws : List Addr} {T : State} {h : Heap} (W : own_W p l e R s m args below meth c Z y ret code ml ws T h 0 0) {a : Addr} (q : s.heap.size ≤ a) : h.size ≤ a := by
  obtain ⟨-, locs, X, rfl, -⟩ := W
  have h1 := X.heapSize
  exact Nat.le_trans h1 q
theorem ef_m14 (m : MethodId) (x0 : Addr) (x1 : Int32) (x2 : Addr) (x3 : Int32) (x4 : Int32) : entryFrame m #[(.ref x0), (.int x1), (.ref x2), (.int x3), (.int x4)] 7 = mkF m 0 #[.val (.ref x0), .val (.int x1), .val (.ref x2), .val (.int x3), .val (.int x4), .unset, .unset] [] := by first | (simp [entryFrame, mkF, argsToLocals, Value.category]; done) | rfl
set_option maxRecDepth 65536 in
set_option maxHeartbeats 40000000 in
theorem own_m14 (l : Launch) (Z : State) (a0 : Array Value) (hw : ∀ d ∈ tables_1, d.before a0 Z = true) (wo : List Jvm.Cond) (h0 : Heap) (a1 : Addr) (a3 : Addr) (p5 : Int32) (n : Nat) (cg : Nat → Int32) (gb0 : Nat → Int32) (V_a1 : own_A Z h0 a1 .char n (fun j => .int (cg j))) (V_a3 : own_A Z h0 a3 .byte n (fun j => .int (gb0 j))) (ne1 : a1 ≠ a3) (hlen : p5.toInt = (n : Int)) (hn7 : n ≤ 7) (hcg : ∀ j, j < n → 0 ≤ (cg j).toInt ∧ (cg j).toInt ≤ 255) :
    own_M l Z wo (⟨"java/lang/StringUTF16", "compress", "([CI[BII)I"⟩ : MethodName) jdk_52_method_21_code 7 (some .int) ({ frames := 0, cells := 0, slots := 0, locals := 0 } : Room) [a3] #[(.ref a1), (.int (0 : Int32)), (.ref a3), (.int (0 : Int32)), (.int p5)] h0 (fun v h => v = some (.int p5) ∧ ∃ gb' : Nat → Int32, own_A Z h a3 .byte n (fun j => .int (gb' j))) := by
  refine own_body (plainFor_of_name pn_14) (fun m => ef_m14 m a1 (0 : Int32) a3 (0 : Int32) p5) ?_
  intro p e s m below meth c C hC T0 W0
  refine own_iconst W0 (0 : Int32) 1 d14_0 rfl rfl ?_
  refine own_istore W0 3 #[.val (.ref a1), .val (.int (0 : Int32)), .val (.ref a3), .val (.int (0 : Int32)), .val (.int p5), .val (.int (0 : Int32)), .unset] d14_1 rfl rfl ?_
  have loop : ∀ (f i : Nat) (u1 u3 u5 : Int32) (s6 : Slot) (gb : Nat → Int32) (T : State) (h : Heap), own_W p l e ({ frames := 0, cells := 0, slots := 0, locals := 0 } : Room) s m #[(.ref a1), (.int (0 : Int32)), (.ref a3), (.int (0 : Int32)), (.int p5)] below meth c Z (⟨"java/lang/StringUTF16", "compress", "([CI[BII)I"⟩ : MethodName) (some .int) jdk_52_method_21_code 7 [a3] T h (0) (0) → own_A Z h a1 .char n (fun j => .int (cg j)) → own_A Z h a3 .byte n (fun j => .int (gb j)) → i + f = n → u1.toInt = (i : Int) → u3.toInt = (i : Int) → u5.toInt = (i : Int) → (s6 = .unset ∨ ∃ z, s6 = .val (.int z)) → own_Go p e below C T (mkF m 3 #[.val (.ref a1), .val (.int u1), .val (.ref a3), .val (.int u3), .val (.int p5), .val (.int u5), s6] []) := by
    intro f
    induction f with
    | zero =>
      intro i u1 u3 u5 s6 gb T h W V_a1 V_a3 hf hu1 hu3 hu5 c6
      have hlt : ¬ (u5 < p5) := by rw [own_ltN hu5 hlen]; omega
      refine own_iload W 5 d14_3 rfl rfl ?_
      refine own_iload W 7 d14_5 rfl rfl ?_
      refine own_icmpY W 44 d14_7 ((flt (hlt : ¬ (u5 < p5))).2.1) (by decide) (by decide) ?_
      refine own_iload W 46 d14_44 rfl rfl ?_
      refine own_retI (Q := fun v h => v = some (.int p5) ∧ ∃ gb' : Nat → Int32, own_A Z h a3 .byte n (fun j => .int (gb' j))) W hC (by decide) (by decide) d14_46 ?_
      exact ⟨rfl, gb, V_a3⟩
    | succ f ih =>
      intro i u1 u3 u5 s6 gb T h W V_a1 V_a3 hf hu1 hu3 hu5 c6
      have hlt : u5 < p5 := by rw [own_ltN hu5 hlen]; omega
      refine own_iload W 5 d14_3 rfl rfl ?_
      refine own_iload W 7 d14_5 rfl rfl ?_
      refine own_icmpN W 10 d14_7 ((tlt (hlt : u5 < p5)).2.1) rfl ?_
      refine own_aloadN W 11 d14_10 rfl rfl rfl ?_
      refine own_iloadN W 12 d14_11 rfl rfl ?_
      refine own_caload W i (cg i) 13 d14_12 V_a1 hu1 (by omega) rfl rfl ?_
      refine own_istore W 15 #[.val (.ref a1), .val (.int u1), .val (.ref a3), .val (.int u3), .val (.int p5), .val (.int u5), .val (.int (cg i))] d14_13 (by rcases c6 with rfl | ⟨_, rfl⟩ <;> rfl) rfl ?_
      refine own_iload W 17 d14_15 rfl rfl ?_
      refine own_sipush W (255 : Int32) 20 d14_17 rfl rfl ?_
      refine own_icmpY W 26 d14_20 ((flt ((by rw [Int32.lt_iff_toInt_lt]; have h9 := hcg i (by omega); have h8 : (255 : Int32).toInt = 255 := rfl; omega) : ¬ ((255 : Int32) < (cg i)))).2.2.2) (by decide) (by decide) ?_
      refine own_aloadN W 27 d14_26 rfl rfl rfl ?_
      refine own_iloadN W 28 d14_27 rfl rfl ?_
      refine own_iload W 30 d14_28 rfl rfl ?_
      refine own_i2b W 31 d14_30 rfl ?_
      refine own_bastore W i 32 d14_31 V_a3 (Or.inl (List.mem_of_getElem? (i := 0) rfl)) hu3 (by omega) rfl ?_
      intro T1 h1 W1 Wr1 V_a3
      have V_a1 := V_a1.other Wr1 ne1
      show own_Go p e below C T1 (mkF m 32 #[.val (.ref a1), .val (.int u1), .val (.ref a3), .val (.int u3), .val (.int p5), .val (.int u5), .val (.int (cg i))] [])
      refine own_iinc W1 (u1 + (1 : Int32)) 35 #[.val (.ref a1), .val (.int (u1 + (1 : Int32))), .val (.ref a3), .val (.int u3), .val (.int p5), .val (.int u5), .val (.int (cg i))] d14_32 rfl rfl rfl rfl ?_
      refine own_iinc W1 (u3 + (1 : Int32)) 38 #[.val (.ref a1), .val (.int (u1 + (1 : Int32))), .val (.ref a3), .val (.int (u3 + (1 : Int32))), .val (.int p5), .val (.int u5), .val (.int (cg i))] d14_35 rfl rfl rfl rfl ?_
      refine own_iinc W1 (u5 + (1 : Int32)) 41 #[.val (.ref a1), .val (.int (u1 + (1 : Int32))), .val (.ref a3), .val (.int (u3 + (1 : Int32))), .val (.int p5), .val (.int (u5 + (1 : Int32))), .val (.int (cg i))] d14_38 rfl rfl rfl rfl ?_
      refine own_goto W1 3 d14_41 (by decide) (by decide) ?_
      obtain ⟨g', hg'⟩ := own_upI gb i _
      exact ih (i + 1) _ _ _ _ g' T1 h1 W1 V_a1 (V_a3.congr (fun j _ => hg' j)) (by omega) (own_inc hu1 (by omega)) (own_inc hu3 (by omega)) (own_inc hu5 (by omega)) (Or.inr ⟨_, rfl⟩)
  exact loop n 0 _ _ _ .unset gb0 T0 h0 W0 V_a1 V_a3 (by omega) rfl rfl rfl (Or.inl rfl)
theorem ef_m13 (m : MethodId) (x0 : Addr) (x1 : Int32) (x2 : Int32) : entryFrame m #[(.ref x0), (.int x1), (.int x2)] 6 = mkF m 0 #[.val (.ref x0), .val (.int x1), .val (.int x2), .unset, .unset, .unset] [] := by first | (simp [entryFrame, mkF, argsToLocals, Value.category]; done) | rfl
set_option maxRecDepth 65536 in
set_option maxHeartbeats 40000000 in
theorem own_m13 (l : Launch) (Z : State) (a0 : Array Value) (hw : ∀ d ∈ tables_1, d.before a0 Z = true) (wo : List Jvm.Cond) (h0 : Heap) (a1 : Addr) (p3 : Int32) (n : Nat) (cg : Nat → Int32) (V_a1 : own_A Z h0 a1 .char n (fun j => .int (cg j))) (hlen : p3.toInt = (n : Int)) (hn7 : n ≤ 7) (hcg : ∀ j, j < n → 0 ≤ (cg j).toInt ∧ (cg j).toInt ≤ 255) :
    own_M l Z wo (⟨"java/lang/StringUTF16", "compress", "([CII)[B"⟩ : MethodName) jdk_52_method_16_code 6 (some (.array .byte)) ({ frames := 1, cells := 1, slots := 7, locals := 18 } : Room) [] #[(.ref a1), (.int (0 : Int32)), (.int p3)] h0 (fun v h => ∃ (b : Addr) (gb : Nat → Int32), v = some (.ref b) ∧ h0.size ≤ b ∧ own_A Z h b .byte n (fun j => .int (gb j))) := by
  refine own_body (plainFor_of_name pn_13) (fun m => ef_m13 m a1 (0 : Int32) p3) ?_
  intro p e s m below meth c C hC T0 W0
  refine own_iloadN W0 1 d13_0 rfl rfl ?_
  refine own_newarray W0 n 7 3 d13_1 (wd3 hw) hlen hn7 (by decide) (by decide) (by decide) rfl ?_
  intro T1 h1 b W1 E1 g_b o_b V_b
  have ne_a1_b : a1 ≠ b := by rw [g_b]; exact Nat.ne_of_lt V_a1.lt
  have V_a1 := V_a1.ext E1
  show own_Go p e below C T1 (mkF m 3 #[.val (.ref a1), .val (.int (0 : Int32)), .val (.int p3), .unset, .unset, .unset] [(.ref b)])
  refine own_astoreN W1 4 #[.val (.ref a1), .val (.int (0 : Int32)), .val (.int p3), .val (.ref b), .unset, .unset] d13_3 rfl rfl rfl ?_
  refine own_aloadN W1 5 d13_4 rfl rfl rfl ?_
  refine own_iloadN W1 6 d13_5 rfl rfl ?_
  refine own_aloadN W1 7 d13_6 rfl rfl rfl ?_
  refine own_iconst W1 (0 : Int32) 8 d13_7 rfl rfl ?_
  refine own_iloadN W1 9 d13_8 rfl rfl ?_
  refine own_callS W1 (A := [(.ref a1), (.int (0 : Int32)), (.ref b), (.int (0 : Int32)), (.int p3)]) (wt := 0) (pc' := 12) (st := []) d13_9 (wd66 hw) (wd67 hw) (wd64 hw) (wd68 hw) (by decide) (own_m14 l Z a0 hw [] h1 a1 b p3 n cg (fun _ => 0) V_a1 V_b ne_a1_b hlen hn7 hcg) (allS (Or.inr o_b) all0) rfl pd_7 rfl (Nat.le_of_eq rfl) (by decide) (by decide) (by decide) (by decide) rfl ?_
  rintro T2 h2 _ W2 K2 P2 ⟨rfl, gb, V_b⟩
  have V_a1 := V_a1.keep K2 (ninS ne_a1_b nin0)
  show own_Go p e below C T2 (mkF m 12 #[.val (.ref a1), .val (.int (0 : Int32)), .val (.int p3), .val (.ref b), .unset, .unset] [(.int p3)])
  refine own_istore W2 14 #[.val (.ref a1), .val (.int (0 : Int32)), .val (.int p3), .val (.ref b), .val (.int p3), .unset] d13_12 rfl rfl ?_
  refine own_iload W2 16 d13_14 rfl rfl ?_
  refine own_iloadN W2 17 d13_16 rfl rfl ?_
  refine own_icmpY W2 57 d13_17 ((teq (rfl : p3 = p3)).1) (by decide) (by decide) ?_
  refine own_aloadN W2 58 d13_57 rfl rfl rfl ?_
  refine own_retA (Q := fun v h => ∃ (b : Addr) (gb : Nat → Int32), v = some (.ref b) ∧ h0.size ≤ b ∧ own_A Z h b .byte n (fun j => .int (gb j))) W2 hC (by decide) (by decide) rfl rfl d13_58 rfl ?_
  exact ⟨b, gb, rfl, own_le_ W0 o_b, V_b⟩
theorem ef_m15 (m : MethodId) (x0 : Addr) (x1 : Int32) : entryFrame m #[(.ref x0), (.int x1)] 2 = mkF m 0 #[.val (.ref x0), .val (.int x1)] [] := by first | (simp [entryFrame, mkF, argsToLocals, Value.category]; done) | rfl
set_option maxRecDepth 65536 in
set_option maxHeartbeats 40000000 in
theorem own_m15 (l : Launch) (Z : State) (a0 : Array Value) (hw : ∀ d ∈ tables_1, d.before a0 Z = true) (wo : List Jvm.Cond) (h0 : Heap) (a1 : Addr) (p2 : Int32) (n : Nat) (g : Nat → Int32) (V_a1 : own_A Z h0 a1 .byte n (fun j => .int (g j))) (hz : n.toInt32 = p2) :
    own_M l Z wo (⟨"java/lang/StringUTF16", "coderFromArrayLen", "([BI)B"⟩ : MethodName) jdk_52_method_15_code 2 (some .byte) ({ frames := 0, cells := 0, slots := 0, locals := 0 } : Room) [] #[(.ref a1), (.int p2)] h0 (fun v h => v = some (.int (0 : Int32))) := by
  refine own_body (plainFor_of_name pn_15) (fun m => ef_m15 m a1 p2) ?_
  intro p e s m below meth c C hC T0 W0
  refine own_iloadN W0 1 d15_0 rfl rfl ?_
  refine own_aloadN W0 2 d15_1 rfl rfl rfl ?_
  refine own_arraylength W0 p2 3 d15_2 V_a1 hz rfl ?_
  refine own_isub W0 4 d15_3 rfl ?_
  rw [show (p2 - p2) = (0 : Int32) from Int32.sub_self p2]
  refine own_bipush W0 (31 : Int32) 6 d15_4 rfl rfl ?_
  refine own_iushr W0 7 d15_6 rfl ?_
  refine own_i2b W0 8 d15_7 rfl ?_
  refine own_retB (Q := fun v h => v = some (.int (0 : Int32))) W0 hC (by decide) (by decide) d15_8 ?_
  exact rfl
theorem ef_m11 (m : MethodId) (x0 : Addr) (x1 : Addr) (x2 : Int32) (x3 : Int32) : entryFrame m #[(.ref x0), (.ref x1), (.int x2), (.int x3), .null] 6 = mkF m 0 #[.val (.ref x0), .val (.ref x1), .val (.int x2), .val (.int x3), .val .null, .unset] [] := by first | (simp [entryFrame, mkF, argsToLocals, Value.category]; done) | rfl
set_option maxRecDepth 65536 in
set_option maxHeartbeats 40000000 in
theorem own_m11 (l : Launch) (Z : State) (a0 : Array Value) (hw : ∀ d ∈ tables_1, d.before a0 Z = true) (wo : List Jvm.Cond) (h0 : Heap) (a1 : Addr) (a2 : Addr) (p4 : Int32) (cs : Int32) (n : Nat) (cg : Nat → Int32) (S_cs : Sta Z h0 "java/lang/String" "COMPACT_STRINGS" "Z" (.int cs)) (X_a1 : Exa Z h0 a1 "java/lang/String") (F_value_a1 : Fld Z h0 a1 "java/lang/String" "value" "[B" .null) (F_coder_a1 : Fld Z h0 a1 "java/lang/String" "coder" "B" (.int (0 : Int32))) (V_a2 : own_A Z h0 a2 .char n (fun j => .int (cg j))) (hcs : ¬ cs = (0 : Int32)) (ne12 : a1 ≠ a2) (hlen : p4.toInt = (n : Int)) (hz : n.toInt32 = p4) (hn7 : n ≤ 7) (hn1 : 1 ≤ n) (hcg : ∀ j, j < n → 0 ≤ (cg j).toInt ∧ (cg j).toInt ≤ 255) :
    own_M l Z wo (⟨"java/lang/String", "<init>", "([CIILjava/lang/Void;)V"⟩ : MethodName) jdk_42_method_149_code 6 none ({ frames := 2, cells := 1, slots := 7, locals := 35 } : Room) [a1] #[(.ref a1), (.ref a2), (.int (0 : Int32)), (.int p4), .null] h0 (fun v h => v = none ∧ (∃ (b : Addr) (gb : Nat → Int32), h0.size ≤ b ∧ Fld Z h a1 "java/lang/String" "value" "[B" (.ref b) ∧ Fld Z h a1 "java/lang/String" "coder" "B" (.int (0 : Int32)) ∧ own_A Z h b .byte n (fun j => .int (gb j)))) := by
  refine own_body (plainFor_of_name pn_11) (fun m => ef_m11 m a1 a2 (0 : Int32) p4) ?_
  intro p e s m below meth c C hC T0 W0
  refine own_aloadN W0 1 d11_0 rfl rfl rfl ?_
  refine own_initO W0 0 4 d11_1 (wd59 hw) (wd60 hw) (wd61 hw) rfl (Nat.le_of_eq rfl) (by decide) (by decide) rfl ?_
  intro T1 W1
  show own_Go p e below C T1 (mkF m 4 #[.val (.ref a1), .val (.ref a2), .val (.int (0 : Int32)), .val (.int p4), .val .null, .unset] [])
  refine own_iloadN W1 5 d11_4 rfl rfl ?_
  refine own_ifY W1 27 d11_5 ((if0 _ _).trans (feq ((fun q => by rw [q] at hlen; have h9 : (0 : Int32).toInt = 0 := rfl; omega) : ¬ (p4 = (0 : Int32)))).2) (by decide) (by decide) ?_
  refine own_getstatic W1 30 d11_27 (wd28 hw) S_cs rfl ?_
  intro T2 W2
  show own_Go p e below C T2 (mkF m 30 #[.val (.ref a1), .val (.ref a2), .val (.int (0 : Int32)), .val (.int p4), .val .null, .unset] [(.int cs)])
  refine own_ifN W2 33 d11_30 ((if0 _ _).trans (feq (hcs : ¬ (cs = (0 : Int32)))).1) rfl ?_
  refine own_aloadN W2 34 d11_33 rfl rfl rfl ?_
  refine own_iloadN W2 35 d11_34 rfl rfl ?_
  refine own_iloadN W2 36 d11_35 rfl rfl ?_
  have hal := X_a1.lt
  have hsH := own_le W2
  refine own_callS W2 (A := [(.ref a2), (.int (0 : Int32)), (.int p4)]) (wt := 0) (pc' := 39) (st := []) d11_36 (wd62 hw) (wd63 hw) (wd64 hw) (wd65 hw) (by decide) (own_m13 l Z a0 hw [] h0 a2 p4 n cg V_a2 hlen hn7 hcg) all0 rfl pd_8 rfl (Nat.le_of_eq rfl) (by decide) (by decide) (by decide) (by decide) rfl ?_
  rintro T3 h3 _ W3 K3 P3 ⟨b, gb, rfl, o_b, V_b⟩
  have S_cs := own_staK0 S_cs K3
  have X_a1 := X_a1.keep K3
  have F_value_a1 := F_value_a1.keep K3 nin0
  have F_coder_a1 := F_coder_a1.keep K3 nin0
  have V_a2 := V_a2.keep K3 nin0
  show own_Go p e below C T3 (mkF m 39 #[.val (.ref a1), .val (.ref a2), .val (.int (0 : Int32)), .val (.int p4), .val .null, .unset] [(.ref b)])
  have ne_a1_b : a1 ≠ b := Nat.ne_of_lt (Nat.lt_of_lt_of_le hal o_b)
  refine own_astore W3 41 #[.val (.ref a1), .val (.ref a2), .val (.int (0 : Int32)), .val (.int p4), .val .null, .val (.ref b)] d11_39 rfl rfl rfl ?_
  refine own_aloadN W3 42 d11_41 rfl rfl rfl ?_
  refine own_aload W3 44 d11_42 rfl rfl rfl ?_
  refine own_iloadN W3 45 d11_44 rfl rfl ?_
  refine own_callS W3 (A := [(.ref b), (.int p4)]) (wt := 1) (pc' := 48) (st := [(.ref a1)]) d11_45 (wd69 hw) (wd70 hw) (wd64 hw) (wd71 hw) (by decide) (own_m15 l Z a0 hw [] h3 b p4 n gb V_b hz) all0 rfl pd_9 rfl (Nat.le_of_eq rfl) (by decide) (by decide) (by decide) (by decide) rfl ?_
  rintro T4 h4 _ W4 K4 P4 rfl
  rw [P4 rfl rfl] at W4
  show own_Go p e below C T4 (mkF m 48 #[.val (.ref a1), .val (.ref a2), .val (.int (0 : Int32)), .val (.int p4), .val .null, .val (.ref b)] [(.int (0 : Int32)), (.ref a1)])
  refine own_putfield W4 (.int (0 : Int32)) 51 d11_48 (wd29 hw) F_coder_a1 X_a1 (Or.inr ⟨(wd5 hw), rfl, rfl⟩) (wd2 hw) (Or.inl (List.mem_of_getElem? (i := 0) rfl)) (ty := .byte) (by decide) rfl rfl rfl ?_
  intro T5 h5 W5 Wr5 F_coder_a1
  have X_a1 := X_a1.wr Wr5
  have F_value_a1 := F_value_a1.other Wr5 (Or.inr (slot_ne (Or.inr (wd4 hw)) (Or.inr (wd5 hw)) (by decide) (t := (.array .byte)) (t' := .byte) (by decide) (by decide)))
  have V_b := V_b.other Wr5 (Ne.symm ne_a1_b)
  show own_Go p e below C T5 (mkF m 51 #[.val (.ref a1), .val (.ref a2), .val (.int (0 : Int32)), .val (.int p4), .val .null, .val (.ref b)] [])
  refine own_aloadN W5 52 d11_51 rfl rfl rfl ?_
  refine own_aload W5 54 d11_52 rfl rfl rfl ?_
  refine own_putfield W5 (.ref b) 57 d11_54 (wd22 hw) F_value_a1 X_a1 (Or.inr ⟨(wd4 hw), rfl, rfl⟩) (wd2 hw) (Or.inl (List.mem_of_getElem? (i := 0) rfl)) (ty := (.array .byte)) (by decide) rfl rfl rfl ?_
  intro T6 h6 W6 Wr6 F_value_a1
  have X_a1 := X_a1.wr Wr6
  have F_coder_a1 := F_coder_a1.other Wr6 (Or.inr (slot_ne (Or.inr (wd5 hw)) (Or.inr (wd4 hw)) (by decide) (t := .byte) (t' := (.array .byte)) (by decide) (by decide)))
  have V_b := V_b.other Wr6 (Ne.symm ne_a1_b)
  show own_Go p e below C T6 (mkF m 57 #[.val (.ref a1), .val (.ref a2), .val (.int (0 : Int32)), .val (.int p4), .val .null, .val (.ref b)] [])
  refine own_retV (Q := fun v h => v = none ∧ (∃ (b : Addr) (gb : Nat → Int32), h0.size ≤ b ∧ Fld Z h a1 "java/lang/String" "value" "[B" (.ref b) ∧ Fld Z h a1 "java/lang/String" "coder" "B" (.int (0 : Int32)) ∧ own_A Z h b .byte n (fun j => .int (gb j)))) W6 hC (by decide) (by decide) d11_57 ?_
  exact ⟨rfl, ⟨b, gb, o_b, F_value_a1, F_coder_a1, V_b⟩⟩
theorem ef_m10 (m : MethodId) (x0 : Addr) (x1 : Addr) : entryFrame m #[(.ref x0), (.ref x1)] 2 = mkF m 0 #[.val (.ref x0), .val (.ref x1)] [] := by first | (simp [entryFrame, mkF, argsToLocals, Value.category]; done) | rfl
set_option maxRecDepth 65536 in
set_option maxHeartbeats 40000000 in
theorem own_m10 (l : Launch) (Z : State) (a0 : Array Value) (hw : ∀ d ∈ tables_1, d.before a0 Z = true) (wo : List Jvm.Cond) (h0 : Heap) (a1 : Addr) (a2 : Addr) (cs : Int32) (n : Nat) (cg : Nat → Int32) (z : Int32) (S_cs : Sta Z h0 "java/lang/String" "COMPACT_STRINGS" "Z" (.int cs)) (X_a1 : Exa Z h0 a1 "java/lang/String") (F_value_a1 : Fld Z h0 a1 "java/lang/String" "value" "[B" .null) (F_coder_a1 : Fld Z h0 a1 "java/lang/String" "coder" "B" (.int (0 : Int32))) (V_a2 : own_A Z h0 a2 .char n (fun j => .int (cg j))) (hcs : ¬ cs = (0 : Int32)) (ne12 : a1 ≠ a2) (hz : n.toInt32 = z) (hzn : z.toInt = (n : Int)) (hn7 : n ≤ 7) (hn1 : 1 ≤ n) (hcg : ∀ j, j < n → 0 ≤ (cg j).toInt ∧ (cg j).toInt ≤ 255) :
    own_M l Z wo (⟨"java/lang/String", "<init>", "([C)V"⟩ : MethodName) jdk_42_method_3_code 2 none ({ frames := 3, cells := 1, slots := 7, locals := 52 } : Room) [a1] #[(.ref a1), (.ref a2)] h0 (fun v h => v = none ∧ (∃ (b : Addr) (gb : Nat → Int32), h0.size ≤ b ∧ Fld Z h a1 "java/lang/String" "value" "[B" (.ref b) ∧ Fld Z h a1 "java/lang/String" "coder" "B" (.int (0 : Int32)) ∧ own_A Z h b .byte n (fun j => .int (gb j)))) := by
  refine own_body (plainFor_of_name pn_10) (fun m => ef_m10 m a1 a2) ?_
  intro p e s m below meth c C hC T0 W0
  refine own_aloadN W0 1 d10_0 rfl rfl rfl ?_
  refine own_aloadN W0 2 d10_1 rfl rfl rfl ?_
  refine own_iconst W0 (0 : Int32) 3 d10_2 rfl rfl ?_
  refine own_aloadN W0 4 d10_3 rfl rfl rfl ?_
  refine own_arraylength W0 z 5 d10_4 V_a2 hz rfl ?_
  refine own_aconst_null W0 6 d10_5 rfl ?_
  refine own_callN W0 (A := [(.ref a2), (.int (0 : Int32)), (.int z), .null]) (wt := 0) (pc' := 9) (st := []) d10_6 rfl (wd55 hw) (wd56 hw) (wd1 hw) (wd58 hw) (by decide) (own_m11 l Z a0 hw [] h0 a1 a2 z cs n cg S_cs X_a1 F_value_a1 F_coder_a1 V_a2 hcs ne12 hzn hz hn7 hn1 hcg) (allS (Or.inl (List.mem_of_getElem? (i := 0) rfl)) all0) rfl pd_10 rfl (Nat.le_of_eq rfl) (by decide) (by decide) (by decide) (by decide) rfl ?_
  rintro T1 h1 _ W1 K1 P1 ⟨rfl, ⟨b, gb, o_b, F_value_a1, F_coder_a1, V_b⟩⟩
  have X_a1 := X_a1.keep K1
  show own_Go p e below C T1 (mkF m 9 #[.val (.ref a1), .val (.ref a2)] [])
  refine own_retV (Q := fun v h => v = none ∧ (∃ (b : Addr) (gb : Nat → Int32), h0.size ≤ b ∧ Fld Z h a1 "java/lang/String" "value" "[B" (.ref b) ∧ Fld Z h a1 "java/lang/String" "coder" "B" (.int (0 : Int32)) ∧ own_A Z h b .byte n (fun j => .int (gb j)))) W1 hC (by decide) (by decide) d10_9 ?_
  exact ⟨rfl, ⟨b, gb, o_b, F_value_a1, F_coder_a1, V_b⟩⟩
theorem ef_m19 (m : MethodId) (x0 : Addr) (x1 : Addr) : entryFrame m #[(.ref x0), (.ref x1)] 3 = mkF m 0 #[.val (.ref x0), .val (.ref x1), .unset] [] := by first | (simp [entryFrame, mkF, argsToLocals, Value.category]; done) | rfl
set_option maxRecDepth 65536 in
set_option maxHeartbeats 40000000 in
theorem own_m19 (l : Launch) (Z : State) (a0 : Array Value) (hw : ∀ d ∈ tables_1, d.before a0 Z = true) (wo : List Jvm.Cond) (h0 : Heap) (a1 : Addr) (a2 : Addr) (n1 : Nat) (g1 : Nat → Int32) (n2 : Nat) (g2 : Nat → Int32) (z1 : Int32) (z2 : Int32) (V_a1 : own_A Z h0 a1 .byte n1 (fun j => .int (g1 j))) (V_a2 : own_A Z h0 a2 .byte n2 (fun j => .int (g2 j))) (hz1 : n1.toInt32 = z1) (hzn1 : z1.toInt = (n1 : Int)) (hz2 : n2.toInt32 = z2) (hzn2 : z2.toInt = (n2 : Int)) (hs1 : n1 < 1000) :
    own_M l Z wo (⟨"java/lang/StringLatin1", "equals", "([B[B)Z"⟩ : MethodName) jdk_43_method_13_code 3 (some .boolean) ({ frames := 0, cells := 0, slots := 0, locals := 0 } : Room) [] #[(.ref a1), (.ref a2)] h0 (fun v h => v = some (.int (own_eqs n1 g1 n2 g2))) := by
  refine own_body (plainFor_of_name pn_19) (fun m => ef_m19 m a1 a2) ?_
  intro p e s m below meth c C hC T0 W0
  refine own_aloadN W0 1 d19_0 rfl rfl rfl ?_
  refine own_arraylength W0 z1 2 d19_1 V_a1 hz1 rfl ?_
  refine own_aloadN W0 3 d19_2 rfl rfl rfl ?_
  refine own_arraylength W0 z2 4 d19_3 V_a2 hz2 rfl ?_
  by_cases c1 : z1 = z2
  · refine own_icmpN W0 7 d19_4 ((teq c1).2) rfl ?_
    have heq : n1 = n2 := by have h9 := hzn1; rw [c1, hzn2] at h9; omega
    refine own_iconst W0 (0 : Int32) 8 d19_7 rfl rfl ?_
    refine own_istoreN W0 9 #[.val (.ref a1), .val (.ref a2), .val (.int (0 : Int32))] d19_8 rfl rfl ?_
    have loop : ∀ (f i : Nat) (u2 : Int32) (T : State), own_W p l e ({ frames := 0, cells := 0, slots := 0, locals := 0 } : Room) s m #[(.ref a1), (.ref a2)] below meth c Z (⟨"java/lang/StringLatin1", "equals", "([B[B)Z"⟩ : MethodName) (some .boolean) jdk_43_method_13_code 3 [] T h0 (0) (0) → i + f = n1 → u2.toInt = (i : Int) → own_eqf n1 0 g1 g2 = own_eqf f i g1 g2 → own_Go p e below C T (mkF m 9 #[.val (.ref a1), .val (.ref a2), .val (.int u2)] []) := by
      intro f
      induction f with
      | zero =>
        intro i u2 T W hf hu hr
        have hlt : ¬ (u2 < z1) := by rw [own_ltN hu hzn1]; omega
        refine own_iloadN W 10 d19_9 rfl rfl ?_
        refine own_aloadN W 11 d19_10 rfl rfl rfl ?_
        refine own_arraylength W z1 12 d19_11 V_a1 hz1 rfl ?_
        refine own_icmpY W 32 d19_12 ((flt (hlt : ¬ (u2 < z1))).2.1) (by decide) (by decide) ?_
        refine own_iconst W (1 : Int32) 33 d19_32 rfl rfl ?_
        refine own_retZ (Q := fun v h => v = some (.int (own_eqs n1 g1 n2 g2))) W hC (by decide) (by decide) d19_33 ?_
        exact (by unfold own_eqs; rw [if_pos heq, hr]; rfl)
      | succ f ih =>
        intro i u2 T W hf hu hr
        have hlt : u2 < z1 := by rw [own_ltN hu hzn1]; omega
        refine own_iloadN W 10 d19_9 rfl rfl ?_
        refine own_aloadN W 11 d19_10 rfl rfl rfl ?_
        refine own_arraylength W z1 12 d19_11 V_a1 hz1 rfl ?_
        refine own_icmpN W 15 d19_12 ((tlt (hlt : u2 < z1)).2.1) rfl ?_
        refine own_aloadN W 16 d19_15 rfl rfl rfl ?_
        refine own_iloadN W 17 d19_16 rfl rfl ?_
        refine own_baload W i (g1 i) 18 d19_17 V_a1 hu (by omega) rfl rfl ?_
        refine own_aloadN W 19 d19_18 rfl rfl rfl ?_
        refine own_iloadN W 20 d19_19 rfl rfl ?_
        refine own_baload W i (g2 i) 21 d19_20 V_a2 hu (by omega) rfl rfl ?_
        by_cases c2 : (g1 i) = (g2 i)
        · refine own_icmpY W 26 d19_21 ((teq c2).1) (by decide) (by decide) ?_
          refine own_iinc W (u2 + (1 : Int32)) 29 #[.val (.ref a1), .val (.ref a2), .val (.int (u2 + (1 : Int32)))] d19_26 rfl rfl rfl rfl ?_
          refine own_goto W 9 d19_29 (by decide) (by decide) ?_
          exact ih (i + 1) _ _ W (by omega) (own_inc hu (by omega)) (by rw [hr]; show (if g1 i = g2 i then _ else _) = _; rw [if_pos c2])
        · refine own_icmpN W 24 d19_21 ((feq c2).1) rfl ?_
          refine own_iconst W (0 : Int32) 25 d19_24 rfl rfl ?_
          refine own_retZ (Q := fun v h => v = some (.int (own_eqs n1 g1 n2 g2))) W hC (by decide) (by decide) d19_25 ?_
          exact (by unfold own_eqs; rw [if_pos heq, hr]; show _ = some (Value.int (if g1 i = g2 i then _ else _)); rw [if_neg c2]; rfl)
    exact loop n1 0 _ T0 W0 (by omega) rfl rfl
  · refine own_icmpY W0 34 d19_4 ((feq c1).2) (by decide) (by decide) ?_
    have hne : ¬ n1 = n2 := fun q => c1 (Int32.toInt_inj.mp (by rw [hzn1, hzn2, q]))
    refine own_iconst W0 (0 : Int32) 35 d19_34 rfl rfl ?_
    refine own_retZ (Q := fun v h => v = some (.int (own_eqs n1 g1 n2 g2))) W0 hC (by decide) (by decide) d19_35 ?_
    exact (by unfold own_eqs; rw [if_neg hne]; rfl)
theorem ef_m18 (m : MethodId) (x0 : Addr) (x1 : Addr) : entryFrame m #[(.ref x0), (.ref x1)] 3 = mkF m 0 #[.val (.ref x0), .val (.ref x1), .unset] [] := by first | (simp [entryFrame, mkF, argsToLocals, Value.category]; done) | rfl
set_option maxRecDepth 65536 in
set_option maxHeartbeats 40000000 in
theorem own_m18 (l : Launch) (Z : State) (a0 : Array Value) (hw : ∀ d ∈ tables_1, d.before a0 Z = true) (wo : List Jvm.Cond) (h0 : Heap) (a1 : Addr) (a2 : Addr) (cs : Int32) (b1 : Addr) (b2 : Addr) (n1 : Nat) (g1 : Nat → Int32) (n2 : Nat) (g2 : Nat → Int32) (z1 : Int32) (z2 : Int32) (S_cs : Sta Z h0 "java/lang/String" "COMPACT_STRINGS" "Z" (.int cs)) (X_a1 : Exa Z h0 a1 "java/lang/String") (F_value_a1 : Fld Z h0 a1 "java/lang/String" "value" "[B" (.ref b1)) (F_coder_a1 : Fld Z h0 a1 "java/lang/String" "coder" "B" (.int (0 : Int32))) (V_b1 : own_A Z h0 b1 .byte n1 (fun j => .int (g1 j))) (X_a2 : Exa Z h0 a2 "java/lang/String") (F_value_a2 : Fld Z h0 a2 "java/lang/String" "value" "[B" (.ref b2)) (F_coder_a2 : Fld Z h0 a2 "java/lang/String" "coder" "B" (.int (0 : Int32))) (V_b2 : own_A Z h0 b2 .byte n2 (fun j => .int (g2 j))) (hcs : ¬ cs = (0 : Int32)) (hz1 : n1.toInt32 = z1) (hzn1 : z1.toInt = (n1 : Int)) (hz2 : n2.toInt32 = z2) (hzn2 : z2.toInt = (n2 : Int)) (hs1 : n1 < 1000) (hself : a1 = a2 → own_eqs n1 g1 n2 g2 = 1) :
    own_M l Z wo (⟨"java/lang/String", "equals", "(Ljava/lang/Object;)Z"⟩ : MethodName) jdk_42_method_66_code 3 (some .boolean) ({ frames := 1, cells := 0, slots := 0, locals := 14 } : Room) [] #[(.ref a1), (.ref a2)] h0 (fun v h => v = some (.int (own_eqs n1 g1 n2 g2))) := by
  refine own_body (plainFor_of_name pn_18) (fun m => ef_m18 m a1 a2) ?_
  intro p e s m below meth c C hC T0 W0
  refine own_aloadN W0 1 d18_0 rfl rfl rfl ?_
  refine own_aloadN W0 2 d18_1 rfl rfl rfl ?_
  by_cases ca : a1 = a2
  · refine own_acmp W0 5 d18_2 rfl rfl (same := true) (decide_eq_true (congrArg Value.ref ca)) (by decide) (by decide) ?_
    refine own_iconst W0 (1 : Int32) 6 d18_5 rfl rfl ?_
    refine own_retZ (Q := fun v h => v = some (.int (own_eqs n1 g1 n2 g2))) W0 hC (by decide) (by decide) d18_6 ?_
    exact (by rw [hself ca]; rfl)
  · refine own_acmp W0 7 d18_2 rfl rfl (same := false) (decide_eq_false fun q => ca (Value.ref.inj q)) (by decide) (by decide) ?_
    refine own_aloadN W0 8 d18_7 rfl rfl rfl ?_
    refine own_instY W0 11 d18_8 (wd101 hw) (Ins.self X_a2) rfl ?_
    intro T1 W1
    show own_Go p e below C T1 (mkF m 11 #[.val (.ref a1), .val (.ref a2), .unset] [(.int (1 : Int32))])
    refine own_ifN W1 14 d18_11 ((if0 _ _).trans (feq ((by decide) : ¬ ((1 : Int32) = (0 : Int32)))).1) rfl ?_
    refine own_aloadN W1 15 d18_14 rfl rfl rfl ?_
    refine own_checkcast W1 18 d18_15 (wd101 hw) (Ins.self X_a2) rfl ?_
    intro T2 W2
    show own_Go p e below C T2 (mkF m 18 #[.val (.ref a1), .val (.ref a2), .unset] [(.ref a2)])
    refine own_astoreN W2 19 #[.val (.ref a1), .val (.ref a2), .val (.ref a2)] d18_18 rfl rfl rfl ?_
    refine own_getstatic W2 22 d18_19 (wd28 hw) S_cs rfl ?_
    intro T3 W3
    show own_Go p e below C T3 (mkF m 22 #[.val (.ref a1), .val (.ref a2), .val (.ref a2)] [(.int cs)])
    refine own_ifN W3 25 d18_22 ((if0 _ _).trans (feq (hcs : ¬ (cs = (0 : Int32)))).1) rfl ?_
    refine own_aloadN W3 26 d18_25 rfl rfl rfl ?_
    refine own_getfield W3 29 d18_26 (wd29 hw) F_coder_a1 rfl ?_
    intro T4 W4
    show own_Go p e below C T4 (mkF m 29 #[.val (.ref a1), .val (.ref a2), .val (.ref a2)] [(.int (0 : Int32))])
    refine own_aloadN W4 30 d18_29 rfl rfl rfl ?_
    refine own_getfield W4 33 d18_30 (wd29 hw) F_coder_a2 rfl ?_
    intro T5 W5
    show own_Go p e below C T5 (mkF m 33 #[.val (.ref a1), .val (.ref a2), .val (.ref a2)] [(.int (0 : Int32)), (.int (0 : Int32))])
    refine own_icmpN W5 36 d18_33 ((teq (rfl : (0 : Int32) = (0 : Int32))).2) rfl ?_
    refine own_aloadN W5 37 d18_36 rfl rfl rfl ?_
    refine own_getfield W5 40 d18_37 (wd22 hw) F_value_a1 rfl ?_
    intro T6 W6
    show own_Go p e below C T6 (mkF m 40 #[.val (.ref a1), .val (.ref a2), .val (.ref a2)] [(.ref b1)])
    refine own_aloadN W6 41 d18_40 rfl rfl rfl ?_
    refine own_getfield W6 44 d18_41 (wd22 hw) F_value_a2 rfl ?_
    intro T7 W7
    show own_Go p e below C T7 (mkF m 44 #[.val (.ref a1), .val (.ref a2), .val (.ref a2)] [(.ref b2), (.ref b1)])
    refine own_callS W7 (A := [(.ref b1), (.ref b2)]) (wt := 0) (pc' := 47) (st := []) d18_44 (wd102 hw) (wd103 hw) (wd42 hw) (wd104 hw) (by decide) (own_m19 l Z a0 hw [] h0 b1 b2 n1 g1 n2 g2 z1 z2 V_b1 V_b2 hz1 hzn1 hz2 hzn2 hs1) all0 rfl pd_11 rfl (Nat.le_of_eq rfl) (by decide) (by decide) (by decide) (by decide) rfl ?_
    rintro T8 h8 _ W8 K8 P8 rfl
    rw [P8 rfl rfl] at W8
    show own_Go p e below C T8 (mkF m 47 #[.val (.ref a1), .val (.ref a2), .val (.ref a2)] [(.int (own_eqs n1 g1 n2 g2))])
    by_cases c9 : (own_eqs n1 g1 n2 g2) = (0 : Int32)
    · refine own_ifY W8 54 d18_47 ((if0 _ _).trans (teq c9).1) (by decide) (by decide) ?_
      refine own_iconst W8 (0 : Int32) 55 d18_54 rfl rfl ?_
      refine own_retZ (Q := fun v h => v = some (.int (own_eqs n1 g1 n2 g2))) W8 hC (by decide) (by decide) d18_55 ?_
      exact (by rw [c9]; rfl)
    · refine own_ifN W8 50 d18_47 ((if0 _ _).trans (feq c9).1) rfl ?_
      refine own_iconst W8 (1 : Int32) 51 d18_50 rfl rfl ?_
      refine own_goto W8 55 d18_51 (by decide) (by decide) ?_
      refine own_retZ (Q := fun v h => v = some (.int (own_eqs n1 g1 n2 g2))) W8 hC (by decide) (by decide) d18_55 ?_
      exact (by rw [(own_eqs01 n1 g1 n2 g2).resolve_left c9]; rfl)
section OwnStr2
variable {p : Program} {l : Launch} {e : Env} {R : Room} {s : State} {m : MethodId} {args : Array Value} {below : List Frame} {meth : Method} {c : Code} {Z : State} {y : MethodName} {ret : Option FieldType} {code : ByteArray} {ml : Nat} {ws : List Addr} {T : State} {h : Heap} {cells slots : Nat} {C : Outcome → State → Prop} {a0 : Array Value}
theorem own_instNull (W : own_W p l e R s m args below meth c Z y ret code ml ws T h cells slots) {i : Nat} {pc : Nat} (pc' : Nat) {L : Array Slot} {st : List Value} (hd : decode code pc = .ok (.instanceof i, 3)) (hp : pc + 3 = pc') (k : own_Go p e below C T (mkF m pc' L (.int 0 :: st))) : own_Go p e below C T (mkF m pc L (.null :: st)) := by
  obtain ⟨⟨hx, hby, hml, hown, hnm, hrt, hlk, hZ⟩, locs, X, eT, N⟩ := W
  subst hp
  exact own_st (fun t q => Jvm.Stand.instanceofNull X hx (g := mkF m pc L (.null :: st)) rfl rfl (hb hby hd) t q) k
theorem own_aaloadA (W : own_W p l e R s m args below meth c Z y ret code ml ws T h cells slots) {a : Addr} {C0 : String} {z : Int32} {n : Nat} {f : Nat → Value} (k : Nat) (v : Value) {pc : Nat} (pc' : Nat) {L : Array Slot} {st : List Value} (hd : decode code pc = .ok (.aaload, 1)) (F : own_A Z h a (.object C0) n f) (hz : z.toInt = (k : Int)) (hk : k < n) (hv : f k = v) (hp : pc + 1 = pc') (kk : own_Go p e below C T (mkF m pc' L (v :: st))) : own_Go p e below C T (mkF m pc L (.int z :: .ref a :: st)) := by
  have hsz := own_le W
  obtain ⟨⟨hx, hby, hml, hown, hnm, hrt, hlk, hZ⟩, locs, X, eT, N⟩ := W
  subst hp eT
  obtain ⟨cl, A, hs, hf⟩ := F
  have hat : cl.slots[z.toNatClampNeg]? = some v := by rw [own_cl hz, hf k hk, hv]
  exact own_st (fun t q => X.aaload hx A.1 (State.isArrayOf_alike hZ.alike A.2.1) rfl A.2.2 (own_in hz hs hk) hat (g := mkF m pc L (.int z :: .ref a :: st)) rfl rfl (hb hby hd) t q) kk
end OwnStr2
theorem ef_m18n (m : MethodId) (x0 : Addr) : entryFrame m #[(.ref x0), .null] 3 = mkF m 0 #[.val (.ref x0), .val .null, .unset] [] := by first | (simp [entryFrame, mkF, argsToLocals, Value.category]; done) | rfl
set_option maxRecDepth 65536 in
set_option maxHeartbeats 40000000 in
theorem own_m18n (l : Launch) (Z : State) (a0 : Array Value) (hw : ∀ d ∈ tables_1, d.before a0 Z = true) (wo : List Jvm.Cond) (h0 : Heap) (a1 : Addr) :
    own_M l Z wo (⟨"java/lang/String", "equals", "(Ljava/lang/Object;)Z"⟩ : MethodName) jdk_42_method_66_code 3 (some .boolean) ({ frames := 0, cells := 0, slots := 0, locals := 0 } : Room) [] #[(.ref a1), .null] h0 (fun v h => v = some (.int (0 : Int32))) := by
  refine own_body (plainFor_of_name pn_18) (fun m => ef_m18n m a1) ?_
  intro p e s m below meth c C hC T0 W0
  refine own_aloadN W0 1 d18_0 rfl rfl rfl ?_
  refine own_aloadN W0 2 d18_1 rfl rfl rfl ?_
  refine own_acmp W0 7 d18_2 rfl rfl (same := false) (decide_eq_false fun q => nomatch q) (by decide) (by decide) ?_
  refine own_aloadN W0 8 d18_7 rfl rfl rfl ?_
  refine own_instNull W0 11 d18_8 rfl ?_
  show own_Go p e below C T0 (mkF m 11 #[.val (.ref a1), .val .null, .unset] [(.int (0 : Int32))])
  refine own_ifY W0 54 d18_11 ((if0 _ _).trans (teq (rfl : (0 : Int32) = (0 : Int32))).1) (by decide) (by decide) ?_
  refine own_iconst W0 (0 : Int32) 55 d18_54 rfl rfl ?_
  refine own_retZ (Q := fun v h => v = some (.int (0 : Int32))) W0 hC (by decide) (by decide) d18_55 ?_
  exact rfl
theorem ef_m17 (m : MethodId)  : entryFrame m #[] 0 = mkF m 0 #[] [] := by first | (simp [entryFrame, mkF, argsToLocals, Value.category]; done) | rfl
set_option maxRecDepth 65536 in
set_option maxHeartbeats 40000000 in
theorem own_m17 (l : Launch) (Z : State) (a0 : Array Value) (hw : ∀ d ∈ tables_1, d.before a0 Z = true) (wo : List Jvm.Cond) (h0 : Heap)  (va : Addr) (vf : Nat → Value) (e0 : Addr) (e1 : Addr) (e2 : Addr) (S_vs : Sta Z h0 "com/example/aeneas/aeneas/Side" "$VALUES" "[Lcom/example/aeneas/aeneas/Side;" (.ref va)) (V_va : own_A Z h0 va (.object "com/example/aeneas/aeneas/Side") 3 vf) (Y_va : Exa Z h0 va "[Lcom/example/aeneas/aeneas/Side;") (hv0 : vf 0 = .ref e0) (hv1 : vf 1 = .ref e1) (hv2 : vf 2 = .ref e2) :
    own_M l Z wo (⟨"com/example/aeneas/aeneas/Side", "values", "()[Lcom/example/aeneas/aeneas/Side;"⟩ : MethodName) prog_25_method_1_code 0 (some (.array (.object "com/example/aeneas/aeneas/Side"))) ({ frames := 1, cells := 1, slots := 3, locals := 14 } : Room) [] #[] h0 (fun v h => ∃ vb, v = some (.ref vb) ∧ h0.size ≤ vb ∧ own_A Z h vb (.object "com/example/aeneas/aeneas/Side") 3 vf) := by
  refine own_body (plainFor_of_name pn_17) (fun m => ef_m17 m ) ?_
  intro p e s m below meth c C hC T0 W0
  refine own_getstatic W0 3 d17_0 (wd79 hw) S_vs rfl ?_
  intro T1 W1
  show own_Go p e below C T1 (mkF m 3 #[] [(.ref va)])
  refine own_clone W1 (cap := 3) (wt := 0) (pc' := 6) d17_3 (wd81 hw) (wd82 hw) (wd86 hw) (wd84 hw) (wd85 hw) (wd87 hw) V_va Y_va (fun j hj => by rcases (by omega : j = 0 ∨ j = 1 ∨ j = 2) with rfl | rfl | rfl <;> simp only [hv0, hv1, hv2] <;> rfl) rfl (Nat.le_of_eq rfl) (by decide) (by decide) (Nat.le_refl _) (by decide) (by decide) rfl ?_
  intro T2 h2 vb W2 E2 g_vb o_vb V_vb Y_vb
  have ne_va_vb : va ≠ vb := by rw [g_vb]; exact Nat.ne_of_lt V_va.lt
  have S_vs := S_vs.ext E2
  have V_va := V_va.ext E2
  have Y_va := Y_va.ext E2
  show own_Go p e below C T2 (mkF m 6 #[] [(.ref vb)])
  refine own_checkcast W2 9 d17_6 (wd92 hw) (Ins.of_exa Y_vb (wd93 hw)) rfl ?_
  intro T3 W3
  show own_Go p e below C T3 (mkF m 9 #[] [(.ref vb)])
  refine own_retA (Q := fun v h => ∃ vb, v = some (.ref vb) ∧ h0.size ≤ vb ∧ own_A Z h vb (.object "com/example/aeneas/aeneas/Side") 3 vf) W3 hC (by decide) (by decide) rfl rfl d17_9 rfl ?_
  exact ⟨vb, rfl, own_le_ W0 o_vb, V_vb⟩
theorem ef_m16 (m : MethodId) (x0 : Addr) : entryFrame m #[(.ref x0)] 6 = mkF m 0 #[.val (.ref x0), .unset, .unset, .unset, .unset, .unset] [] := by first | (simp [entryFrame, mkF, argsToLocals, Value.category]; done) | rfl
set_option maxRecDepth 65536 in
set_option maxHeartbeats 40000000 in
theorem own_m16 (l : Launch) (Z : State) (a0 : Array Value) (hw : ∀ d ∈ tables_1, d.before a0 Z = true) (wo : List Jvm.Cond) (h0 : Heap) (a1 : Addr) (cs : Int32) (va : Addr) (vf : Nat → Value) (e0 : Addr) (e1 : Addr) (e2 : Addr) (l0 : Addr) (l1 : Addr) (l2 : Addr) (m0 : Addr) (m1 : Addr) (m2 : Addr) (k0 : Nat → Int32) (k1 : Nat → Int32) (k2 : Nat → Int32) (sb : Addr) (sn : Nat) (sg : Nat → Int32) (sz : Int32) (S_cs : Sta Z h0 "java/lang/String" "COMPACT_STRINGS" "Z" (.int cs)) (S_vs : Sta Z h0 "com/example/aeneas/aeneas/Side" "$VALUES" "[Lcom/example/aeneas/aeneas/Side;" (.ref va)) (V_va : own_A Z h0 va (.object "com/example/aeneas/aeneas/Side") 3 vf) (Y_va : Exa Z h0 va "[Lcom/example/aeneas/aeneas/Side;") (F_label_e0 : Fld Z h0 e0 "com/example/aeneas/aeneas/Side" "label" "Ljava/lang/String;" (.ref l0)) (X_l0 : Exa Z h0 l0 "java/lang/String") (F_value_l0 : Fld Z h0 l0 "java/lang/String" "value" "[B" (.ref m0)) (F_coder_l0 : Fld Z h0 l0 "java/lang/String" "coder" "B" (.int (0 : Int32))) (V_m0 : own_A Z h0 m0 .byte 6 (fun j => .int (k0 j))) (F_label_e1 : Fld Z h0 e1 "com/example/aeneas/aeneas/Side" "label" "Ljava/lang/String;" (.ref l1)) (X_l1 : Exa Z h0 l1 "java/lang/String") (F_value_l1 : Fld Z h0 l1 "java/lang/String" "value" "[B" (.ref m1)) (F_coder_l1 : Fld Z h0 l1 "java/lang/String" "coder" "B" (.int (0 : Int32))) (V_m1 : own_A Z h0 m1 .byte 5 (fun j => .int (k1 j))) (F_label_e2 : Fld Z h0 e2 "com/example/aeneas/aeneas/Side" "label" "Ljava/lang/String;" (.ref l2)) (X_l2 : Exa Z h0 l2 "java/lang/String") (F_value_l2 : Fld Z h0 l2 "java/lang/String" "value" "[B" (.ref m2)) (F_coder_l2 : Fld Z h0 l2 "java/lang/String" "coder" "B" (.int (0 : Int32))) (V_m2 : own_A Z h0 m2 .byte 6 (fun j => .int (k2 j))) (X_a1 : Exa Z h0 a1 "java/lang/String") (F_value_a1 : Fld Z h0 a1 "java/lang/String" "value" "[B" (.ref sb)) (F_coder_a1 : Fld Z h0 a1 "java/lang/String" "coder" "B" (.int (0 : Int32))) (V_sb : own_A Z h0 sb .byte sn (fun j => .int (sg j))) (hcs : ¬ cs = (0 : Int32)) (hv0 : vf 0 = .ref e0) (hv1 : vf 1 = .ref e1) (hv2 : vf 2 = .ref e2) (hz : sn.toInt32 = sz) (hzn : sz.toInt = (sn : Int)) (hs0 : l0 = a1 → own_eqs 6 k0 sn sg = 1) (hs1 : l1 = a1 → own_eqs 5 k1 sn sg = 1) (hs2 : l2 = a1 → own_eqs 6 k2 sn sg = 1) :
    own_M l Z wo (⟨"com/example/aeneas/aeneas/Side", "withLabel", "(Ljava/lang/String;)Lcom/example/aeneas/aeneas/Side;"⟩ : MethodName) prog_25_method_6_code 6 (some (.object "com/example/aeneas/aeneas/Side")) ({ frames := 2, cells := 1, slots := 3, locals := 28 } : Room) [] #[(.ref a1)] h0 (fun v h => v = some (if own_eqs 6 k0 sn sg = (0 : Int32) then (if own_eqs 5 k1 sn sg = (0 : Int32) then (if own_eqs 6 k2 sn sg = (0 : Int32) then .null else .ref e2) else .ref e1) else .ref e0)) := by
  refine own_body (plainFor_of_name pn_16) (fun m => ef_m16 m a1) ?_
  intro p e s m below meth c C hC T0 W0
  refine own_aconst_null W0 1 d16_0 rfl ?_
  refine own_astoreN W0 2 #[.val (.ref a1), .val .null, .unset, .unset, .unset, .unset] d16_1 rfl rfl rfl ?_
  refine own_callS W0 (A := []) (wt := 0) (pc' := 5) (st := []) d16_2 (wd76 hw) (wd77 hw) (wd74 hw) (wd78 hw) (by decide) (own_m17 l Z a0 hw [] h0 va vf e0 e1 e2 S_vs V_va Y_va hv0 hv1 hv2) all0 rfl pd_12 rfl (Nat.le_of_eq rfl) (by decide) (by decide) (by decide) (by decide) rfl ?_
  rintro T1 h1 _ W1 K1 P1 ⟨vb, rfl, o_vb, V_vb⟩
  have S_vs := own_staK0 S_vs K1
  have V_va := V_va.keep K1 nin0
  have Y_va := Y_va.keep K1
  have S_cs := own_staK0 S_cs K1
  have F_label_e0 := F_label_e0.keep K1 nin0
  have X_l0 := X_l0.keep K1
  have F_value_l0 := F_value_l0.keep K1 nin0
  have F_coder_l0 := F_coder_l0.keep K1 nin0
  have V_m0 := V_m0.keep K1 nin0
  have F_label_e1 := F_label_e1.keep K1 nin0
  have X_l1 := X_l1.keep K1
  have F_value_l1 := F_value_l1.keep K1 nin0
  have F_coder_l1 := F_coder_l1.keep K1 nin0
  have V_m1 := V_m1.keep K1 nin0
  have F_label_e2 := F_label_e2.keep K1 nin0
  have X_l2 := X_l2.keep K1
  have F_value_l2 := F_value_l2.keep K1 nin0
  have F_coder_l2 := F_coder_l2.keep K1 nin0
  have V_m2 := V_m2.keep K1 nin0
  have X_a1 := X_a1.keep K1
  have F_value_a1 := F_value_a1.keep K1 nin0
  have F_coder_a1 := F_coder_a1.keep K1 nin0
  have V_sb := V_sb.keep K1 nin0
  show own_Go p e below C T1 (mkF m 5 #[.val (.ref a1), .val .null, .unset, .unset, .unset, .unset] [(.ref vb)])
  refine own_astoreN W1 6 #[.val (.ref a1), .val .null, .val (.ref vb), .unset, .unset, .unset] d16_5 rfl rfl rfl ?_
  refine own_aloadN W1 7 d16_6 rfl rfl rfl ?_
  refine own_arraylength W1 (3 : Int32) 8 d16_7 V_vb rfl rfl ?_
  refine own_istoreN W1 9 #[.val (.ref a1), .val .null, .val (.ref vb), .val (.int (3 : Int32)), .unset, .unset] d16_8 rfl rfl ?_
  refine own_iconst W1 (0 : Int32) 10 d16_9 rfl rfl ?_
  refine own_istore W1 12 #[.val (.ref a1), .val .null, .val (.ref vb), .val (.int (3 : Int32)), .val (.int (0 : Int32)), .unset] d16_10 rfl rfl ?_
  refine own_iload W1 14 d16_12 rfl rfl ?_
  refine own_iloadN W1 15 d16_14 rfl rfl ?_
  refine own_icmpN W1 18 d16_15 ((tlt ((by decide) : (0 : Int32) < (3 : Int32))).2.1) rfl ?_
  refine own_aloadN W1 19 d16_18 rfl rfl rfl ?_
  refine own_iload W1 21 d16_19 rfl rfl ?_
  refine own_aaloadA W1 0 (.ref e0) 22 d16_21 V_vb rfl (by decide) hv0 rfl ?_
  refine own_astore W1 24 #[.val (.ref a1), .val .null, .val (.ref vb), .val (.int (3 : Int32)), .val (.int (0 : Int32)), .val (.ref e0)] d16_22 rfl rfl rfl ?_
  refine own_aload W1 26 d16_24 rfl rfl rfl ?_
  refine own_getfield W1 29 d16_26 (wd94 hw) F_label_e0 rfl ?_
  intro T2 W2
  show own_Go p e below C T2 (mkF m 29 #[.val (.ref a1), .val .null, .val (.ref vb), .val (.int (3 : Int32)), .val (.int (0 : Int32)), .val (.ref e0)] [(.ref l0)])
  refine own_aloadN W2 30 d16_29 rfl rfl rfl ?_
  refine own_callV W2 (A := [(.ref a1)]) (wt := 0) (pc' := 33) (st := []) d16_30 (wd96 hw) (wd97 hw) (own_nf W2 (wd99 hw)) (wd99 hw) (wd98 hw) (wd1 hw) (wd100 hw) (by decide) X_l0 (own_m18 l Z a0 hw [] h1 l0 a1 cs m0 sb 6 k0 sn sg (6 : Int32) sz S_cs X_l0 F_value_l0 F_coder_l0 V_m0 X_a1 F_value_a1 F_coder_a1 V_sb hcs rfl rfl hz hzn (by decide) hs0) all0 rfl pd_13 rfl (Nat.le_of_eq rfl) (by decide) (by decide) (by decide) (by decide) rfl ?_
  rintro T3 h3 _ W3 K3 P3 rfl
  rw [P3 rfl rfl] at W3
  show own_Go p e below C T3 (mkF m 33 #[.val (.ref a1), .val .null, .val (.ref vb), .val (.int (3 : Int32)), .val (.int (0 : Int32)), .val (.ref e0)] [(.int (own_eqs 6 k0 sn sg))])
  by_cases q0 : (own_eqs 6 k0 sn sg) = (0 : Int32)
  · refine own_ifY W3 42 d16_33 ((if0 _ _).trans (teq q0).1) (by decide) (by decide) ?_
    refine own_iinc W3 (1 : Int32) 45 #[.val (.ref a1), .val .null, .val (.ref vb), .val (.int (3 : Int32)), .val (.int (1 : Int32)), .val (.ref e0)] d16_42 rfl rfl rfl rfl ?_
    refine own_goto W3 12 d16_45 (by decide) (by decide) ?_
    refine own_iload W3 14 d16_12 rfl rfl ?_
    refine own_iloadN W3 15 d16_14 rfl rfl ?_
    refine own_icmpN W3 18 d16_15 ((tlt ((by decide) : (1 : Int32) < (3 : Int32))).2.1) rfl ?_
    refine own_aloadN W3 19 d16_18 rfl rfl rfl ?_
    refine own_iload W3 21 d16_19 rfl rfl ?_
    refine own_aaloadA W3 1 (.ref e1) 22 d16_21 V_vb rfl (by decide) hv1 rfl ?_
    refine own_astore W3 24 #[.val (.ref a1), .val .null, .val (.ref vb), .val (.int (3 : Int32)), .val (.int (1 : Int32)), .val (.ref e1)] d16_22 rfl rfl rfl ?_
    refine own_aload W3 26 d16_24 rfl rfl rfl ?_
    refine own_getfield W3 29 d16_26 (wd94 hw) F_label_e1 rfl ?_
    intro T4 W4
    show own_Go p e below C T4 (mkF m 29 #[.val (.ref a1), .val .null, .val (.ref vb), .val (.int (3 : Int32)), .val (.int (1 : Int32)), .val (.ref e1)] [(.ref l1)])
    refine own_aloadN W4 30 d16_29 rfl rfl rfl ?_
    refine own_callV W4 (A := [(.ref a1)]) (wt := 0) (pc' := 33) (st := []) d16_30 (wd96 hw) (wd97 hw) (own_nf W4 (wd99 hw)) (wd99 hw) (wd98 hw) (wd1 hw) (wd100 hw) (by decide) X_l1 (own_m18 l Z a0 hw [] h1 l1 a1 cs m1 sb 5 k1 sn sg (5 : Int32) sz S_cs X_l1 F_value_l1 F_coder_l1 V_m1 X_a1 F_value_a1 F_coder_a1 V_sb hcs rfl rfl hz hzn (by decide) hs1) all0 rfl pd_13 rfl (Nat.le_of_eq rfl) (by decide) (by decide) (by decide) (by decide) rfl ?_
    rintro T5 h5 _ W5 K5 P5 rfl
    rw [P5 rfl rfl] at W5
    show own_Go p e below C T5 (mkF m 33 #[.val (.ref a1), .val .null, .val (.ref vb), .val (.int (3 : Int32)), .val (.int (1 : Int32)), .val (.ref e1)] [(.int (own_eqs 5 k1 sn sg))])
    by_cases q1 : (own_eqs 5 k1 sn sg) = (0 : Int32)
    · refine own_ifY W5 42 d16_33 ((if0 _ _).trans (teq q1).1) (by decide) (by decide) ?_
      refine own_iinc W5 (2 : Int32) 45 #[.val (.ref a1), .val .null, .val (.ref vb), .val (.int (3 : Int32)), .val (.int (2 : Int32)), .val (.ref e1)] d16_42 rfl rfl rfl rfl ?_
      refine own_goto W5 12 d16_45 (by decide) (by decide) ?_
      refine own_iload W5 14 d16_12 rfl rfl ?_
      refine own_iloadN W5 15 d16_14 rfl rfl ?_
      refine own_icmpN W5 18 d16_15 ((tlt ((by decide) : (2 : Int32) < (3 : Int32))).2.1) rfl ?_
      refine own_aloadN W5 19 d16_18 rfl rfl rfl ?_
      refine own_iload W5 21 d16_19 rfl rfl ?_
      refine own_aaloadA W5 2 (.ref e2) 22 d16_21 V_vb rfl (by decide) hv2 rfl ?_
      refine own_astore W5 24 #[.val (.ref a1), .val .null, .val (.ref vb), .val (.int (3 : Int32)), .val (.int (2 : Int32)), .val (.ref e2)] d16_22 rfl rfl rfl ?_
      refine own_aload W5 26 d16_24 rfl rfl rfl ?_
      refine own_getfield W5 29 d16_26 (wd94 hw) F_label_e2 rfl ?_
      intro T6 W6
      show own_Go p e below C T6 (mkF m 29 #[.val (.ref a1), .val .null, .val (.ref vb), .val (.int (3 : Int32)), .val (.int (2 : Int32)), .val (.ref e2)] [(.ref l2)])
      refine own_aloadN W6 30 d16_29 rfl rfl rfl ?_
      refine own_callV W6 (A := [(.ref a1)]) (wt := 0) (pc' := 33) (st := []) d16_30 (wd96 hw) (wd97 hw) (own_nf W6 (wd99 hw)) (wd99 hw) (wd98 hw) (wd1 hw) (wd100 hw) (by decide) X_l2 (own_m18 l Z a0 hw [] h1 l2 a1 cs m2 sb 6 k2 sn sg (6 : Int32) sz S_cs X_l2 F_value_l2 F_coder_l2 V_m2 X_a1 F_value_a1 F_coder_a1 V_sb hcs rfl rfl hz hzn (by decide) hs2) all0 rfl pd_13 rfl (Nat.le_of_eq rfl) (by decide) (by decide) (by decide) (by decide) rfl ?_
      rintro T7 h7 _ W7 K7 P7 rfl
      rw [P7 rfl rfl] at W7
      show own_Go p e below C T7 (mkF m 33 #[.val (.ref a1), .val .null, .val (.ref vb), .val (.int (3 : Int32)), .val (.int (2 : Int32)), .val (.ref e2)] [(.int (own_eqs 6 k2 sn sg))])
      by_cases q2 : (own_eqs 6 k2 sn sg) = (0 : Int32)
      · refine own_ifY W7 42 d16_33 ((if0 _ _).trans (teq q2).1) (by decide) (by decide) ?_
        refine own_iinc W7 (3 : Int32) 45 #[.val (.ref a1), .val .null, .val (.ref vb), .val (.int (3 : Int32)), .val (.int (3 : Int32)), .val (.ref e2)] d16_42 rfl rfl rfl rfl ?_
        refine own_goto W7 12 d16_45 (by decide) (by decide) ?_
        refine own_iload W7 14 d16_12 rfl rfl ?_
        refine own_iloadN W7 15 d16_14 rfl rfl ?_
        refine own_icmpY W7 48 d16_15 ((flt ((by decide) : ¬ ((3 : Int32) < (3 : Int32)))).2.1) (by decide) (by decide) ?_
        refine own_aloadN W7 49 d16_48 rfl rfl rfl ?_
        refine own_retA (Q := fun v h => v = some (if own_eqs 6 k0 sn sg = (0 : Int32) then (if own_eqs 5 k1 sn sg = (0 : Int32) then (if own_eqs 6 k2 sn sg = (0 : Int32) then .null else .ref e2) else .ref e1) else .ref e0)) W7 hC (by decide) (by decide) rfl rfl d16_49 rfl ?_
        exact (by rw [if_pos q0, if_pos q1, if_pos q2])
      · refine own_ifN W7 36 d16_33 ((if0 _ _).trans (feq q2).1) rfl ?_
        refine own_aload W7 38 d16_36 rfl rfl rfl ?_
        refine own_astoreN W7 39 #[.val (.ref a1), .val (.ref e2), .val (.ref vb), .val (.int (3 : Int32)), .val (.int (2 : Int32)), .val (.ref e2)] d16_38 rfl rfl rfl ?_
        refine own_goto W7 48 d16_39 (by decide) (by decide) ?_
        refine own_aloadN W7 49 d16_48 rfl rfl rfl ?_
        refine own_retA (Q := fun v h => v = some (if own_eqs 6 k0 sn sg = (0 : Int32) then (if own_eqs 5 k1 sn sg = (0 : Int32) then (if own_eqs 6 k2 sn sg = (0 : Int32) then .null else .ref e2) else .ref e1) else .ref e0)) W7 hC (by decide) (by decide) rfl rfl d16_49 rfl ?_
        exact (by rw [if_pos q0, if_pos q1, if_neg q2])
    · refine own_ifN W5 36 d16_33 ((if0 _ _).trans (feq q1).1) rfl ?_
      refine own_aload W5 38 d16_36 rfl rfl rfl ?_
      refine own_astoreN W5 39 #[.val (.ref a1), .val (.ref e1), .val (.ref vb), .val (.int (3 : Int32)), .val (.int (1 : Int32)), .val (.ref e1)] d16_38 rfl rfl rfl ?_
      refine own_goto W5 48 d16_39 (by decide) (by decide) ?_
      refine own_aloadN W5 49 d16_48 rfl rfl rfl ?_
      refine own_retA (Q := fun v h => v = some (if own_eqs 6 k0 sn sg = (0 : Int32) then (if own_eqs 5 k1 sn sg = (0 : Int32) then (if own_eqs 6 k2 sn sg = (0 : Int32) then .null else .ref e2) else .ref e1) else .ref e0)) W5 hC (by decide) (by decide) rfl rfl d16_49 rfl ?_
      exact (by rw [if_pos q0, if_neg q1])
  · refine own_ifN W3 36 d16_33 ((if0 _ _).trans (feq q0).1) rfl ?_
    refine own_aload W3 38 d16_36 rfl rfl rfl ?_
    refine own_astoreN W3 39 #[.val (.ref a1), .val (.ref e0), .val (.ref vb), .val (.int (3 : Int32)), .val (.int (0 : Int32)), .val (.ref e0)] d16_38 rfl rfl rfl ?_
    refine own_goto W3 48 d16_39 (by decide) (by decide) ?_
    refine own_aloadN W3 49 d16_48 rfl rfl rfl ?_
    refine own_retA (Q := fun v h => v = some (if own_eqs 6 k0 sn sg = (0 : Int32) then (if own_eqs 5 k1 sn sg = (0 : Int32) then (if own_eqs 6 k2 sn sg = (0 : Int32) then .null else .ref e2) else .ref e1) else .ref e0)) W3 hC (by decide) (by decide) rfl rfl d16_49 rfl ?_
    exact (by rw [if_neg q0])
theorem ef_m16n (m : MethodId)  : entryFrame m #[.null] 6 = mkF m 0 #[.val .null, .unset, .unset, .unset, .unset, .unset] [] := by first | (simp [entryFrame, mkF, argsToLocals, Value.category]; done) | rfl
set_option maxRecDepth 65536 in
set_option maxHeartbeats 40000000 in
theorem own_m16n (l : Launch) (Z : State) (a0 : Array Value) (hw : ∀ d ∈ tables_1, d.before a0 Z = true) (wo : List Jvm.Cond) (h0 : Heap)  (cs : Int32) (va : Addr) (vf : Nat → Value) (e0 : Addr) (e1 : Addr) (e2 : Addr) (l0 : Addr) (l1 : Addr) (l2 : Addr) (m0 : Addr) (m1 : Addr) (m2 : Addr) (k0 : Nat → Int32) (k1 : Nat → Int32) (k2 : Nat → Int32) (S_cs : Sta Z h0 "java/lang/String" "COMPACT_STRINGS" "Z" (.int cs)) (S_vs : Sta Z h0 "com/example/aeneas/aeneas/Side" "$VALUES" "[Lcom/example/aeneas/aeneas/Side;" (.ref va)) (V_va : own_A Z h0 va (.object "com/example/aeneas/aeneas/Side") 3 vf) (Y_va : Exa Z h0 va "[Lcom/example/aeneas/aeneas/Side;") (F_label_e0 : Fld Z h0 e0 "com/example/aeneas/aeneas/Side" "label" "Ljava/lang/String;" (.ref l0)) (X_l0 : Exa Z h0 l0 "java/lang/String") (F_value_l0 : Fld Z h0 l0 "java/lang/String" "value" "[B" (.ref m0)) (F_coder_l0 : Fld Z h0 l0 "java/lang/String" "coder" "B" (.int (0 : Int32))) (V_m0 : own_A Z h0 m0 .byte 6 (fun j => .int (k0 j))) (F_label_e1 : Fld Z h0 e1 "com/example/aeneas/aeneas/Side" "label" "Ljava/lang/String;" (.ref l1)) (X_l1 : Exa Z h0 l1 "java/lang/String") (F_value_l1 : Fld Z h0 l1 "java/lang/String" "value" "[B" (.ref m1)) (F_coder_l1 : Fld Z h0 l1 "java/lang/String" "coder" "B" (.int (0 : Int32))) (V_m1 : own_A Z h0 m1 .byte 5 (fun j => .int (k1 j))) (F_label_e2 : Fld Z h0 e2 "com/example/aeneas/aeneas/Side" "label" "Ljava/lang/String;" (.ref l2)) (X_l2 : Exa Z h0 l2 "java/lang/String") (F_value_l2 : Fld Z h0 l2 "java/lang/String" "value" "[B" (.ref m2)) (F_coder_l2 : Fld Z h0 l2 "java/lang/String" "coder" "B" (.int (0 : Int32))) (V_m2 : own_A Z h0 m2 .byte 6 (fun j => .int (k2 j))) (hcs : ¬ cs = (0 : Int32)) (hv0 : vf 0 = .ref e0) (hv1 : vf 1 = .ref e1) (hv2 : vf 2 = .ref e2) :
    own_M l Z wo (⟨"com/example/aeneas/aeneas/Side", "withLabel", "(Ljava/lang/String;)Lcom/example/aeneas/aeneas/Side;"⟩ : MethodName) prog_25_method_6_code 6 (some (.object "com/example/aeneas/aeneas/Side")) ({ frames := 2, cells := 1, slots := 3, locals := 25 } : Room) [] #[.null] h0 (fun v h => v = some .null) := by
  refine own_body (plainFor_of_name pn_16) (fun m => ef_m16n m ) ?_
  intro p e s m below meth c C hC T0 W0
  refine own_aconst_null W0 1 d16_0 rfl ?_
  refine own_astoreN W0 2 #[.val .null, .val .null, .unset, .unset, .unset, .unset] d16_1 rfl rfl rfl ?_
  refine own_callS W0 (A := []) (wt := 0) (pc' := 5) (st := []) d16_2 (wd76 hw) (wd77 hw) (wd74 hw) (wd78 hw) (by decide) (own_m17 l Z a0 hw [] h0 va vf e0 e1 e2 S_vs V_va Y_va hv0 hv1 hv2) all0 rfl pd_12 rfl (Nat.le_of_eq rfl) (by decide) (by decide) (by decide) (by decide) rfl ?_
  rintro T1 h1 _ W1 K1 P1 ⟨vb, rfl, o_vb, V_vb⟩
  have S_vs := own_staK0 S_vs K1
  have V_va := V_va.keep K1 nin0
  have Y_va := Y_va.keep K1
  have S_cs := own_staK0 S_cs K1
  have F_label_e0 := F_label_e0.keep K1 nin0
  have X_l0 := X_l0.keep K1
  have F_value_l0 := F_value_l0.keep K1 nin0
  have F_coder_l0 := F_coder_l0.keep K1 nin0
  have V_m0 := V_m0.keep K1 nin0
  have F_label_e1 := F_label_e1.keep K1 nin0
  have X_l1 := X_l1.keep K1
  have F_value_l1 := F_value_l1.keep K1 nin0
  have F_coder_l1 := F_coder_l1.keep K1 nin0
  have V_m1 := V_m1.keep K1 nin0
  have F_label_e2 := F_label_e2.keep K1 nin0
  have X_l2 := X_l2.keep K1
  have F_value_l2 := F_value_l2.keep K1 nin0
  have F_coder_l2 := F_coder_l2.keep K1 nin0
  have V_m2 := V_m2.keep K1 nin0
  show own_Go p e below C T1 (mkF m 5 #[.val .null, .val .null, .unset, .unset, .unset, .unset] [(.ref vb)])
  refine own_astoreN W1 6 #[.val .null, .val .null, .val (.ref vb), .unset, .unset, .unset] d16_5 rfl rfl rfl ?_
  refine own_aloadN W1 7 d16_6 rfl rfl rfl ?_
  refine own_arraylength W1 (3 : Int32) 8 d16_7 V_vb rfl rfl ?_
  refine own_istoreN W1 9 #[.val .null, .val .null, .val (.ref vb), .val (.int (3 : Int32)), .unset, .unset] d16_8 rfl rfl ?_
  refine own_iconst W1 (0 : Int32) 10 d16_9 rfl rfl ?_
  refine own_istore W1 12 #[.val .null, .val .null, .val (.ref vb), .val (.int (3 : Int32)), .val (.int (0 : Int32)), .unset] d16_10 rfl rfl ?_
  refine own_iload W1 14 d16_12 rfl rfl ?_
  refine own_iloadN W1 15 d16_14 rfl rfl ?_
  refine own_icmpN W1 18 d16_15 ((tlt ((by decide) : (0 : Int32) < (3 : Int32))).2.1) rfl ?_
  refine own_aloadN W1 19 d16_18 rfl rfl rfl ?_
  refine own_iload W1 21 d16_19 rfl rfl ?_
  refine own_aaloadA W1 0 (.ref e0) 22 d16_21 V_vb rfl (by decide) hv0 rfl ?_
  refine own_astore W1 24 #[.val .null, .val .null, .val (.ref vb), .val (.int (3 : Int32)), .val (.int (0 : Int32)), .val (.ref e0)] d16_22 rfl rfl rfl ?_
  refine own_aload W1 26 d16_24 rfl rfl rfl ?_
  refine own_getfield W1 29 d16_26 (wd94 hw) F_label_e0 rfl ?_
  intro T2 W2
  show own_Go p e below C T2 (mkF m 29 #[.val .null, .val .null, .val (.ref vb), .val (.int (3 : Int32)), .val (.int (0 : Int32)), .val (.ref e0)] [(.ref l0)])
  refine own_aloadN W2 30 d16_29 rfl rfl rfl ?_
  refine own_callV W2 (A := [.null]) (wt := 0) (pc' := 33) (st := []) d16_30 (wd96 hw) (wd97 hw) (own_nf W2 (wd99 hw)) (wd99 hw) (wd98 hw) (wd1 hw) (wd100 hw) (by decide) X_l0 (own_m18n l Z a0 hw [] h1 l0) all0 rfl pd_13 rfl (Nat.le_of_eq rfl) (by decide) (by decide) (by decide) (by decide) rfl ?_
  rintro T3 h3 _ W3 K3 P3 rfl
  rw [P3 rfl rfl] at W3
  show own_Go p e below C T3 (mkF m 33 #[.val .null, .val .null, .val (.ref vb), .val (.int (3 : Int32)), .val (.int (0 : Int32)), .val (.ref e0)] [(.int (0 : Int32))])
  refine own_ifY W3 42 d16_33 ((if0 _ _).trans (teq (rfl : (0 : Int32) = (0 : Int32))).1) (by decide) (by decide) ?_
  refine own_iinc W3 (1 : Int32) 45 #[.val .null, .val .null, .val (.ref vb), .val (.int (3 : Int32)), .val (.int (1 : Int32)), .val (.ref e0)] d16_42 rfl rfl rfl rfl ?_
  refine own_goto W3 12 d16_45 (by decide) (by decide) ?_
  refine own_iload W3 14 d16_12 rfl rfl ?_
  refine own_iloadN W3 15 d16_14 rfl rfl ?_
  refine own_icmpN W3 18 d16_15 ((tlt ((by decide) : (1 : Int32) < (3 : Int32))).2.1) rfl ?_
  refine own_aloadN W3 19 d16_18 rfl rfl rfl ?_
  refine own_iload W3 21 d16_19 rfl rfl ?_
  refine own_aaloadA W3 1 (.ref e1) 22 d16_21 V_vb rfl (by decide) hv1 rfl ?_
  refine own_astore W3 24 #[.val .null, .val .null, .val (.ref vb), .val (.int (3 : Int32)), .val (.int (1 : Int32)), .val (.ref e1)] d16_22 rfl rfl rfl ?_
  refine own_aload W3 26 d16_24 rfl rfl rfl ?_
  refine own_getfield W3 29 d16_26 (wd94 hw) F_label_e1 rfl ?_
  intro T4 W4
  show own_Go p e below C T4 (mkF m 29 #[.val .null, .val .null, .val (.ref vb), .val (.int (3 : Int32)), .val (.int (1 : Int32)), .val (.ref e1)] [(.ref l1)])
  refine own_aloadN W4 30 d16_29 rfl rfl rfl ?_
  refine own_callV W4 (A := [.null]) (wt := 0) (pc' := 33) (st := []) d16_30 (wd96 hw) (wd97 hw) (own_nf W4 (wd99 hw)) (wd99 hw) (wd98 hw) (wd1 hw) (wd100 hw) (by decide) X_l1 (own_m18n l Z a0 hw [] h1 l1) all0 rfl pd_13 rfl (Nat.le_of_eq rfl) (by decide) (by decide) (by decide) (by decide) rfl ?_
  rintro T5 h5 _ W5 K5 P5 rfl
  rw [P5 rfl rfl] at W5
  show own_Go p e below C T5 (mkF m 33 #[.val .null, .val .null, .val (.ref vb), .val (.int (3 : Int32)), .val (.int (1 : Int32)), .val (.ref e1)] [(.int (0 : Int32))])
  refine own_ifY W5 42 d16_33 ((if0 _ _).trans (teq (rfl : (0 : Int32) = (0 : Int32))).1) (by decide) (by decide) ?_
  refine own_iinc W5 (2 : Int32) 45 #[.val .null, .val .null, .val (.ref vb), .val (.int (3 : Int32)), .val (.int (2 : Int32)), .val (.ref e1)] d16_42 rfl rfl rfl rfl ?_
  refine own_goto W5 12 d16_45 (by decide) (by decide) ?_
  refine own_iload W5 14 d16_12 rfl rfl ?_
  refine own_iloadN W5 15 d16_14 rfl rfl ?_
  refine own_icmpN W5 18 d16_15 ((tlt ((by decide) : (2 : Int32) < (3 : Int32))).2.1) rfl ?_
  refine own_aloadN W5 19 d16_18 rfl rfl rfl ?_
  refine own_iload W5 21 d16_19 rfl rfl ?_
  refine own_aaloadA W5 2 (.ref e2) 22 d16_21 V_vb rfl (by decide) hv2 rfl ?_
  refine own_astore W5 24 #[.val .null, .val .null, .val (.ref vb), .val (.int (3 : Int32)), .val (.int (2 : Int32)), .val (.ref e2)] d16_22 rfl rfl rfl ?_
  refine own_aload W5 26 d16_24 rfl rfl rfl ?_
  refine own_getfield W5 29 d16_26 (wd94 hw) F_label_e2 rfl ?_
  intro T6 W6
  show own_Go p e below C T6 (mkF m 29 #[.val .null, .val .null, .val (.ref vb), .val (.int (3 : Int32)), .val (.int (2 : Int32)), .val (.ref e2)] [(.ref l2)])
  refine own_aloadN W6 30 d16_29 rfl rfl rfl ?_
  refine own_callV W6 (A := [.null]) (wt := 0) (pc' := 33) (st := []) d16_30 (wd96 hw) (wd97 hw) (own_nf W6 (wd99 hw)) (wd99 hw) (wd98 hw) (wd1 hw) (wd100 hw) (by decide) X_l2 (own_m18n l Z a0 hw [] h1 l2) all0 rfl pd_13 rfl (Nat.le_of_eq rfl) (by decide) (by decide) (by decide) (by decide) rfl ?_
  rintro T7 h7 _ W7 K7 P7 rfl
  rw [P7 rfl rfl] at W7
  show own_Go p e below C T7 (mkF m 33 #[.val .null, .val .null, .val (.ref vb), .val (.int (3 : Int32)), .val (.int (2 : Int32)), .val (.ref e2)] [(.int (0 : Int32))])
  refine own_ifY W7 42 d16_33 ((if0 _ _).trans (teq (rfl : (0 : Int32) = (0 : Int32))).1) (by decide) (by decide) ?_
  refine own_iinc W7 (3 : Int32) 45 #[.val .null, .val .null, .val (.ref vb), .val (.int (3 : Int32)), .val (.int (3 : Int32)), .val (.ref e2)] d16_42 rfl rfl rfl rfl ?_
  refine own_goto W7 12 d16_45 (by decide) (by decide) ?_
  refine own_iload W7 14 d16_12 rfl rfl ?_
  refine own_iloadN W7 15 d16_14 rfl rfl ?_
  refine own_icmpY W7 48 d16_15 ((flt ((by decide) : ¬ ((3 : Int32) < (3 : Int32)))).2.1) (by decide) (by decide) ?_
  refine own_aloadN W7 49 d16_48 rfl rfl rfl ?_
  refine own_retA (Q := fun v h => v = some .null) W7 hC (by decide) (by decide) rfl rfl d16_49 rfl ?_
  exact (by rfl)
theorem own_upC {g : Nat → Int32} (hg : ∀ j, 0 ≤ (g j).toInt ∧ (g j).toInt ≤ 255) (k : Nat) {r : Int32} (h0 : 0 ≤ r.toInt) (h1 : r.toInt ≤ 255) : ∃ g' : Nat → Int32, (∀ j, own_upd (fun j => .int (g j)) k (.int r.toUInt32.toUInt16.toUInt32.toInt32) j = .int (g' j)) ∧ ∀ j, 0 ≤ (g' j).toInt ∧ (g' j).toInt ≤ 255 := by
  refine ⟨fun j => if j = k then r.toUInt32.toUInt16.toUInt32.toInt32 else g j, fun j => ?_, fun j => ?_⟩
  · show (if j = k then Value.int _ else Value.int (g j)) = Value.int (if j = k then _ else g j)
    split <;> rfl
  · show 0 ≤ (if j = k then r.toUInt32.toUInt16.toUInt32.toInt32 else g j).toInt ∧ (if j = k then r.toUInt32.toUInt16.toUInt32.toInt32 else g j).toInt ≤ 255
    split
    · rw [own_c16 h0 h1]; exact ⟨h0, h1⟩
    · exact hg j
theorem ef_m1_1 (m : MethodId) (x0 : Int32) (x1 : Addr) (x2 : Int32) (x3 : Int32) : entryFrame m #[(.int x0), (.ref x1), (.int x2), (.int x3)] 4 = mkF m 0 #[.val (.int x0), .val (.ref x1), .val (.int x2), .val (.int x3)] [] := by first | (simp [entryFrame, mkF, argsToLocals, Value.category]; done) | rfl
set_option maxRecDepth 65536 in
set_option maxHeartbeats 40000000 in
theorem own_m1_1 (l : Launch) (Z : State) (a0 : Array Value) (hw : ∀ d ∈ tables_1, d.before a0 Z = true) (wo : List Jvm.Cond) (h0 : Heap) (a2 : Addr) (p3 : Int32) (p4 : Int32) (cs : Int32) (sv : Value) (bb : Addr) (bn : Nat) (bg : Nat → Int32) (bz : Int32) (S_cs : Sta Z h0 "java/lang/String" "COMPACT_STRINGS" "Z" (.int cs)) (S_sf : Sta Z h0 "jdk/internal/util/Preconditions" "SIOOBE_FORMATTER" "Ljava/util/function/BiFunction;" sv) (X_a2 : Exa Z h0 a2 "java/lang/String") (F_value_a2 : Fld Z h0 a2 "java/lang/String" "value" "[B" (.ref bb)) (F_coder_a2 : Fld Z h0 a2 "java/lang/String" "coder" "B" (.int (0 : Int32))) (V_bb : own_A Z h0 bb .byte bn (fun j => .int (bg j))) (hcs : ¬ cs = (0 : Int32)) (hsv : sv.isRef = true) (hz : bn.toInt32 = bz) (hzn : bz.toInt = (bn : Int)) (hc0 : 0 ≤ p4.toInt) (hc1 : p4.toInt ≤ 255) :
    own_M l Z wo (⟨"com/example/aeneas/aeneas/SideWithLabelPinLaw", "make", "(ILjava/lang/String;IC)Ljava/lang/String;"⟩ : MethodName) method_4_code 4 (some (.object "java/lang/String")) ({ frames := 5, cells := 6, slots := 160, locals := 110 } : Room) [] #[(.int (1 : Int32)), (.ref a2), (.int p3), (.int p4)] h0 (fun v h => ∃ (so b : Addr) (gb : Nat → Int32), v = some (.ref so) ∧ h0.size ≤ so ∧ h0.size ≤ b ∧ Exa Z h so "java/lang/String" ∧ Fld Z h so "java/lang/String" "value" "[B" (.ref b) ∧ Fld Z h so "java/lang/String" "coder" "B" (.int (0 : Int32)) ∧ own_A Z h b .byte 1 (fun j => .int (gb j))) := by
  refine own_body (plainFor_of_name pn_1) (fun m => ef_m1_1 m (1 : Int32) a2 p3 p4) ?_
  intro p e s m below meth c C hC T0 W0
  refine own_iloadN W0 1 d1_0 rfl rfl ?_
  refine own_ifY W0 15 d1_1 ((if0 _ _).trans (feq ((by decide) : ¬ ((1 : Int32) = (0 : Int32)))).2) (by decide) (by decide) ?_
  refine own_iloadN W0 16 d1_15 rfl rfl ?_
  refine own_iconst W0 (1 : Int32) 17 d1_16 rfl rfl ?_
  refine own_icmpN W0 20 d1_17 ((teq (rfl : (1 : Int32) = (1 : Int32))).2) rfl ?_
  refine own_new W0 23 d1_20 (wd12 hw) (wd2 hw) (wd1 hw) (by decide) (by decide) rfl ?_
  intro T1 h1 so W1 E1 g_so o_so X_so D_so
  have ne_a2_so : a2 ≠ so := by rw [g_so]; exact Nat.ne_of_lt X_a2.lt
  have ne_bb_so : bb ≠ so := by rw [g_so]; exact Nat.ne_of_lt V_bb.lt
  have S_cs := S_cs.ext E1
  have S_sf := S_sf.ext E1
  have X_a2 := X_a2.ext E1
  have F_value_a2 := F_value_a2.ext E1
  have F_coder_a2 := F_coder_a2.ext E1
  have V_bb := V_bb.ext E1
  have F_value_so : Fld Z h1 so "java/lang/String" "value" "[B" .null := D_so (Or.inr (wd4 hw)) (ty := (.array .byte)) (by decide)
  have F_coder_so : Fld Z h1 so "java/lang/String" "coder" "B" (.int (0 : Int32)) := D_so (Or.inr (wd5 hw)) (ty := .byte) (by decide)
  show own_Go p e below C T1 (mkF m 23 #[.val (.int (1 : Int32)), .val (.ref a2), .val (.int p3), .val (.int p4)] [(.ref so)])
  refine own_dup W1 24 d1_23 rfl rfl ?_
  refine own_iconst W1 (1 : Int32) 25 d1_24 rfl rfl ?_
  refine own_newarray W1 1 1 27 d1_25 (wd13 hw) rfl (Nat.le_refl _) (by decide) (by decide) (by decide) rfl ?_
  intro T2 h2 ch W2 E2 g_ch o_ch V_ch
  have ne_a2_ch : a2 ≠ ch := by rw [g_ch]; exact Nat.ne_of_lt X_a2.lt
  have ne_bb_ch : bb ≠ ch := by rw [g_ch]; exact Nat.ne_of_lt V_bb.lt
  have ne_so_ch : so ≠ ch := by rw [g_ch]; exact Nat.ne_of_lt X_so.lt
  have S_cs := S_cs.ext E2
  have S_sf := S_sf.ext E2
  have X_a2 := X_a2.ext E2
  have F_value_a2 := F_value_a2.ext E2
  have F_coder_a2 := F_coder_a2.ext E2
  have V_bb := V_bb.ext E2
  have X_so := X_so.ext E2
  have F_value_so := F_value_so.ext E2
  have F_coder_so := F_coder_so.ext E2
  show own_Go p e below C T2 (mkF m 27 #[.val (.int (1 : Int32)), .val (.ref a2), .val (.int p3), .val (.int p4)] [(.ref ch), (.ref so), (.ref so)])
  have hb0 : ∀ j : Nat, 0 ≤ ((fun _ => (0 : Int32)) j).toInt ∧ ((fun _ => (0 : Int32)) j).toInt ≤ 255 := fun _ => ⟨(by decide : 0 ≤ (0 : Int32).toInt), (by decide : (0 : Int32).toInt ≤ 255)⟩
  have V_ch : own_A Z h2 ch .char 1 (fun j => .int ((fun _ => (0 : Int32)) j)) := V_ch
  refine own_dup W2 28 d1_27 rfl rfl ?_
  refine own_iconst W2 (0 : Int32) 29 d1_28 rfl rfl ?_
  refine own_aloadN W2 30 d1_29 rfl rfl rfl ?_
  refine own_iconst W2 (0 : Int32) 31 d1_30 rfl rfl ?_
  refine own_iloadN W2 32 d1_31 rfl rfl ?_
  refine own_iloadN W2 33 d1_32 rfl rfl ?_
  refine own_callS W2 (A := [(.ref a2), (.int (0 : Int32)), (.int p3), (.int p4)]) (wt := 5) (pc' := 36) (st := [(.int (0 : Int32)), (.ref ch), (.ref ch), (.ref so), (.ref so)]) d1_33 (wd14 hw) (wd15 hw) (wd10 hw) (wd16 hw) (by decide) (own_m2 l Z a0 hw [] h2 a2 (0 : Int32) p3 p4 cs sv bb bn bg bz 0 S_cs S_sf X_a2 F_value_a2 F_coder_a2 V_bb hcs hsv hz hzn rfl hc0 hc1) all0 rfl pd_14 rfl (Nat.le_of_eq rfl) (by decide) (by decide) (by decide) (by decide) rfl ?_
  rintro T3 h3 _ W3 K3 P3 ⟨r0, rfl, ra0, rb0⟩
  rw [P3 rfl rfl] at W3
  show own_Go p e below C T3 (mkF m 36 #[.val (.int (1 : Int32)), .val (.ref a2), .val (.int p3), .val (.int p4)] [(.int r0), (.int (0 : Int32)), (.ref ch), (.ref ch), (.ref so), (.ref so)])
  refine own_castore W3 0 37 d1_36 V_ch (Or.inr o_ch) rfl (by decide) rfl ?_
  intro T4 h4 W4 Wr4 V_ch
  have S_cs := S_cs.wr Wr4
  have S_sf := S_sf.wr Wr4
  have X_a2 := X_a2.wr Wr4
  have F_value_a2 := F_value_a2.other Wr4 (Or.inl ne_a2_ch)
  have F_coder_a2 := F_coder_a2.other Wr4 (Or.inl ne_a2_ch)
  have V_bb := V_bb.other Wr4 ne_bb_ch
  have X_so := X_so.wr Wr4
  have F_value_so := F_value_so.other Wr4 (Or.inl ne_so_ch)
  have F_coder_so := F_coder_so.other Wr4 (Or.inl ne_so_ch)
  show own_Go p e below C T4 (mkF m 37 #[.val (.int (1 : Int32)), .val (.ref a2), .val (.int p3), .val (.int p4)] [(.ref ch), (.ref so), (.ref so)])
  obtain ⟨cg1, hg1, hb1⟩ := own_upC hb0 0 ra0 rb0
  have V_ch := V_ch.congr (fun j _ => hg1 j)
  have hsH := own_le W4
  have qso := X_so.lt
  refine own_callN W4 (A := [(.ref ch)]) (wt := 1) (pc' := 40) (st := [(.ref so)]) d1_37 rfl (wd52 hw) (wd53 hw) (wd1 hw) (wd54 hw) (by decide) (own_m10 l Z a0 hw [] h4 so ch cs 1 cg1 (1 : Int32) S_cs X_so F_value_so F_coder_so V_ch hcs ne_so_ch rfl rfl (by decide) (by decide) (fun j _ => hb1 j)) (allS (Or.inr o_so) all0) rfl pd_15 rfl (Nat.le_of_eq rfl) (by decide) (by decide) (by decide) (by decide) rfl ?_
  rintro T5 h5 _ W5 K5 P5 ⟨rfl, ⟨b, gb, o_b, F_value_so, F_coder_so, V_b⟩⟩
  have X_so := X_so.keep K5
  show own_Go p e below C T5 (mkF m 40 #[.val (.int (1 : Int32)), .val (.ref a2), .val (.int p3), .val (.int p4)] [(.ref so)])
  refine own_retA (Q := fun v h => ∃ (so b : Addr) (gb : Nat → Int32), v = some (.ref so) ∧ h0.size ≤ so ∧ h0.size ≤ b ∧ Exa Z h so "java/lang/String" ∧ Fld Z h so "java/lang/String" "value" "[B" (.ref b) ∧ Fld Z h so "java/lang/String" "coder" "B" (.int (0 : Int32)) ∧ own_A Z h b .byte 1 (fun j => .int (gb j))) W5 hC (by decide) (by decide) rfl rfl d1_40 rfl ?_
  exact ⟨so, b, gb, rfl, own_le_ W0 o_so, own_le_ W0 (Nat.le_trans hsH o_b), X_so, F_value_so, F_coder_so, V_b⟩
theorem ef_m1_2 (m : MethodId) (x0 : Int32) (x1 : Addr) (x2 : Int32) (x3 : Int32) : entryFrame m #[(.int x0), (.ref x1), (.int x2), (.int x3)] 4 = mkF m 0 #[.val (.int x0), .val (.ref x1), .val (.int x2), .val (.int x3)] [] := by first | (simp [entryFrame, mkF, argsToLocals, Value.category]; done) | rfl
set_option maxRecDepth 65536 in
set_option maxHeartbeats 40000000 in
theorem own_m1_2 (l : Launch) (Z : State) (a0 : Array Value) (hw : ∀ d ∈ tables_1, d.before a0 Z = true) (wo : List Jvm.Cond) (h0 : Heap) (a2 : Addr) (p3 : Int32) (p4 : Int32) (cs : Int32) (sv : Value) (bb : Addr) (bn : Nat) (bg : Nat → Int32) (bz : Int32) (S_cs : Sta Z h0 "java/lang/String" "COMPACT_STRINGS" "Z" (.int cs)) (S_sf : Sta Z h0 "jdk/internal/util/Preconditions" "SIOOBE_FORMATTER" "Ljava/util/function/BiFunction;" sv) (X_a2 : Exa Z h0 a2 "java/lang/String") (F_value_a2 : Fld Z h0 a2 "java/lang/String" "value" "[B" (.ref bb)) (F_coder_a2 : Fld Z h0 a2 "java/lang/String" "coder" "B" (.int (0 : Int32))) (V_bb : own_A Z h0 bb .byte bn (fun j => .int (bg j))) (hcs : ¬ cs = (0 : Int32)) (hsv : sv.isRef = true) (hz : bn.toInt32 = bz) (hzn : bz.toInt = (bn : Int)) (hc0 : 0 ≤ p4.toInt) (hc1 : p4.toInt ≤ 255) :
    own_M l Z wo (⟨"com/example/aeneas/aeneas/SideWithLabelPinLaw", "make", "(ILjava/lang/String;IC)Ljava/lang/String;"⟩ : MethodName) method_4_code 4 (some (.object "java/lang/String")) ({ frames := 5, cells := 6, slots := 160, locals := 110 } : Room) [] #[(.int (2 : Int32)), (.ref a2), (.int p3), (.int p4)] h0 (fun v h => ∃ (so b : Addr) (gb : Nat → Int32), v = some (.ref so) ∧ h0.size ≤ so ∧ h0.size ≤ b ∧ Exa Z h so "java/lang/String" ∧ Fld Z h so "java/lang/String" "value" "[B" (.ref b) ∧ Fld Z h so "java/lang/String" "coder" "B" (.int (0 : Int32)) ∧ own_A Z h b .byte 2 (fun j => .int (gb j))) := by
  refine own_body (plainFor_of_name pn_1) (fun m => ef_m1_2 m (2 : Int32) a2 p3 p4) ?_
  intro p e s m below meth c C hC T0 W0
  refine own_iloadN W0 1 d1_0 rfl rfl ?_
  refine own_ifY W0 15 d1_1 ((if0 _ _).trans (feq ((by decide) : ¬ ((2 : Int32) = (0 : Int32)))).2) (by decide) (by decide) ?_
  refine own_iloadN W0 16 d1_15 rfl rfl ?_
  refine own_iconst W0 (1 : Int32) 17 d1_16 rfl rfl ?_
  refine own_icmpY W0 41 d1_17 ((feq ((by decide) : ¬ ((2 : Int32) = (1 : Int32)))).2) (by decide) (by decide) ?_
  refine own_iloadN W0 42 d1_41 rfl rfl ?_
  refine own_iconst W0 (2 : Int32) 43 d1_42 rfl rfl ?_
  refine own_icmpN W0 46 d1_43 ((teq (rfl : (2 : Int32) = (2 : Int32))).2) rfl ?_
  refine own_new W0 49 d1_46 (wd12 hw) (wd2 hw) (wd1 hw) (by decide) (by decide) rfl ?_
  intro T1 h1 so W1 E1 g_so o_so X_so D_so
  have ne_a2_so : a2 ≠ so := by rw [g_so]; exact Nat.ne_of_lt X_a2.lt
  have ne_bb_so : bb ≠ so := by rw [g_so]; exact Nat.ne_of_lt V_bb.lt
  have S_cs := S_cs.ext E1
  have S_sf := S_sf.ext E1
  have X_a2 := X_a2.ext E1
  have F_value_a2 := F_value_a2.ext E1
  have F_coder_a2 := F_coder_a2.ext E1
  have V_bb := V_bb.ext E1
  have F_value_so : Fld Z h1 so "java/lang/String" "value" "[B" .null := D_so (Or.inr (wd4 hw)) (ty := (.array .byte)) (by decide)
  have F_coder_so : Fld Z h1 so "java/lang/String" "coder" "B" (.int (0 : Int32)) := D_so (Or.inr (wd5 hw)) (ty := .byte) (by decide)
  show own_Go p e below C T1 (mkF m 49 #[.val (.int (2 : Int32)), .val (.ref a2), .val (.int p3), .val (.int p4)] [(.ref so)])
  refine own_dup W1 50 d1_49 rfl rfl ?_
  refine own_iconst W1 (2 : Int32) 51 d1_50 rfl rfl ?_
  refine own_newarray W1 2 2 53 d1_51 (wd13 hw) rfl (Nat.le_refl _) (by decide) (by decide) (by decide) rfl ?_
  intro T2 h2 ch W2 E2 g_ch o_ch V_ch
  have ne_a2_ch : a2 ≠ ch := by rw [g_ch]; exact Nat.ne_of_lt X_a2.lt
  have ne_bb_ch : bb ≠ ch := by rw [g_ch]; exact Nat.ne_of_lt V_bb.lt
  have ne_so_ch : so ≠ ch := by rw [g_ch]; exact Nat.ne_of_lt X_so.lt
  have S_cs := S_cs.ext E2
  have S_sf := S_sf.ext E2
  have X_a2 := X_a2.ext E2
  have F_value_a2 := F_value_a2.ext E2
  have F_coder_a2 := F_coder_a2.ext E2
  have V_bb := V_bb.ext E2
  have X_so := X_so.ext E2
  have F_value_so := F_value_so.ext E2
  have F_coder_so := F_coder_so.ext E2
  show own_Go p e below C T2 (mkF m 53 #[.val (.int (2 : Int32)), .val (.ref a2), .val (.int p3), .val (.int p4)] [(.ref ch), (.ref so), (.ref so)])
  have hb0 : ∀ j : Nat, 0 ≤ ((fun _ => (0 : Int32)) j).toInt ∧ ((fun _ => (0 : Int32)) j).toInt ≤ 255 := fun _ => ⟨(by decide : 0 ≤ (0 : Int32).toInt), (by decide : (0 : Int32).toInt ≤ 255)⟩
  have V_ch : own_A Z h2 ch .char 2 (fun j => .int ((fun _ => (0 : Int32)) j)) := V_ch
  refine own_dup W2 54 d1_53 rfl rfl ?_
  refine own_iconst W2 (0 : Int32) 55 d1_54 rfl rfl ?_
  refine own_aloadN W2 56 d1_55 rfl rfl rfl ?_
  refine own_iconst W2 (0 : Int32) 57 d1_56 rfl rfl ?_
  refine own_iloadN W2 58 d1_57 rfl rfl ?_
  refine own_iloadN W2 59 d1_58 rfl rfl ?_
  refine own_callS W2 (A := [(.ref a2), (.int (0 : Int32)), (.int p3), (.int p4)]) (wt := 5) (pc' := 62) (st := [(.int (0 : Int32)), (.ref ch), (.ref ch), (.ref so), (.ref so)]) d1_59 (wd14 hw) (wd15 hw) (wd10 hw) (wd16 hw) (by decide) (own_m2 l Z a0 hw [] h2 a2 (0 : Int32) p3 p4 cs sv bb bn bg bz 0 S_cs S_sf X_a2 F_value_a2 F_coder_a2 V_bb hcs hsv hz hzn rfl hc0 hc1) all0 rfl pd_14 rfl (Nat.le_of_eq rfl) (by decide) (by decide) (by decide) (by decide) rfl ?_
  rintro T3 h3 _ W3 K3 P3 ⟨r0, rfl, ra0, rb0⟩
  rw [P3 rfl rfl] at W3
  show own_Go p e below C T3 (mkF m 62 #[.val (.int (2 : Int32)), .val (.ref a2), .val (.int p3), .val (.int p4)] [(.int r0), (.int (0 : Int32)), (.ref ch), (.ref ch), (.ref so), (.ref so)])
  refine own_castore W3 0 63 d1_62 V_ch (Or.inr o_ch) rfl (by decide) rfl ?_
  intro T4 h4 W4 Wr4 V_ch
  have S_cs := S_cs.wr Wr4
  have S_sf := S_sf.wr Wr4
  have X_a2 := X_a2.wr Wr4
  have F_value_a2 := F_value_a2.other Wr4 (Or.inl ne_a2_ch)
  have F_coder_a2 := F_coder_a2.other Wr4 (Or.inl ne_a2_ch)
  have V_bb := V_bb.other Wr4 ne_bb_ch
  have X_so := X_so.wr Wr4
  have F_value_so := F_value_so.other Wr4 (Or.inl ne_so_ch)
  have F_coder_so := F_coder_so.other Wr4 (Or.inl ne_so_ch)
  show own_Go p e below C T4 (mkF m 63 #[.val (.int (2 : Int32)), .val (.ref a2), .val (.int p3), .val (.int p4)] [(.ref ch), (.ref so), (.ref so)])
  obtain ⟨cg1, hg1, hb1⟩ := own_upC hb0 0 ra0 rb0
  have V_ch := V_ch.congr (fun j _ => hg1 j)
  refine own_dup W4 64 d1_63 rfl rfl ?_
  refine own_iconst W4 (1 : Int32) 65 d1_64 rfl rfl ?_
  refine own_aloadN W4 66 d1_65 rfl rfl rfl ?_
  refine own_iconst W4 (1 : Int32) 67 d1_66 rfl rfl ?_
  refine own_iloadN W4 68 d1_67 rfl rfl ?_
  refine own_iloadN W4 69 d1_68 rfl rfl ?_
  refine own_callS W4 (A := [(.ref a2), (.int (1 : Int32)), (.int p3), (.int p4)]) (wt := 5) (pc' := 72) (st := [(.int (1 : Int32)), (.ref ch), (.ref ch), (.ref so), (.ref so)]) d1_69 (wd14 hw) (wd15 hw) (wd10 hw) (wd16 hw) (by decide) (own_m2 l Z a0 hw [] h4 a2 (1 : Int32) p3 p4 cs sv bb bn bg bz 1 S_cs S_sf X_a2 F_value_a2 F_coder_a2 V_bb hcs hsv hz hzn rfl hc0 hc1) all0 rfl pd_14 rfl (Nat.le_of_eq rfl) (by decide) (by decide) (by decide) (by decide) rfl ?_
  rintro T5 h5 _ W5 K5 P5 ⟨r1, rfl, ra1, rb1⟩
  rw [P5 rfl rfl] at W5
  show own_Go p e below C T5 (mkF m 72 #[.val (.int (2 : Int32)), .val (.ref a2), .val (.int p3), .val (.int p4)] [(.int r1), (.int (1 : Int32)), (.ref ch), (.ref ch), (.ref so), (.ref so)])
  refine own_castore W5 1 73 d1_72 V_ch (Or.inr o_ch) rfl (by decide) rfl ?_
  intro T6 h6 W6 Wr6 V_ch
  have S_cs := S_cs.wr Wr6
  have S_sf := S_sf.wr Wr6
  have X_a2 := X_a2.wr Wr6
  have F_value_a2 := F_value_a2.other Wr6 (Or.inl ne_a2_ch)
  have F_coder_a2 := F_coder_a2.other Wr6 (Or.inl ne_a2_ch)
  have V_bb := V_bb.other Wr6 ne_bb_ch
  have X_so := X_so.wr Wr6
  have F_value_so := F_value_so.other Wr6 (Or.inl ne_so_ch)
  have F_coder_so := F_coder_so.other Wr6 (Or.inl ne_so_ch)
  show own_Go p e below C T6 (mkF m 73 #[.val (.int (2 : Int32)), .val (.ref a2), .val (.int p3), .val (.int p4)] [(.ref ch), (.ref so), (.ref so)])
  obtain ⟨cg2, hg2, hb2⟩ := own_upC hb1 1 ra1 rb1
  have V_ch := V_ch.congr (fun j _ => hg2 j)
  have hsH := own_le W6
  have qso := X_so.lt
  refine own_callN W6 (A := [(.ref ch)]) (wt := 1) (pc' := 76) (st := [(.ref so)]) d1_73 rfl (wd52 hw) (wd53 hw) (wd1 hw) (wd54 hw) (by decide) (own_m10 l Z a0 hw [] h6 so ch cs 2 cg2 (2 : Int32) S_cs X_so F_value_so F_coder_so V_ch hcs ne_so_ch rfl rfl (by decide) (by decide) (fun j _ => hb2 j)) (allS (Or.inr o_so) all0) rfl pd_15 rfl (Nat.le_of_eq rfl) (by decide) (by decide) (by decide) (by decide) rfl ?_
  rintro T7 h7 _ W7 K7 P7 ⟨rfl, ⟨b, gb, o_b, F_value_so, F_coder_so, V_b⟩⟩
  have X_so := X_so.keep K7
  show own_Go p e below C T7 (mkF m 76 #[.val (.int (2 : Int32)), .val (.ref a2), .val (.int p3), .val (.int p4)] [(.ref so)])
  refine own_retA (Q := fun v h => ∃ (so b : Addr) (gb : Nat → Int32), v = some (.ref so) ∧ h0.size ≤ so ∧ h0.size ≤ b ∧ Exa Z h so "java/lang/String" ∧ Fld Z h so "java/lang/String" "value" "[B" (.ref b) ∧ Fld Z h so "java/lang/String" "coder" "B" (.int (0 : Int32)) ∧ own_A Z h b .byte 2 (fun j => .int (gb j))) W7 hC (by decide) (by decide) rfl rfl d1_76 rfl ?_
  exact ⟨so, b, gb, rfl, own_le_ W0 o_so, own_le_ W0 (Nat.le_trans hsH o_b), X_so, F_value_so, F_coder_so, V_b⟩
theorem ef_m1_3 (m : MethodId) (x0 : Int32) (x1 : Addr) (x2 : Int32) (x3 : Int32) : entryFrame m #[(.int x0), (.ref x1), (.int x2), (.int x3)] 4 = mkF m 0 #[.val (.int x0), .val (.ref x1), .val (.int x2), .val (.int x3)] [] := by first | (simp [entryFrame, mkF, argsToLocals, Value.category]; done) | rfl
set_option maxRecDepth 65536 in
set_option maxHeartbeats 40000000 in
theorem own_m1_3 (l : Launch) (Z : State) (a0 : Array Value) (hw : ∀ d ∈ tables_1, d.before a0 Z = true) (wo : List Jvm.Cond) (h0 : Heap) (a2 : Addr) (p3 : Int32) (p4 : Int32) (cs : Int32) (sv : Value) (bb : Addr) (bn : Nat) (bg : Nat → Int32) (bz : Int32) (S_cs : Sta Z h0 "java/lang/String" "COMPACT_STRINGS" "Z" (.int cs)) (S_sf : Sta Z h0 "jdk/internal/util/Preconditions" "SIOOBE_FORMATTER" "Ljava/util/function/BiFunction;" sv) (X_a2 : Exa Z h0 a2 "java/lang/String") (F_value_a2 : Fld Z h0 a2 "java/lang/String" "value" "[B" (.ref bb)) (F_coder_a2 : Fld Z h0 a2 "java/lang/String" "coder" "B" (.int (0 : Int32))) (V_bb : own_A Z h0 bb .byte bn (fun j => .int (bg j))) (hcs : ¬ cs = (0 : Int32)) (hsv : sv.isRef = true) (hz : bn.toInt32 = bz) (hzn : bz.toInt = (bn : Int)) (hc0 : 0 ≤ p4.toInt) (hc1 : p4.toInt ≤ 255) :
    own_M l Z wo (⟨"com/example/aeneas/aeneas/SideWithLabelPinLaw", "make", "(ILjava/lang/String;IC)Ljava/lang/String;"⟩ : MethodName) method_4_code 4 (some (.object "java/lang/String")) ({ frames := 5, cells := 6, slots := 160, locals := 110 } : Room) [] #[(.int (3 : Int32)), (.ref a2), (.int p3), (.int p4)] h0 (fun v h => ∃ (so b : Addr) (gb : Nat → Int32), v = some (.ref so) ∧ h0.size ≤ so ∧ h0.size ≤ b ∧ Exa Z h so "java/lang/String" ∧ Fld Z h so "java/lang/String" "value" "[B" (.ref b) ∧ Fld Z h so "java/lang/String" "coder" "B" (.int (0 : Int32)) ∧ own_A Z h b .byte 3 (fun j => .int (gb j))) := by
  refine own_body (plainFor_of_name pn_1) (fun m => ef_m1_3 m (3 : Int32) a2 p3 p4) ?_
  intro p e s m below meth c C hC T0 W0
  refine own_iloadN W0 1 d1_0 rfl rfl ?_
  refine own_ifY W0 15 d1_1 ((if0 _ _).trans (feq ((by decide) : ¬ ((3 : Int32) = (0 : Int32)))).2) (by decide) (by decide) ?_
  refine own_iloadN W0 16 d1_15 rfl rfl ?_
  refine own_iconst W0 (1 : Int32) 17 d1_16 rfl rfl ?_
  refine own_icmpY W0 41 d1_17 ((feq ((by decide) : ¬ ((3 : Int32) = (1 : Int32)))).2) (by decide) (by decide) ?_
  refine own_iloadN W0 42 d1_41 rfl rfl ?_
  refine own_iconst W0 (2 : Int32) 43 d1_42 rfl rfl ?_
  refine own_icmpY W0 77 d1_43 ((feq ((by decide) : ¬ ((3 : Int32) = (2 : Int32)))).2) (by decide) (by decide) ?_
  refine own_iloadN W0 78 d1_77 rfl rfl ?_
  refine own_iconst W0 (3 : Int32) 79 d1_78 rfl rfl ?_
  refine own_icmpN W0 82 d1_79 ((teq (rfl : (3 : Int32) = (3 : Int32))).2) rfl ?_
  refine own_new W0 85 d1_82 (wd12 hw) (wd2 hw) (wd1 hw) (by decide) (by decide) rfl ?_
  intro T1 h1 so W1 E1 g_so o_so X_so D_so
  have ne_a2_so : a2 ≠ so := by rw [g_so]; exact Nat.ne_of_lt X_a2.lt
  have ne_bb_so : bb ≠ so := by rw [g_so]; exact Nat.ne_of_lt V_bb.lt
  have S_cs := S_cs.ext E1
  have S_sf := S_sf.ext E1
  have X_a2 := X_a2.ext E1
  have F_value_a2 := F_value_a2.ext E1
  have F_coder_a2 := F_coder_a2.ext E1
  have V_bb := V_bb.ext E1
  have F_value_so : Fld Z h1 so "java/lang/String" "value" "[B" .null := D_so (Or.inr (wd4 hw)) (ty := (.array .byte)) (by decide)
  have F_coder_so : Fld Z h1 so "java/lang/String" "coder" "B" (.int (0 : Int32)) := D_so (Or.inr (wd5 hw)) (ty := .byte) (by decide)
  show own_Go p e below C T1 (mkF m 85 #[.val (.int (3 : Int32)), .val (.ref a2), .val (.int p3), .val (.int p4)] [(.ref so)])
  refine own_dup W1 86 d1_85 rfl rfl ?_
  refine own_iconst W1 (3 : Int32) 87 d1_86 rfl rfl ?_
  refine own_newarray W1 3 3 89 d1_87 (wd13 hw) rfl (Nat.le_refl _) (by decide) (by decide) (by decide) rfl ?_
  intro T2 h2 ch W2 E2 g_ch o_ch V_ch
  have ne_a2_ch : a2 ≠ ch := by rw [g_ch]; exact Nat.ne_of_lt X_a2.lt
  have ne_bb_ch : bb ≠ ch := by rw [g_ch]; exact Nat.ne_of_lt V_bb.lt
  have ne_so_ch : so ≠ ch := by rw [g_ch]; exact Nat.ne_of_lt X_so.lt
  have S_cs := S_cs.ext E2
  have S_sf := S_sf.ext E2
  have X_a2 := X_a2.ext E2
  have F_value_a2 := F_value_a2.ext E2
  have F_coder_a2 := F_coder_a2.ext E2
  have V_bb := V_bb.ext E2
  have X_so := X_so.ext E2
  have F_value_so := F_value_so.ext E2
  have F_coder_so := F_coder_so.ext E2
  show own_Go p e below C T2 (mkF m 89 #[.val (.int (3 : Int32)), .val (.ref a2), .val (.int p3), .val (.int p4)] [(.ref ch), (.ref so), (.ref so)])
  have hb0 : ∀ j : Nat, 0 ≤ ((fun _ => (0 : Int32)) j).toInt ∧ ((fun _ => (0 : Int32)) j).toInt ≤ 255 := fun _ => ⟨(by decide : 0 ≤ (0 : Int32).toInt), (by decide : (0 : Int32).toInt ≤ 255)⟩
  have V_ch : own_A Z h2 ch .char 3 (fun j => .int ((fun _ => (0 : Int32)) j)) := V_ch
  refine own_dup W2 90 d1_89 rfl rfl ?_
  refine own_iconst W2 (0 : Int32) 91 d1_90 rfl rfl ?_
  refine own_aloadN W2 92 d1_91 rfl rfl rfl ?_
  refine own_iconst W2 (0 : Int32) 93 d1_92 rfl rfl ?_
  refine own_iloadN W2 94 d1_93 rfl rfl ?_
  refine own_iloadN W2 95 d1_94 rfl rfl ?_
  refine own_callS W2 (A := [(.ref a2), (.int (0 : Int32)), (.int p3), (.int p4)]) (wt := 5) (pc' := 98) (st := [(.int (0 : Int32)), (.ref ch), (.ref ch), (.ref so), (.ref so)]) d1_95 (wd14 hw) (wd15 hw) (wd10 hw) (wd16 hw) (by decide) (own_m2 l Z a0 hw [] h2 a2 (0 : Int32) p3 p4 cs sv bb bn bg bz 0 S_cs S_sf X_a2 F_value_a2 F_coder_a2 V_bb hcs hsv hz hzn rfl hc0 hc1) all0 rfl pd_14 rfl (Nat.le_of_eq rfl) (by decide) (by decide) (by decide) (by decide) rfl ?_
  rintro T3 h3 _ W3 K3 P3 ⟨r0, rfl, ra0, rb0⟩
  rw [P3 rfl rfl] at W3
  show own_Go p e below C T3 (mkF m 98 #[.val (.int (3 : Int32)), .val (.ref a2), .val (.int p3), .val (.int p4)] [(.int r0), (.int (0 : Int32)), (.ref ch), (.ref ch), (.ref so), (.ref so)])
  refine own_castore W3 0 99 d1_98 V_ch (Or.inr o_ch) rfl (by decide) rfl ?_
  intro T4 h4 W4 Wr4 V_ch
  have S_cs := S_cs.wr Wr4
  have S_sf := S_sf.wr Wr4
  have X_a2 := X_a2.wr Wr4
  have F_value_a2 := F_value_a2.other Wr4 (Or.inl ne_a2_ch)
  have F_coder_a2 := F_coder_a2.other Wr4 (Or.inl ne_a2_ch)
  have V_bb := V_bb.other Wr4 ne_bb_ch
  have X_so := X_so.wr Wr4
  have F_value_so := F_value_so.other Wr4 (Or.inl ne_so_ch)
  have F_coder_so := F_coder_so.other Wr4 (Or.inl ne_so_ch)
  show own_Go p e below C T4 (mkF m 99 #[.val (.int (3 : Int32)), .val (.ref a2), .val (.int p3), .val (.int p4)] [(.ref ch), (.ref so), (.ref so)])
  obtain ⟨cg1, hg1, hb1⟩ := own_upC hb0 0 ra0 rb0
  have V_ch := V_ch.congr (fun j _ => hg1 j)
  refine own_dup W4 100 d1_99 rfl rfl ?_
  refine own_iconst W4 (1 : Int32) 101 d1_100 rfl rfl ?_
  refine own_aloadN W4 102 d1_101 rfl rfl rfl ?_
  refine own_iconst W4 (1 : Int32) 103 d1_102 rfl rfl ?_
  refine own_iloadN W4 104 d1_103 rfl rfl ?_
  refine own_iloadN W4 105 d1_104 rfl rfl ?_
  refine own_callS W4 (A := [(.ref a2), (.int (1 : Int32)), (.int p3), (.int p4)]) (wt := 5) (pc' := 108) (st := [(.int (1 : Int32)), (.ref ch), (.ref ch), (.ref so), (.ref so)]) d1_105 (wd14 hw) (wd15 hw) (wd10 hw) (wd16 hw) (by decide) (own_m2 l Z a0 hw [] h4 a2 (1 : Int32) p3 p4 cs sv bb bn bg bz 1 S_cs S_sf X_a2 F_value_a2 F_coder_a2 V_bb hcs hsv hz hzn rfl hc0 hc1) all0 rfl pd_14 rfl (Nat.le_of_eq rfl) (by decide) (by decide) (by decide) (by decide) rfl ?_
  rintro T5 h5 _ W5 K5 P5 ⟨r1, rfl, ra1, rb1⟩
  rw [P5 rfl rfl] at W5
  show own_Go p e below C T5 (mkF m 108 #[.val (.int (3 : Int32)), .val (.ref a2), .val (.int p3), .val (.int p4)] [(.int r1), (.int (1 : Int32)), (.ref ch), (.ref ch), (.ref so), (.ref so)])
  refine own_castore W5 1 109 d1_108 V_ch (Or.inr o_ch) rfl (by decide) rfl ?_
  intro T6 h6 W6 Wr6 V_ch
  have S_cs := S_cs.wr Wr6
  have S_sf := S_sf.wr Wr6
  have X_a2 := X_a2.wr Wr6
  have F_value_a2 := F_value_a2.other Wr6 (Or.inl ne_a2_ch)
  have F_coder_a2 := F_coder_a2.other Wr6 (Or.inl ne_a2_ch)
  have V_bb := V_bb.other Wr6 ne_bb_ch
  have X_so := X_so.wr Wr6
  have F_value_so := F_value_so.other Wr6 (Or.inl ne_so_ch)
  have F_coder_so := F_coder_so.other Wr6 (Or.inl ne_so_ch)
  show own_Go p e below C T6 (mkF m 109 #[.val (.int (3 : Int32)), .val (.ref a2), .val (.int p3), .val (.int p4)] [(.ref ch), (.ref so), (.ref so)])
  obtain ⟨cg2, hg2, hb2⟩ := own_upC hb1 1 ra1 rb1
  have V_ch := V_ch.congr (fun j _ => hg2 j)
  refine own_dup W6 110 d1_109 rfl rfl ?_
  refine own_iconst W6 (2 : Int32) 111 d1_110 rfl rfl ?_
  refine own_aloadN W6 112 d1_111 rfl rfl rfl ?_
  refine own_iconst W6 (2 : Int32) 113 d1_112 rfl rfl ?_
  refine own_iloadN W6 114 d1_113 rfl rfl ?_
  refine own_iloadN W6 115 d1_114 rfl rfl ?_
  refine own_callS W6 (A := [(.ref a2), (.int (2 : Int32)), (.int p3), (.int p4)]) (wt := 5) (pc' := 118) (st := [(.int (2 : Int32)), (.ref ch), (.ref ch), (.ref so), (.ref so)]) d1_115 (wd14 hw) (wd15 hw) (wd10 hw) (wd16 hw) (by decide) (own_m2 l Z a0 hw [] h6 a2 (2 : Int32) p3 p4 cs sv bb bn bg bz 2 S_cs S_sf X_a2 F_value_a2 F_coder_a2 V_bb hcs hsv hz hzn rfl hc0 hc1) all0 rfl pd_14 rfl (Nat.le_of_eq rfl) (by decide) (by decide) (by decide) (by decide) rfl ?_
  rintro T7 h7 _ W7 K7 P7 ⟨r2, rfl, ra2, rb2⟩
  rw [P7 rfl rfl] at W7
  show own_Go p e below C T7 (mkF m 118 #[.val (.int (3 : Int32)), .val (.ref a2), .val (.int p3), .val (.int p4)] [(.int r2), (.int (2 : Int32)), (.ref ch), (.ref ch), (.ref so), (.ref so)])
  refine own_castore W7 2 119 d1_118 V_ch (Or.inr o_ch) rfl (by decide) rfl ?_
  intro T8 h8 W8 Wr8 V_ch
  have S_cs := S_cs.wr Wr8
  have S_sf := S_sf.wr Wr8
  have X_a2 := X_a2.wr Wr8
  have F_value_a2 := F_value_a2.other Wr8 (Or.inl ne_a2_ch)
  have F_coder_a2 := F_coder_a2.other Wr8 (Or.inl ne_a2_ch)
  have V_bb := V_bb.other Wr8 ne_bb_ch
  have X_so := X_so.wr Wr8
  have F_value_so := F_value_so.other Wr8 (Or.inl ne_so_ch)
  have F_coder_so := F_coder_so.other Wr8 (Or.inl ne_so_ch)
  show own_Go p e below C T8 (mkF m 119 #[.val (.int (3 : Int32)), .val (.ref a2), .val (.int p3), .val (.int p4)] [(.ref ch), (.ref so), (.ref so)])
  obtain ⟨cg3, hg3, hb3⟩ := own_upC hb2 2 ra2 rb2
  have V_ch := V_ch.congr (fun j _ => hg3 j)
  have hsH := own_le W8
  have qso := X_so.lt
  refine own_callN W8 (A := [(.ref ch)]) (wt := 1) (pc' := 122) (st := [(.ref so)]) d1_119 rfl (wd52 hw) (wd53 hw) (wd1 hw) (wd54 hw) (by decide) (own_m10 l Z a0 hw [] h8 so ch cs 3 cg3 (3 : Int32) S_cs X_so F_value_so F_coder_so V_ch hcs ne_so_ch rfl rfl (by decide) (by decide) (fun j _ => hb3 j)) (allS (Or.inr o_so) all0) rfl pd_15 rfl (Nat.le_of_eq rfl) (by decide) (by decide) (by decide) (by decide) rfl ?_
  rintro T9 h9 _ W9 K9 P9 ⟨rfl, ⟨b, gb, o_b, F_value_so, F_coder_so, V_b⟩⟩
  have X_so := X_so.keep K9
  show own_Go p e below C T9 (mkF m 122 #[.val (.int (3 : Int32)), .val (.ref a2), .val (.int p3), .val (.int p4)] [(.ref so)])
  refine own_retA (Q := fun v h => ∃ (so b : Addr) (gb : Nat → Int32), v = some (.ref so) ∧ h0.size ≤ so ∧ h0.size ≤ b ∧ Exa Z h so "java/lang/String" ∧ Fld Z h so "java/lang/String" "value" "[B" (.ref b) ∧ Fld Z h so "java/lang/String" "coder" "B" (.int (0 : Int32)) ∧ own_A Z h b .byte 3 (fun j => .int (gb j))) W9 hC (by decide) (by decide) rfl rfl d1_122 rfl ?_
  exact ⟨so, b, gb, rfl, own_le_ W0 o_so, own_le_ W0 (Nat.le_trans hsH o_b), X_so, F_value_so, F_coder_so, V_b⟩
theorem ef_m1_4 (m : MethodId) (x0 : Int32) (x1 : Addr) (x2 : Int32) (x3 : Int32) : entryFrame m #[(.int x0), (.ref x1), (.int x2), (.int x3)] 4 = mkF m 0 #[.val (.int x0), .val (.ref x1), .val (.int x2), .val (.int x3)] [] := by first | (simp [entryFrame, mkF, argsToLocals, Value.category]; done) | rfl
set_option maxRecDepth 65536 in
set_option maxHeartbeats 40000000 in
theorem own_m1_4 (l : Launch) (Z : State) (a0 : Array Value) (hw : ∀ d ∈ tables_1, d.before a0 Z = true) (wo : List Jvm.Cond) (h0 : Heap) (a2 : Addr) (p3 : Int32) (p4 : Int32) (cs : Int32) (sv : Value) (bb : Addr) (bn : Nat) (bg : Nat → Int32) (bz : Int32) (S_cs : Sta Z h0 "java/lang/String" "COMPACT_STRINGS" "Z" (.int cs)) (S_sf : Sta Z h0 "jdk/internal/util/Preconditions" "SIOOBE_FORMATTER" "Ljava/util/function/BiFunction;" sv) (X_a2 : Exa Z h0 a2 "java/lang/String") (F_value_a2 : Fld Z h0 a2 "java/lang/String" "value" "[B" (.ref bb)) (F_coder_a2 : Fld Z h0 a2 "java/lang/String" "coder" "B" (.int (0 : Int32))) (V_bb : own_A Z h0 bb .byte bn (fun j => .int (bg j))) (hcs : ¬ cs = (0 : Int32)) (hsv : sv.isRef = true) (hz : bn.toInt32 = bz) (hzn : bz.toInt = (bn : Int)) (hc0 : 0 ≤ p4.toInt) (hc1 : p4.toInt ≤ 255) :
    own_M l Z wo (⟨"com/example/aeneas/aeneas/SideWithLabelPinLaw", "make", "(ILjava/lang/String;IC)Ljava/lang/String;"⟩ : MethodName) method_4_code 4 (some (.object "java/lang/String")) ({ frames := 5, cells := 6, slots := 160, locals := 110 } : Room) [] #[(.int (4 : Int32)), (.ref a2), (.int p3), (.int p4)] h0 (fun v h => ∃ (so b : Addr) (gb : Nat → Int32), v = some (.ref so) ∧ h0.size ≤ so ∧ h0.size ≤ b ∧ Exa Z h so "java/lang/String" ∧ Fld Z h so "java/lang/String" "value" "[B" (.ref b) ∧ Fld Z h so "java/lang/String" "coder" "B" (.int (0 : Int32)) ∧ own_A Z h b .byte 4 (fun j => .int (gb j))) := by
  refine own_body (plainFor_of_name pn_1) (fun m => ef_m1_4 m (4 : Int32) a2 p3 p4) ?_
  intro p e s m below meth c C hC T0 W0
  refine own_iloadN W0 1 d1_0 rfl rfl ?_
  refine own_ifY W0 15 d1_1 ((if0 _ _).trans (feq ((by decide) : ¬ ((4 : Int32) = (0 : Int32)))).2) (by decide) (by decide) ?_
  refine own_iloadN W0 16 d1_15 rfl rfl ?_
  refine own_iconst W0 (1 : Int32) 17 d1_16 rfl rfl ?_
  refine own_icmpY W0 41 d1_17 ((feq ((by decide) : ¬ ((4 : Int32) = (1 : Int32)))).2) (by decide) (by decide) ?_
  refine own_iloadN W0 42 d1_41 rfl rfl ?_
  refine own_iconst W0 (2 : Int32) 43 d1_42 rfl rfl ?_
  refine own_icmpY W0 77 d1_43 ((feq ((by decide) : ¬ ((4 : Int32) = (2 : Int32)))).2) (by decide) (by decide) ?_
  refine own_iloadN W0 78 d1_77 rfl rfl ?_
  refine own_iconst W0 (3 : Int32) 79 d1_78 rfl rfl ?_
  refine own_icmpY W0 123 d1_79 ((feq ((by decide) : ¬ ((4 : Int32) = (3 : Int32)))).2) (by decide) (by decide) ?_
  refine own_iloadN W0 124 d1_123 rfl rfl ?_
  refine own_iconst W0 (4 : Int32) 125 d1_124 rfl rfl ?_
  refine own_icmpN W0 128 d1_125 ((teq (rfl : (4 : Int32) = (4 : Int32))).2) rfl ?_
  refine own_new W0 131 d1_128 (wd12 hw) (wd2 hw) (wd1 hw) (by decide) (by decide) rfl ?_
  intro T1 h1 so W1 E1 g_so o_so X_so D_so
  have ne_a2_so : a2 ≠ so := by rw [g_so]; exact Nat.ne_of_lt X_a2.lt
  have ne_bb_so : bb ≠ so := by rw [g_so]; exact Nat.ne_of_lt V_bb.lt
  have S_cs := S_cs.ext E1
  have S_sf := S_sf.ext E1
  have X_a2 := X_a2.ext E1
  have F_value_a2 := F_value_a2.ext E1
  have F_coder_a2 := F_coder_a2.ext E1
  have V_bb := V_bb.ext E1
  have F_value_so : Fld Z h1 so "java/lang/String" "value" "[B" .null := D_so (Or.inr (wd4 hw)) (ty := (.array .byte)) (by decide)
  have F_coder_so : Fld Z h1 so "java/lang/String" "coder" "B" (.int (0 : Int32)) := D_so (Or.inr (wd5 hw)) (ty := .byte) (by decide)
  show own_Go p e below C T1 (mkF m 131 #[.val (.int (4 : Int32)), .val (.ref a2), .val (.int p3), .val (.int p4)] [(.ref so)])
  refine own_dup W1 132 d1_131 rfl rfl ?_
  refine own_iconst W1 (4 : Int32) 133 d1_132 rfl rfl ?_
  refine own_newarray W1 4 4 135 d1_133 (wd13 hw) rfl (Nat.le_refl _) (by decide) (by decide) (by decide) rfl ?_
  intro T2 h2 ch W2 E2 g_ch o_ch V_ch
  have ne_a2_ch : a2 ≠ ch := by rw [g_ch]; exact Nat.ne_of_lt X_a2.lt
  have ne_bb_ch : bb ≠ ch := by rw [g_ch]; exact Nat.ne_of_lt V_bb.lt
  have ne_so_ch : so ≠ ch := by rw [g_ch]; exact Nat.ne_of_lt X_so.lt
  have S_cs := S_cs.ext E2
  have S_sf := S_sf.ext E2
  have X_a2 := X_a2.ext E2
  have F_value_a2 := F_value_a2.ext E2
  have F_coder_a2 := F_coder_a2.ext E2
  have V_bb := V_bb.ext E2
  have X_so := X_so.ext E2
  have F_value_so := F_value_so.ext E2
  have F_coder_so := F_coder_so.ext E2
  show own_Go p e below C T2 (mkF m 135 #[.val (.int (4 : Int32)), .val (.ref a2), .val (.int p3), .val (.int p4)] [(.ref ch), (.ref so), (.ref so)])
  have hb0 : ∀ j : Nat, 0 ≤ ((fun _ => (0 : Int32)) j).toInt ∧ ((fun _ => (0 : Int32)) j).toInt ≤ 255 := fun _ => ⟨(by decide : 0 ≤ (0 : Int32).toInt), (by decide : (0 : Int32).toInt ≤ 255)⟩
  have V_ch : own_A Z h2 ch .char 4 (fun j => .int ((fun _ => (0 : Int32)) j)) := V_ch
  refine own_dup W2 136 d1_135 rfl rfl ?_
  refine own_iconst W2 (0 : Int32) 137 d1_136 rfl rfl ?_
  refine own_aloadN W2 138 d1_137 rfl rfl rfl ?_
  refine own_iconst W2 (0 : Int32) 139 d1_138 rfl rfl ?_
  refine own_iloadN W2 140 d1_139 rfl rfl ?_
  refine own_iloadN W2 141 d1_140 rfl rfl ?_
  refine own_callS W2 (A := [(.ref a2), (.int (0 : Int32)), (.int p3), (.int p4)]) (wt := 5) (pc' := 144) (st := [(.int (0 : Int32)), (.ref ch), (.ref ch), (.ref so), (.ref so)]) d1_141 (wd14 hw) (wd15 hw) (wd10 hw) (wd16 hw) (by decide) (own_m2 l Z a0 hw [] h2 a2 (0 : Int32) p3 p4 cs sv bb bn bg bz 0 S_cs S_sf X_a2 F_value_a2 F_coder_a2 V_bb hcs hsv hz hzn rfl hc0 hc1) all0 rfl pd_14 rfl (Nat.le_of_eq rfl) (by decide) (by decide) (by decide) (by decide) rfl ?_
  rintro T3 h3 _ W3 K3 P3 ⟨r0, rfl, ra0, rb0⟩
  rw [P3 rfl rfl] at W3
  show own_Go p e below C T3 (mkF m 144 #[.val (.int (4 : Int32)), .val (.ref a2), .val (.int p3), .val (.int p4)] [(.int r0), (.int (0 : Int32)), (.ref ch), (.ref ch), (.ref so), (.ref so)])
  refine own_castore W3 0 145 d1_144 V_ch (Or.inr o_ch) rfl (by decide) rfl ?_
  intro T4 h4 W4 Wr4 V_ch
  have S_cs := S_cs.wr Wr4
  have S_sf := S_sf.wr Wr4
  have X_a2 := X_a2.wr Wr4
  have F_value_a2 := F_value_a2.other Wr4 (Or.inl ne_a2_ch)
  have F_coder_a2 := F_coder_a2.other Wr4 (Or.inl ne_a2_ch)
  have V_bb := V_bb.other Wr4 ne_bb_ch
  have X_so := X_so.wr Wr4
  have F_value_so := F_value_so.other Wr4 (Or.inl ne_so_ch)
  have F_coder_so := F_coder_so.other Wr4 (Or.inl ne_so_ch)
  show own_Go p e below C T4 (mkF m 145 #[.val (.int (4 : Int32)), .val (.ref a2), .val (.int p3), .val (.int p4)] [(.ref ch), (.ref so), (.ref so)])
  obtain ⟨cg1, hg1, hb1⟩ := own_upC hb0 0 ra0 rb0
  have V_ch := V_ch.congr (fun j _ => hg1 j)
  refine own_dup W4 146 d1_145 rfl rfl ?_
  refine own_iconst W4 (1 : Int32) 147 d1_146 rfl rfl ?_
  refine own_aloadN W4 148 d1_147 rfl rfl rfl ?_
  refine own_iconst W4 (1 : Int32) 149 d1_148 rfl rfl ?_
  refine own_iloadN W4 150 d1_149 rfl rfl ?_
  refine own_iloadN W4 151 d1_150 rfl rfl ?_
  refine own_callS W4 (A := [(.ref a2), (.int (1 : Int32)), (.int p3), (.int p4)]) (wt := 5) (pc' := 154) (st := [(.int (1 : Int32)), (.ref ch), (.ref ch), (.ref so), (.ref so)]) d1_151 (wd14 hw) (wd15 hw) (wd10 hw) (wd16 hw) (by decide) (own_m2 l Z a0 hw [] h4 a2 (1 : Int32) p3 p4 cs sv bb bn bg bz 1 S_cs S_sf X_a2 F_value_a2 F_coder_a2 V_bb hcs hsv hz hzn rfl hc0 hc1) all0 rfl pd_14 rfl (Nat.le_of_eq rfl) (by decide) (by decide) (by decide) (by decide) rfl ?_
  rintro T5 h5 _ W5 K5 P5 ⟨r1, rfl, ra1, rb1⟩
  rw [P5 rfl rfl] at W5
  show own_Go p e below C T5 (mkF m 154 #[.val (.int (4 : Int32)), .val (.ref a2), .val (.int p3), .val (.int p4)] [(.int r1), (.int (1 : Int32)), (.ref ch), (.ref ch), (.ref so), (.ref so)])
  refine own_castore W5 1 155 d1_154 V_ch (Or.inr o_ch) rfl (by decide) rfl ?_
  intro T6 h6 W6 Wr6 V_ch
  have S_cs := S_cs.wr Wr6
  have S_sf := S_sf.wr Wr6
  have X_a2 := X_a2.wr Wr6
  have F_value_a2 := F_value_a2.other Wr6 (Or.inl ne_a2_ch)
  have F_coder_a2 := F_coder_a2.other Wr6 (Or.inl ne_a2_ch)
  have V_bb := V_bb.other Wr6 ne_bb_ch
  have X_so := X_so.wr Wr6
  have F_value_so := F_value_so.other Wr6 (Or.inl ne_so_ch)
  have F_coder_so := F_coder_so.other Wr6 (Or.inl ne_so_ch)
  show own_Go p e below C T6 (mkF m 155 #[.val (.int (4 : Int32)), .val (.ref a2), .val (.int p3), .val (.int p4)] [(.ref ch), (.ref so), (.ref so)])
  obtain ⟨cg2, hg2, hb2⟩ := own_upC hb1 1 ra1 rb1
  have V_ch := V_ch.congr (fun j _ => hg2 j)
  refine own_dup W6 156 d1_155 rfl rfl ?_
  refine own_iconst W6 (2 : Int32) 157 d1_156 rfl rfl ?_
  refine own_aloadN W6 158 d1_157 rfl rfl rfl ?_
  refine own_iconst W6 (2 : Int32) 159 d1_158 rfl rfl ?_
  refine own_iloadN W6 160 d1_159 rfl rfl ?_
  refine own_iloadN W6 161 d1_160 rfl rfl ?_
  refine own_callS W6 (A := [(.ref a2), (.int (2 : Int32)), (.int p3), (.int p4)]) (wt := 5) (pc' := 164) (st := [(.int (2 : Int32)), (.ref ch), (.ref ch), (.ref so), (.ref so)]) d1_161 (wd14 hw) (wd15 hw) (wd10 hw) (wd16 hw) (by decide) (own_m2 l Z a0 hw [] h6 a2 (2 : Int32) p3 p4 cs sv bb bn bg bz 2 S_cs S_sf X_a2 F_value_a2 F_coder_a2 V_bb hcs hsv hz hzn rfl hc0 hc1) all0 rfl pd_14 rfl (Nat.le_of_eq rfl) (by decide) (by decide) (by decide) (by decide) rfl ?_
  rintro T7 h7 _ W7 K7 P7 ⟨r2, rfl, ra2, rb2⟩
  rw [P7 rfl rfl] at W7
  show own_Go p e below C T7 (mkF m 164 #[.val (.int (4 : Int32)), .val (.ref a2), .val (.int p3), .val (.int p4)] [(.int r2), (.int (2 : Int32)), (.ref ch), (.ref ch), (.ref so), (.ref so)])
  refine own_castore W7 2 165 d1_164 V_ch (Or.inr o_ch) rfl (by decide) rfl ?_
  intro T8 h8 W8 Wr8 V_ch
  have S_cs := S_cs.wr Wr8
  have S_sf := S_sf.wr Wr8
  have X_a2 := X_a2.wr Wr8
  have F_value_a2 := F_value_a2.other Wr8 (Or.inl ne_a2_ch)
  have F_coder_a2 := F_coder_a2.other Wr8 (Or.inl ne_a2_ch)
  have V_bb := V_bb.other Wr8 ne_bb_ch
  have X_so := X_so.wr Wr8
  have F_value_so := F_value_so.other Wr8 (Or.inl ne_so_ch)
  have F_coder_so := F_coder_so.other Wr8 (Or.inl ne_so_ch)
  show own_Go p e below C T8 (mkF m 165 #[.val (.int (4 : Int32)), .val (.ref a2), .val (.int p3), .val (.int p4)] [(.ref ch), (.ref so), (.ref so)])
  obtain ⟨cg3, hg3, hb3⟩ := own_upC hb2 2 ra2 rb2
  have V_ch := V_ch.congr (fun j _ => hg3 j)
  refine own_dup W8 166 d1_165 rfl rfl ?_
  refine own_iconst W8 (3 : Int32) 167 d1_166 rfl rfl ?_
  refine own_aloadN W8 168 d1_167 rfl rfl rfl ?_
  refine own_iconst W8 (3 : Int32) 169 d1_168 rfl rfl ?_
  refine own_iloadN W8 170 d1_169 rfl rfl ?_
  refine own_iloadN W8 171 d1_170 rfl rfl ?_
  refine own_callS W8 (A := [(.ref a2), (.int (3 : Int32)), (.int p3), (.int p4)]) (wt := 5) (pc' := 174) (st := [(.int (3 : Int32)), (.ref ch), (.ref ch), (.ref so), (.ref so)]) d1_171 (wd14 hw) (wd15 hw) (wd10 hw) (wd16 hw) (by decide) (own_m2 l Z a0 hw [] h8 a2 (3 : Int32) p3 p4 cs sv bb bn bg bz 3 S_cs S_sf X_a2 F_value_a2 F_coder_a2 V_bb hcs hsv hz hzn rfl hc0 hc1) all0 rfl pd_14 rfl (Nat.le_of_eq rfl) (by decide) (by decide) (by decide) (by decide) rfl ?_
  rintro T9 h9 _ W9 K9 P9 ⟨r3, rfl, ra3, rb3⟩
  rw [P9 rfl rfl] at W9
  show own_Go p e below C T9 (mkF m 174 #[.val (.int (4 : Int32)), .val (.ref a2), .val (.int p3), .val (.int p4)] [(.int r3), (.int (3 : Int32)), (.ref ch), (.ref ch), (.ref so), (.ref so)])
  refine own_castore W9 3 175 d1_174 V_ch (Or.inr o_ch) rfl (by decide) rfl ?_
  intro T10 h10 W10 Wr10 V_ch
  have S_cs := S_cs.wr Wr10
  have S_sf := S_sf.wr Wr10
  have X_a2 := X_a2.wr Wr10
  have F_value_a2 := F_value_a2.other Wr10 (Or.inl ne_a2_ch)
  have F_coder_a2 := F_coder_a2.other Wr10 (Or.inl ne_a2_ch)
  have V_bb := V_bb.other Wr10 ne_bb_ch
  have X_so := X_so.wr Wr10
  have F_value_so := F_value_so.other Wr10 (Or.inl ne_so_ch)
  have F_coder_so := F_coder_so.other Wr10 (Or.inl ne_so_ch)
  show own_Go p e below C T10 (mkF m 175 #[.val (.int (4 : Int32)), .val (.ref a2), .val (.int p3), .val (.int p4)] [(.ref ch), (.ref so), (.ref so)])
  obtain ⟨cg4, hg4, hb4⟩ := own_upC hb3 3 ra3 rb3
  have V_ch := V_ch.congr (fun j _ => hg4 j)
  have hsH := own_le W10
  have qso := X_so.lt
  refine own_callN W10 (A := [(.ref ch)]) (wt := 1) (pc' := 178) (st := [(.ref so)]) d1_175 rfl (wd52 hw) (wd53 hw) (wd1 hw) (wd54 hw) (by decide) (own_m10 l Z a0 hw [] h10 so ch cs 4 cg4 (4 : Int32) S_cs X_so F_value_so F_coder_so V_ch hcs ne_so_ch rfl rfl (by decide) (by decide) (fun j _ => hb4 j)) (allS (Or.inr o_so) all0) rfl pd_15 rfl (Nat.le_of_eq rfl) (by decide) (by decide) (by decide) (by decide) rfl ?_
  rintro T11 h11 _ W11 K11 P11 ⟨rfl, ⟨b, gb, o_b, F_value_so, F_coder_so, V_b⟩⟩
  have X_so := X_so.keep K11
  show own_Go p e below C T11 (mkF m 178 #[.val (.int (4 : Int32)), .val (.ref a2), .val (.int p3), .val (.int p4)] [(.ref so)])
  refine own_retA (Q := fun v h => ∃ (so b : Addr) (gb : Nat → Int32), v = some (.ref so) ∧ h0.size ≤ so ∧ h0.size ≤ b ∧ Exa Z h so "java/lang/String" ∧ Fld Z h so "java/lang/String" "value" "[B" (.ref b) ∧ Fld Z h so "java/lang/String" "coder" "B" (.int (0 : Int32)) ∧ own_A Z h b .byte 4 (fun j => .int (gb j))) W11 hC (by decide) (by decide) rfl rfl d1_178 rfl ?_
  exact ⟨so, b, gb, rfl, own_le_ W0 o_so, own_le_ W0 (Nat.le_trans hsH o_b), X_so, F_value_so, F_coder_so, V_b⟩
theorem ef_m1_5 (m : MethodId) (x0 : Int32) (x1 : Addr) (x2 : Int32) (x3 : Int32) : entryFrame m #[(.int x0), (.ref x1), (.int x2), (.int x3)] 4 = mkF m 0 #[.val (.int x0), .val (.ref x1), .val (.int x2), .val (.int x3)] [] := by first | (simp [entryFrame, mkF, argsToLocals, Value.category]; done) | rfl
set_option maxRecDepth 65536 in
set_option maxHeartbeats 40000000 in
theorem own_m1_5 (l : Launch) (Z : State) (a0 : Array Value) (hw : ∀ d ∈ tables_1, d.before a0 Z = true) (wo : List Jvm.Cond) (h0 : Heap) (a2 : Addr) (p3 : Int32) (p4 : Int32) (cs : Int32) (sv : Value) (bb : Addr) (bn : Nat) (bg : Nat → Int32) (bz : Int32) (S_cs : Sta Z h0 "java/lang/String" "COMPACT_STRINGS" "Z" (.int cs)) (S_sf : Sta Z h0 "jdk/internal/util/Preconditions" "SIOOBE_FORMATTER" "Ljava/util/function/BiFunction;" sv) (X_a2 : Exa Z h0 a2 "java/lang/String") (F_value_a2 : Fld Z h0 a2 "java/lang/String" "value" "[B" (.ref bb)) (F_coder_a2 : Fld Z h0 a2 "java/lang/String" "coder" "B" (.int (0 : Int32))) (V_bb : own_A Z h0 bb .byte bn (fun j => .int (bg j))) (hcs : ¬ cs = (0 : Int32)) (hsv : sv.isRef = true) (hz : bn.toInt32 = bz) (hzn : bz.toInt = (bn : Int)) (hc0 : 0 ≤ p4.toInt) (hc1 : p4.toInt ≤ 255) :
    own_M l Z wo (⟨"com/example/aeneas/aeneas/SideWithLabelPinLaw", "make", "(ILjava/lang/String;IC)Ljava/lang/String;"⟩ : MethodName) method_4_code 4 (some (.object "java/lang/String")) ({ frames := 5, cells := 6, slots := 160, locals := 110 } : Room) [] #[(.int (5 : Int32)), (.ref a2), (.int p3), (.int p4)] h0 (fun v h => ∃ (so b : Addr) (gb : Nat → Int32), v = some (.ref so) ∧ h0.size ≤ so ∧ h0.size ≤ b ∧ Exa Z h so "java/lang/String" ∧ Fld Z h so "java/lang/String" "value" "[B" (.ref b) ∧ Fld Z h so "java/lang/String" "coder" "B" (.int (0 : Int32)) ∧ own_A Z h b .byte 5 (fun j => .int (gb j))) := by
  refine own_body (plainFor_of_name pn_1) (fun m => ef_m1_5 m (5 : Int32) a2 p3 p4) ?_
  intro p e s m below meth c C hC T0 W0
  refine own_iloadN W0 1 d1_0 rfl rfl ?_
  refine own_ifY W0 15 d1_1 ((if0 _ _).trans (feq ((by decide) : ¬ ((5 : Int32) = (0 : Int32)))).2) (by decide) (by decide) ?_
  refine own_iloadN W0 16 d1_15 rfl rfl ?_
  refine own_iconst W0 (1 : Int32) 17 d1_16 rfl rfl ?_
  refine own_icmpY W0 41 d1_17 ((feq ((by decide) : ¬ ((5 : Int32) = (1 : Int32)))).2) (by decide) (by decide) ?_
  refine own_iloadN W0 42 d1_41 rfl rfl ?_
  refine own_iconst W0 (2 : Int32) 43 d1_42 rfl rfl ?_
  refine own_icmpY W0 77 d1_43 ((feq ((by decide) : ¬ ((5 : Int32) = (2 : Int32)))).2) (by decide) (by decide) ?_
  refine own_iloadN W0 78 d1_77 rfl rfl ?_
  refine own_iconst W0 (3 : Int32) 79 d1_78 rfl rfl ?_
  refine own_icmpY W0 123 d1_79 ((feq ((by decide) : ¬ ((5 : Int32) = (3 : Int32)))).2) (by decide) (by decide) ?_
  refine own_iloadN W0 124 d1_123 rfl rfl ?_
  refine own_iconst W0 (4 : Int32) 125 d1_124 rfl rfl ?_
  refine own_icmpY W0 179 d1_125 ((feq ((by decide) : ¬ ((5 : Int32) = (4 : Int32)))).2) (by decide) (by decide) ?_
  refine own_iloadN W0 180 d1_179 rfl rfl ?_
  refine own_iconst W0 (5 : Int32) 181 d1_180 rfl rfl ?_
  refine own_icmpN W0 184 d1_181 ((teq (rfl : (5 : Int32) = (5 : Int32))).2) rfl ?_
  refine own_new W0 187 d1_184 (wd12 hw) (wd2 hw) (wd1 hw) (by decide) (by decide) rfl ?_
  intro T1 h1 so W1 E1 g_so o_so X_so D_so
  have ne_a2_so : a2 ≠ so := by rw [g_so]; exact Nat.ne_of_lt X_a2.lt
  have ne_bb_so : bb ≠ so := by rw [g_so]; exact Nat.ne_of_lt V_bb.lt
  have S_cs := S_cs.ext E1
  have S_sf := S_sf.ext E1
  have X_a2 := X_a2.ext E1
  have F_value_a2 := F_value_a2.ext E1
  have F_coder_a2 := F_coder_a2.ext E1
  have V_bb := V_bb.ext E1
  have F_value_so : Fld Z h1 so "java/lang/String" "value" "[B" .null := D_so (Or.inr (wd4 hw)) (ty := (.array .byte)) (by decide)
  have F_coder_so : Fld Z h1 so "java/lang/String" "coder" "B" (.int (0 : Int32)) := D_so (Or.inr (wd5 hw)) (ty := .byte) (by decide)
  show own_Go p e below C T1 (mkF m 187 #[.val (.int (5 : Int32)), .val (.ref a2), .val (.int p3), .val (.int p4)] [(.ref so)])
  refine own_dup W1 188 d1_187 rfl rfl ?_
  refine own_iconst W1 (5 : Int32) 189 d1_188 rfl rfl ?_
  refine own_newarray W1 5 5 191 d1_189 (wd13 hw) rfl (Nat.le_refl _) (by decide) (by decide) (by decide) rfl ?_
  intro T2 h2 ch W2 E2 g_ch o_ch V_ch
  have ne_a2_ch : a2 ≠ ch := by rw [g_ch]; exact Nat.ne_of_lt X_a2.lt
  have ne_bb_ch : bb ≠ ch := by rw [g_ch]; exact Nat.ne_of_lt V_bb.lt
  have ne_so_ch : so ≠ ch := by rw [g_ch]; exact Nat.ne_of_lt X_so.lt
  have S_cs := S_cs.ext E2
  have S_sf := S_sf.ext E2
  have X_a2 := X_a2.ext E2
  have F_value_a2 := F_value_a2.ext E2
  have F_coder_a2 := F_coder_a2.ext E2
  have V_bb := V_bb.ext E2
  have X_so := X_so.ext E2
  have F_value_so := F_value_so.ext E2
  have F_coder_so := F_coder_so.ext E2
  show own_Go p e below C T2 (mkF m 191 #[.val (.int (5 : Int32)), .val (.ref a2), .val (.int p3), .val (.int p4)] [(.ref ch), (.ref so), (.ref so)])
  have hb0 : ∀ j : Nat, 0 ≤ ((fun _ => (0 : Int32)) j).toInt ∧ ((fun _ => (0 : Int32)) j).toInt ≤ 255 := fun _ => ⟨(by decide : 0 ≤ (0 : Int32).toInt), (by decide : (0 : Int32).toInt ≤ 255)⟩
  have V_ch : own_A Z h2 ch .char 5 (fun j => .int ((fun _ => (0 : Int32)) j)) := V_ch
  refine own_dup W2 192 d1_191 rfl rfl ?_
  refine own_iconst W2 (0 : Int32) 193 d1_192 rfl rfl ?_
  refine own_aloadN W2 194 d1_193 rfl rfl rfl ?_
  refine own_iconst W2 (0 : Int32) 195 d1_194 rfl rfl ?_
  refine own_iloadN W2 196 d1_195 rfl rfl ?_
  refine own_iloadN W2 197 d1_196 rfl rfl ?_
  refine own_callS W2 (A := [(.ref a2), (.int (0 : Int32)), (.int p3), (.int p4)]) (wt := 5) (pc' := 200) (st := [(.int (0 : Int32)), (.ref ch), (.ref ch), (.ref so), (.ref so)]) d1_197 (wd14 hw) (wd15 hw) (wd10 hw) (wd16 hw) (by decide) (own_m2 l Z a0 hw [] h2 a2 (0 : Int32) p3 p4 cs sv bb bn bg bz 0 S_cs S_sf X_a2 F_value_a2 F_coder_a2 V_bb hcs hsv hz hzn rfl hc0 hc1) all0 rfl pd_14 rfl (Nat.le_of_eq rfl) (by decide) (by decide) (by decide) (by decide) rfl ?_
  rintro T3 h3 _ W3 K3 P3 ⟨r0, rfl, ra0, rb0⟩
  rw [P3 rfl rfl] at W3
  show own_Go p e below C T3 (mkF m 200 #[.val (.int (5 : Int32)), .val (.ref a2), .val (.int p3), .val (.int p4)] [(.int r0), (.int (0 : Int32)), (.ref ch), (.ref ch), (.ref so), (.ref so)])
  refine own_castore W3 0 201 d1_200 V_ch (Or.inr o_ch) rfl (by decide) rfl ?_
  intro T4 h4 W4 Wr4 V_ch
  have S_cs := S_cs.wr Wr4
  have S_sf := S_sf.wr Wr4
  have X_a2 := X_a2.wr Wr4
  have F_value_a2 := F_value_a2.other Wr4 (Or.inl ne_a2_ch)
  have F_coder_a2 := F_coder_a2.other Wr4 (Or.inl ne_a2_ch)
  have V_bb := V_bb.other Wr4 ne_bb_ch
  have X_so := X_so.wr Wr4
  have F_value_so := F_value_so.other Wr4 (Or.inl ne_so_ch)
  have F_coder_so := F_coder_so.other Wr4 (Or.inl ne_so_ch)
  show own_Go p e below C T4 (mkF m 201 #[.val (.int (5 : Int32)), .val (.ref a2), .val (.int p3), .val (.int p4)] [(.ref ch), (.ref so), (.ref so)])
  obtain ⟨cg1, hg1, hb1⟩ := own_upC hb0 0 ra0 rb0
  have V_ch := V_ch.congr (fun j _ => hg1 j)
  refine own_dup W4 202 d1_201 rfl rfl ?_
  refine own_iconst W4 (1 : Int32) 203 d1_202 rfl rfl ?_
  refine own_aloadN W4 204 d1_203 rfl rfl rfl ?_
  refine own_iconst W4 (1 : Int32) 205 d1_204 rfl rfl ?_
  refine own_iloadN W4 206 d1_205 rfl rfl ?_
  refine own_iloadN W4 207 d1_206 rfl rfl ?_
  refine own_callS W4 (A := [(.ref a2), (.int (1 : Int32)), (.int p3), (.int p4)]) (wt := 5) (pc' := 210) (st := [(.int (1 : Int32)), (.ref ch), (.ref ch), (.ref so), (.ref so)]) d1_207 (wd14 hw) (wd15 hw) (wd10 hw) (wd16 hw) (by decide) (own_m2 l Z a0 hw [] h4 a2 (1 : Int32) p3 p4 cs sv bb bn bg bz 1 S_cs S_sf X_a2 F_value_a2 F_coder_a2 V_bb hcs hsv hz hzn rfl hc0 hc1) all0 rfl pd_14 rfl (Nat.le_of_eq rfl) (by decide) (by decide) (by decide) (by decide) rfl ?_
  rintro T5 h5 _ W5 K5 P5 ⟨r1, rfl, ra1, rb1⟩
  rw [P5 rfl rfl] at W5
  show own_Go p e below C T5 (mkF m 210 #[.val (.int (5 : Int32)), .val (.ref a2), .val (.int p3), .val (.int p4)] [(.int r1), (.int (1 : Int32)), (.ref ch), (.ref ch), (.ref so), (.ref so)])
  refine own_castore W5 1 211 d1_210 V_ch (Or.inr o_ch) rfl (by decide) rfl ?_
  intro T6 h6 W6 Wr6 V_ch
  have S_cs := S_cs.wr Wr6
  have S_sf := S_sf.wr Wr6
  have X_a2 := X_a2.wr Wr6
  have F_value_a2 := F_value_a2.other Wr6 (Or.inl ne_a2_ch)
  have F_coder_a2 := F_coder_a2.other Wr6 (Or.inl ne_a2_ch)
  have V_bb := V_bb.other Wr6 ne_bb_ch
  have X_so := X_so.wr Wr6
  have F_value_so := F_value_so.other Wr6 (Or.inl ne_so_ch)
  have F_coder_so := F_coder_so.other Wr6 (Or.inl ne_so_ch)
  show own_Go p e below C T6 (mkF m 211 #[.val (.int (5 : Int32)), .val (.ref a2), .val (.int p3), .val (.int p4)] [(.ref ch), (.ref so), (.ref so)])
  obtain ⟨cg2, hg2, hb2⟩ := own_upC hb1 1 ra1 rb1
  have V_ch := V_ch.congr (fun j _ => hg2 j)
  refine own_dup W6 212 d1_211 rfl rfl ?_
  refine own_iconst W6 (2 : Int32) 213 d1_212 rfl rfl ?_
  refine own_aloadN W6 214 d1_213 rfl rfl rfl ?_
  refine own_iconst W6 (2 : Int32) 215 d1_214 rfl rfl ?_
  refine own_iloadN W6 216 d1_215 rfl rfl ?_
  refine own_iloadN W6 217 d1_216 rfl rfl ?_
  refine own_callS W6 (A := [(.ref a2), (.int (2 : Int32)), (.int p3), (.int p4)]) (wt := 5) (pc' := 220) (st := [(.int (2 : Int32)), (.ref ch), (.ref ch), (.ref so), (.ref so)]) d1_217 (wd14 hw) (wd15 hw) (wd10 hw) (wd16 hw) (by decide) (own_m2 l Z a0 hw [] h6 a2 (2 : Int32) p3 p4 cs sv bb bn bg bz 2 S_cs S_sf X_a2 F_value_a2 F_coder_a2 V_bb hcs hsv hz hzn rfl hc0 hc1) all0 rfl pd_14 rfl (Nat.le_of_eq rfl) (by decide) (by decide) (by decide) (by decide) rfl ?_
  rintro T7 h7 _ W7 K7 P7 ⟨r2, rfl, ra2, rb2⟩
  rw [P7 rfl rfl] at W7
  show own_Go p e below C T7 (mkF m 220 #[.val (.int (5 : Int32)), .val (.ref a2), .val (.int p3), .val (.int p4)] [(.int r2), (.int (2 : Int32)), (.ref ch), (.ref ch), (.ref so), (.ref so)])
  refine own_castore W7 2 221 d1_220 V_ch (Or.inr o_ch) rfl (by decide) rfl ?_
  intro T8 h8 W8 Wr8 V_ch
  have S_cs := S_cs.wr Wr8
  have S_sf := S_sf.wr Wr8
  have X_a2 := X_a2.wr Wr8
  have F_value_a2 := F_value_a2.other Wr8 (Or.inl ne_a2_ch)
  have F_coder_a2 := F_coder_a2.other Wr8 (Or.inl ne_a2_ch)
  have V_bb := V_bb.other Wr8 ne_bb_ch
  have X_so := X_so.wr Wr8
  have F_value_so := F_value_so.other Wr8 (Or.inl ne_so_ch)
  have F_coder_so := F_coder_so.other Wr8 (Or.inl ne_so_ch)
  show own_Go p e below C T8 (mkF m 221 #[.val (.int (5 : Int32)), .val (.ref a2), .val (.int p3), .val (.int p4)] [(.ref ch), (.ref so), (.ref so)])
  obtain ⟨cg3, hg3, hb3⟩ := own_upC hb2 2 ra2 rb2
  have V_ch := V_ch.congr (fun j _ => hg3 j)
  refine own_dup W8 222 d1_221 rfl rfl ?_
  refine own_iconst W8 (3 : Int32) 223 d1_222 rfl rfl ?_
  refine own_aloadN W8 224 d1_223 rfl rfl rfl ?_
  refine own_iconst W8 (3 : Int32) 225 d1_224 rfl rfl ?_
  refine own_iloadN W8 226 d1_225 rfl rfl ?_
  refine own_iloadN W8 227 d1_226 rfl rfl ?_
  refine own_callS W8 (A := [(.ref a2), (.int (3 : Int32)), (.int p3), (.int p4)]) (wt := 5) (pc' := 230) (st := [(.int (3 : Int32)), (.ref ch), (.ref ch), (.ref so), (.ref so)]) d1_227 (wd14 hw) (wd15 hw) (wd10 hw) (wd16 hw) (by decide) (own_m2 l Z a0 hw [] h8 a2 (3 : Int32) p3 p4 cs sv bb bn bg bz 3 S_cs S_sf X_a2 F_value_a2 F_coder_a2 V_bb hcs hsv hz hzn rfl hc0 hc1) all0 rfl pd_14 rfl (Nat.le_of_eq rfl) (by decide) (by decide) (by decide) (by decide) rfl ?_
  rintro T9 h9 _ W9 K9 P9 ⟨r3, rfl, ra3, rb3⟩
  rw [P9 rfl rfl] at W9
  show own_Go p e below C T9 (mkF m 230 #[.val (.int (5 : Int32)), .val (.ref a2), .val (.int p3), .val (.int p4)] [(.int r3), (.int (3 : Int32)), (.ref ch), (.ref ch), (.ref so), (.ref so)])
  refine own_castore W9 3 231 d1_230 V_ch (Or.inr o_ch) rfl (by decide) rfl ?_
  intro T10 h10 W10 Wr10 V_ch
  have S_cs := S_cs.wr Wr10
  have S_sf := S_sf.wr Wr10
  have X_a2 := X_a2.wr Wr10
  have F_value_a2 := F_value_a2.other Wr10 (Or.inl ne_a2_ch)
  have F_coder_a2 := F_coder_a2.other Wr10 (Or.inl ne_a2_ch)
  have V_bb := V_bb.other Wr10 ne_bb_ch
  have X_so := X_so.wr Wr10
  have F_value_so := F_value_so.other Wr10 (Or.inl ne_so_ch)
  have F_coder_so := F_coder_so.other Wr10 (Or.inl ne_so_ch)
  show own_Go p e below C T10 (mkF m 231 #[.val (.int (5 : Int32)), .val (.ref a2), .val (.int p3), .val (.int p4)] [(.ref ch), (.ref so), (.ref so)])
  obtain ⟨cg4, hg4, hb4⟩ := own_upC hb3 3 ra3 rb3
  have V_ch := V_ch.congr (fun j _ => hg4 j)
  refine own_dup W10 232 d1_231 rfl rfl ?_
  refine own_iconst W10 (4 : Int32) 233 d1_232 rfl rfl ?_
  refine own_aloadN W10 234 d1_233 rfl rfl rfl ?_
  refine own_iconst W10 (4 : Int32) 235 d1_234 rfl rfl ?_
  refine own_iloadN W10 236 d1_235 rfl rfl ?_
  refine own_iloadN W10 237 d1_236 rfl rfl ?_
  refine own_callS W10 (A := [(.ref a2), (.int (4 : Int32)), (.int p3), (.int p4)]) (wt := 5) (pc' := 240) (st := [(.int (4 : Int32)), (.ref ch), (.ref ch), (.ref so), (.ref so)]) d1_237 (wd14 hw) (wd15 hw) (wd10 hw) (wd16 hw) (by decide) (own_m2 l Z a0 hw [] h10 a2 (4 : Int32) p3 p4 cs sv bb bn bg bz 4 S_cs S_sf X_a2 F_value_a2 F_coder_a2 V_bb hcs hsv hz hzn rfl hc0 hc1) all0 rfl pd_14 rfl (Nat.le_of_eq rfl) (by decide) (by decide) (by decide) (by decide) rfl ?_
  rintro T11 h11 _ W11 K11 P11 ⟨r4, rfl, ra4, rb4⟩
  rw [P11 rfl rfl] at W11
  show own_Go p e below C T11 (mkF m 240 #[.val (.int (5 : Int32)), .val (.ref a2), .val (.int p3), .val (.int p4)] [(.int r4), (.int (4 : Int32)), (.ref ch), (.ref ch), (.ref so), (.ref so)])
  refine own_castore W11 4 241 d1_240 V_ch (Or.inr o_ch) rfl (by decide) rfl ?_
  intro T12 h12 W12 Wr12 V_ch
  have S_cs := S_cs.wr Wr12
  have S_sf := S_sf.wr Wr12
  have X_a2 := X_a2.wr Wr12
  have F_value_a2 := F_value_a2.other Wr12 (Or.inl ne_a2_ch)
  have F_coder_a2 := F_coder_a2.other Wr12 (Or.inl ne_a2_ch)
  have V_bb := V_bb.other Wr12 ne_bb_ch
  have X_so := X_so.wr Wr12
  have F_value_so := F_value_so.other Wr12 (Or.inl ne_so_ch)
  have F_coder_so := F_coder_so.other Wr12 (Or.inl ne_so_ch)
  show own_Go p e below C T12 (mkF m 241 #[.val (.int (5 : Int32)), .val (.ref a2), .val (.int p3), .val (.int p4)] [(.ref ch), (.ref so), (.ref so)])
  obtain ⟨cg5, hg5, hb5⟩ := own_upC hb4 4 ra4 rb4
  have V_ch := V_ch.congr (fun j _ => hg5 j)
  have hsH := own_le W12
  have qso := X_so.lt
  refine own_callN W12 (A := [(.ref ch)]) (wt := 1) (pc' := 244) (st := [(.ref so)]) d1_241 rfl (wd52 hw) (wd53 hw) (wd1 hw) (wd54 hw) (by decide) (own_m10 l Z a0 hw [] h12 so ch cs 5 cg5 (5 : Int32) S_cs X_so F_value_so F_coder_so V_ch hcs ne_so_ch rfl rfl (by decide) (by decide) (fun j _ => hb5 j)) (allS (Or.inr o_so) all0) rfl pd_15 rfl (Nat.le_of_eq rfl) (by decide) (by decide) (by decide) (by decide) rfl ?_
  rintro T13 h13 _ W13 K13 P13 ⟨rfl, ⟨b, gb, o_b, F_value_so, F_coder_so, V_b⟩⟩
  have X_so := X_so.keep K13
  show own_Go p e below C T13 (mkF m 244 #[.val (.int (5 : Int32)), .val (.ref a2), .val (.int p3), .val (.int p4)] [(.ref so)])
  refine own_retA (Q := fun v h => ∃ (so b : Addr) (gb : Nat → Int32), v = some (.ref so) ∧ h0.size ≤ so ∧ h0.size ≤ b ∧ Exa Z h so "java/lang/String" ∧ Fld Z h so "java/lang/String" "value" "[B" (.ref b) ∧ Fld Z h so "java/lang/String" "coder" "B" (.int (0 : Int32)) ∧ own_A Z h b .byte 5 (fun j => .int (gb j))) W13 hC (by decide) (by decide) rfl rfl d1_244 rfl ?_
  exact ⟨so, b, gb, rfl, own_le_ W0 o_so, own_le_ W0 (Nat.le_trans hsH o_b), X_so, F_value_so, F_coder_so, V_b⟩
theorem ef_m1_6 (m : MethodId) (x0 : Int32) (x1 : Addr) (x2 : Int32) (x3 : Int32) : entryFrame m #[(.int x0), (.ref x1), (.int x2), (.int x3)] 4 = mkF m 0 #[.val (.int x0), .val (.ref x1), .val (.int x2), .val (.int x3)] [] := by first | (simp [entryFrame, mkF, argsToLocals, Value.category]; done) | rfl
set_option maxRecDepth 65536 in
set_option maxHeartbeats 40000000 in
theorem own_m1_6 (l : Launch) (Z : State) (a0 : Array Value) (hw : ∀ d ∈ tables_1, d.before a0 Z = true) (wo : List Jvm.Cond) (h0 : Heap) (a2 : Addr) (p3 : Int32) (p4 : Int32) (cs : Int32) (sv : Value) (bb : Addr) (bn : Nat) (bg : Nat → Int32) (bz : Int32) (S_cs : Sta Z h0 "java/lang/String" "COMPACT_STRINGS" "Z" (.int cs)) (S_sf : Sta Z h0 "jdk/internal/util/Preconditions" "SIOOBE_FORMATTER" "Ljava/util/function/BiFunction;" sv) (X_a2 : Exa Z h0 a2 "java/lang/String") (F_value_a2 : Fld Z h0 a2 "java/lang/String" "value" "[B" (.ref bb)) (F_coder_a2 : Fld Z h0 a2 "java/lang/String" "coder" "B" (.int (0 : Int32))) (V_bb : own_A Z h0 bb .byte bn (fun j => .int (bg j))) (hcs : ¬ cs = (0 : Int32)) (hsv : sv.isRef = true) (hz : bn.toInt32 = bz) (hzn : bz.toInt = (bn : Int)) (hc0 : 0 ≤ p4.toInt) (hc1 : p4.toInt ≤ 255) :
    own_M l Z wo (⟨"com/example/aeneas/aeneas/SideWithLabelPinLaw", "make", "(ILjava/lang/String;IC)Ljava/lang/String;"⟩ : MethodName) method_4_code 4 (some (.object "java/lang/String")) ({ frames := 5, cells := 6, slots := 160, locals := 110 } : Room) [] #[(.int (6 : Int32)), (.ref a2), (.int p3), (.int p4)] h0 (fun v h => ∃ (so b : Addr) (gb : Nat → Int32), v = some (.ref so) ∧ h0.size ≤ so ∧ h0.size ≤ b ∧ Exa Z h so "java/lang/String" ∧ Fld Z h so "java/lang/String" "value" "[B" (.ref b) ∧ Fld Z h so "java/lang/String" "coder" "B" (.int (0 : Int32)) ∧ own_A Z h b .byte 6 (fun j => .int (gb j))) := by
  refine own_body (plainFor_of_name pn_1) (fun m => ef_m1_6 m (6 : Int32) a2 p3 p4) ?_
  intro p e s m below meth c C hC T0 W0
  refine own_iloadN W0 1 d1_0 rfl rfl ?_
  refine own_ifY W0 15 d1_1 ((if0 _ _).trans (feq ((by decide) : ¬ ((6 : Int32) = (0 : Int32)))).2) (by decide) (by decide) ?_
  refine own_iloadN W0 16 d1_15 rfl rfl ?_
  refine own_iconst W0 (1 : Int32) 17 d1_16 rfl rfl ?_
  refine own_icmpY W0 41 d1_17 ((feq ((by decide) : ¬ ((6 : Int32) = (1 : Int32)))).2) (by decide) (by decide) ?_
  refine own_iloadN W0 42 d1_41 rfl rfl ?_
  refine own_iconst W0 (2 : Int32) 43 d1_42 rfl rfl ?_
  refine own_icmpY W0 77 d1_43 ((feq ((by decide) : ¬ ((6 : Int32) = (2 : Int32)))).2) (by decide) (by decide) ?_
  refine own_iloadN W0 78 d1_77 rfl rfl ?_
  refine own_iconst W0 (3 : Int32) 79 d1_78 rfl rfl ?_
  refine own_icmpY W0 123 d1_79 ((feq ((by decide) : ¬ ((6 : Int32) = (3 : Int32)))).2) (by decide) (by decide) ?_
  refine own_iloadN W0 124 d1_123 rfl rfl ?_
  refine own_iconst W0 (4 : Int32) 125 d1_124 rfl rfl ?_
  refine own_icmpY W0 179 d1_125 ((feq ((by decide) : ¬ ((6 : Int32) = (4 : Int32)))).2) (by decide) (by decide) ?_
  refine own_iloadN W0 180 d1_179 rfl rfl ?_
  refine own_iconst W0 (5 : Int32) 181 d1_180 rfl rfl ?_
  refine own_icmpY W0 245 d1_181 ((feq ((by decide) : ¬ ((6 : Int32) = (5 : Int32)))).2) (by decide) (by decide) ?_
  refine own_iloadN W0 246 d1_245 rfl rfl ?_
  refine own_bipush W0 (6 : Int32) 248 d1_246 rfl rfl ?_
  refine own_icmpN W0 251 d1_248 ((teq (rfl : (6 : Int32) = (6 : Int32))).2) rfl ?_
  refine own_new W0 254 d1_251 (wd12 hw) (wd2 hw) (wd1 hw) (by decide) (by decide) rfl ?_
  intro T1 h1 so W1 E1 g_so o_so X_so D_so
  have ne_a2_so : a2 ≠ so := by rw [g_so]; exact Nat.ne_of_lt X_a2.lt
  have ne_bb_so : bb ≠ so := by rw [g_so]; exact Nat.ne_of_lt V_bb.lt
  have S_cs := S_cs.ext E1
  have S_sf := S_sf.ext E1
  have X_a2 := X_a2.ext E1
  have F_value_a2 := F_value_a2.ext E1
  have F_coder_a2 := F_coder_a2.ext E1
  have V_bb := V_bb.ext E1
  have F_value_so : Fld Z h1 so "java/lang/String" "value" "[B" .null := D_so (Or.inr (wd4 hw)) (ty := (.array .byte)) (by decide)
  have F_coder_so : Fld Z h1 so "java/lang/String" "coder" "B" (.int (0 : Int32)) := D_so (Or.inr (wd5 hw)) (ty := .byte) (by decide)
  show own_Go p e below C T1 (mkF m 254 #[.val (.int (6 : Int32)), .val (.ref a2), .val (.int p3), .val (.int p4)] [(.ref so)])
  refine own_dup W1 255 d1_254 rfl rfl ?_
  refine own_bipush W1 (6 : Int32) 257 d1_255 rfl rfl ?_
  refine own_newarray W1 6 6 259 d1_257 (wd13 hw) rfl (Nat.le_refl _) (by decide) (by decide) (by decide) rfl ?_
  intro T2 h2 ch W2 E2 g_ch o_ch V_ch
  have ne_a2_ch : a2 ≠ ch := by rw [g_ch]; exact Nat.ne_of_lt X_a2.lt
  have ne_bb_ch : bb ≠ ch := by rw [g_ch]; exact Nat.ne_of_lt V_bb.lt
  have ne_so_ch : so ≠ ch := by rw [g_ch]; exact Nat.ne_of_lt X_so.lt
  have S_cs := S_cs.ext E2
  have S_sf := S_sf.ext E2
  have X_a2 := X_a2.ext E2
  have F_value_a2 := F_value_a2.ext E2
  have F_coder_a2 := F_coder_a2.ext E2
  have V_bb := V_bb.ext E2
  have X_so := X_so.ext E2
  have F_value_so := F_value_so.ext E2
  have F_coder_so := F_coder_so.ext E2
  show own_Go p e below C T2 (mkF m 259 #[.val (.int (6 : Int32)), .val (.ref a2), .val (.int p3), .val (.int p4)] [(.ref ch), (.ref so), (.ref so)])
  have hb0 : ∀ j : Nat, 0 ≤ ((fun _ => (0 : Int32)) j).toInt ∧ ((fun _ => (0 : Int32)) j).toInt ≤ 255 := fun _ => ⟨(by decide : 0 ≤ (0 : Int32).toInt), (by decide : (0 : Int32).toInt ≤ 255)⟩
  have V_ch : own_A Z h2 ch .char 6 (fun j => .int ((fun _ => (0 : Int32)) j)) := V_ch
  refine own_dup W2 260 d1_259 rfl rfl ?_
  refine own_iconst W2 (0 : Int32) 261 d1_260 rfl rfl ?_
  refine own_aloadN W2 262 d1_261 rfl rfl rfl ?_
  refine own_iconst W2 (0 : Int32) 263 d1_262 rfl rfl ?_
  refine own_iloadN W2 264 d1_263 rfl rfl ?_
  refine own_iloadN W2 265 d1_264 rfl rfl ?_
  refine own_callS W2 (A := [(.ref a2), (.int (0 : Int32)), (.int p3), (.int p4)]) (wt := 5) (pc' := 268) (st := [(.int (0 : Int32)), (.ref ch), (.ref ch), (.ref so), (.ref so)]) d1_265 (wd14 hw) (wd15 hw) (wd10 hw) (wd16 hw) (by decide) (own_m2 l Z a0 hw [] h2 a2 (0 : Int32) p3 p4 cs sv bb bn bg bz 0 S_cs S_sf X_a2 F_value_a2 F_coder_a2 V_bb hcs hsv hz hzn rfl hc0 hc1) all0 rfl pd_14 rfl (Nat.le_of_eq rfl) (by decide) (by decide) (by decide) (by decide) rfl ?_
  rintro T3 h3 _ W3 K3 P3 ⟨r0, rfl, ra0, rb0⟩
  rw [P3 rfl rfl] at W3
  show own_Go p e below C T3 (mkF m 268 #[.val (.int (6 : Int32)), .val (.ref a2), .val (.int p3), .val (.int p4)] [(.int r0), (.int (0 : Int32)), (.ref ch), (.ref ch), (.ref so), (.ref so)])
  refine own_castore W3 0 269 d1_268 V_ch (Or.inr o_ch) rfl (by decide) rfl ?_
  intro T4 h4 W4 Wr4 V_ch
  have S_cs := S_cs.wr Wr4
  have S_sf := S_sf.wr Wr4
  have X_a2 := X_a2.wr Wr4
  have F_value_a2 := F_value_a2.other Wr4 (Or.inl ne_a2_ch)
  have F_coder_a2 := F_coder_a2.other Wr4 (Or.inl ne_a2_ch)
  have V_bb := V_bb.other Wr4 ne_bb_ch
  have X_so := X_so.wr Wr4
  have F_value_so := F_value_so.other Wr4 (Or.inl ne_so_ch)
  have F_coder_so := F_coder_so.other Wr4 (Or.inl ne_so_ch)
  show own_Go p e below C T4 (mkF m 269 #[.val (.int (6 : Int32)), .val (.ref a2), .val (.int p3), .val (.int p4)] [(.ref ch), (.ref so), (.ref so)])
  obtain ⟨cg1, hg1, hb1⟩ := own_upC hb0 0 ra0 rb0
  have V_ch := V_ch.congr (fun j _ => hg1 j)
  refine own_dup W4 270 d1_269 rfl rfl ?_
  refine own_iconst W4 (1 : Int32) 271 d1_270 rfl rfl ?_
  refine own_aloadN W4 272 d1_271 rfl rfl rfl ?_
  refine own_iconst W4 (1 : Int32) 273 d1_272 rfl rfl ?_
  refine own_iloadN W4 274 d1_273 rfl rfl ?_
  refine own_iloadN W4 275 d1_274 rfl rfl ?_
  refine own_callS W4 (A := [(.ref a2), (.int (1 : Int32)), (.int p3), (.int p4)]) (wt := 5) (pc' := 278) (st := [(.int (1 : Int32)), (.ref ch), (.ref ch), (.ref so), (.ref so)]) d1_275 (wd14 hw) (wd15 hw) (wd10 hw) (wd16 hw) (by decide) (own_m2 l Z a0 hw [] h4 a2 (1 : Int32) p3 p4 cs sv bb bn bg bz 1 S_cs S_sf X_a2 F_value_a2 F_coder_a2 V_bb hcs hsv hz hzn rfl hc0 hc1) all0 rfl pd_14 rfl (Nat.le_of_eq rfl) (by decide) (by decide) (by decide) (by decide) rfl ?_
  rintro T5 h5 _ W5 K5 P5 ⟨r1, rfl, ra1, rb1⟩
  rw [P5 rfl rfl] at W5
  show own_Go p e below C T5 (mkF m 278 #[.val (.int (6 : Int32)), .val (.ref a2), .val (.int p3), .val (.int p4)] [(.int r1), (.int (1 : Int32)), (.ref ch), (.ref ch), (.ref so), (.ref so)])
  refine own_castore W5 1 279 d1_278 V_ch (Or.inr o_ch) rfl (by decide) rfl ?_
  intro T6 h6 W6 Wr6 V_ch
  have S_cs := S_cs.wr Wr6
  have S_sf := S_sf.wr Wr6
  have X_a2 := X_a2.wr Wr6
  have F_value_a2 := F_value_a2.other Wr6 (Or.inl ne_a2_ch)
  have F_coder_a2 := F_coder_a2.other Wr6 (Or.inl ne_a2_ch)
  have V_bb := V_bb.other Wr6 ne_bb_ch
  have X_so := X_so.wr Wr6
  have F_value_so := F_value_so.other Wr6 (Or.inl ne_so_ch)
  have F_coder_so := F_coder_so.other Wr6 (Or.inl ne_so_ch)
  show own_Go p e below C T6 (mkF m 279 #[.val (.int (6 : Int32)), .val (.ref a2), .val (.int p3), .val (.int p4)] [(.ref ch), (.ref so), (.ref so)])
  obtain ⟨cg2, hg2, hb2⟩ := own_upC hb1 1 ra1 rb1
  have V_ch := V_ch.congr (fun j _ => hg2 j)
  refine own_dup W6 280 d1_279 rfl rfl ?_
  refine own_iconst W6 (2 : Int32) 281 d1_280 rfl rfl ?_
  refine own_aloadN W6 282 d1_281 rfl rfl rfl ?_
  refine own_iconst W6 (2 : Int32) 283 d1_282 rfl rfl ?_
  refine own_iloadN W6 284 d1_283 rfl rfl ?_
  refine own_iloadN W6 285 d1_284 rfl rfl ?_
  refine own_callS W6 (A := [(.ref a2), (.int (2 : Int32)), (.int p3), (.int p4)]) (wt := 5) (pc' := 288) (st := [(.int (2 : Int32)), (.ref ch), (.ref ch), (.ref so), (.ref so)]) d1_285 (wd14 hw) (wd15 hw) (wd10 hw) (wd16 hw) (by decide) (own_m2 l Z a0 hw [] h6 a2 (2 : Int32) p3 p4 cs sv bb bn bg bz 2 S_cs S_sf X_a2 F_value_a2 F_coder_a2 V_bb hcs hsv hz hzn rfl hc0 hc1) all0 rfl pd_14 rfl (Nat.le_of_eq rfl) (by decide) (by decide) (by decide) (by decide) rfl ?_
  rintro T7 h7 _ W7 K7 P7 ⟨r2, rfl, ra2, rb2⟩
  rw [P7 rfl rfl] at W7
  show own_Go p e below C T7 (mkF m 288 #[.val (.int (6 : Int32)), .val (.ref a2), .val (.int p3), .val (.int p4)] [(.int r2), (.int (2 : Int32)), (.ref ch), (.ref ch), (.ref so), (.ref so)])
  refine own_castore W7 2 289 d1_288 V_ch (Or.inr o_ch) rfl (by decide) rfl ?_
  intro T8 h8 W8 Wr8 V_ch
  have S_cs := S_cs.wr Wr8
  have S_sf := S_sf.wr Wr8
  have X_a2 := X_a2.wr Wr8
  have F_value_a2 := F_value_a2.other Wr8 (Or.inl ne_a2_ch)
  have F_coder_a2 := F_coder_a2.other Wr8 (Or.inl ne_a2_ch)
  have V_bb := V_bb.other Wr8 ne_bb_ch
  have X_so := X_so.wr Wr8
  have F_value_so := F_value_so.other Wr8 (Or.inl ne_so_ch)
  have F_coder_so := F_coder_so.other Wr8 (Or.inl ne_so_ch)
  show own_Go p e below C T8 (mkF m 289 #[.val (.int (6 : Int32)), .val (.ref a2), .val (.int p3), .val (.int p4)] [(.ref ch), (.ref so), (.ref so)])
  obtain ⟨cg3, hg3, hb3⟩ := own_upC hb2 2 ra2 rb2
  have V_ch := V_ch.congr (fun j _ => hg3 j)
  refine own_dup W8 290 d1_289 rfl rfl ?_
  refine own_iconst W8 (3 : Int32) 291 d1_290 rfl rfl ?_
  refine own_aloadN W8 292 d1_291 rfl rfl rfl ?_
  refine own_iconst W8 (3 : Int32) 293 d1_292 rfl rfl ?_
  refine own_iloadN W8 294 d1_293 rfl rfl ?_
  refine own_iloadN W8 295 d1_294 rfl rfl ?_
  refine own_callS W8 (A := [(.ref a2), (.int (3 : Int32)), (.int p3), (.int p4)]) (wt := 5) (pc' := 298) (st := [(.int (3 : Int32)), (.ref ch), (.ref ch), (.ref so), (.ref so)]) d1_295 (wd14 hw) (wd15 hw) (wd10 hw) (wd16 hw) (by decide) (own_m2 l Z a0 hw [] h8 a2 (3 : Int32) p3 p4 cs sv bb bn bg bz 3 S_cs S_sf X_a2 F_value_a2 F_coder_a2 V_bb hcs hsv hz hzn rfl hc0 hc1) all0 rfl pd_14 rfl (Nat.le_of_eq rfl) (by decide) (by decide) (by decide) (by decide) rfl ?_
  rintro T9 h9 _ W9 K9 P9 ⟨r3, rfl, ra3, rb3⟩
  rw [P9 rfl rfl] at W9
  show own_Go p e below C T9 (mkF m 298 #[.val (.int (6 : Int32)), .val (.ref a2), .val (.int p3), .val (.int p4)] [(.int r3), (.int (3 : Int32)), (.ref ch), (.ref ch), (.ref so), (.ref so)])
  refine own_castore W9 3 299 d1_298 V_ch (Or.inr o_ch) rfl (by decide) rfl ?_
  intro T10 h10 W10 Wr10 V_ch
  have S_cs := S_cs.wr Wr10
  have S_sf := S_sf.wr Wr10
  have X_a2 := X_a2.wr Wr10
  have F_value_a2 := F_value_a2.other Wr10 (Or.inl ne_a2_ch)
  have F_coder_a2 := F_coder_a2.other Wr10 (Or.inl ne_a2_ch)
  have V_bb := V_bb.other Wr10 ne_bb_ch
  have X_so := X_so.wr Wr10
  have F_value_so := F_value_so.other Wr10 (Or.inl ne_so_ch)
  have F_coder_so := F_coder_so.other Wr10 (Or.inl ne_so_ch)
  show own_Go p e below C T10 (mkF m 299 #[.val (.int (6 : Int32)), .val (.ref a2), .val (.int p3), .val (.int p4)] [(.ref ch), (.ref so), (.ref so)])
  obtain ⟨cg4, hg4, hb4⟩ := own_upC hb3 3 ra3 rb3
  have V_ch := V_ch.congr (fun j _ => hg4 j)
  refine own_dup W10 300 d1_299 rfl rfl ?_
  refine own_iconst W10 (4 : Int32) 301 d1_300 rfl rfl ?_
  refine own_aloadN W10 302 d1_301 rfl rfl rfl ?_
  refine own_iconst W10 (4 : Int32) 303 d1_302 rfl rfl ?_
  refine own_iloadN W10 304 d1_303 rfl rfl ?_
  refine own_iloadN W10 305 d1_304 rfl rfl ?_
  refine own_callS W10 (A := [(.ref a2), (.int (4 : Int32)), (.int p3), (.int p4)]) (wt := 5) (pc' := 308) (st := [(.int (4 : Int32)), (.ref ch), (.ref ch), (.ref so), (.ref so)]) d1_305 (wd14 hw) (wd15 hw) (wd10 hw) (wd16 hw) (by decide) (own_m2 l Z a0 hw [] h10 a2 (4 : Int32) p3 p4 cs sv bb bn bg bz 4 S_cs S_sf X_a2 F_value_a2 F_coder_a2 V_bb hcs hsv hz hzn rfl hc0 hc1) all0 rfl pd_14 rfl (Nat.le_of_eq rfl) (by decide) (by decide) (by decide) (by decide) rfl ?_
  rintro T11 h11 _ W11 K11 P11 ⟨r4, rfl, ra4, rb4⟩
  rw [P11 rfl rfl] at W11
  show own_Go p e below C T11 (mkF m 308 #[.val (.int (6 : Int32)), .val (.ref a2), .val (.int p3), .val (.int p4)] [(.int r4), (.int (4 : Int32)), (.ref ch), (.ref ch), (.ref so), (.ref so)])
  refine own_castore W11 4 309 d1_308 V_ch (Or.inr o_ch) rfl (by decide) rfl ?_
  intro T12 h12 W12 Wr12 V_ch
  have S_cs := S_cs.wr Wr12
  have S_sf := S_sf.wr Wr12
  have X_a2 := X_a2.wr Wr12
  have F_value_a2 := F_value_a2.other Wr12 (Or.inl ne_a2_ch)
  have F_coder_a2 := F_coder_a2.other Wr12 (Or.inl ne_a2_ch)
  have V_bb := V_bb.other Wr12 ne_bb_ch
  have X_so := X_so.wr Wr12
  have F_value_so := F_value_so.other Wr12 (Or.inl ne_so_ch)
  have F_coder_so := F_coder_so.other Wr12 (Or.inl ne_so_ch)
  show own_Go p e below C T12 (mkF m 309 #[.val (.int (6 : Int32)), .val (.ref a2), .val (.int p3), .val (.int p4)] [(.ref ch), (.ref so), (.ref so)])
  obtain ⟨cg5, hg5, hb5⟩ := own_upC hb4 4 ra4 rb4
  have V_ch := V_ch.congr (fun j _ => hg5 j)
  refine own_dup W12 310 d1_309 rfl rfl ?_
  refine own_iconst W12 (5 : Int32) 311 d1_310 rfl rfl ?_
  refine own_aloadN W12 312 d1_311 rfl rfl rfl ?_
  refine own_iconst W12 (5 : Int32) 313 d1_312 rfl rfl ?_
  refine own_iloadN W12 314 d1_313 rfl rfl ?_
  refine own_iloadN W12 315 d1_314 rfl rfl ?_
  refine own_callS W12 (A := [(.ref a2), (.int (5 : Int32)), (.int p3), (.int p4)]) (wt := 5) (pc' := 318) (st := [(.int (5 : Int32)), (.ref ch), (.ref ch), (.ref so), (.ref so)]) d1_315 (wd14 hw) (wd15 hw) (wd10 hw) (wd16 hw) (by decide) (own_m2 l Z a0 hw [] h12 a2 (5 : Int32) p3 p4 cs sv bb bn bg bz 5 S_cs S_sf X_a2 F_value_a2 F_coder_a2 V_bb hcs hsv hz hzn rfl hc0 hc1) all0 rfl pd_14 rfl (Nat.le_of_eq rfl) (by decide) (by decide) (by decide) (by decide) rfl ?_
  rintro T13 h13 _ W13 K13 P13 ⟨r5, rfl, ra5, rb5⟩
  rw [P13 rfl rfl] at W13
  show own_Go p e below C T13 (mkF m 318 #[.val (.int (6 : Int32)), .val (.ref a2), .val (.int p3), .val (.int p4)] [(.int r5), (.int (5 : Int32)), (.ref ch), (.ref ch), (.ref so), (.ref so)])
  refine own_castore W13 5 319 d1_318 V_ch (Or.inr o_ch) rfl (by decide) rfl ?_
  intro T14 h14 W14 Wr14 V_ch
  have S_cs := S_cs.wr Wr14
  have S_sf := S_sf.wr Wr14
  have X_a2 := X_a2.wr Wr14
  have F_value_a2 := F_value_a2.other Wr14 (Or.inl ne_a2_ch)
  have F_coder_a2 := F_coder_a2.other Wr14 (Or.inl ne_a2_ch)
  have V_bb := V_bb.other Wr14 ne_bb_ch
  have X_so := X_so.wr Wr14
  have F_value_so := F_value_so.other Wr14 (Or.inl ne_so_ch)
  have F_coder_so := F_coder_so.other Wr14 (Or.inl ne_so_ch)
  show own_Go p e below C T14 (mkF m 319 #[.val (.int (6 : Int32)), .val (.ref a2), .val (.int p3), .val (.int p4)] [(.ref ch), (.ref so), (.ref so)])
  obtain ⟨cg6, hg6, hb6⟩ := own_upC hb5 5 ra5 rb5
  have V_ch := V_ch.congr (fun j _ => hg6 j)
  have hsH := own_le W14
  have qso := X_so.lt
  refine own_callN W14 (A := [(.ref ch)]) (wt := 1) (pc' := 322) (st := [(.ref so)]) d1_319 rfl (wd52 hw) (wd53 hw) (wd1 hw) (wd54 hw) (by decide) (own_m10 l Z a0 hw [] h14 so ch cs 6 cg6 (6 : Int32) S_cs X_so F_value_so F_coder_so V_ch hcs ne_so_ch rfl rfl (by decide) (by decide) (fun j _ => hb6 j)) (allS (Or.inr o_so) all0) rfl pd_15 rfl (Nat.le_of_eq rfl) (by decide) (by decide) (by decide) (by decide) rfl ?_
  rintro T15 h15 _ W15 K15 P15 ⟨rfl, ⟨b, gb, o_b, F_value_so, F_coder_so, V_b⟩⟩
  have X_so := X_so.keep K15
  show own_Go p e below C T15 (mkF m 322 #[.val (.int (6 : Int32)), .val (.ref a2), .val (.int p3), .val (.int p4)] [(.ref so)])
  refine own_retA (Q := fun v h => ∃ (so b : Addr) (gb : Nat → Int32), v = some (.ref so) ∧ h0.size ≤ so ∧ h0.size ≤ b ∧ Exa Z h so "java/lang/String" ∧ Fld Z h so "java/lang/String" "value" "[B" (.ref b) ∧ Fld Z h so "java/lang/String" "coder" "B" (.int (0 : Int32)) ∧ own_A Z h b .byte 6 (fun j => .int (gb j))) W15 hC (by decide) (by decide) rfl rfl d1_322 rfl ?_
  exact ⟨so, b, gb, rfl, own_le_ W0 o_so, own_le_ W0 (Nat.le_trans hsH o_b), X_so, F_value_so, F_coder_so, V_b⟩
theorem ef_m1_7 (m : MethodId) (x0 : Int32) (x1 : Addr) (x2 : Int32) (x3 : Int32) : entryFrame m #[(.int x0), (.ref x1), (.int x2), (.int x3)] 4 = mkF m 0 #[.val (.int x0), .val (.ref x1), .val (.int x2), .val (.int x3)] [] := by first | (simp [entryFrame, mkF, argsToLocals, Value.category]; done) | rfl
set_option maxRecDepth 65536 in
set_option maxHeartbeats 40000000 in
theorem own_m1_7 (l : Launch) (Z : State) (a0 : Array Value) (hw : ∀ d ∈ tables_1, d.before a0 Z = true) (wo : List Jvm.Cond) (h0 : Heap) (a2 : Addr) (p3 : Int32) (p4 : Int32) (cs : Int32) (sv : Value) (bb : Addr) (bn : Nat) (bg : Nat → Int32) (bz : Int32) (S_cs : Sta Z h0 "java/lang/String" "COMPACT_STRINGS" "Z" (.int cs)) (S_sf : Sta Z h0 "jdk/internal/util/Preconditions" "SIOOBE_FORMATTER" "Ljava/util/function/BiFunction;" sv) (X_a2 : Exa Z h0 a2 "java/lang/String") (F_value_a2 : Fld Z h0 a2 "java/lang/String" "value" "[B" (.ref bb)) (F_coder_a2 : Fld Z h0 a2 "java/lang/String" "coder" "B" (.int (0 : Int32))) (V_bb : own_A Z h0 bb .byte bn (fun j => .int (bg j))) (hcs : ¬ cs = (0 : Int32)) (hsv : sv.isRef = true) (hz : bn.toInt32 = bz) (hzn : bz.toInt = (bn : Int)) (hc0 : 0 ≤ p4.toInt) (hc1 : p4.toInt ≤ 255) :
    own_M l Z wo (⟨"com/example/aeneas/aeneas/SideWithLabelPinLaw", "make", "(ILjava/lang/String;IC)Ljava/lang/String;"⟩ : MethodName) method_4_code 4 (some (.object "java/lang/String")) ({ frames := 5, cells := 6, slots := 160, locals := 110 } : Room) [] #[(.int (7 : Int32)), (.ref a2), (.int p3), (.int p4)] h0 (fun v h => ∃ (so b : Addr) (gb : Nat → Int32), v = some (.ref so) ∧ h0.size ≤ so ∧ h0.size ≤ b ∧ Exa Z h so "java/lang/String" ∧ Fld Z h so "java/lang/String" "value" "[B" (.ref b) ∧ Fld Z h so "java/lang/String" "coder" "B" (.int (0 : Int32)) ∧ own_A Z h b .byte 7 (fun j => .int (gb j))) := by
  refine own_body (plainFor_of_name pn_1) (fun m => ef_m1_7 m (7 : Int32) a2 p3 p4) ?_
  intro p e s m below meth c C hC T0 W0
  refine own_iloadN W0 1 d1_0 rfl rfl ?_
  refine own_ifY W0 15 d1_1 ((if0 _ _).trans (feq ((by decide) : ¬ ((7 : Int32) = (0 : Int32)))).2) (by decide) (by decide) ?_
  refine own_iloadN W0 16 d1_15 rfl rfl ?_
  refine own_iconst W0 (1 : Int32) 17 d1_16 rfl rfl ?_
  refine own_icmpY W0 41 d1_17 ((feq ((by decide) : ¬ ((7 : Int32) = (1 : Int32)))).2) (by decide) (by decide) ?_
  refine own_iloadN W0 42 d1_41 rfl rfl ?_
  refine own_iconst W0 (2 : Int32) 43 d1_42 rfl rfl ?_
  refine own_icmpY W0 77 d1_43 ((feq ((by decide) : ¬ ((7 : Int32) = (2 : Int32)))).2) (by decide) (by decide) ?_
  refine own_iloadN W0 78 d1_77 rfl rfl ?_
  refine own_iconst W0 (3 : Int32) 79 d1_78 rfl rfl ?_
  refine own_icmpY W0 123 d1_79 ((feq ((by decide) : ¬ ((7 : Int32) = (3 : Int32)))).2) (by decide) (by decide) ?_
  refine own_iloadN W0 124 d1_123 rfl rfl ?_
  refine own_iconst W0 (4 : Int32) 125 d1_124 rfl rfl ?_
  refine own_icmpY W0 179 d1_125 ((feq ((by decide) : ¬ ((7 : Int32) = (4 : Int32)))).2) (by decide) (by decide) ?_
  refine own_iloadN W0 180 d1_179 rfl rfl ?_
  refine own_iconst W0 (5 : Int32) 181 d1_180 rfl rfl ?_
  refine own_icmpY W0 245 d1_181 ((feq ((by decide) : ¬ ((7 : Int32) = (5 : Int32)))).2) (by decide) (by decide) ?_
  refine own_iloadN W0 246 d1_245 rfl rfl ?_
  refine own_bipush W0 (6 : Int32) 248 d1_246 rfl rfl ?_
  refine own_icmpY W0 323 d1_248 ((feq ((by decide) : ¬ ((7 : Int32) = (6 : Int32)))).2) (by decide) (by decide) ?_
  refine own_new W0 326 d1_323 (wd12 hw) (wd2 hw) (wd1 hw) (by decide) (by decide) rfl ?_
  intro T1 h1 so W1 E1 g_so o_so X_so D_so
  have ne_a2_so : a2 ≠ so := by rw [g_so]; exact Nat.ne_of_lt X_a2.lt
  have ne_bb_so : bb ≠ so := by rw [g_so]; exact Nat.ne_of_lt V_bb.lt
  have S_cs := S_cs.ext E1
  have S_sf := S_sf.ext E1
  have X_a2 := X_a2.ext E1
  have F_value_a2 := F_value_a2.ext E1
  have F_coder_a2 := F_coder_a2.ext E1
  have V_bb := V_bb.ext E1
  have F_value_so : Fld Z h1 so "java/lang/String" "value" "[B" .null := D_so (Or.inr (wd4 hw)) (ty := (.array .byte)) (by decide)
  have F_coder_so : Fld Z h1 so "java/lang/String" "coder" "B" (.int (0 : Int32)) := D_so (Or.inr (wd5 hw)) (ty := .byte) (by decide)
  show own_Go p e below C T1 (mkF m 326 #[.val (.int (7 : Int32)), .val (.ref a2), .val (.int p3), .val (.int p4)] [(.ref so)])
  refine own_dup W1 327 d1_326 rfl rfl ?_
  refine own_bipush W1 (7 : Int32) 329 d1_327 rfl rfl ?_
  refine own_newarray W1 7 7 331 d1_329 (wd13 hw) rfl (Nat.le_refl _) (by decide) (by decide) (by decide) rfl ?_
  intro T2 h2 ch W2 E2 g_ch o_ch V_ch
  have ne_a2_ch : a2 ≠ ch := by rw [g_ch]; exact Nat.ne_of_lt X_a2.lt
  have ne_bb_ch : bb ≠ ch := by rw [g_ch]; exact Nat.ne_of_lt V_bb.lt
  have ne_so_ch : so ≠ ch := by rw [g_ch]; exact Nat.ne_of_lt X_so.lt
  have S_cs := S_cs.ext E2
  have S_sf := S_sf.ext E2
  have X_a2 := X_a2.ext E2
  have F_value_a2 := F_value_a2.ext E2
  have F_coder_a2 := F_coder_a2.ext E2
  have V_bb := V_bb.ext E2
  have X_so := X_so.ext E2
  have F_value_so := F_value_so.ext E2
  have F_coder_so := F_coder_so.ext E2
  show own_Go p e below C T2 (mkF m 331 #[.val (.int (7 : Int32)), .val (.ref a2), .val (.int p3), .val (.int p4)] [(.ref ch), (.ref so), (.ref so)])
  have hb0 : ∀ j : Nat, 0 ≤ ((fun _ => (0 : Int32)) j).toInt ∧ ((fun _ => (0 : Int32)) j).toInt ≤ 255 := fun _ => ⟨(by decide : 0 ≤ (0 : Int32).toInt), (by decide : (0 : Int32).toInt ≤ 255)⟩
  have V_ch : own_A Z h2 ch .char 7 (fun j => .int ((fun _ => (0 : Int32)) j)) := V_ch
  refine own_dup W2 332 d1_331 rfl rfl ?_
  refine own_iconst W2 (0 : Int32) 333 d1_332 rfl rfl ?_
  refine own_aloadN W2 334 d1_333 rfl rfl rfl ?_
  refine own_iconst W2 (0 : Int32) 335 d1_334 rfl rfl ?_
  refine own_iloadN W2 336 d1_335 rfl rfl ?_
  refine own_iloadN W2 337 d1_336 rfl rfl ?_
  refine own_callS W2 (A := [(.ref a2), (.int (0 : Int32)), (.int p3), (.int p4)]) (wt := 5) (pc' := 340) (st := [(.int (0 : Int32)), (.ref ch), (.ref ch), (.ref so), (.ref so)]) d1_337 (wd14 hw) (wd15 hw) (wd10 hw) (wd16 hw) (by decide) (own_m2 l Z a0 hw [] h2 a2 (0 : Int32) p3 p4 cs sv bb bn bg bz 0 S_cs S_sf X_a2 F_value_a2 F_coder_a2 V_bb hcs hsv hz hzn rfl hc0 hc1) all0 rfl pd_14 rfl (Nat.le_of_eq rfl) (by decide) (by decide) (by decide) (by decide) rfl ?_
  rintro T3 h3 _ W3 K3 P3 ⟨r0, rfl, ra0, rb0⟩
  rw [P3 rfl rfl] at W3
  show own_Go p e below C T3 (mkF m 340 #[.val (.int (7 : Int32)), .val (.ref a2), .val (.int p3), .val (.int p4)] [(.int r0), (.int (0 : Int32)), (.ref ch), (.ref ch), (.ref so), (.ref so)])
  refine own_castore W3 0 341 d1_340 V_ch (Or.inr o_ch) rfl (by decide) rfl ?_
  intro T4 h4 W4 Wr4 V_ch
  have S_cs := S_cs.wr Wr4
  have S_sf := S_sf.wr Wr4
  have X_a2 := X_a2.wr Wr4
  have F_value_a2 := F_value_a2.other Wr4 (Or.inl ne_a2_ch)
  have F_coder_a2 := F_coder_a2.other Wr4 (Or.inl ne_a2_ch)
  have V_bb := V_bb.other Wr4 ne_bb_ch
  have X_so := X_so.wr Wr4
  have F_value_so := F_value_so.other Wr4 (Or.inl ne_so_ch)
  have F_coder_so := F_coder_so.other Wr4 (Or.inl ne_so_ch)
  show own_Go p e below C T4 (mkF m 341 #[.val (.int (7 : Int32)), .val (.ref a2), .val (.int p3), .val (.int p4)] [(.ref ch), (.ref so), (.ref so)])
  obtain ⟨cg1, hg1, hb1⟩ := own_upC hb0 0 ra0 rb0
  have V_ch := V_ch.congr (fun j _ => hg1 j)
  refine own_dup W4 342 d1_341 rfl rfl ?_
  refine own_iconst W4 (1 : Int32) 343 d1_342 rfl rfl ?_
  refine own_aloadN W4 344 d1_343 rfl rfl rfl ?_
  refine own_iconst W4 (1 : Int32) 345 d1_344 rfl rfl ?_
  refine own_iloadN W4 346 d1_345 rfl rfl ?_
  refine own_iloadN W4 347 d1_346 rfl rfl ?_
  refine own_callS W4 (A := [(.ref a2), (.int (1 : Int32)), (.int p3), (.int p4)]) (wt := 5) (pc' := 350) (st := [(.int (1 : Int32)), (.ref ch), (.ref ch), (.ref so), (.ref so)]) d1_347 (wd14 hw) (wd15 hw) (wd10 hw) (wd16 hw) (by decide) (own_m2 l Z a0 hw [] h4 a2 (1 : Int32) p3 p4 cs sv bb bn bg bz 1 S_cs S_sf X_a2 F_value_a2 F_coder_a2 V_bb hcs hsv hz hzn rfl hc0 hc1) all0 rfl pd_14 rfl (Nat.le_of_eq rfl) (by decide) (by decide) (by decide) (by decide) rfl ?_
  rintro T5 h5 _ W5 K5 P5 ⟨r1, rfl, ra1, rb1⟩
  rw [P5 rfl rfl] at W5
  show own_Go p e below C T5 (mkF m 350 #[.val (.int (7 : Int32)), .val (.ref a2), .val (.int p3), .val (.int p4)] [(.int r1), (.int (1 : Int32)), (.ref ch), (.ref ch), (.ref so), (.ref so)])
  refine own_castore W5 1 351 d1_350 V_ch (Or.inr o_ch) rfl (by decide) rfl ?_
  intro T6 h6 W6 Wr6 V_ch
  have S_cs := S_cs.wr Wr6
  have S_sf := S_sf.wr Wr6
  have X_a2 := X_a2.wr Wr6
  have F_value_a2 := F_value_a2.other Wr6 (Or.inl ne_a2_ch)
  have F_coder_a2 := F_coder_a2.other Wr6 (Or.inl ne_a2_ch)
  have V_bb := V_bb.other Wr6 ne_bb_ch
  have X_so := X_so.wr Wr6
  have F_value_so := F_value_so.other Wr6 (Or.inl ne_so_ch)
  have F_coder_so := F_coder_so.other Wr6 (Or.inl ne_so_ch)
  show own_Go p e below C T6 (mkF m 351 #[.val (.int (7 : Int32)), .val (.ref a2), .val (.int p3), .val (.int p4)] [(.ref ch), (.ref so), (.ref so)])
  obtain ⟨cg2, hg2, hb2⟩ := own_upC hb1 1 ra1 rb1
  have V_ch := V_ch.congr (fun j _ => hg2 j)
  refine own_dup W6 352 d1_351 rfl rfl ?_
  refine own_iconst W6 (2 : Int32) 353 d1_352 rfl rfl ?_
  refine own_aloadN W6 354 d1_353 rfl rfl rfl ?_
  refine own_iconst W6 (2 : Int32) 355 d1_354 rfl rfl ?_
  refine own_iloadN W6 356 d1_355 rfl rfl ?_
  refine own_iloadN W6 357 d1_356 rfl rfl ?_
  refine own_callS W6 (A := [(.ref a2), (.int (2 : Int32)), (.int p3), (.int p4)]) (wt := 5) (pc' := 360) (st := [(.int (2 : Int32)), (.ref ch), (.ref ch), (.ref so), (.ref so)]) d1_357 (wd14 hw) (wd15 hw) (wd10 hw) (wd16 hw) (by decide) (own_m2 l Z a0 hw [] h6 a2 (2 : Int32) p3 p4 cs sv bb bn bg bz 2 S_cs S_sf X_a2 F_value_a2 F_coder_a2 V_bb hcs hsv hz hzn rfl hc0 hc1) all0 rfl pd_14 rfl (Nat.le_of_eq rfl) (by decide) (by decide) (by decide) (by decide) rfl ?_
  rintro T7 h7 _ W7 K7 P7 ⟨r2, rfl, ra2, rb2⟩
  rw [P7 rfl rfl] at W7
  show own_Go p e below C T7 (mkF m 360 #[.val (.int (7 : Int32)), .val (.ref a2), .val (.int p3), .val (.int p4)] [(.int r2), (.int (2 : Int32)), (.ref ch), (.ref ch), (.ref so), (.ref so)])
  refine own_castore W7 2 361 d1_360 V_ch (Or.inr o_ch) rfl (by decide) rfl ?_
  intro T8 h8 W8 Wr8 V_ch
  have S_cs := S_cs.wr Wr8
  have S_sf := S_sf.wr Wr8
  have X_a2 := X_a2.wr Wr8
  have F_value_a2 := F_value_a2.other Wr8 (Or.inl ne_a2_ch)
  have F_coder_a2 := F_coder_a2.other Wr8 (Or.inl ne_a2_ch)
  have V_bb := V_bb.other Wr8 ne_bb_ch
  have X_so := X_so.wr Wr8
  have F_value_so := F_value_so.other Wr8 (Or.inl ne_so_ch)
  have F_coder_so := F_coder_so.other Wr8 (Or.inl ne_so_ch)
  show own_Go p e below C T8 (mkF m 361 #[.val (.int (7 : Int32)), .val (.ref a2), .val (.int p3), .val (.int p4)] [(.ref ch), (.ref so), (.ref so)])
  obtain ⟨cg3, hg3, hb3⟩ := own_upC hb2 2 ra2 rb2
  have V_ch := V_ch.congr (fun j _ => hg3 j)
  refine own_dup W8 362 d1_361 rfl rfl ?_
  refine own_iconst W8 (3 : Int32) 363 d1_362 rfl rfl ?_
  refine own_aloadN W8 364 d1_363 rfl rfl rfl ?_
  refine own_iconst W8 (3 : Int32) 365 d1_364 rfl rfl ?_
  refine own_iloadN W8 366 d1_365 rfl rfl ?_
  refine own_iloadN W8 367 d1_366 rfl rfl ?_
  refine own_callS W8 (A := [(.ref a2), (.int (3 : Int32)), (.int p3), (.int p4)]) (wt := 5) (pc' := 370) (st := [(.int (3 : Int32)), (.ref ch), (.ref ch), (.ref so), (.ref so)]) d1_367 (wd14 hw) (wd15 hw) (wd10 hw) (wd16 hw) (by decide) (own_m2 l Z a0 hw [] h8 a2 (3 : Int32) p3 p4 cs sv bb bn bg bz 3 S_cs S_sf X_a2 F_value_a2 F_coder_a2 V_bb hcs hsv hz hzn rfl hc0 hc1) all0 rfl pd_14 rfl (Nat.le_of_eq rfl) (by decide) (by decide) (by decide) (by decide) rfl ?_
  rintro T9 h9 _ W9 K9 P9 ⟨r3, rfl, ra3, rb3⟩
  rw [P9 rfl rfl] at W9
  show own_Go p e below C T9 (mkF m 370 #[.val (.int (7 : Int32)), .val (.ref a2), .val (.int p3), .val (.int p4)] [(.int r3), (.int (3 : Int32)), (.ref ch), (.ref ch), (.ref so), (.ref so)])
  refine own_castore W9 3 371 d1_370 V_ch (Or.inr o_ch) rfl (by decide) rfl ?_
  intro T10 h10 W10 Wr10 V_ch
  have S_cs := S_cs.wr Wr10
  have S_sf := S_sf.wr Wr10
  have X_a2 := X_a2.wr Wr10
  have F_value_a2 := F_value_a2.other Wr10 (Or.inl ne_a2_ch)
  have F_coder_a2 := F_coder_a2.other Wr10 (Or.inl ne_a2_ch)
  have V_bb := V_bb.other Wr10 ne_bb_ch
  have X_so := X_so.wr Wr10
  have F_value_so := F_value_so.other Wr10 (Or.inl ne_so_ch)
  have F_coder_so := F_coder_so.other Wr10 (Or.inl ne_so_ch)
  show own_Go p e below C T10 (mkF m 371 #[.val (.int (7 : Int32)), .val (.ref a2), .val (.int p3), .val (.int p4)] [(.ref ch), (.ref so), (.ref so)])
  obtain ⟨cg4, hg4, hb4⟩ := own_upC hb3 3 ra3 rb3
  have V_ch := V_ch.congr (fun j _ => hg4 j)
  refine own_dup W10 372 d1_371 rfl rfl ?_
  refine own_iconst W10 (4 : Int32) 373 d1_372 rfl rfl ?_
  refine own_aloadN W10 374 d1_373 rfl rfl rfl ?_
  refine own_iconst W10 (4 : Int32) 375 d1_374 rfl rfl ?_
  refine own_iloadN W10 376 d1_375 rfl rfl ?_
  refine own_iloadN W10 377 d1_376 rfl rfl ?_
  refine own_callS W10 (A := [(.ref a2), (.int (4 : Int32)), (.int p3), (.int p4)]) (wt := 5) (pc' := 380) (st := [(.int (4 : Int32)), (.ref ch), (.ref ch), (.ref so), (.ref so)]) d1_377 (wd14 hw) (wd15 hw) (wd10 hw) (wd16 hw) (by decide) (own_m2 l Z a0 hw [] h10 a2 (4 : Int32) p3 p4 cs sv bb bn bg bz 4 S_cs S_sf X_a2 F_value_a2 F_coder_a2 V_bb hcs hsv hz hzn rfl hc0 hc1) all0 rfl pd_14 rfl (Nat.le_of_eq rfl) (by decide) (by decide) (by decide) (by decide) rfl ?_
  rintro T11 h11 _ W11 K11 P11 ⟨r4, rfl, ra4, rb4⟩
  rw [P11 rfl rfl] at W11
  show own_Go p e below C T11 (mkF m 380 #[.val (.int (7 : Int32)), .val (.ref a2), .val (.int p3), .val (.int p4)] [(.int r4), (.int (4 : Int32)), (.ref ch), (.ref ch), (.ref so), (.ref so)])
  refine own_castore W11 4 381 d1_380 V_ch (Or.inr o_ch) rfl (by decide) rfl ?_
  intro T12 h12 W12 Wr12 V_ch
  have S_cs := S_cs.wr Wr12
  have S_sf := S_sf.wr Wr12
  have X_a2 := X_a2.wr Wr12
  have F_value_a2 := F_value_a2.other Wr12 (Or.inl ne_a2_ch)
  have F_coder_a2 := F_coder_a2.other Wr12 (Or.inl ne_a2_ch)
  have V_bb := V_bb.other Wr12 ne_bb_ch
  have X_so := X_so.wr Wr12
  have F_value_so := F_value_so.other Wr12 (Or.inl ne_so_ch)
  have F_coder_so := F_coder_so.other Wr12 (Or.inl ne_so_ch)
  show own_Go p e below C T12 (mkF m 381 #[.val (.int (7 : Int32)), .val (.ref a2), .val (.int p3), .val (.int p4)] [(.ref ch), (.ref so), (.ref so)])
  obtain ⟨cg5, hg5, hb5⟩ := own_upC hb4 4 ra4 rb4
  have V_ch := V_ch.congr (fun j _ => hg5 j)
  refine own_dup W12 382 d1_381 rfl rfl ?_
  refine own_iconst W12 (5 : Int32) 383 d1_382 rfl rfl ?_
  refine own_aloadN W12 384 d1_383 rfl rfl rfl ?_
  refine own_iconst W12 (5 : Int32) 385 d1_384 rfl rfl ?_
  refine own_iloadN W12 386 d1_385 rfl rfl ?_
  refine own_iloadN W12 387 d1_386 rfl rfl ?_
  refine own_callS W12 (A := [(.ref a2), (.int (5 : Int32)), (.int p3), (.int p4)]) (wt := 5) (pc' := 390) (st := [(.int (5 : Int32)), (.ref ch), (.ref ch), (.ref so), (.ref so)]) d1_387 (wd14 hw) (wd15 hw) (wd10 hw) (wd16 hw) (by decide) (own_m2 l Z a0 hw [] h12 a2 (5 : Int32) p3 p4 cs sv bb bn bg bz 5 S_cs S_sf X_a2 F_value_a2 F_coder_a2 V_bb hcs hsv hz hzn rfl hc0 hc1) all0 rfl pd_14 rfl (Nat.le_of_eq rfl) (by decide) (by decide) (by decide) (by decide) rfl ?_
  rintro T13 h13 _ W13 K13 P13 ⟨r5, rfl, ra5, rb5⟩
  rw [P13 rfl rfl] at W13
  show own_Go p e below C T13 (mkF m 390 #[.val (.int (7 : Int32)), .val (.ref a2), .val (.int p3), .val (.int p4)] [(.int r5), (.int (5 : Int32)), (.ref ch), (.ref ch), (.ref so), (.ref so)])
  refine own_castore W13 5 391 d1_390 V_ch (Or.inr o_ch) rfl (by decide) rfl ?_
  intro T14 h14 W14 Wr14 V_ch
  have S_cs := S_cs.wr Wr14
  have S_sf := S_sf.wr Wr14
  have X_a2 := X_a2.wr Wr14
  have F_value_a2 := F_value_a2.other Wr14 (Or.inl ne_a2_ch)
  have F_coder_a2 := F_coder_a2.other Wr14 (Or.inl ne_a2_ch)
  have V_bb := V_bb.other Wr14 ne_bb_ch
  have X_so := X_so.wr Wr14
  have F_value_so := F_value_so.other Wr14 (Or.inl ne_so_ch)
  have F_coder_so := F_coder_so.other Wr14 (Or.inl ne_so_ch)
  show own_Go p e below C T14 (mkF m 391 #[.val (.int (7 : Int32)), .val (.ref a2), .val (.int p3), .val (.int p4)] [(.ref ch), (.ref so), (.ref so)])
  obtain ⟨cg6, hg6, hb6⟩ := own_upC hb5 5 ra5 rb5
  have V_ch := V_ch.congr (fun j _ => hg6 j)
  refine own_dup W14 392 d1_391 rfl rfl ?_
  refine own_bipush W14 (6 : Int32) 394 d1_392 rfl rfl ?_
  refine own_aloadN W14 395 d1_394 rfl rfl rfl ?_
  refine own_bipush W14 (6 : Int32) 397 d1_395 rfl rfl ?_
  refine own_iloadN W14 398 d1_397 rfl rfl ?_
  refine own_iloadN W14 399 d1_398 rfl rfl ?_
  refine own_callS W14 (A := [(.ref a2), (.int (6 : Int32)), (.int p3), (.int p4)]) (wt := 5) (pc' := 402) (st := [(.int (6 : Int32)), (.ref ch), (.ref ch), (.ref so), (.ref so)]) d1_399 (wd14 hw) (wd15 hw) (wd10 hw) (wd16 hw) (by decide) (own_m2 l Z a0 hw [] h14 a2 (6 : Int32) p3 p4 cs sv bb bn bg bz 6 S_cs S_sf X_a2 F_value_a2 F_coder_a2 V_bb hcs hsv hz hzn rfl hc0 hc1) all0 rfl pd_14 rfl (Nat.le_of_eq rfl) (by decide) (by decide) (by decide) (by decide) rfl ?_
  rintro T15 h15 _ W15 K15 P15 ⟨r6, rfl, ra6, rb6⟩
  rw [P15 rfl rfl] at W15
  show own_Go p e below C T15 (mkF m 402 #[.val (.int (7 : Int32)), .val (.ref a2), .val (.int p3), .val (.int p4)] [(.int r6), (.int (6 : Int32)), (.ref ch), (.ref ch), (.ref so), (.ref so)])
  refine own_castore W15 6 403 d1_402 V_ch (Or.inr o_ch) rfl (by decide) rfl ?_
  intro T16 h16 W16 Wr16 V_ch
  have S_cs := S_cs.wr Wr16
  have S_sf := S_sf.wr Wr16
  have X_a2 := X_a2.wr Wr16
  have F_value_a2 := F_value_a2.other Wr16 (Or.inl ne_a2_ch)
  have F_coder_a2 := F_coder_a2.other Wr16 (Or.inl ne_a2_ch)
  have V_bb := V_bb.other Wr16 ne_bb_ch
  have X_so := X_so.wr Wr16
  have F_value_so := F_value_so.other Wr16 (Or.inl ne_so_ch)
  have F_coder_so := F_coder_so.other Wr16 (Or.inl ne_so_ch)
  show own_Go p e below C T16 (mkF m 403 #[.val (.int (7 : Int32)), .val (.ref a2), .val (.int p3), .val (.int p4)] [(.ref ch), (.ref so), (.ref so)])
  obtain ⟨cg7, hg7, hb7⟩ := own_upC hb6 6 ra6 rb6
  have V_ch := V_ch.congr (fun j _ => hg7 j)
  have hsH := own_le W16
  have qso := X_so.lt
  refine own_callN W16 (A := [(.ref ch)]) (wt := 1) (pc' := 406) (st := [(.ref so)]) d1_403 rfl (wd52 hw) (wd53 hw) (wd1 hw) (wd54 hw) (by decide) (own_m10 l Z a0 hw [] h16 so ch cs 7 cg7 (7 : Int32) S_cs X_so F_value_so F_coder_so V_ch hcs ne_so_ch rfl rfl (by decide) (by decide) (fun j _ => hb7 j)) (allS (Or.inr o_so) all0) rfl pd_15 rfl (Nat.le_of_eq rfl) (by decide) (by decide) (by decide) (by decide) rfl ?_
  rintro T17 h17 _ W17 K17 P17 ⟨rfl, ⟨b, gb, o_b, F_value_so, F_coder_so, V_b⟩⟩
  have X_so := X_so.keep K17
  show own_Go p e below C T17 (mkF m 406 #[.val (.int (7 : Int32)), .val (.ref a2), .val (.int p3), .val (.int p4)] [(.ref so)])
  refine own_retA (Q := fun v h => ∃ (so b : Addr) (gb : Nat → Int32), v = some (.ref so) ∧ h0.size ≤ so ∧ h0.size ≤ b ∧ Exa Z h so "java/lang/String" ∧ Fld Z h so "java/lang/String" "value" "[B" (.ref b) ∧ Fld Z h so "java/lang/String" "coder" "B" (.int (0 : Int32)) ∧ own_A Z h b .byte 7 (fun j => .int (gb j))) W17 hC (by decide) (by decide) rfl rfl d1_406 rfl ?_
  exact ⟨so, b, gb, rfl, own_le_ W0 o_so, own_le_ W0 (Nat.le_trans hsH o_b), X_so, F_value_so, F_coder_so, V_b⟩
section OwnHeld
variable {p : Program} {l : Launch} {e : Env} {R : Room} {s : State} {m : MethodId} {args : Array Value} {below : List Frame} {meth : Method} {c : Code} {Z : State} {y : MethodName} {ret : Option FieldType} {code : ByteArray} {ml : Nat} {ws : List Addr} {T : State} {h : Heap} {cells slots : Nat} {C : Outcome → State → Prop} {a0 : Array Value} {EL : List (String × Nat)} {vm0 : Vm}
theorem own_safeN {vm : Vm} {q0 : Addr} (hal : Z.vm.Alike vm) (E : Exa Z h q0 "java/lang/String") (F : Fld Z h q0 "java/lang/String" "value" "[B" .null) : Safe Z EL vm h q0 := fun B => by
  obtain ⟨cell, k, e1, e2, e3, -, -⟩ := E
  have nm : ∀ {n : String} {c : ClassId}, vm.findClass n = some c → c = cell.cls → n = "java/lang/String" := fun {n c} f e => by
    subst e
    rw [hal.findClass] at f
    obtain ⟨k1, q1, q2⟩ := Vm.findClass_spec f
    obtain ⟨k2, q3, q4⟩ := Vm.findClass_spec e2
    cases q1.symm.trans q3
    exact q2.symm.trans q4
  obtain ⟨p, -, u, a, -, q, -, G, rfl | rfl⟩ := B
  · obtain ⟨cell', cf, kf, i, f, h1, h2, h3, h4, h5, h6, h7⟩ := F
    obtain ⟨cS, ⟨⟨s1, s2, s3, ⟨cv, kv, iv, s4, s4'⟩, s5, s6, s7, s8, -⟩, -⟩, -⟩ := G
    obtain ⟨kv', z4⟩ := ff_back (U := Wst Z vm h) hal s4
    cases h2.symm.trans z4
    cases h1.symm.trans (show h[q.sa]? = some q.sC from s1)
    rw [s8] at h7
    cases h7
  · cases (show h[q.sd]? = some q.SA from G.hd).symm.trans e1
    obtain ⟨cS, -, -, f, -⟩ := G
    exact absurd (nm f rfl) (by decide)
theorem own_ldcCH (W : own_W p l e R (s.setVm vm0) m args below meth c Z y ret code ml ws T h cells slots) {i : Nat} {text : String} (n N : Nat) (g : Nat → Int32) {k0 : Nat} {pc : Nat} (pc' : Nat) {L : Array Slot} {st : List Value} (hd : decode code pc = .ok (.ldc i, 2)) (w : (Jvm.Cond.stringLink y.cls i text).before a0 Z = true) (wS : ∀ a ∈ Bundle.stringAtoms, a.before a0 Z = true) (hEL : EW Z a0 EL) (hmem : (y.cls, i) ∈ EL) (hS : s.Since vm0 k0) (hk : k0 ≤ h.size) (CR : CHr Z EL s.vm s.heap vm0 h)
    (ht : (∀ c ∈ text.toList, c.toNat < 256) ∧ text.toList.map (fun c => Value.int (Jvm.Lit.byteI c.toNat.toUInt16)) = (List.range N).map (fun j => Value.int (g j))) (hN : N < 2147483648) (hn : 4 * text.toList.length ≤ n) (hbig : n ≤ 536870912) (hc : cells + 2 ≤ R.cells) (hl : slots + (n + 4) ≤ R.slots) (hp : pc + 2 = pc')
    (k : ∀ vm1 n1 T' h' a b, s.Since vm1 n1 → n1 ≤ h'.size → own_W p l e R (s.setVm vm1) m args below meth c Z y ret code ml ws T' h' (cells + 2) (slots + (n + 4)) → Ext h h' → CHr Z EL s.vm s.heap vm1 h' → Exa Z h' a "java/lang/String" → Fld Z h' a "java/lang/String" "value" "[B" (.ref b) → Fld Z h' a "java/lang/String" "coder" "B" (.int (0 : Int32)) → own_A Z h' b .byte N (fun j => .int (g j)) → (∀ q, Safe Z EL vm1 h' q → q ≠ a ∧ q ≠ b) → own_Go p e below C T' (mkF m pc' L (.ref a :: st))) : own_Go p e below C T (mkF m pc L st) := by
  obtain ⟨⟨hx, hby, hml, hown, hnm, hrt, hlk, hZ⟩, locs, X, eT, Nf⟩ := W
  subst hp
  have hz : (N.toInt32).toInt = (N : Int) := len_toInt hN
  obtain ⟨a, T', h', k1, b, kk, X2, e2, E2, hS2, hk2, hZ2, hown2, XA, FC, FV, AB, -, -, CR2, -, hSf, st2⟩ := ldcCH X hx hZ hown w wS eT hS hk hEL hmem CR.1 (z := N.toInt32) ht (own_nn hz) (by rw [own_cl hz]; simp) (g := mkF m pc L st) rfl (hb hby hd) (n := n) hn hbig hc hl
  refine own_st st2 (k T'.vm k1 T' h' a b hS2 hk2 ⟨⟨hx, hby, hml, hown2, hnm, hrt, hlk, hZ2⟩, locs, X2, e2, Nf⟩ E2 (CR.trans CR2) XA FV FC ((own_A.of_arv AB hz).congr fun j hj => ?_) hSf)
  rw [List.getD_eq_getElem?_getD, List.getElem?_map, List.getElem?_range hj]
  rfl
theorem own_chat {u : State} (hZ : Z.Warmed39 vm0) (hW : (s.setVm vm0).WarmedH u.vm) (w : EW Z a0 EL) (H : CHv Z EL vm0 h) : CHr Z EL vm0 h u.vm h := by
  have q := CHv.later (h' := h) hZ (hW := (show (Wst Z vm0 h).Warmed39 u.vm from hW.wide)) w ⟨Nat.le_refl _, fun _ _ q => q⟩ (Or.inl hW.interned_eq) H
  exact ⟨q.1, Nat.le_refl _, q.2⟩
/-- the contract of a body that may load String constants: what EL names stays held -/
def own_MH (l : Launch) (Z : State) (EL : List (String × Nat)) (wo : List Jvm.Cond) (y : MethodName) (bytes : ByteArray) (maxL : Nat) (ret : Option FieldType) (rm : Room) (ws : List Addr) (A : Array Value) (h0 : Heap) (Q : Option Value → Heap → Prop) : Prop :=
  MetFree l y (head1 (Jvm.Cond.code y bytes maxL ret :: wo) rm) (fun a U => a = A ∧ Z.Warmed39 U.vm ∧ U.heap = h0 ∧ CHv Z EL U.vm h0) (fun _ _ _ _ _ => True) (fun _ U o U' => ∃ v L, o = .returned v ∧ ((∀ y ∈ L, y.base ∈ ws ∨ h0.size ≤ y.base) ∧ Keep h0 U'.heap ws ∧ Q v U'.heap) ∧ CHr Z EL U.vm U.heap U'.vm U'.heap ∧ ReturnedEndW U o U' L rm.cells rm.slots)
theorem own_bodyH {wo : List Jvm.Cond} {maxL : Nat} {rm : Room} {A : Array Value} {h0 : Heap} {Q : Option Value → Heap → Prop} {L0 : Array Slot} (w : EW Z a0 EL) (hpl : plainFor y = true) (hef : ∀ m, entryFrame m A maxL = mkF m 0 L0 [])
    (body : ∀ p e s m below meth c (C : Outcome → State → Prop) (_ : ∀ v L u vm1 n, s.Since vm1 n → n ≤ u.heap.size → Z.Warmed39 vm1 → CHr Z EL s.vm s.heap vm1 u.heap → own_Fw (s.setVm vm1) ws L → Q v u.heap → FrameEnd (s.setVm vm1) (.returned v) u L rm.cells rm.slots → C (.returned v) u) T0,
      own_W p l e rm s m A below meth c Z y ret code maxL ws T0 h0 0 0 → s.heap = h0 → CHv Z EL s.vm h0 → own_Go p e below C T0 (mkF m 0 L0 [])) :
    own_MH l Z EL wo y code maxL ret rm ws A h0 Q := by
  refine MetFree.of_bodySF hpl hisR ?_
  intro p e s m args below meth c s₁ Bd hml0 hP hK
  obtain ⟨rfl, hZ, rfl, hCH⟩ := hP
  have X0 : Stand p l e rm s m _ below meth c s₁ [] 0 0 := Stand.of_body Bd
  have e0 : s₁.heap = s.heap := by rw [Bd.state]; rfl
  have hlk : meth.locks = false := BodyLoose.notSynchronized Bd
  have k := body p e s m below meth c (fun o U' => ∃ v L, o = .returned v ∧ ((∀ y ∈ L, y.base ∈ ws ∨ s.heap.size ≤ y.base) ∧ Keep s.heap U'.heap ws ∧ Q v U'.heap) ∧ CHr Z EL s.vm s.heap U'.vm U'.heap ∧ ReturnedEndW s o U' L rm.cells rm.slots)
    (fun v L u vm1 n hS hn hZ1 hCR h1 h2 h3 => by
      obtain ⟨a, b, c'⟩ := hS.ended (U := u) h3.2.1 hn h3.2.2
      exact ⟨v, L, rfl, ⟨h1, own_keep (s := s.setVm vm1) h3.2.2 h1, h2⟩, hCR.trans (own_chat (s := s) hZ1 h3.2.1 w hCR.1), ⟨v, rfl⟩, a, b, c'⟩) s₁
    ⟨⟨Bd.exec, Bd.bytes, hml0, findClass_of_methodNamed Bd.named, (name_of_methodNamed Bd.named Bd.method).1, Bd.returns, hlk, hZ⟩, [], X0, e0, fun _ hy => nomatch hy⟩ rfl hCH
  obtain ⟨u, o, h1, h2⟩ := k
  exact ⟨u, o, castTop (hef m) h1, h2⟩
theorem own_callNH (W : own_W p l e R (s.setVm vm0) m args below meth c Z y ret code ml ws T h cells slots) {i : Nat} {yc : MethodName} {bytes : ByteArray} {maxL : Nat} {rm : Room} {Q : Option Value → Heap → Prop} {ps : List FieldType} {rr : Option FieldType} {a : Addr} {wc' : List Addr} {k0 : Nat} (A : List Value) (wt : Nat) {pc : Nat} (pc' : Nat) {L : Array Slot} {st : List Value} (hd : decode code pc = .ok (.invokespecial i, 3)) (hi : yc.name = "<init>") (wl : (Jvm.Cond.methodLink y.cls i yc).before a0 Z = true) (wst : (Jvm.Cond.instanceMethod yc).before a0 Z = true) (wz : (Jvm.Cond.initialized yc.cls).before a0 Z = true) (wc : (Jvm.Cond.code yc bytes maxL none).before a0 Z = true) (hy : yc.cls ≠ "java/lang/invoke/MethodHandle" ∧ yc.cls ≠ "java/lang/invoke/VarHandle") (hEL : EW Z a0 EL) (hS : s.Since vm0 k0) (hk : k0 ≤ h.size) (CR : CHr Z EL s.vm s.heap vm0 h) (hM : own_MH l Z EL [] yc bytes maxL none rm wc' (.ref a :: A).toArray h Q) (hws : ∀ b ∈ wc', b ∈ ws ∨ s.heap.size ≤ b) (hL : L.size = ml) (hds : parseMethodDescriptor yc.desc = some ⟨ps, rr⟩) (hA : A.length = ps.length) (hwt : (st.map fun v => v.category).sum ≤ wt) (hf : rm.frames + 1 ≤ R.frames) (hlo : wt + (maxL + 11) + rm.locals ≤ R.locals) (hc : cells + rm.cells ≤ R.cells) (hs : slots + rm.slots ≤ R.slots) (hp : pc + 3 = pc') (k : ∀ vm1 n1 T' h' v, s.Since vm1 n1 → n1 ≤ h'.size → own_W p l e R (s.setVm vm1) m args below meth c Z y ret code ml ws T' h' (cells + rm.cells) (slots + rm.slots) → Keep h h' wc' → CHr Z EL s.vm s.heap vm1 h' → Q v h' → own_Go p e below C T' (mkF m pc' L (v.toList ++ st))) : own_Go p e below C T (mkF m pc L (A.reverse ++ .ref a :: st)) := by
  have hsz0 := own_le W
  have hsz : s.heap.size ≤ h.size := hsz0
  obtain ⟨⟨hx, hby, hml, hown, hnm, hrt, hlk, hZ⟩, locs, X, eT, N⟩ := W
  subst hp
  obtain ⟨v, vm₁, ⟨T', L', k', n'⟩, -, X', hS', hg', ⟨Lc', hQ', l', y', z', hCR'⟩, st'⟩ := X.specialBackS hx (y := yc) hi hown (mvT hZ wl) (mvT hZ wst) (mvT hZ wc) hy (backOfSH (s := s) (Q := fun v h' L => (∀ y ∈ L, y.base ∈ wc' ∨ h.size ≤ y.base) ∧ Keep h h' wc' ∧ Q v h') (W := wt) hM hZ wc wz hf hlo hEL CR.1) (g := mkF m pc L (A.reverse ++ .ref a :: st)) rfl (by rw [hml]; exact hL) (Steps.refl _) (a := a) (argsL := A) (rest := st) (lenOf hds hA) rfl (by show 2 * 0 + _ ≤ _; omega) (hb hby hd) (fun _ _ => ⟨rfl, eT, hc, hs⟩)
  dsimp only [Pt.U, Pt.locs, Pt.cells, Pt.slots] at X' l' y' z' st' hQ' hS' hg' hCR'
  subst l' y' z'
  exact own_tr st' (k T'.vm _ T' _ v (foldS hS (by rw [eT]; exact hk) hS' hg') (Nat.le_refl _) ⟨⟨hx, hby, hml, (by rw [show (s.setVm T'.vm).vm = T'.vm from rfl, hS'.1.alike.findClass]; exact hown), hnm, hrt, hlk, State.Warmed39.trans (t := s.setVm vm0) hZ hS'.1⟩, _, X', rfl, own_Fw_app N hQ'.1 hws hsz⟩ hQ'.2.1 (CR.trans hCR') hQ'.2.2)
theorem own_callSH (W : own_W p l e R (s.setVm vm0) m args below meth c Z y ret code ml ws T h cells slots) {i : Nat} {yc : MethodName} {bytes : ByteArray} {maxL : Nat} {rt : Option FieldType} {rm : Room} {Q : Option Value → Heap → Prop} {ps : List FieldType} {rr : Option FieldType} {wc' : List Addr} {k0 : Nat} (A : List Value) (wt : Nat) {pc : Nat} (pc' : Nat) {L : Array Slot} {st : List Value} (hd : decode code pc = .ok (.invokestatic i, 3)) (wl : (Jvm.Cond.methodLink y.cls i yc).before a0 Z = true) (wst : (Jvm.Cond.static yc).before a0 Z = true) (wz : (Jvm.Cond.initialized yc.cls).before a0 Z = true) (wc : (Jvm.Cond.code yc bytes maxL rt).before a0 Z = true) (hy : yc.cls ≠ "java/lang/invoke/MethodHandle" ∧ yc.cls ≠ "java/lang/invoke/VarHandle") (hEL : EW Z a0 EL) (hS : s.Since vm0 k0) (hk : k0 ≤ h.size) (CR : CHr Z EL s.vm s.heap vm0 h) (hM : own_MH l Z EL [] yc bytes maxL rt rm wc' A.toArray h Q) (hws : ∀ b ∈ wc', b ∈ ws ∨ s.heap.size ≤ b) (hL : L.size = ml) (hds : parseMethodDescriptor yc.desc = some ⟨ps, rr⟩) (hA : A.length = ps.length) (hwt : (st.map fun v => v.category).sum ≤ wt) (hf : rm.frames + 1 ≤ R.frames) (hlo : wt + (maxL + 11) + rm.locals ≤ R.locals) (hc : cells + rm.cells ≤ R.cells) (hs : slots + rm.slots ≤ R.slots) (hp : pc + 3 = pc') (k : ∀ vm1 n1 T' h' v, s.Since vm1 n1 → n1 ≤ h'.size → own_W p l e R (s.setVm vm1) m args below meth c Z y ret code ml ws T' h' (cells + rm.cells) (slots + rm.slots) → Keep h h' wc' → CHr Z EL s.vm s.heap vm1 h' → Q v h' → own_Go p e below C T' (mkF m pc' L (v.toList ++ st))) : own_Go p e below C T (mkF m pc L (A.reverse ++ st)) := by
  have hsz0 := own_le W
  have hsz : s.heap.size ≤ h.size := hsz0
  obtain ⟨⟨hx, hby, hml, hown, hnm, hrt, hlk, hZ⟩, locs, X, eT, N⟩ := W
  subst hp
  obtain ⟨v, vm₁, ⟨T', L', k', n'⟩, -, X', hS', hg', ⟨Lc', hQ', l', y', z', hCR'⟩, st'⟩ := callSS X hx (y := yc) hown (mvT hZ wl) (mvT hZ wst) (mvT hZ wz) (mvT hZ wc) hy (backOfSH (s := s) (Q := fun v h' L => (∀ y ∈ L, y.base ∈ wc' ∨ h.size ≤ y.base) ∧ Keep h h' wc' ∧ Q v h') (W := wt) hM hZ wc wz hf hlo hEL CR.1) (g := mkF m pc L (A.reverse ++ st)) rfl (by rw [hml]; exact hL) (argsL := A) (rest := st) (lenOf hds hA) rfl (by show 2 * 0 + _ ≤ _; omega) (hb hby hd) (fun _ _ => ⟨rfl, eT, hc, hs⟩)
  dsimp only [Pt.U, Pt.locs, Pt.cells, Pt.slots] at X' l' y' z' st' hQ' hS' hg' hCR'
  subst l' y' z'
  exact own_tr st' (k T'.vm _ T' _ v (foldS hS (by rw [eT]; exact hk) hS' hg') (Nat.le_refl _) ⟨⟨hx, hby, hml, (by rw [show (s.setVm T'.vm).vm = T'.vm from rfl, hS'.1.alike.findClass]; exact hown), hnm, hrt, hlk, State.Warmed39.trans (t := s.setVm vm0) hZ hS'.1⟩, _, X', rfl, own_Fw_app N hQ'.1 hws hsz⟩ hQ'.2.1 (CR.trans hCR') hQ'.2.2)
end OwnHeld
theorem own_strs {a0 : Array Value} {Z : State} (hw : ∀ d ∈ tables_1, d.before a0 Z = true) : ∀ a ∈ Bundle.stringAtoms, a.before a0 Z = true := by
  intro a ha
  simp only [Bundle.stringAtoms, List.mem_cons, List.not_mem_nil, or_false] at ha
  rcases ha with rfl | rfl | rfl | rfl | rfl | rfl | rfl
  · exact hw _ (List.mem_of_getElem? (i := 1) rfl)
  · exact hw _ (List.mem_of_getElem? (i := 2) rfl)
  · exact hw _ (List.mem_of_getElem? (i := 3) rfl)
  · exact hw _ (List.mem_of_getElem? (i := 4) rfl)
  · exact hw _ (List.mem_of_getElem? (i := 5) rfl)
  · exact hw _ (List.mem_of_getElem? (i := 6) rfl)
  · exact hw _ (List.mem_of_getElem? (i := 7) rfl)
def own_EL : List (String × Nat) := [("com/example/aeneas/aeneas/SideWithLabelPinLaw", 7), ("com/example/aeneas/aeneas/SideWithLabelPinLaw", 9), ("com/example/aeneas/aeneas/SideWithLabelPinLaw", 11), ("java/lang/String", 7)]
theorem own_ew {a0 : Array Value} {Z : State} (hw : ∀ d ∈ tables_1, d.before a0 Z = true) : EW Z a0 own_EL := (EW.cons (wd0 hw) (by decide) (EW.cons (wd106 hw) (by decide) (EW.cons (wd107 hw) (by decide) (EW.cons (wd108 hw) (by decide) EW.nil))))
theorem ef_m11e (m : MethodId) (x0 : Addr) (x1 : Addr) (x2 : Int32) (x3 : Int32) : entryFrame m #[(.ref x0), (.ref x1), (.int x2), (.int x3), .null] 6 = mkF m 0 #[.val (.ref x0), .val (.ref x1), .val (.int x2), .val (.int x3), .val .null, .unset] [] := by first | (simp [entryFrame, mkF, argsToLocals, Value.category]; done) | rfl
set_option maxRecDepth 65536 in
set_option maxHeartbeats 40000000 in
theorem own_m11e (l : Launch) (Z : State) (a0 : Array Value) (hw : ∀ d ∈ tables_1, d.before a0 Z = true) (wo : List Jvm.Cond) (h0 : Heap) (a1 : Addr) (a2 : Addr) (X_a1 : Exa Z h0 a1 "java/lang/String") (F_value_a1 : Fld Z h0 a1 "java/lang/String" "value" "[B" .null) (F_coder_a1 : Fld Z h0 a1 "java/lang/String" "coder" "B" (.int (0 : Int32))) :
    own_MH l Z own_EL wo (⟨"java/lang/String", "<init>", "([CIILjava/lang/Void;)V"⟩ : MethodName) jdk_42_method_149_code 6 none ({ frames := 1, cells := 4, slots := 136, locals := 12 } : Room) [a1] #[(.ref a1), (.ref a2), (.int (0 : Int32)), (.int (0 : Int32)), .null] h0 (fun v h => v = none ∧ (∃ (b : Addr) (gb : Nat → Int32), Fld Z h a1 "java/lang/String" "value" "[B" (.ref b) ∧ Fld Z h a1 "java/lang/String" "coder" "B" (.int (0 : Int32)) ∧ own_A Z h b .byte 0 (fun j => .int (gb j)))) := by
  refine own_bodyH (own_ew hw) (plainFor_of_name pn_11) (fun m => ef_m11e m a1 a2 (0 : Int32) (0 : Int32)) ?_
  intro p e s m below meth c C hC T0 W0 eH0 CH0
  have HS := (State.WarmedH.refl s).since 0
  have HK : 0 ≤ h0.size := Nat.zero_le _
  have CR : CHr Z own_EL s.vm s.heap s.vm h0 := by rw [eH0]; exact CHr.refl CH0
  refine own_aloadN W0 1 d11_0 rfl rfl rfl ?_
  refine own_initO W0 0 4 d11_1 (wd59 hw) (wd60 hw) (wd61 hw) rfl (Nat.le_of_eq rfl) (by decide) (by decide) rfl ?_
  intro T1 W1
  show own_Go p e below C T1 (mkF m 4 #[.val (.ref a1), .val (.ref a2), .val (.int (0 : Int32)), .val (.int (0 : Int32)), .val .null, .unset] [])
  refine own_iloadN W1 5 d11_4 rfl rfl ?_
  refine own_ifN W1 8 d11_5 ((if0 _ _).trans (teq (rfl : (0 : Int32) = (0 : Int32))).2) rfl ?_
  refine own_aloadN W1 9 d11_8 rfl rfl rfl ?_
  have Sf0 : Safe Z own_EL s.vm s.heap a1 := own_safeN (W0.1.2.2.2.2.2.2.2).alike (by rw [eH0]; exact X_a1) (by rw [eH0]; exact F_value_a1)
  have hlt0 : a1 < s.heap.size := by rw [eH0]; exact X_a1.lt
  refine own_ldcCH (s := s) (vm0 := s.vm) (EL := own_EL) W1 64 0 (fun _ => 0) 11 d11_9 (wd108 hw) (own_strs hw) (own_ew hw) (List.mem_of_getElem? (i := 3) rfl) HS HK CR ⟨by decide, rfl⟩ (by decide) (by decide) (by decide) (by decide) (by decide) rfl ?_
  intro vm2 n2 T2 h2 c1 d1 HS HK W2 E2 CR X_c1 F_value_c1 F_coder_c1 V_d1 SF2
  have X_a1 := X_a1.ext E2
  have F_value_a1 := F_value_a1.ext E2
  have F_coder_a1 := F_coder_a1.ext E2
  show own_Go p e below C T2 (mkF m 11 #[.val (.ref a1), .val (.ref a2), .val (.int (0 : Int32)), .val (.int (0 : Int32)), .val .null, .unset] [(.ref c1), (.ref a1)])
  have Sf_a1 : Safe Z own_EL vm2 h2 a1 := CR.safe hlt0 Sf0
  obtain ⟨ne_a1_c1, ne_a1_d1⟩ := SF2 a1 Sf_a1
  refine own_getfield W2 14 d11_11 (wd22 hw) F_value_c1 rfl ?_
  intro T3 W3
  show own_Go p e below C T3 (mkF m 14 #[.val (.ref a1), .val (.ref a2), .val (.int (0 : Int32)), .val (.int (0 : Int32)), .val .null, .unset] [(.ref d1), (.ref a1)])
  refine own_putfield W3 (.ref d1) 17 d11_14 (wd22 hw) F_value_a1 X_a1 (Or.inr ⟨(wd4 hw), rfl, rfl⟩) (wd2 hw) (Or.inl (List.mem_of_getElem? (i := 0) rfl)) (ty := (.array .byte)) (by decide) rfl rfl rfl ?_
  intro T4 h4 W4 Wr4 F_value_a1
  have X_a1 := X_a1.wr Wr4
  have F_coder_a1 := F_coder_a1.other Wr4 (Or.inr (slot_ne (Or.inr (wd5 hw)) (Or.inr (wd4 hw)) (by decide) (t := .byte) (t' := (.array .byte)) (by decide) (by decide)))
  have HK := Nat.le_trans HK (Nat.le_of_eq Wr4.size.symm)
  have CR := CR.trans (CHr.wr Wr4 Sf_a1 CR.1)
  have X_c1 := X_c1.wr Wr4
  have F_value_c1 := F_value_c1.other Wr4 (Or.inl (Ne.symm ne_a1_c1))
  have F_coder_c1 := F_coder_c1.other Wr4 (Or.inl (Ne.symm ne_a1_c1))
  have V_d1 := V_d1.other Wr4 (Ne.symm ne_a1_d1)
  show own_Go p e below C T4 (mkF m 17 #[.val (.ref a1), .val (.ref a2), .val (.int (0 : Int32)), .val (.int (0 : Int32)), .val .null, .unset] [])
  refine own_aloadN W4 18 d11_17 rfl rfl rfl ?_
  refine own_ldcCH (s := s) (vm0 := vm2) (EL := own_EL) W4 64 0 (fun _ => 0) 20 d11_18 (wd108 hw) (own_strs hw) (own_ew hw) (List.mem_of_getElem? (i := 3) rfl) HS HK CR ⟨by decide, rfl⟩ (by decide) (by decide) (by decide) (by decide) (by decide) rfl ?_
  intro vm5 n5 T5 h5 c2 d2 HS HK W5 E5 CR X_c2 F_value_c2 F_coder_c2 V_d2 SF5
  have X_a1 := X_a1.ext E5
  have F_value_a1 := F_value_a1.ext E5
  have F_coder_a1 := F_coder_a1.ext E5
  have X_c1 := X_c1.ext E5
  have F_value_c1 := F_value_c1.ext E5
  have F_coder_c1 := F_coder_c1.ext E5
  have V_d1 := V_d1.ext E5
  show own_Go p e below C T5 (mkF m 20 #[.val (.ref a1), .val (.ref a2), .val (.int (0 : Int32)), .val (.int (0 : Int32)), .val .null, .unset] [(.ref c2), (.ref a1)])
  have Sf_a1 : Safe Z own_EL vm5 h5 a1 := CR.safe hlt0 Sf0
  obtain ⟨ne_a1_c2, ne_a1_d2⟩ := SF5 a1 Sf_a1
  refine own_getfield W5 23 d11_20 (wd29 hw) F_coder_c2 rfl ?_
  intro T6 W6
  show own_Go p e below C T6 (mkF m 23 #[.val (.ref a1), .val (.ref a2), .val (.int (0 : Int32)), .val (.int (0 : Int32)), .val .null, .unset] [(.int (0 : Int32)), (.ref a1)])
  refine own_putfield W6 (.int (0 : Int32)) 26 d11_23 (wd29 hw) F_coder_a1 X_a1 (Or.inr ⟨(wd5 hw), rfl, rfl⟩) (wd2 hw) (Or.inl (List.mem_of_getElem? (i := 0) rfl)) (ty := .byte) (by decide) rfl rfl rfl ?_
  intro T7 h7 W7 Wr7 F_coder_a1
  have X_a1 := X_a1.wr Wr7
  have F_value_a1 := F_value_a1.other Wr7 (Or.inr (slot_ne (Or.inr (wd4 hw)) (Or.inr (wd5 hw)) (by decide) (t := (.array .byte)) (t' := .byte) (by decide) (by decide)))
  have X_c1 := X_c1.wr Wr7
  have F_value_c1 := F_value_c1.other Wr7 (Or.inl (Ne.symm ne_a1_c1))
  have F_coder_c1 := F_coder_c1.other Wr7 (Or.inl (Ne.symm ne_a1_c1))
  have V_d1 := V_d1.other Wr7 (Ne.symm ne_a1_d1)
  have HK := Nat.le_trans HK (Nat.le_of_eq Wr7.size.symm)
  have CR := CR.trans (CHr.wr Wr7 Sf_a1 CR.1)
  have X_c2 := X_c2.wr Wr7
  have F_value_c2 := F_value_c2.other Wr7 (Or.inl (Ne.symm ne_a1_c2))
  have F_coder_c2 := F_coder_c2.other Wr7 (Or.inl (Ne.symm ne_a1_c2))
  have V_d2 := V_d2.other Wr7 (Ne.symm ne_a1_d2)
  show own_Go p e below C T7 (mkF m 26 #[.val (.ref a1), .val (.ref a2), .val (.int (0 : Int32)), .val (.int (0 : Int32)), .val .null, .unset] [])
  have hC8 : ∀ v L u, own_Fw (s.setVm vm5) [a1] L → ((v = none ∧ (∃ (b : Addr) (gb : Nat → Int32), Fld Z u.heap a1 "java/lang/String" "value" "[B" (.ref b) ∧ Fld Z u.heap a1 "java/lang/String" "coder" "B" (.int (0 : Int32)) ∧ own_A Z u.heap b .byte 0 (fun j => .int (gb j)))) ∧ n5 ≤ u.heap.size ∧ CHr Z own_EL s.vm s.heap vm5 u.heap) → FrameEnd (s.setVm vm5) (.returned v) u L ({ frames := 1, cells := 4, slots := 136, locals := 12 } : Room).cells ({ frames := 1, cells := 4, slots := 136, locals := 12 } : Room).slots → C (.returned v) u := fun v L u q1 q2 q3 => hC v L u vm5 n5 HS q2.2.1 W7.1.2.2.2.2.2.2.2 q2.2.2 q1 q2.1 q3
  refine own_retV (Q := fun v h => (v = none ∧ (∃ (b : Addr) (gb : Nat → Int32), Fld Z h a1 "java/lang/String" "value" "[B" (.ref b) ∧ Fld Z h a1 "java/lang/String" "coder" "B" (.int (0 : Int32)) ∧ own_A Z h b .byte 0 (fun j => .int (gb j)))) ∧ n5 ≤ h.size ∧ CHr Z own_EL s.vm s.heap vm5 h) W7 hC8 (by decide) (by decide) d11_26 ?_
  exact ⟨⟨rfl, ⟨d1, (fun _ => 0), F_value_a1, F_coder_a1, V_d1⟩⟩, HK, CR⟩
theorem ef_m10e (m : MethodId) (x0 : Addr) (x1 : Addr) : entryFrame m #[(.ref x0), (.ref x1)] 2 = mkF m 0 #[.val (.ref x0), .val (.ref x1)] [] := by first | (simp [entryFrame, mkF, argsToLocals, Value.category]; done) | rfl
set_option maxRecDepth 65536 in
set_option maxHeartbeats 40000000 in
theorem own_m10e (l : Launch) (Z : State) (a0 : Array Value) (hw : ∀ d ∈ tables_1, d.before a0 Z = true) (wo : List Jvm.Cond) (h0 : Heap) (a1 : Addr) (a2 : Addr) (X_a1 : Exa Z h0 a1 "java/lang/String") (F_value_a1 : Fld Z h0 a1 "java/lang/String" "value" "[B" .null) (F_coder_a1 : Fld Z h0 a1 "java/lang/String" "coder" "B" (.int (0 : Int32))) (V_a2 : own_A Z h0 a2 .char 0 (fun _ => .int 0)) :
    own_MH l Z own_EL wo (⟨"java/lang/String", "<init>", "([C)V"⟩ : MethodName) jdk_42_method_3_code 2 none ({ frames := 2, cells := 4, slots := 136, locals := 29 } : Room) [a1] #[(.ref a1), (.ref a2)] h0 (fun v h => v = none ∧ (∃ (b : Addr) (gb : Nat → Int32), Fld Z h a1 "java/lang/String" "value" "[B" (.ref b) ∧ Fld Z h a1 "java/lang/String" "coder" "B" (.int (0 : Int32)) ∧ own_A Z h b .byte 0 (fun j => .int (gb j)))) := by
  refine own_bodyH (own_ew hw) (plainFor_of_name pn_10) (fun m => ef_m10e m a1 a2) ?_
  intro p e s m below meth c C hC T0 W0 eH0 CH0
  have HS := (State.WarmedH.refl s).since 0
  have HK : 0 ≤ h0.size := Nat.zero_le _
  have CR : CHr Z own_EL s.vm s.heap s.vm h0 := by rw [eH0]; exact CHr.refl CH0
  refine own_aloadN W0 1 d10_0 rfl rfl rfl ?_
  refine own_aloadN W0 2 d10_1 rfl rfl rfl ?_
  refine own_iconst W0 (0 : Int32) 3 d10_2 rfl rfl ?_
  refine own_aloadN W0 4 d10_3 rfl rfl rfl ?_
  refine own_arraylength W0 (0 : Int32) 5 d10_4 V_a2 rfl rfl ?_
  refine own_aconst_null W0 6 d10_5 rfl ?_
  refine own_callNH (s := s) (vm0 := s.vm) (EL := own_EL) W0 (A := [(.ref a2), (.int (0 : Int32)), (.int (0 : Int32)), .null]) (wt := 0) (pc' := 9) (st := []) d10_6 rfl (wd55 hw) (wd56 hw) (wd1 hw) (wd58 hw) (by decide) (own_ew hw) HS HK CR (own_m11e l Z a0 hw [] h0 a1 a2 X_a1 F_value_a1 F_coder_a1) (allS (Or.inl (List.mem_of_getElem? (i := 0) rfl)) all0) rfl pd_10 rfl (Nat.le_of_eq rfl) (by decide) (by decide) (by decide) (by decide) rfl ?_
  rintro vm1 n1 T1 h1 _ HS HK W1 K1 CR ⟨rfl, ⟨b, gb, F_value_a1, F_coder_a1, V_b⟩⟩
  have X_a1 := X_a1.keep K1
  show own_Go p e below C T1 (mkF m 9 #[.val (.ref a1), .val (.ref a2)] [])
  have hC2 : ∀ v L u, own_Fw (s.setVm vm1) [a1] L → ((v = none ∧ (∃ (b : Addr) (gb : Nat → Int32), Fld Z u.heap a1 "java/lang/String" "value" "[B" (.ref b) ∧ Fld Z u.heap a1 "java/lang/String" "coder" "B" (.int (0 : Int32)) ∧ own_A Z u.heap b .byte 0 (fun j => .int (gb j)))) ∧ n1 ≤ u.heap.size ∧ CHr Z own_EL s.vm s.heap vm1 u.heap) → FrameEnd (s.setVm vm1) (.returned v) u L ({ frames := 2, cells := 4, slots := 136, locals := 29 } : Room).cells ({ frames := 2, cells := 4, slots := 136, locals := 29 } : Room).slots → C (.returned v) u := fun v L u q1 q2 q3 => hC v L u vm1 n1 HS q2.2.1 W1.1.2.2.2.2.2.2.2 q2.2.2 q1 q2.1 q3
  refine own_retV (Q := fun v h => (v = none ∧ (∃ (b : Addr) (gb : Nat → Int32), Fld Z h a1 "java/lang/String" "value" "[B" (.ref b) ∧ Fld Z h a1 "java/lang/String" "coder" "B" (.int (0 : Int32)) ∧ own_A Z h b .byte 0 (fun j => .int (gb j)))) ∧ n1 ≤ h.size ∧ CHr Z own_EL s.vm s.heap vm1 h) W1 hC2 (by decide) (by decide) d10_9 ?_
  exact ⟨⟨rfl, ⟨b, gb, F_value_a1, F_coder_a1, V_b⟩⟩, HK, CR⟩
theorem ef_m1e (m : MethodId) (x0 : Int32) (x1 : Addr) (x2 : Int32) (x3 : Int32) : entryFrame m #[(.int x0), (.ref x1), (.int x2), (.int x3)] 4 = mkF m 0 #[.val (.int x0), .val (.ref x1), .val (.int x2), .val (.int x3)] [] := by first | (simp [entryFrame, mkF, argsToLocals, Value.category]; done) | rfl
set_option maxRecDepth 65536 in
set_option maxHeartbeats 40000000 in
theorem own_m1e (l : Launch) (Z : State) (a0 : Array Value) (hw : ∀ d ∈ tables_1, d.before a0 Z = true) (wo : List Jvm.Cond) (h0 : Heap) (a2 : Addr) (p3 : Int32) (p4 : Int32) :
    own_MH l Z own_EL wo (⟨"com/example/aeneas/aeneas/SideWithLabelPinLaw", "make", "(ILjava/lang/String;IC)Ljava/lang/String;"⟩ : MethodName) method_4_code 4 (some (.object "java/lang/String")) ({ frames := 5, cells := 6, slots := 160, locals := 110 } : Room) [] #[(.int (0 : Int32)), (.ref a2), (.int p3), (.int p4)] h0 (fun v h => ∃ (so b : Addr) (gb : Nat → Int32), v = some (.ref so) ∧ h0.size ≤ so ∧ Exa Z h so "java/lang/String" ∧ Fld Z h so "java/lang/String" "value" "[B" (.ref b) ∧ Fld Z h so "java/lang/String" "coder" "B" (.int (0 : Int32)) ∧ own_A Z h b .byte 0 (fun j => .int (gb j))) := by
  refine own_bodyH (own_ew hw) (plainFor_of_name pn_1) (fun m => ef_m1e m (0 : Int32) a2 p3 p4) ?_
  intro p e s m below meth c C hC T0 W0 eH0 CH0
  have HS := (State.WarmedH.refl s).since 0
  have HK : 0 ≤ h0.size := Nat.zero_le _
  have CR : CHr Z own_EL s.vm s.heap s.vm h0 := by rw [eH0]; exact CHr.refl CH0
  refine own_iloadN W0 1 d1_0 rfl rfl ?_
  refine own_ifN W0 4 d1_1 ((if0 _ _).trans (teq (rfl : (0 : Int32) = (0 : Int32))).2) rfl ?_
  refine own_new W0 7 d1_4 (wd12 hw) (wd2 hw) (wd1 hw) (by decide) (by decide) rfl ?_
  intro T1 h1 so W1 E1 g_so o_so X_so D_so
  have HK := Nat.le_trans HK E1.1
  have CR := CR.trans (CHr.ext E1 CR.1)
  have F_value_so : Fld Z h1 so "java/lang/String" "value" "[B" .null := D_so (Or.inr (wd4 hw)) (ty := (.array .byte)) (by decide)
  have F_coder_so : Fld Z h1 so "java/lang/String" "coder" "B" (.int (0 : Int32)) := D_so (Or.inr (wd5 hw)) (ty := .byte) (by decide)
  show own_Go p e below C T1 (mkF m 7 #[.val (.int (0 : Int32)), .val (.ref a2), .val (.int p3), .val (.int p4)] [(.ref so)])
  refine own_dup W1 8 d1_7 rfl rfl ?_
  refine own_iconst W1 (0 : Int32) 9 d1_8 rfl rfl ?_
  refine own_newarray W1 0 0 11 d1_9 (wd13 hw) rfl (Nat.le_refl _) (by decide) (by decide) (by decide) rfl ?_
  intro T2 h2 ch W2 E2 g_ch o_ch V_ch
  have ne_so_ch : so ≠ ch := by rw [g_ch]; exact Nat.ne_of_lt X_so.lt
  have HK := Nat.le_trans HK E2.1
  have CR := CR.trans (CHr.ext E2 CR.1)
  have X_so := X_so.ext E2
  have F_value_so := F_value_so.ext E2
  have F_coder_so := F_coder_so.ext E2
  show own_Go p e below C T2 (mkF m 11 #[.val (.int (0 : Int32)), .val (.ref a2), .val (.int p3), .val (.int p4)] [(.ref ch), (.ref so), (.ref so)])
  have hsH := own_le W2
  refine own_callNH (s := s) (vm0 := s.vm) (EL := own_EL) W2 (A := [(.ref ch)]) (wt := 1) (pc' := 14) (st := [(.ref so)]) d1_11 rfl (wd52 hw) (wd53 hw) (wd1 hw) (wd54 hw) (by decide) (own_ew hw) HS HK CR (own_m10e l Z a0 hw [] h2 so ch X_so F_value_so F_coder_so V_ch) (allS (Or.inr o_so) all0) rfl pd_15 rfl (Nat.le_of_eq rfl) (by decide) (by decide) (by decide) (by decide) rfl ?_
  rintro vm3 n3 T3 h3 _ HS HK W3 K3 CR ⟨rfl, ⟨b, gb, F_value_so, F_coder_so, V_b⟩⟩
  have X_so := X_so.keep K3
  show own_Go p e below C T3 (mkF m 14 #[.val (.int (0 : Int32)), .val (.ref a2), .val (.int p3), .val (.int p4)] [(.ref so)])
  have hC4 : ∀ v L u, own_Fw (s.setVm vm3) [] L → ((∃ (so b : Addr) (gb : Nat → Int32), v = some (.ref so) ∧ h0.size ≤ so ∧ Exa Z u.heap so "java/lang/String" ∧ Fld Z u.heap so "java/lang/String" "value" "[B" (.ref b) ∧ Fld Z u.heap so "java/lang/String" "coder" "B" (.int (0 : Int32)) ∧ own_A Z u.heap b .byte 0 (fun j => .int (gb j))) ∧ n3 ≤ u.heap.size ∧ CHr Z own_EL s.vm s.heap vm3 u.heap) → FrameEnd (s.setVm vm3) (.returned v) u L ({ frames := 5, cells := 6, slots := 160, locals := 110 } : Room).cells ({ frames := 5, cells := 6, slots := 160, locals := 110 } : Room).slots → C (.returned v) u := fun v L u q1 q2 q3 => hC v L u vm3 n3 HS q2.2.1 W3.1.2.2.2.2.2.2.2 q2.2.2 q1 q2.1 q3
  refine own_retA (Q := fun v h => (∃ (so b : Addr) (gb : Nat → Int32), v = some (.ref so) ∧ h0.size ≤ so ∧ Exa Z h so "java/lang/String" ∧ Fld Z h so "java/lang/String" "value" "[B" (.ref b) ∧ Fld Z h so "java/lang/String" "coder" "B" (.int (0 : Int32)) ∧ own_A Z h b .byte 0 (fun j => .int (gb j))) ∧ n3 ≤ h.size ∧ CHr Z own_EL s.vm s.heap vm3 h) W3 hC4 (by decide) (by decide) rfl rfl d1_14 rfl ?_
  exact ⟨⟨so, b, gb, rfl, by rw [← eH0]; exact o_so, X_so, F_value_so, F_coder_so, V_b⟩, HK, CR⟩
def own_g0 : Nat → Int32 := fun j => if j = 0 then 99 else if j = 1 then 108 else if j = 2 then 105 else if j = 3 then 101 else if j = 4 then 110 else 116
def own_g1 : Nat → Int32 := fun j => if j = 0 then 97 else if j = 1 then 103 else if j = 2 then 101 else if j = 3 then 110 else 116
def own_g2 : Nat → Int32 := fun j => if j = 0 then 97 else if j = 1 then 101 else if j = 2 then 110 else if j = 3 then 101 else if j = 4 then 97 else 115
theorem own_strsame {Z : State} {h : Heap} {a a' b b' : Addr} {n n' : Nat} {g g' : Nat → Int32} (q : a = a') (F : Fld Z h a "java/lang/String" "value" "[B" (.ref b)) (F' : Fld Z h a' "java/lang/String" "value" "[B" (.ref b')) (V : own_A Z h b .byte n (fun j => .int (g j))) (V' : own_A Z h b' .byte n' (fun j => .int (g' j))) : own_eqs n g n' g' = 1 := by
  subst q
  have e : b = b' := by
    obtain ⟨c1, _, _, _, _, h1, h2, -, -, -, -, h7⟩ := F
    obtain ⟨c2, _, _, _, _, g1, g2, -, -, -, -, g7⟩ := F'
    cases h1.symm.trans g1
    cases h2.symm.trans g2
    exact Value.ref.inj (Option.some.inj (h7.symm.trans g7))
  subst e
  obtain ⟨c1, A1, s1, f1⟩ := V
  obtain ⟨c2, A2, s2, f2⟩ := V'
  cases A1.1.symm.trans A2.1
  have en : n = n' := s1.symm.trans s2
  subst en
  rw [own_eqsc (g2 := g') (fun j hj => Value.int.inj (Option.some.inj ((f1 j hj).symm.trans (f2 j hj))))]
  exact own_eqsself n g'
theorem own_m7b (u : Int32) : ∃ k : Nat, (u &&& (7 : Int32)).toInt = (k : Int) ∧ k < 8 := by
  have h1 := c_mask u 7 3 (by decide) (by decide)
  simp only [Nat.reducePow] at h1
  exact ⟨((u &&& (7 : Int32)).toInt).toNat, by omega, by omega⟩
theorem own_m3b (u : Int32) : ∃ k : Nat, (u &&& (3 : Int32)).toInt = (k : Int) ∧ k < 4 := by
  have h1 := c_mask u 3 2 (by decide) (by decide)
  simp only [Nat.reducePow] at h1
  exact ⟨((u &&& (3 : Int32)).toInt).toNat, by omega, by omega⟩
theorem own_lit32 {u : Int32} {n : Nat} (h : u.toInt = (n : Int)) (z : Int32) (hz : z.toInt = (n : Int)) : u = z := Int32.toInt_inj.mp (h.trans hz.symm)
theorem own_lt8 {n : Nat} (h : n < 8) : n = 0 ∨ n = 1 ∨ n = 2 ∨ n = 3 ∨ n = 4 ∨ n = 5 ∨ n = 6 ∨ n = 7 := by omega
set_option maxRecDepth 65536 in
set_option maxHeartbeats 40000000 in
theorem own_tail (l : Launch) (Z : State) (a0 : Array Value) (hw : ∀ d ∈ tables_1, d.before a0 Z = true) (h0 : Heap) (p1 p2 p3 p4 : Int32) (cs : Int32) (sv : Value) (va : Addr) (vf : Nat → Value) (e0 e1 e2 l0 l1 l2 m0 m1 m2 : Addr) (k0 k1 k2 : Nat → Int32) (p : Program) (e : Env) (s : State) (m : MethodId) (below : List Frame) (meth : Method) (c : Code) (C : Outcome → State → Prop) (hC : ∀ v L u vm1 n, s.Since vm1 n → n ≤ u.heap.size → Z.Warmed39 vm1 → CHr Z own_EL s.vm s.heap vm1 u.heap → own_Fw (s.setVm vm1) [] L → (v = some (.int (1 : Int32))) → FrameEnd (s.setVm vm1) (.returned v) u L room_1.cells room_1.slots → C (.returned v) u) (vm : Vm) (n0 : Nat) (T : State) (h : Heap) (so sb : Addr) (sn : Nat) (sg : Nat → Int32) (sz : Int32) (bs : Addr) (u4 u6 u7 u8 : Int32) (W : own_W p l e room_1 (s.setVm vm) m #[(.int p1), (.int p2), (.int p3), (.int p4)] below meth c Z x ret code maxLocals [] T h (0 + 2 + 6) (0 + 68 + 160)) (HS : s.Since vm n0) (HK : n0 ≤ h.size) (CR : CHr Z own_EL s.vm s.heap vm h) (S_cs : Sta Z h "java/lang/String" "COMPACT_STRINGS" "Z" (.int cs)) (S_sf : Sta Z h "jdk/internal/util/Preconditions" "SIOOBE_FORMATTER" "Ljava/util/function/BiFunction;" sv) (S_vs : Sta Z h "com/example/aeneas/aeneas/Side" "$VALUES" "[Lcom/example/aeneas/aeneas/Side;" (.ref va)) (V_va : own_A Z h va (.object "com/example/aeneas/aeneas/Side") 3 vf) (Y_va : Exa Z h va "[Lcom/example/aeneas/aeneas/Side;") (S_e0 : Sta Z h "com/example/aeneas/aeneas/Side" "CLIENT" "Lcom/example/aeneas/aeneas/Side;" (.ref e0)) (S_e1 : Sta Z h "com/example/aeneas/aeneas/Side" "AGENT" "Lcom/example/aeneas/aeneas/Side;" (.ref e1)) (S_e2 : Sta Z h "com/example/aeneas/aeneas/Side" "AENEAS" "Lcom/example/aeneas/aeneas/Side;" (.ref e2)) (F_label_e0 : Fld Z h e0 "com/example/aeneas/aeneas/Side" "label" "Ljava/lang/String;" (.ref l0)) (X_l0 : Exa Z h l0 "java/lang/String") (F_value_l0 : Fld Z h l0 "java/lang/String" "value" "[B" (.ref m0)) (F_coder_l0 : Fld Z h l0 "java/lang/String" "coder" "B" (.int (0 : Int32))) (V_m0 : own_A Z h m0 .byte 6 (fun j => .int (k0 j))) (F_label_e1 : Fld Z h e1 "com/example/aeneas/aeneas/Side" "label" "Ljava/lang/String;" (.ref l1)) (X_l1 : Exa Z h l1 "java/lang/String") (F_value_l1 : Fld Z h l1 "java/lang/String" "value" "[B" (.ref m1)) (F_coder_l1 : Fld Z h l1 "java/lang/String" "coder" "B" (.int (0 : Int32))) (V_m1 : own_A Z h m1 .byte 5 (fun j => .int (k1 j))) (F_label_e2 : Fld Z h e2 "com/example/aeneas/aeneas/Side" "label" "Ljava/lang/String;" (.ref l2)) (X_l2 : Exa Z h l2 "java/lang/String") (F_value_l2 : Fld Z h l2 "java/lang/String" "value" "[B" (.ref m2)) (F_coder_l2 : Fld Z h l2 "java/lang/String" "coder" "B" (.int (0 : Int32))) (V_m2 : own_A Z h m2 .byte 6 (fun j => .int (k2 j))) (X_so : Exa Z h so "java/lang/String") (F_value_so : Fld Z h so "java/lang/String" "value" "[B" (.ref sb)) (F_coder_so : Fld Z h so "java/lang/String" "coder" "B" (.int (0 : Int32))) (V_sb : own_A Z h sb .byte sn (fun j => .int (sg j))) (hcs : ¬ cs = (0 : Int32)) (hsv : sv.isRef = true) (hv0 : vf 0 = .ref e0) (hv1 : vf 1 = .ref e1) (hv2 : vf 2 = .ref e2) (hk0 : ∀ j, j < 6 → own_g0 j = k0 j) (hk1 : ∀ j, j < 5 → own_g1 j = k1 j) (hk2 : ∀ j, j < 6 → own_g2 j = k2 j) (hz : sn.toInt32 = sz) (hzn : sz.toInt = (sn : Int)) (hs0 : l0 = so → own_eqs 6 k0 sn sg = 1) (hs1 : l1 = so → own_eqs 5 k1 sn sg = 1) (hs2 : l2 = so → own_eqs 6 k2 sn sg = 1) :
    own_Go p e below C T (mkF m 71 #[.val (.int p1), .val (.int p2), .val (.int p3), .val (.int p4), .val (.int u4), .val (.ref bs), .val (.int u6), .val (.int u7), .val (.int u8), .unset, .unset, .unset] [(.ref so)]) := by
  refine own_astore W 73 #[.val (.int p1), .val (.int p2), .val (.int p3), .val (.int p4), .val (.int u4), .val (.ref bs), .val (.int u6), .val (.int u7), .val (.int u8), .val (.ref so), .unset, .unset] at_71 rfl rfl rfl ?_
  refine own_aload W 75 at_73 rfl rfl rfl ?_
  refine own_callS W (A := [(.ref so)]) (wt := 0) (pc' := 78) (st := []) at_75 (wd72 hw) (wd73 hw) (wd74 hw) (wd75 hw) (by decide) (own_m16 l Z a0 hw [] h so cs va vf e0 e1 e2 l0 l1 l2 m0 m1 m2 k0 k1 k2 sb sn sg sz S_cs S_vs V_va Y_va F_label_e0 X_l0 F_value_l0 F_coder_l0 V_m0 F_label_e1 X_l1 F_value_l1 F_coder_l1 V_m1 F_label_e2 X_l2 F_value_l2 F_coder_l2 V_m2 X_so F_value_so F_coder_so V_sb hcs hv0 hv1 hv2 hz hzn hs0 hs1 hs2) all0 rfl pd_17 rfl (Nat.le_of_eq rfl) (by decide) (by decide) (by decide) (by decide) rfl ?_
  rintro T1 h1 _ W1 K1 P1 rfl
  have S_cs := own_staK0 S_cs K1
  have S_sf := own_staK0 S_sf K1
  have S_vs := own_staK0 S_vs K1
  have V_va := V_va.keep K1 nin0
  have Y_va := Y_va.keep K1
  have S_e0 := own_staK0 S_e0 K1
  have S_e1 := own_staK0 S_e1 K1
  have S_e2 := own_staK0 S_e2 K1
  have F_label_e0 := F_label_e0.keep K1 nin0
  have X_l0 := X_l0.keep K1
  have F_value_l0 := F_value_l0.keep K1 nin0
  have F_coder_l0 := F_coder_l0.keep K1 nin0
  have V_m0 := V_m0.keep K1 nin0
  have F_label_e1 := F_label_e1.keep K1 nin0
  have X_l1 := X_l1.keep K1
  have F_value_l1 := F_value_l1.keep K1 nin0
  have F_coder_l1 := F_coder_l1.keep K1 nin0
  have V_m1 := V_m1.keep K1 nin0
  have F_label_e2 := F_label_e2.keep K1 nin0
  have X_l2 := X_l2.keep K1
  have F_value_l2 := F_value_l2.keep K1 nin0
  have F_coder_l2 := F_coder_l2.keep K1 nin0
  have V_m2 := V_m2.keep K1 nin0
  have X_so := X_so.keep K1
  have F_value_so := F_value_so.keep K1 nin0
  have F_coder_so := F_coder_so.keep K1 nin0
  have V_sb := V_sb.keep K1 nin0
  have HK := Nat.le_trans HK K1.1
  have CR := CR.trans (CHr.keep K1 all0 CR.1)
  show own_Go p e below C T1 (mkF m 78 #[.val (.int p1), .val (.int p2), .val (.int p3), .val (.int p4), .val (.int u4), .val (.ref bs), .val (.int u6), .val (.int u7), .val (.int u8), .val (.ref so), .unset, .unset] [(if own_eqs 6 k0 sn sg = (0 : Int32) then (if own_eqs 5 k1 sn sg = (0 : Int32) then (if own_eqs 6 k2 sn sg = (0 : Int32) then .null else .ref e2) else .ref e1) else .ref e0)])
  by_cases q0 : own_eqs 6 k0 sn sg = (0 : Int32)
  · by_cases q1 : own_eqs 5 k1 sn sg = (0 : Int32)
    · by_cases q2 : own_eqs 6 k2 sn sg = (0 : Int32)
      · rw [if_pos q0, if_pos q1, if_pos q2]
        show own_Go p e below C T1 (mkF m 78 #[.val (.int p1), .val (.int p2), .val (.int p3), .val (.int p4), .val (.int u4), .val (.ref bs), .val (.int u6), .val (.int u7), .val (.int u8), .val (.ref so), .unset, .unset] [.null])
        refine own_astore W1 80 #[.val (.int p1), .val (.int p2), .val (.int p3), .val (.int p4), .val (.int u4), .val (.ref bs), .val (.int u6), .val (.int u7), .val (.int u8), .val (.ref so), .val .null, .unset] at_78 rfl rfl rfl ?_
        refine own_aconst_null W1 81 at_80 rfl ?_
        refine own_astore W1 83 #[.val (.int p1), .val (.int p2), .val (.int p3), .val (.int p4), .val (.int u4), .val (.ref bs), .val (.int u6), .val (.int u7), .val (.int u8), .val (.ref so), .val .null, .val .null] at_81 rfl rfl rfl ?_
        refine own_ldcCH (s := s) (vm0 := vm) (EL := own_EL) W1 64 6 own_g0 85 at_83 (wd0 hw) (own_strs hw) (own_ew hw) (List.mem_of_getElem? (i := 0) rfl) HS HK CR ⟨by decide, rfl⟩ (by decide) (by decide) (by decide) (by decide) (by decide) rfl ?_
        intro vm2 n2 T2 h2 c0 d0 HS HK W2 E2 CR X_c0 F_value_c0 F_coder_c0 V_d0 SF2
        have S_cs := S_cs.ext E2
        have S_sf := S_sf.ext E2
        have S_vs := S_vs.ext E2
        have V_va := V_va.ext E2
        have Y_va := Y_va.ext E2
        have S_e0 := S_e0.ext E2
        have S_e1 := S_e1.ext E2
        have S_e2 := S_e2.ext E2
        have F_label_e0 := F_label_e0.ext E2
        have X_l0 := X_l0.ext E2
        have F_value_l0 := F_value_l0.ext E2
        have F_coder_l0 := F_coder_l0.ext E2
        have V_m0 := V_m0.ext E2
        have F_label_e1 := F_label_e1.ext E2
        have X_l1 := X_l1.ext E2
        have F_value_l1 := F_value_l1.ext E2
        have F_coder_l1 := F_coder_l1.ext E2
        have V_m1 := V_m1.ext E2
        have F_label_e2 := F_label_e2.ext E2
        have X_l2 := X_l2.ext E2
        have F_value_l2 := F_value_l2.ext E2
        have F_coder_l2 := F_coder_l2.ext E2
        have V_m2 := V_m2.ext E2
        have X_so := X_so.ext E2
        have F_value_so := F_value_so.ext E2
        have F_coder_so := F_coder_so.ext E2
        have V_sb := V_sb.ext E2
        show own_Go p e below C T2 (mkF m 85 #[.val (.int p1), .val (.int p2), .val (.int p3), .val (.int p4), .val (.int u4), .val (.ref bs), .val (.int u6), .val (.int u7), .val (.int u8), .val (.ref so), .val .null, .val .null] [(.ref c0)])
        refine own_aload W2 87 at_85 rfl rfl rfl ?_
        refine own_callV W2 (A := [(.ref so)]) (wt := 0) (pc' := 90) (st := []) at_87 (wd105 hw) (wd97 hw) (own_nf W2 (wd99 hw)) (wd99 hw) (wd98 hw) (wd1 hw) (wd100 hw) (by decide) X_c0 (own_m18 l Z a0 hw [] h2 c0 so cs d0 sb 6 own_g0 sn sg (6 : Int32) sz S_cs X_c0 F_value_c0 F_coder_c0 V_d0 X_so F_value_so F_coder_so V_sb hcs rfl rfl hz hzn (by decide) (fun q => own_strsame q F_value_c0 F_value_so V_d0 V_sb)) all0 rfl pd_13 rfl (Nat.le_of_eq rfl) (by decide) (by decide) (by decide) (by decide) rfl ?_
        rintro T3 h3 _ W3 K3 P3 rfl
        rw [P3 rfl rfl] at W3
        show own_Go p e below C T3 (mkF m 90 #[.val (.int p1), .val (.int p2), .val (.int p3), .val (.int p4), .val (.int u4), .val (.ref bs), .val (.int u6), .val (.int u7), .val (.int u8), .val (.ref so), .val .null, .val .null] [(.int (own_eqs 6 own_g0 sn sg))])
        rw [show (own_eqs 6 own_g0 sn sg) = (own_eqs 6 k0 sn sg) from own_eqsc hk0]
        refine own_ifY W3 101 at_90 ((if0 _ _).trans (teq (q0 : (own_eqs 6 k0 sn sg) = (0 : Int32))).1) (by decide) (by decide) ?_
        refine own_ldcCH (s := s) (vm0 := vm2) (EL := own_EL) W3 64 5 own_g1 103 at_101 (wd106 hw) (own_strs hw) (own_ew hw) (List.mem_of_getElem? (i := 1) rfl) HS HK CR ⟨by decide, rfl⟩ (by decide) (by decide) (by decide) (by decide) (by decide) rfl ?_
        intro vm4 n4 T4 h4 c1 d1 HS HK W4 E4 CR X_c1 F_value_c1 F_coder_c1 V_d1 SF4
        have S_cs := S_cs.ext E4
        have S_sf := S_sf.ext E4
        have S_vs := S_vs.ext E4
        have V_va := V_va.ext E4
        have Y_va := Y_va.ext E4
        have S_e0 := S_e0.ext E4
        have S_e1 := S_e1.ext E4
        have S_e2 := S_e2.ext E4
        have F_label_e0 := F_label_e0.ext E4
        have X_l0 := X_l0.ext E4
        have F_value_l0 := F_value_l0.ext E4
        have F_coder_l0 := F_coder_l0.ext E4
        have V_m0 := V_m0.ext E4
        have F_label_e1 := F_label_e1.ext E4
        have X_l1 := X_l1.ext E4
        have F_value_l1 := F_value_l1.ext E4
        have F_coder_l1 := F_coder_l1.ext E4
        have V_m1 := V_m1.ext E4
        have F_label_e2 := F_label_e2.ext E4
        have X_l2 := X_l2.ext E4
        have F_value_l2 := F_value_l2.ext E4
        have F_coder_l2 := F_coder_l2.ext E4
        have V_m2 := V_m2.ext E4
        have X_so := X_so.ext E4
        have F_value_so := F_value_so.ext E4
        have F_coder_so := F_coder_so.ext E4
        have V_sb := V_sb.ext E4
        show own_Go p e below C T4 (mkF m 103 #[.val (.int p1), .val (.int p2), .val (.int p3), .val (.int p4), .val (.int u4), .val (.ref bs), .val (.int u6), .val (.int u7), .val (.int u8), .val (.ref so), .val .null, .val .null] [(.ref c1)])
        refine own_aload W4 105 at_103 rfl rfl rfl ?_
        refine own_callV W4 (A := [(.ref so)]) (wt := 0) (pc' := 108) (st := []) at_105 (wd105 hw) (wd97 hw) (own_nf W4 (wd99 hw)) (wd99 hw) (wd98 hw) (wd1 hw) (wd100 hw) (by decide) X_c1 (own_m18 l Z a0 hw [] h4 c1 so cs d1 sb 5 own_g1 sn sg (5 : Int32) sz S_cs X_c1 F_value_c1 F_coder_c1 V_d1 X_so F_value_so F_coder_so V_sb hcs rfl rfl hz hzn (by decide) (fun q => own_strsame q F_value_c1 F_value_so V_d1 V_sb)) all0 rfl pd_13 rfl (Nat.le_of_eq rfl) (by decide) (by decide) (by decide) (by decide) rfl ?_
        rintro T5 h5 _ W5 K5 P5 rfl
        rw [P5 rfl rfl] at W5
        show own_Go p e below C T5 (mkF m 108 #[.val (.int p1), .val (.int p2), .val (.int p3), .val (.int p4), .val (.int u4), .val (.ref bs), .val (.int u6), .val (.int u7), .val (.int u8), .val (.ref so), .val .null, .val .null] [(.int (own_eqs 5 own_g1 sn sg))])
        rw [show (own_eqs 5 own_g1 sn sg) = (own_eqs 5 k1 sn sg) from own_eqsc hk1]
        refine own_ifY W5 119 at_108 ((if0 _ _).trans (teq (q1 : (own_eqs 5 k1 sn sg) = (0 : Int32))).1) (by decide) (by decide) ?_
        refine own_ldcCH (s := s) (vm0 := vm4) (EL := own_EL) W5 64 6 own_g2 121 at_119 (wd107 hw) (own_strs hw) (own_ew hw) (List.mem_of_getElem? (i := 2) rfl) HS HK CR ⟨by decide, rfl⟩ (by decide) (by decide) (by decide) (by decide) (by decide) rfl ?_
        intro vm6 n6 T6 h6 c2 d2 HS HK W6 E6 CR X_c2 F_value_c2 F_coder_c2 V_d2 SF6
        have S_cs := S_cs.ext E6
        have S_sf := S_sf.ext E6
        have S_vs := S_vs.ext E6
        have V_va := V_va.ext E6
        have Y_va := Y_va.ext E6
        have S_e0 := S_e0.ext E6
        have S_e1 := S_e1.ext E6
        have S_e2 := S_e2.ext E6
        have F_label_e0 := F_label_e0.ext E6
        have X_l0 := X_l0.ext E6
        have F_value_l0 := F_value_l0.ext E6
        have F_coder_l0 := F_coder_l0.ext E6
        have V_m0 := V_m0.ext E6
        have F_label_e1 := F_label_e1.ext E6
        have X_l1 := X_l1.ext E6
        have F_value_l1 := F_value_l1.ext E6
        have F_coder_l1 := F_coder_l1.ext E6
        have V_m1 := V_m1.ext E6
        have F_label_e2 := F_label_e2.ext E6
        have X_l2 := X_l2.ext E6
        have F_value_l2 := F_value_l2.ext E6
        have F_coder_l2 := F_coder_l2.ext E6
        have V_m2 := V_m2.ext E6
        have X_so := X_so.ext E6
        have F_value_so := F_value_so.ext E6
        have F_coder_so := F_coder_so.ext E6
        have V_sb := V_sb.ext E6
        show own_Go p e below C T6 (mkF m 121 #[.val (.int p1), .val (.int p2), .val (.int p3), .val (.int p4), .val (.int u4), .val (.ref bs), .val (.int u6), .val (.int u7), .val (.int u8), .val (.ref so), .val .null, .val .null] [(.ref c2)])
        refine own_aload W6 123 at_121 rfl rfl rfl ?_
        refine own_callV W6 (A := [(.ref so)]) (wt := 0) (pc' := 126) (st := []) at_123 (wd105 hw) (wd97 hw) (own_nf W6 (wd99 hw)) (wd99 hw) (wd98 hw) (wd1 hw) (wd100 hw) (by decide) X_c2 (own_m18 l Z a0 hw [] h6 c2 so cs d2 sb 6 own_g2 sn sg (6 : Int32) sz S_cs X_c2 F_value_c2 F_coder_c2 V_d2 X_so F_value_so F_coder_so V_sb hcs rfl rfl hz hzn (by decide) (fun q => own_strsame q F_value_c2 F_value_so V_d2 V_sb)) all0 rfl pd_13 rfl (Nat.le_of_eq rfl) (by decide) (by decide) (by decide) (by decide) rfl ?_
        rintro T7 h7 _ W7 K7 P7 rfl
        rw [P7 rfl rfl] at W7
        show own_Go p e below C T7 (mkF m 126 #[.val (.int p1), .val (.int p2), .val (.int p3), .val (.int p4), .val (.int u4), .val (.ref bs), .val (.int u6), .val (.int u7), .val (.int u8), .val (.ref so), .val .null, .val .null] [(.int (own_eqs 6 own_g2 sn sg))])
        rw [show (own_eqs 6 own_g2 sn sg) = (own_eqs 6 k2 sn sg) from own_eqsc hk2]
        refine own_ifY W7 134 at_126 ((if0 _ _).trans (teq (q2 : (own_eqs 6 k2 sn sg) = (0 : Int32))).1) (by decide) (by decide) ?_
        refine own_aload W7 136 at_134 rfl rfl rfl ?_
        refine own_aload W7 138 at_136 rfl rfl rfl ?_
        refine own_acmp W7 141 at_138 rfl rfl (same := true) (decide_eq_true rfl) (by decide) (by decide) ?_
        refine own_iconst W7 (1 : Int32) 142 at_141 rfl rfl ?_
        refine own_goto W7 146 at_142 (by decide) (by decide) ?_
        have hC8 : ∀ v L u, own_Fw (s.setVm vm6) [] L → ((v = some (.int (1 : Int32))) ∧ n6 ≤ u.heap.size ∧ CHr Z own_EL s.vm s.heap vm6 u.heap) → FrameEnd (s.setVm vm6) (.returned v) u L room_1.cells room_1.slots → C (.returned v) u := fun v L u q1 q2 q3 => hC v L u vm6 n6 HS q2.2.1 W7.1.2.2.2.2.2.2.2 q2.2.2 q1 q2.1 q3
        refine own_retZ (Q := fun v h => (v = some (.int (1 : Int32))) ∧ n6 ≤ h.size ∧ CHr Z own_EL s.vm s.heap vm6 h) W7 hC8 (by decide) (by decide) at_146 ?_
        exact ⟨rfl, HK, CR⟩
      · rw [if_pos q0, if_pos q1, if_neg q2]
        show own_Go p e below C T1 (mkF m 78 #[.val (.int p1), .val (.int p2), .val (.int p3), .val (.int p4), .val (.int u4), .val (.ref bs), .val (.int u6), .val (.int u7), .val (.int u8), .val (.ref so), .unset, .unset] [(.ref e2)])
        refine own_astore W1 80 #[.val (.int p1), .val (.int p2), .val (.int p3), .val (.int p4), .val (.int u4), .val (.ref bs), .val (.int u6), .val (.int u7), .val (.int u8), .val (.ref so), .val (.ref e2), .unset] at_78 rfl rfl rfl ?_
        refine own_aconst_null W1 81 at_80 rfl ?_
        refine own_astore W1 83 #[.val (.int p1), .val (.int p2), .val (.int p3), .val (.int p4), .val (.int u4), .val (.ref bs), .val (.int u6), .val (.int u7), .val (.int u8), .val (.ref so), .val (.ref e2), .val .null] at_81 rfl rfl rfl ?_
        refine own_ldcCH (s := s) (vm0 := vm) (EL := own_EL) W1 64 6 own_g0 85 at_83 (wd0 hw) (own_strs hw) (own_ew hw) (List.mem_of_getElem? (i := 0) rfl) HS HK CR ⟨by decide, rfl⟩ (by decide) (by decide) (by decide) (by decide) (by decide) rfl ?_
        intro vm9 n9 T9 h9 c0 d0 HS HK W9 E9 CR X_c0 F_value_c0 F_coder_c0 V_d0 SF9
        have S_cs := S_cs.ext E9
        have S_sf := S_sf.ext E9
        have S_vs := S_vs.ext E9
        have V_va := V_va.ext E9
        have Y_va := Y_va.ext E9
        have S_e0 := S_e0.ext E9
        have S_e1 := S_e1.ext E9
        have S_e2 := S_e2.ext E9
        have F_label_e0 := F_label_e0.ext E9
        have X_l0 := X_l0.ext E9
        have F_value_l0 := F_value_l0.ext E9
        have F_coder_l0 := F_coder_l0.ext E9
        have V_m0 := V_m0.ext E9
        have F_label_e1 := F_label_e1.ext E9
        have X_l1 := X_l1.ext E9
        have F_value_l1 := F_value_l1.ext E9
        have F_coder_l1 := F_coder_l1.ext E9
        have V_m1 := V_m1.ext E9
        have F_label_e2 := F_label_e2.ext E9
        have X_l2 := X_l2.ext E9
        have F_value_l2 := F_value_l2.ext E9
        have F_coder_l2 := F_coder_l2.ext E9
        have V_m2 := V_m2.ext E9
        have X_so := X_so.ext E9
        have F_value_so := F_value_so.ext E9
        have F_coder_so := F_coder_so.ext E9
        have V_sb := V_sb.ext E9
        show own_Go p e below C T9 (mkF m 85 #[.val (.int p1), .val (.int p2), .val (.int p3), .val (.int p4), .val (.int u4), .val (.ref bs), .val (.int u6), .val (.int u7), .val (.int u8), .val (.ref so), .val (.ref e2), .val .null] [(.ref c0)])
        refine own_aload W9 87 at_85 rfl rfl rfl ?_
        refine own_callV W9 (A := [(.ref so)]) (wt := 0) (pc' := 90) (st := []) at_87 (wd105 hw) (wd97 hw) (own_nf W9 (wd99 hw)) (wd99 hw) (wd98 hw) (wd1 hw) (wd100 hw) (by decide) X_c0 (own_m18 l Z a0 hw [] h9 c0 so cs d0 sb 6 own_g0 sn sg (6 : Int32) sz S_cs X_c0 F_value_c0 F_coder_c0 V_d0 X_so F_value_so F_coder_so V_sb hcs rfl rfl hz hzn (by decide) (fun q => own_strsame q F_value_c0 F_value_so V_d0 V_sb)) all0 rfl pd_13 rfl (Nat.le_of_eq rfl) (by decide) (by decide) (by decide) (by decide) rfl ?_
        rintro T10 h10 _ W10 K10 P10 rfl
        rw [P10 rfl rfl] at W10
        show own_Go p e below C T10 (mkF m 90 #[.val (.int p1), .val (.int p2), .val (.int p3), .val (.int p4), .val (.int u4), .val (.ref bs), .val (.int u6), .val (.int u7), .val (.int u8), .val (.ref so), .val (.ref e2), .val .null] [(.int (own_eqs 6 own_g0 sn sg))])
        rw [show (own_eqs 6 own_g0 sn sg) = (own_eqs 6 k0 sn sg) from own_eqsc hk0]
        refine own_ifY W10 101 at_90 ((if0 _ _).trans (teq (q0 : (own_eqs 6 k0 sn sg) = (0 : Int32))).1) (by decide) (by decide) ?_
        refine own_ldcCH (s := s) (vm0 := vm9) (EL := own_EL) W10 64 5 own_g1 103 at_101 (wd106 hw) (own_strs hw) (own_ew hw) (List.mem_of_getElem? (i := 1) rfl) HS HK CR ⟨by decide, rfl⟩ (by decide) (by decide) (by decide) (by decide) (by decide) rfl ?_
        intro vm11 n11 T11 h11 c1 d1 HS HK W11 E11 CR X_c1 F_value_c1 F_coder_c1 V_d1 SF11
        have S_cs := S_cs.ext E11
        have S_sf := S_sf.ext E11
        have S_vs := S_vs.ext E11
        have V_va := V_va.ext E11
        have Y_va := Y_va.ext E11
        have S_e0 := S_e0.ext E11
        have S_e1 := S_e1.ext E11
        have S_e2 := S_e2.ext E11
        have F_label_e0 := F_label_e0.ext E11
        have X_l0 := X_l0.ext E11
        have F_value_l0 := F_value_l0.ext E11
        have F_coder_l0 := F_coder_l0.ext E11
        have V_m0 := V_m0.ext E11
        have F_label_e1 := F_label_e1.ext E11
        have X_l1 := X_l1.ext E11
        have F_value_l1 := F_value_l1.ext E11
        have F_coder_l1 := F_coder_l1.ext E11
        have V_m1 := V_m1.ext E11
        have F_label_e2 := F_label_e2.ext E11
        have X_l2 := X_l2.ext E11
        have F_value_l2 := F_value_l2.ext E11
        have F_coder_l2 := F_coder_l2.ext E11
        have V_m2 := V_m2.ext E11
        have X_so := X_so.ext E11
        have F_value_so := F_value_so.ext E11
        have F_coder_so := F_coder_so.ext E11
        have V_sb := V_sb.ext E11
        show own_Go p e below C T11 (mkF m 103 #[.val (.int p1), .val (.int p2), .val (.int p3), .val (.int p4), .val (.int u4), .val (.ref bs), .val (.int u6), .val (.int u7), .val (.int u8), .val (.ref so), .val (.ref e2), .val .null] [(.ref c1)])
        refine own_aload W11 105 at_103 rfl rfl rfl ?_
        refine own_callV W11 (A := [(.ref so)]) (wt := 0) (pc' := 108) (st := []) at_105 (wd105 hw) (wd97 hw) (own_nf W11 (wd99 hw)) (wd99 hw) (wd98 hw) (wd1 hw) (wd100 hw) (by decide) X_c1 (own_m18 l Z a0 hw [] h11 c1 so cs d1 sb 5 own_g1 sn sg (5 : Int32) sz S_cs X_c1 F_value_c1 F_coder_c1 V_d1 X_so F_value_so F_coder_so V_sb hcs rfl rfl hz hzn (by decide) (fun q => own_strsame q F_value_c1 F_value_so V_d1 V_sb)) all0 rfl pd_13 rfl (Nat.le_of_eq rfl) (by decide) (by decide) (by decide) (by decide) rfl ?_
        rintro T12 h12 _ W12 K12 P12 rfl
        rw [P12 rfl rfl] at W12
        show own_Go p e below C T12 (mkF m 108 #[.val (.int p1), .val (.int p2), .val (.int p3), .val (.int p4), .val (.int u4), .val (.ref bs), .val (.int u6), .val (.int u7), .val (.int u8), .val (.ref so), .val (.ref e2), .val .null] [(.int (own_eqs 5 own_g1 sn sg))])
        rw [show (own_eqs 5 own_g1 sn sg) = (own_eqs 5 k1 sn sg) from own_eqsc hk1]
        refine own_ifY W12 119 at_108 ((if0 _ _).trans (teq (q1 : (own_eqs 5 k1 sn sg) = (0 : Int32))).1) (by decide) (by decide) ?_
        refine own_ldcCH (s := s) (vm0 := vm11) (EL := own_EL) W12 64 6 own_g2 121 at_119 (wd107 hw) (own_strs hw) (own_ew hw) (List.mem_of_getElem? (i := 2) rfl) HS HK CR ⟨by decide, rfl⟩ (by decide) (by decide) (by decide) (by decide) (by decide) rfl ?_
        intro vm13 n13 T13 h13 c2 d2 HS HK W13 E13 CR X_c2 F_value_c2 F_coder_c2 V_d2 SF13
        have S_cs := S_cs.ext E13
        have S_sf := S_sf.ext E13
        have S_vs := S_vs.ext E13
        have V_va := V_va.ext E13
        have Y_va := Y_va.ext E13
        have S_e0 := S_e0.ext E13
        have S_e1 := S_e1.ext E13
        have S_e2 := S_e2.ext E13
        have F_label_e0 := F_label_e0.ext E13
        have X_l0 := X_l0.ext E13
        have F_value_l0 := F_value_l0.ext E13
        have F_coder_l0 := F_coder_l0.ext E13
        have V_m0 := V_m0.ext E13
        have F_label_e1 := F_label_e1.ext E13
        have X_l1 := X_l1.ext E13
        have F_value_l1 := F_value_l1.ext E13
        have F_coder_l1 := F_coder_l1.ext E13
        have V_m1 := V_m1.ext E13
        have F_label_e2 := F_label_e2.ext E13
        have X_l2 := X_l2.ext E13
        have F_value_l2 := F_value_l2.ext E13
        have F_coder_l2 := F_coder_l2.ext E13
        have V_m2 := V_m2.ext E13
        have X_so := X_so.ext E13
        have F_value_so := F_value_so.ext E13
        have F_coder_so := F_coder_so.ext E13
        have V_sb := V_sb.ext E13
        show own_Go p e below C T13 (mkF m 121 #[.val (.int p1), .val (.int p2), .val (.int p3), .val (.int p4), .val (.int u4), .val (.ref bs), .val (.int u6), .val (.int u7), .val (.int u8), .val (.ref so), .val (.ref e2), .val .null] [(.ref c2)])
        refine own_aload W13 123 at_121 rfl rfl rfl ?_
        refine own_callV W13 (A := [(.ref so)]) (wt := 0) (pc' := 126) (st := []) at_123 (wd105 hw) (wd97 hw) (own_nf W13 (wd99 hw)) (wd99 hw) (wd98 hw) (wd1 hw) (wd100 hw) (by decide) X_c2 (own_m18 l Z a0 hw [] h13 c2 so cs d2 sb 6 own_g2 sn sg (6 : Int32) sz S_cs X_c2 F_value_c2 F_coder_c2 V_d2 X_so F_value_so F_coder_so V_sb hcs rfl rfl hz hzn (by decide) (fun q => own_strsame q F_value_c2 F_value_so V_d2 V_sb)) all0 rfl pd_13 rfl (Nat.le_of_eq rfl) (by decide) (by decide) (by decide) (by decide) rfl ?_
        rintro T14 h14 _ W14 K14 P14 rfl
        rw [P14 rfl rfl] at W14
        show own_Go p e below C T14 (mkF m 126 #[.val (.int p1), .val (.int p2), .val (.int p3), .val (.int p4), .val (.int u4), .val (.ref bs), .val (.int u6), .val (.int u7), .val (.int u8), .val (.ref so), .val (.ref e2), .val .null] [(.int (own_eqs 6 own_g2 sn sg))])
        rw [show (own_eqs 6 own_g2 sn sg) = (own_eqs 6 k2 sn sg) from own_eqsc hk2]
        refine own_ifN W14 129 at_126 ((if0 _ _).trans (feq (q2 : ¬ ((own_eqs 6 k2 sn sg) = (0 : Int32)))).1) rfl ?_
        refine own_getstatic W14 132 at_129 (wd111 hw) S_e2 rfl ?_
        intro T15 W15
        show own_Go p e below C T15 (mkF m 132 #[.val (.int p1), .val (.int p2), .val (.int p3), .val (.int p4), .val (.int u4), .val (.ref bs), .val (.int u6), .val (.int u7), .val (.int u8), .val (.ref so), .val (.ref e2), .val .null] [(.ref e2)])
        refine own_astore W15 134 #[.val (.int p1), .val (.int p2), .val (.int p3), .val (.int p4), .val (.int u4), .val (.ref bs), .val (.int u6), .val (.int u7), .val (.int u8), .val (.ref so), .val (.ref e2), .val (.ref e2)] at_132 rfl rfl rfl ?_
        refine own_aload W15 136 at_134 rfl rfl rfl ?_
        refine own_aload W15 138 at_136 rfl rfl rfl ?_
        refine own_acmp W15 141 at_138 rfl rfl (same := true) (decide_eq_true rfl) (by decide) (by decide) ?_
        refine own_iconst W15 (1 : Int32) 142 at_141 rfl rfl ?_
        refine own_goto W15 146 at_142 (by decide) (by decide) ?_
        have hC16 : ∀ v L u, own_Fw (s.setVm vm13) [] L → ((v = some (.int (1 : Int32))) ∧ n13 ≤ u.heap.size ∧ CHr Z own_EL s.vm s.heap vm13 u.heap) → FrameEnd (s.setVm vm13) (.returned v) u L room_1.cells room_1.slots → C (.returned v) u := fun v L u q1 q2 q3 => hC v L u vm13 n13 HS q2.2.1 W15.1.2.2.2.2.2.2.2 q2.2.2 q1 q2.1 q3
        refine own_retZ (Q := fun v h => (v = some (.int (1 : Int32))) ∧ n13 ≤ h.size ∧ CHr Z own_EL s.vm s.heap vm13 h) W15 hC16 (by decide) (by decide) at_146 ?_
        exact ⟨rfl, HK, CR⟩
    · rw [if_pos q0, if_neg q1]
      show own_Go p e below C T1 (mkF m 78 #[.val (.int p1), .val (.int p2), .val (.int p3), .val (.int p4), .val (.int u4), .val (.ref bs), .val (.int u6), .val (.int u7), .val (.int u8), .val (.ref so), .unset, .unset] [(.ref e1)])
      refine own_astore W1 80 #[.val (.int p1), .val (.int p2), .val (.int p3), .val (.int p4), .val (.int u4), .val (.ref bs), .val (.int u6), .val (.int u7), .val (.int u8), .val (.ref so), .val (.ref e1), .unset] at_78 rfl rfl rfl ?_
      refine own_aconst_null W1 81 at_80 rfl ?_
      refine own_astore W1 83 #[.val (.int p1), .val (.int p2), .val (.int p3), .val (.int p4), .val (.int u4), .val (.ref bs), .val (.int u6), .val (.int u7), .val (.int u8), .val (.ref so), .val (.ref e1), .val .null] at_81 rfl rfl rfl ?_
      refine own_ldcCH (s := s) (vm0 := vm) (EL := own_EL) W1 64 6 own_g0 85 at_83 (wd0 hw) (own_strs hw) (own_ew hw) (List.mem_of_getElem? (i := 0) rfl) HS HK CR ⟨by decide, rfl⟩ (by decide) (by decide) (by decide) (by decide) (by decide) rfl ?_
      intro vm17 n17 T17 h17 c0 d0 HS HK W17 E17 CR X_c0 F_value_c0 F_coder_c0 V_d0 SF17
      have S_cs := S_cs.ext E17
      have S_sf := S_sf.ext E17
      have S_vs := S_vs.ext E17
      have V_va := V_va.ext E17
      have Y_va := Y_va.ext E17
      have S_e0 := S_e0.ext E17
      have S_e1 := S_e1.ext E17
      have S_e2 := S_e2.ext E17
      have F_label_e0 := F_label_e0.ext E17
      have X_l0 := X_l0.ext E17
      have F_value_l0 := F_value_l0.ext E17
      have F_coder_l0 := F_coder_l0.ext E17
      have V_m0 := V_m0.ext E17
      have F_label_e1 := F_label_e1.ext E17
      have X_l1 := X_l1.ext E17
      have F_value_l1 := F_value_l1.ext E17
      have F_coder_l1 := F_coder_l1.ext E17
      have V_m1 := V_m1.ext E17
      have F_label_e2 := F_label_e2.ext E17
      have X_l2 := X_l2.ext E17
      have F_value_l2 := F_value_l2.ext E17
      have F_coder_l2 := F_coder_l2.ext E17
      have V_m2 := V_m2.ext E17
      have X_so := X_so.ext E17
      have F_value_so := F_value_so.ext E17
      have F_coder_so := F_coder_so.ext E17
      have V_sb := V_sb.ext E17
      show own_Go p e below C T17 (mkF m 85 #[.val (.int p1), .val (.int p2), .val (.int p3), .val (.int p4), .val (.int u4), .val (.ref bs), .val (.int u6), .val (.int u7), .val (.int u8), .val (.ref so), .val (.ref e1), .val .null] [(.ref c0)])
      refine own_aload W17 87 at_85 rfl rfl rfl ?_
      refine own_callV W17 (A := [(.ref so)]) (wt := 0) (pc' := 90) (st := []) at_87 (wd105 hw) (wd97 hw) (own_nf W17 (wd99 hw)) (wd99 hw) (wd98 hw) (wd1 hw) (wd100 hw) (by decide) X_c0 (own_m18 l Z a0 hw [] h17 c0 so cs d0 sb 6 own_g0 sn sg (6 : Int32) sz S_cs X_c0 F_value_c0 F_coder_c0 V_d0 X_so F_value_so F_coder_so V_sb hcs rfl rfl hz hzn (by decide) (fun q => own_strsame q F_value_c0 F_value_so V_d0 V_sb)) all0 rfl pd_13 rfl (Nat.le_of_eq rfl) (by decide) (by decide) (by decide) (by decide) rfl ?_
      rintro T18 h18 _ W18 K18 P18 rfl
      rw [P18 rfl rfl] at W18
      show own_Go p e below C T18 (mkF m 90 #[.val (.int p1), .val (.int p2), .val (.int p3), .val (.int p4), .val (.int u4), .val (.ref bs), .val (.int u6), .val (.int u7), .val (.int u8), .val (.ref so), .val (.ref e1), .val .null] [(.int (own_eqs 6 own_g0 sn sg))])
      rw [show (own_eqs 6 own_g0 sn sg) = (own_eqs 6 k0 sn sg) from own_eqsc hk0]
      refine own_ifY W18 101 at_90 ((if0 _ _).trans (teq (q0 : (own_eqs 6 k0 sn sg) = (0 : Int32))).1) (by decide) (by decide) ?_
      refine own_ldcCH (s := s) (vm0 := vm17) (EL := own_EL) W18 64 5 own_g1 103 at_101 (wd106 hw) (own_strs hw) (own_ew hw) (List.mem_of_getElem? (i := 1) rfl) HS HK CR ⟨by decide, rfl⟩ (by decide) (by decide) (by decide) (by decide) (by decide) rfl ?_
      intro vm19 n19 T19 h19 c1 d1 HS HK W19 E19 CR X_c1 F_value_c1 F_coder_c1 V_d1 SF19
      have S_cs := S_cs.ext E19
      have S_sf := S_sf.ext E19
      have S_vs := S_vs.ext E19
      have V_va := V_va.ext E19
      have Y_va := Y_va.ext E19
      have S_e0 := S_e0.ext E19
      have S_e1 := S_e1.ext E19
      have S_e2 := S_e2.ext E19
      have F_label_e0 := F_label_e0.ext E19
      have X_l0 := X_l0.ext E19
      have F_value_l0 := F_value_l0.ext E19
      have F_coder_l0 := F_coder_l0.ext E19
      have V_m0 := V_m0.ext E19
      have F_label_e1 := F_label_e1.ext E19
      have X_l1 := X_l1.ext E19
      have F_value_l1 := F_value_l1.ext E19
      have F_coder_l1 := F_coder_l1.ext E19
      have V_m1 := V_m1.ext E19
      have F_label_e2 := F_label_e2.ext E19
      have X_l2 := X_l2.ext E19
      have F_value_l2 := F_value_l2.ext E19
      have F_coder_l2 := F_coder_l2.ext E19
      have V_m2 := V_m2.ext E19
      have X_so := X_so.ext E19
      have F_value_so := F_value_so.ext E19
      have F_coder_so := F_coder_so.ext E19
      have V_sb := V_sb.ext E19
      show own_Go p e below C T19 (mkF m 103 #[.val (.int p1), .val (.int p2), .val (.int p3), .val (.int p4), .val (.int u4), .val (.ref bs), .val (.int u6), .val (.int u7), .val (.int u8), .val (.ref so), .val (.ref e1), .val .null] [(.ref c1)])
      refine own_aload W19 105 at_103 rfl rfl rfl ?_
      refine own_callV W19 (A := [(.ref so)]) (wt := 0) (pc' := 108) (st := []) at_105 (wd105 hw) (wd97 hw) (own_nf W19 (wd99 hw)) (wd99 hw) (wd98 hw) (wd1 hw) (wd100 hw) (by decide) X_c1 (own_m18 l Z a0 hw [] h19 c1 so cs d1 sb 5 own_g1 sn sg (5 : Int32) sz S_cs X_c1 F_value_c1 F_coder_c1 V_d1 X_so F_value_so F_coder_so V_sb hcs rfl rfl hz hzn (by decide) (fun q => own_strsame q F_value_c1 F_value_so V_d1 V_sb)) all0 rfl pd_13 rfl (Nat.le_of_eq rfl) (by decide) (by decide) (by decide) (by decide) rfl ?_
      rintro T20 h20 _ W20 K20 P20 rfl
      rw [P20 rfl rfl] at W20
      show own_Go p e below C T20 (mkF m 108 #[.val (.int p1), .val (.int p2), .val (.int p3), .val (.int p4), .val (.int u4), .val (.ref bs), .val (.int u6), .val (.int u7), .val (.int u8), .val (.ref so), .val (.ref e1), .val .null] [(.int (own_eqs 5 own_g1 sn sg))])
      rw [show (own_eqs 5 own_g1 sn sg) = (own_eqs 5 k1 sn sg) from own_eqsc hk1]
      refine own_ifN W20 111 at_108 ((if0 _ _).trans (feq (q1 : ¬ ((own_eqs 5 k1 sn sg) = (0 : Int32)))).1) rfl ?_
      refine own_getstatic W20 114 at_111 (wd109 hw) S_e1 rfl ?_
      intro T21 W21
      show own_Go p e below C T21 (mkF m 114 #[.val (.int p1), .val (.int p2), .val (.int p3), .val (.int p4), .val (.int u4), .val (.ref bs), .val (.int u6), .val (.int u7), .val (.int u8), .val (.ref so), .val (.ref e1), .val .null] [(.ref e1)])
      refine own_astore W21 116 #[.val (.int p1), .val (.int p2), .val (.int p3), .val (.int p4), .val (.int u4), .val (.ref bs), .val (.int u6), .val (.int u7), .val (.int u8), .val (.ref so), .val (.ref e1), .val (.ref e1)] at_114 rfl rfl rfl ?_
      refine own_goto W21 134 at_116 (by decide) (by decide) ?_
      refine own_aload W21 136 at_134 rfl rfl rfl ?_
      refine own_aload W21 138 at_136 rfl rfl rfl ?_
      refine own_acmp W21 141 at_138 rfl rfl (same := true) (decide_eq_true rfl) (by decide) (by decide) ?_
      refine own_iconst W21 (1 : Int32) 142 at_141 rfl rfl ?_
      refine own_goto W21 146 at_142 (by decide) (by decide) ?_
      have hC22 : ∀ v L u, own_Fw (s.setVm vm19) [] L → ((v = some (.int (1 : Int32))) ∧ n19 ≤ u.heap.size ∧ CHr Z own_EL s.vm s.heap vm19 u.heap) → FrameEnd (s.setVm vm19) (.returned v) u L room_1.cells room_1.slots → C (.returned v) u := fun v L u q1 q2 q3 => hC v L u vm19 n19 HS q2.2.1 W21.1.2.2.2.2.2.2.2 q2.2.2 q1 q2.1 q3
      refine own_retZ (Q := fun v h => (v = some (.int (1 : Int32))) ∧ n19 ≤ h.size ∧ CHr Z own_EL s.vm s.heap vm19 h) W21 hC22 (by decide) (by decide) at_146 ?_
      exact ⟨rfl, HK, CR⟩
  · rw [if_neg q0]
    show own_Go p e below C T1 (mkF m 78 #[.val (.int p1), .val (.int p2), .val (.int p3), .val (.int p4), .val (.int u4), .val (.ref bs), .val (.int u6), .val (.int u7), .val (.int u8), .val (.ref so), .unset, .unset] [(.ref e0)])
    refine own_astore W1 80 #[.val (.int p1), .val (.int p2), .val (.int p3), .val (.int p4), .val (.int u4), .val (.ref bs), .val (.int u6), .val (.int u7), .val (.int u8), .val (.ref so), .val (.ref e0), .unset] at_78 rfl rfl rfl ?_
    refine own_aconst_null W1 81 at_80 rfl ?_
    refine own_astore W1 83 #[.val (.int p1), .val (.int p2), .val (.int p3), .val (.int p4), .val (.int u4), .val (.ref bs), .val (.int u6), .val (.int u7), .val (.int u8), .val (.ref so), .val (.ref e0), .val .null] at_81 rfl rfl rfl ?_
    refine own_ldcCH (s := s) (vm0 := vm) (EL := own_EL) W1 64 6 own_g0 85 at_83 (wd0 hw) (own_strs hw) (own_ew hw) (List.mem_of_getElem? (i := 0) rfl) HS HK CR ⟨by decide, rfl⟩ (by decide) (by decide) (by decide) (by decide) (by decide) rfl ?_
    intro vm23 n23 T23 h23 c0 d0 HS HK W23 E23 CR X_c0 F_value_c0 F_coder_c0 V_d0 SF23
    have S_cs := S_cs.ext E23
    have S_sf := S_sf.ext E23
    have S_vs := S_vs.ext E23
    have V_va := V_va.ext E23
    have Y_va := Y_va.ext E23
    have S_e0 := S_e0.ext E23
    have S_e1 := S_e1.ext E23
    have S_e2 := S_e2.ext E23
    have F_label_e0 := F_label_e0.ext E23
    have X_l0 := X_l0.ext E23
    have F_value_l0 := F_value_l0.ext E23
    have F_coder_l0 := F_coder_l0.ext E23
    have V_m0 := V_m0.ext E23
    have F_label_e1 := F_label_e1.ext E23
    have X_l1 := X_l1.ext E23
    have F_value_l1 := F_value_l1.ext E23
    have F_coder_l1 := F_coder_l1.ext E23
    have V_m1 := V_m1.ext E23
    have F_label_e2 := F_label_e2.ext E23
    have X_l2 := X_l2.ext E23
    have F_value_l2 := F_value_l2.ext E23
    have F_coder_l2 := F_coder_l2.ext E23
    have V_m2 := V_m2.ext E23
    have X_so := X_so.ext E23
    have F_value_so := F_value_so.ext E23
    have F_coder_so := F_coder_so.ext E23
    have V_sb := V_sb.ext E23
    show own_Go p e below C T23 (mkF m 85 #[.val (.int p1), .val (.int p2), .val (.int p3), .val (.int p4), .val (.int u4), .val (.ref bs), .val (.int u6), .val (.int u7), .val (.int u8), .val (.ref so), .val (.ref e0), .val .null] [(.ref c0)])
    refine own_aload W23 87 at_85 rfl rfl rfl ?_
    refine own_callV W23 (A := [(.ref so)]) (wt := 0) (pc' := 90) (st := []) at_87 (wd105 hw) (wd97 hw) (own_nf W23 (wd99 hw)) (wd99 hw) (wd98 hw) (wd1 hw) (wd100 hw) (by decide) X_c0 (own_m18 l Z a0 hw [] h23 c0 so cs d0 sb 6 own_g0 sn sg (6 : Int32) sz S_cs X_c0 F_value_c0 F_coder_c0 V_d0 X_so F_value_so F_coder_so V_sb hcs rfl rfl hz hzn (by decide) (fun q => own_strsame q F_value_c0 F_value_so V_d0 V_sb)) all0 rfl pd_13 rfl (Nat.le_of_eq rfl) (by decide) (by decide) (by decide) (by decide) rfl ?_
    rintro T24 h24 _ W24 K24 P24 rfl
    rw [P24 rfl rfl] at W24
    show own_Go p e below C T24 (mkF m 90 #[.val (.int p1), .val (.int p2), .val (.int p3), .val (.int p4), .val (.int u4), .val (.ref bs), .val (.int u6), .val (.int u7), .val (.int u8), .val (.ref so), .val (.ref e0), .val .null] [(.int (own_eqs 6 own_g0 sn sg))])
    rw [show (own_eqs 6 own_g0 sn sg) = (own_eqs 6 k0 sn sg) from own_eqsc hk0]
    refine own_ifN W24 93 at_90 ((if0 _ _).trans (feq (q0 : ¬ ((own_eqs 6 k0 sn sg) = (0 : Int32)))).1) rfl ?_
    refine own_getstatic W24 96 at_93 (wd110 hw) S_e0 rfl ?_
    intro T25 W25
    show own_Go p e below C T25 (mkF m 96 #[.val (.int p1), .val (.int p2), .val (.int p3), .val (.int p4), .val (.int u4), .val (.ref bs), .val (.int u6), .val (.int u7), .val (.int u8), .val (.ref so), .val (.ref e0), .val .null] [(.ref e0)])
    refine own_astore W25 98 #[.val (.int p1), .val (.int p2), .val (.int p3), .val (.int p4), .val (.int u4), .val (.ref bs), .val (.int u6), .val (.int u7), .val (.int u8), .val (.ref so), .val (.ref e0), .val (.ref e0)] at_96 rfl rfl rfl ?_
    refine own_goto W25 134 at_98 (by decide) (by decide) ?_
    refine own_aload W25 136 at_134 rfl rfl rfl ?_
    refine own_aload W25 138 at_136 rfl rfl rfl ?_
    refine own_acmp W25 141 at_138 rfl rfl (same := true) (decide_eq_true rfl) (by decide) (by decide) ?_
    refine own_iconst W25 (1 : Int32) 142 at_141 rfl rfl ?_
    refine own_goto W25 146 at_142 (by decide) (by decide) ?_
    have hC26 : ∀ v L u, own_Fw (s.setVm vm23) [] L → ((v = some (.int (1 : Int32))) ∧ n23 ≤ u.heap.size ∧ CHr Z own_EL s.vm s.heap vm23 u.heap) → FrameEnd (s.setVm vm23) (.returned v) u L room_1.cells room_1.slots → C (.returned v) u := fun v L u q1 q2 q3 => hC v L u vm23 n23 HS q2.2.1 W25.1.2.2.2.2.2.2.2 q2.2.2 q1 q2.1 q3
    refine own_retZ (Q := fun v h => (v = some (.int (1 : Int32))) ∧ n23 ≤ h.size ∧ CHr Z own_EL s.vm s.heap vm23 h) W25 hC26 (by decide) (by decide) at_146 ?_
    exact ⟨rfl, HK, CR⟩
theorem ef_m0 (m : MethodId) (x0 : Int32) (x1 : Int32) (x2 : Int32) (x3 : Int32) : entryFrame m #[(.int x0), (.int x1), (.int x2), (.int x3)] maxLocals = mkF m 0 #[.val (.int x0), .val (.int x1), .val (.int x2), .val (.int x3), .unset, .unset, .unset, .unset, .unset, .unset, .unset, .unset] [] := by first | (simp [entryFrame, mkF, argsToLocals, Value.category, maxLocals]; done) | rfl
set_option maxRecDepth 65536 in
set_option maxHeartbeats 40000000 in
theorem own_m0 (l : Launch) (Z : State) (a0 : Array Value) (hw : ∀ d ∈ tables_1, d.before a0 Z = true) (wo : List Jvm.Cond) (h0 : Heap) (p1 : Int32) (p2 : Int32) (p3 : Int32) (p4 : Int32) (cs : Int32) (sv : Value) (va : Addr) (vf : Nat → Value) (e0 : Addr) (e1 : Addr) (e2 : Addr) (l0 : Addr) (l1 : Addr) (l2 : Addr) (m0 : Addr) (m1 : Addr) (m2 : Addr) (k0 : Nat → Int32) (k1 : Nat → Int32) (k2 : Nat → Int32) (S_cs : Sta Z h0 "java/lang/String" "COMPACT_STRINGS" "Z" (.int cs)) (S_sf : Sta Z h0 "jdk/internal/util/Preconditions" "SIOOBE_FORMATTER" "Ljava/util/function/BiFunction;" sv) (S_vs : Sta Z h0 "com/example/aeneas/aeneas/Side" "$VALUES" "[Lcom/example/aeneas/aeneas/Side;" (.ref va)) (V_va : own_A Z h0 va (.object "com/example/aeneas/aeneas/Side") 3 vf) (Y_va : Exa Z h0 va "[Lcom/example/aeneas/aeneas/Side;") (S_e0 : Sta Z h0 "com/example/aeneas/aeneas/Side" "CLIENT" "Lcom/example/aeneas/aeneas/Side;" (.ref e0)) (S_e1 : Sta Z h0 "com/example/aeneas/aeneas/Side" "AGENT" "Lcom/example/aeneas/aeneas/Side;" (.ref e1)) (S_e2 : Sta Z h0 "com/example/aeneas/aeneas/Side" "AENEAS" "Lcom/example/aeneas/aeneas/Side;" (.ref e2)) (F_label_e0 : Fld Z h0 e0 "com/example/aeneas/aeneas/Side" "label" "Ljava/lang/String;" (.ref l0)) (X_l0 : Exa Z h0 l0 "java/lang/String") (F_value_l0 : Fld Z h0 l0 "java/lang/String" "value" "[B" (.ref m0)) (F_coder_l0 : Fld Z h0 l0 "java/lang/String" "coder" "B" (.int (0 : Int32))) (V_m0 : own_A Z h0 m0 .byte 6 (fun j => .int (k0 j))) (F_label_e1 : Fld Z h0 e1 "com/example/aeneas/aeneas/Side" "label" "Ljava/lang/String;" (.ref l1)) (X_l1 : Exa Z h0 l1 "java/lang/String") (F_value_l1 : Fld Z h0 l1 "java/lang/String" "value" "[B" (.ref m1)) (F_coder_l1 : Fld Z h0 l1 "java/lang/String" "coder" "B" (.int (0 : Int32))) (V_m1 : own_A Z h0 m1 .byte 5 (fun j => .int (k1 j))) (F_label_e2 : Fld Z h0 e2 "com/example/aeneas/aeneas/Side" "label" "Ljava/lang/String;" (.ref l2)) (X_l2 : Exa Z h0 l2 "java/lang/String") (F_value_l2 : Fld Z h0 l2 "java/lang/String" "value" "[B" (.ref m2)) (F_coder_l2 : Fld Z h0 l2 "java/lang/String" "coder" "B" (.int (0 : Int32))) (V_m2 : own_A Z h0 m2 .byte 6 (fun j => .int (k2 j))) (hcs : ¬ cs = (0 : Int32)) (hsv : sv.isRef = true) (hv0 : vf 0 = .ref e0) (hv1 : vf 1 = .ref e1) (hv2 : vf 2 = .ref e2) (hk0 : ∀ j, j < 6 → own_g0 j = k0 j) (hk1 : ∀ j, j < 5 → own_g1 j = k1 j) (hk2 : ∀ j, j < 6 → own_g2 j = k2 j) :
    own_MH l Z own_EL wo x code maxLocals ret room_1 [] #[(.int p1), (.int p2), (.int p3), (.int p4)] h0 (fun v h => v = some (.int (1 : Int32))) := by
  refine own_bodyH (own_ew hw) (plainFor_of_name pn_0) (fun m => ef_m0 m p1 p2 p3 p4) ?_
  intro p e s m below meth c C hC T0 W0 eH0 CH0
  have HS := (State.WarmedH.refl s).since 0
  have HK : 0 ≤ h0.size := Nat.zero_le _
  have CR : CHr Z own_EL s.vm s.heap s.vm h0 := by rw [eH0]; exact CHr.refl CH0
  refine own_iloadN W0 1 at_0 rfl rfl ?_
  refine own_iconst W0 (3 : Int32) 2 at_1 rfl rfl ?_
  refine own_iand W0 3 at_2 rfl ?_
  obtain ⟨mn, hm, hm4⟩ := own_m3b p1
  generalize h_mv : (p1 &&& (3 : Int32)) = mv at hm ⊢
  show own_Go p e below C T0 (mkF m 3 #[.val (.int p1), .val (.int p2), .val (.int p3), .val (.int p4), .unset, .unset, .unset, .unset, .unset, .unset, .unset, .unset] [(.int mv)])
  refine own_istore W0 5 #[.val (.int p1), .val (.int p2), .val (.int p3), .val (.int p4), .val (.int mv), .unset, .unset, .unset, .unset, .unset, .unset, .unset] at_3 rfl rfl ?_
  rcases own_lt4 hm4 with rfl | rfl | rfl | rfl
  · obtain rfl : mv = (0 : Int32) := own_lit32 hm _ rfl
    show own_Go p e below C T0 (mkF m 5 #[.val (.int p1), .val (.int p2), .val (.int p3), .val (.int p4), .val (.int (0 : Int32)), .unset, .unset, .unset, .unset, .unset, .unset, .unset] [])
    refine own_iload W0 7 at_5 rfl rfl ?_
    refine own_ifN W0 10 at_7 ((if0 _ _).trans (teq (rfl : (0 : Int32) = (0 : Int32))).2) rfl ?_
    refine own_ldcCH (s := s) (vm0 := s.vm) (EL := own_EL) W0 64 6 own_g0 12 at_10 (wd0 hw) (own_strs hw) (own_ew hw) (List.mem_of_getElem? (i := 0) rfl) HS HK CR ⟨by decide, rfl⟩ (by decide) (by decide) (by decide) (by decide) (by decide) rfl ?_
    intro vm1 n1 T1 h1 bs bd HS HK W1 E1 CR X_bs F_value_bs F_coder_bs V_bd SF1
    have S_cs := S_cs.ext E1
    have S_sf := S_sf.ext E1
    have S_vs := S_vs.ext E1
    have V_va := V_va.ext E1
    have Y_va := Y_va.ext E1
    have S_e0 := S_e0.ext E1
    have S_e1 := S_e1.ext E1
    have S_e2 := S_e2.ext E1
    have F_label_e0 := F_label_e0.ext E1
    have X_l0 := X_l0.ext E1
    have F_value_l0 := F_value_l0.ext E1
    have F_coder_l0 := F_coder_l0.ext E1
    have V_m0 := V_m0.ext E1
    have F_label_e1 := F_label_e1.ext E1
    have X_l1 := X_l1.ext E1
    have F_value_l1 := F_value_l1.ext E1
    have F_coder_l1 := F_coder_l1.ext E1
    have V_m1 := V_m1.ext E1
    have F_label_e2 := F_label_e2.ext E1
    have X_l2 := X_l2.ext E1
    have F_value_l2 := F_value_l2.ext E1
    have F_coder_l2 := F_coder_l2.ext E1
    have V_m2 := V_m2.ext E1
    show own_Go p e below C T1 (mkF m 12 #[.val (.int p1), .val (.int p2), .val (.int p3), .val (.int p4), .val (.int (0 : Int32)), .unset, .unset, .unset, .unset, .unset, .unset, .unset] [(.ref bs)])
    refine own_goto W1 28 at_12 (by decide) (by decide) ?_
    refine own_astore W1 30 #[.val (.int p1), .val (.int p2), .val (.int p3), .val (.int p4), .val (.int (0 : Int32)), .val (.ref bs), .unset, .unset, .unset, .unset, .unset, .unset] at_28 rfl rfl rfl ?_
    refine own_iloadN W1 31 at_30 rfl rfl ?_
    refine own_bipush W1 (7 : Int32) 33 at_31 rfl rfl ?_
    refine own_iand W1 34 at_33 rfl ?_
    obtain ⟨nn, hnn, hn8⟩ := own_m7b p2
    generalize h_nv : (p2 &&& (7 : Int32)) = nv at hnn ⊢
    show own_Go p e below C T1 (mkF m 34 #[.val (.int p1), .val (.int p2), .val (.int p3), .val (.int p4), .val (.int (0 : Int32)), .val (.ref bs), .unset, .unset, .unset, .unset, .unset, .unset] [(.int nv)])
    refine own_istore W1 36 #[.val (.int p1), .val (.int p2), .val (.int p3), .val (.int p4), .val (.int (0 : Int32)), .val (.ref bs), .val (.int nv), .unset, .unset, .unset, .unset, .unset] at_34 rfl rfl ?_
    refine own_iloadN W1 37 at_36 rfl rfl ?_
    refine own_bipush W1 (7 : Int32) 39 at_37 rfl rfl ?_
    refine own_iand W1 40 at_39 rfl ?_
    refine own_istore W1 42 #[.val (.int p1), .val (.int p2), .val (.int p3), .val (.int p4), .val (.int (0 : Int32)), .val (.ref bs), .val (.int nv), .val (.int (p3 &&& (7 : Int32))), .unset, .unset, .unset, .unset] at_40 rfl rfl ?_
    refine own_iloadN W1 43 at_42 rfl rfl ?_
    refine own_sipush W1 (255 : Int32) 46 at_43 rfl rfl ?_
    refine own_iand W1 47 at_46 rfl ?_
    refine own_i2c W1 48 at_47 rfl ?_
    refine own_istore W1 50 #[.val (.int p1), .val (.int p2), .val (.int p3), .val (.int p4), .val (.int (0 : Int32)), .val (.ref bs), .val (.int nv), .val (.int (p3 &&& (7 : Int32))), .val (.int (p4 &&& (255 : Int32)).toUInt32.toUInt16.toUInt32.toInt32), .unset, .unset, .unset] at_48 rfl rfl ?_
    refine own_iload W1 52 at_50 rfl rfl ?_
    refine own_iconst W1 (3 : Int32) 53 at_52 rfl rfl ?_
    refine own_icmpY W1 60 at_53 ((feq ((by decide) : ¬ ((0 : Int32) = (3 : Int32)))).2) (by decide) (by decide) ?_
    refine own_iload W1 62 at_60 rfl rfl ?_
    refine own_aload W1 64 at_62 rfl rfl rfl ?_
    refine own_iload W1 66 at_64 rfl rfl ?_
    refine own_iload W1 68 at_66 rfl rfl ?_
    have hch := own_255 p4
    have hch2 := own_c16 hch.1 hch.2
    rcases own_lt8 hn8 with rfl | rfl | rfl | rfl | rfl | rfl | rfl | rfl
    · obtain rfl : nv = (0 : Int32) := own_lit32 hnn _ rfl
      show own_Go p e below C T1 (mkF m 68 #[.val (.int p1), .val (.int p2), .val (.int p3), .val (.int p4), .val (.int (0 : Int32)), .val (.ref bs), .val (.int (0 : Int32)), .val (.int (p3 &&& (7 : Int32))), .val (.int (p4 &&& (255 : Int32)).toUInt32.toUInt16.toUInt32.toInt32), .unset, .unset, .unset] [(.int (p4 &&& (255 : Int32)).toUInt32.toUInt16.toUInt32.toInt32), (.int (p3 &&& (7 : Int32))), (.ref bs), (.int (0 : Int32))])
      have hsz1 := own_le W1
      have lq : h1.size ≤ h1.size := Nat.le_refl _
      have ql0 := X_l0.lt
      have ql1 := X_l1.lt
      have ql2 := X_l2.lt
      refine own_callSH (s := s) (vm0 := vm1) (EL := own_EL) W1 (A := [(.int (0 : Int32)), (.ref bs), (.int (p3 &&& (7 : Int32))), (.int (p4 &&& (255 : Int32)).toUInt32.toUInt16.toUInt32.toInt32)]) (wt := 0) (pc' := 71) (st := []) at_68 (wd8 hw) (wd9 hw) (wd10 hw) (wd11 hw) (by decide) (own_ew hw) HS HK CR (own_m1e l Z a0 hw [] h1 bs (p3 &&& (7 : Int32)) (p4 &&& (255 : Int32)).toUInt32.toUInt16.toUInt32.toInt32) all0 rfl pd_16 rfl (Nat.le_of_eq rfl) (by decide) (by decide) (by decide) (by decide) rfl ?_
      rintro vm2 n2 T2 h2 _ HS HK W2 K2 CR ⟨so, sb, sg, rfl, o_so, X_so, F_value_so, F_coder_so, V_sb⟩
      have S_cs := own_staK0 S_cs K2
      have S_sf := own_staK0 S_sf K2
      have S_vs := own_staK0 S_vs K2
      have V_va := V_va.keep K2 nin0
      have Y_va := Y_va.keep K2
      have S_e0 := own_staK0 S_e0 K2
      have S_e1 := own_staK0 S_e1 K2
      have S_e2 := own_staK0 S_e2 K2
      have F_label_e0 := F_label_e0.keep K2 nin0
      have X_l0 := X_l0.keep K2
      have F_value_l0 := F_value_l0.keep K2 nin0
      have F_coder_l0 := F_coder_l0.keep K2 nin0
      have V_m0 := V_m0.keep K2 nin0
      have F_label_e1 := F_label_e1.keep K2 nin0
      have X_l1 := X_l1.keep K2
      have F_value_l1 := F_value_l1.keep K2 nin0
      have F_coder_l1 := F_coder_l1.keep K2 nin0
      have V_m1 := V_m1.keep K2 nin0
      have F_label_e2 := F_label_e2.keep K2 nin0
      have X_l2 := X_l2.keep K2
      have F_value_l2 := F_value_l2.keep K2 nin0
      have F_coder_l2 := F_coder_l2.keep K2 nin0
      have V_m2 := V_m2.keep K2 nin0
      have X_bs := X_bs.keep K2
      have F_value_bs := F_value_bs.keep K2 nin0
      have F_coder_bs := F_coder_bs.keep K2 nin0
      have V_bd := V_bd.keep K2 nin0
      show own_Go p e below C T2 (mkF m 71 #[.val (.int p1), .val (.int p2), .val (.int p3), .val (.int p4), .val (.int (0 : Int32)), .val (.ref bs), .val (.int (0 : Int32)), .val (.int (p3 &&& (7 : Int32))), .val (.int (p4 &&& (255 : Int32)).toUInt32.toUInt16.toUInt32.toInt32), .unset, .unset, .unset] [(.ref so)])
      have hs0 : l0 = so → own_eqs 6 k0 0 sg = 1 := fun q => absurd q (Nat.ne_of_lt (Nat.lt_of_lt_of_le ql0 o_so))
      have hs1 : l1 = so → own_eqs 5 k1 0 sg = 1 := fun q => absurd q (Nat.ne_of_lt (Nat.lt_of_lt_of_le ql1 o_so))
      have hs2 : l2 = so → own_eqs 6 k2 0 sg = 1 := fun q => absurd q (Nat.ne_of_lt (Nat.lt_of_lt_of_le ql2 o_so))
      exact own_tail l Z a0 hw h0 p1 p2 p3 p4 cs sv va vf e0 e1 e2 l0 l1 l2 m0 m1 m2 k0 k1 k2 p e s m below meth c C hC vm2 n2 T2 h2 so sb 0 sg (0 : Int32) bs (0 : Int32) (0 : Int32) (p3 &&& (7 : Int32)) (p4 &&& (255 : Int32)).toUInt32.toUInt16.toUInt32.toInt32 W2 HS HK CR S_cs S_sf S_vs V_va Y_va S_e0 S_e1 S_e2 F_label_e0 X_l0 F_value_l0 F_coder_l0 V_m0 F_label_e1 X_l1 F_value_l1 F_coder_l1 V_m1 F_label_e2 X_l2 F_value_l2 F_coder_l2 V_m2 X_so F_value_so F_coder_so V_sb hcs hsv hv0 hv1 hv2 hk0 hk1 hk2 rfl rfl hs0 hs1 hs2
    · obtain rfl : nv = (1 : Int32) := own_lit32 hnn _ rfl
      show own_Go p e below C T1 (mkF m 68 #[.val (.int p1), .val (.int p2), .val (.int p3), .val (.int p4), .val (.int (0 : Int32)), .val (.ref bs), .val (.int (1 : Int32)), .val (.int (p3 &&& (7 : Int32))), .val (.int (p4 &&& (255 : Int32)).toUInt32.toUInt16.toUInt32.toInt32), .unset, .unset, .unset] [(.int (p4 &&& (255 : Int32)).toUInt32.toUInt16.toUInt32.toInt32), (.int (p3 &&& (7 : Int32))), (.ref bs), (.int (1 : Int32))])
      have hsz1 := own_le W1
      have lq : h1.size ≤ h1.size := Nat.le_refl _
      have ql0 := X_l0.lt
      have ql1 := X_l1.lt
      have ql2 := X_l2.lt
      refine own_callS W1 (A := [(.int (1 : Int32)), (.ref bs), (.int (p3 &&& (7 : Int32))), (.int (p4 &&& (255 : Int32)).toUInt32.toUInt16.toUInt32.toInt32)]) (wt := 0) (pc' := 71) (st := []) at_68 (wd8 hw) (wd9 hw) (wd10 hw) (wd11 hw) (by decide) (own_m1_1 l Z a0 hw [] h1 bs (p3 &&& (7 : Int32)) (p4 &&& (255 : Int32)).toUInt32.toUInt16.toUInt32.toInt32 cs sv bd 6 own_g0 (6 : Int32) S_cs S_sf X_bs F_value_bs F_coder_bs V_bd hcs hsv rfl rfl (by rw [hch2]; exact hch.1) (by rw [hch2]; exact hch.2)) all0 rfl pd_16 rfl (Nat.le_of_eq rfl) (by decide) (by decide) (by decide) (by decide) rfl ?_
      rintro T3 h3 _ W3 K3 P3 ⟨so, sb, sg, rfl, o_so, -, X_so, F_value_so, F_coder_so, V_sb⟩
      have S_cs := own_staK0 S_cs K3
      have S_sf := own_staK0 S_sf K3
      have S_vs := own_staK0 S_vs K3
      have V_va := V_va.keep K3 nin0
      have Y_va := Y_va.keep K3
      have S_e0 := own_staK0 S_e0 K3
      have S_e1 := own_staK0 S_e1 K3
      have S_e2 := own_staK0 S_e2 K3
      have F_label_e0 := F_label_e0.keep K3 nin0
      have X_l0 := X_l0.keep K3
      have F_value_l0 := F_value_l0.keep K3 nin0
      have F_coder_l0 := F_coder_l0.keep K3 nin0
      have V_m0 := V_m0.keep K3 nin0
      have F_label_e1 := F_label_e1.keep K3 nin0
      have X_l1 := X_l1.keep K3
      have F_value_l1 := F_value_l1.keep K3 nin0
      have F_coder_l1 := F_coder_l1.keep K3 nin0
      have V_m1 := V_m1.keep K3 nin0
      have F_label_e2 := F_label_e2.keep K3 nin0
      have X_l2 := X_l2.keep K3
      have F_value_l2 := F_value_l2.keep K3 nin0
      have F_coder_l2 := F_coder_l2.keep K3 nin0
      have V_m2 := V_m2.keep K3 nin0
      have HK := Nat.le_trans HK K3.1
      have CR := CR.trans (CHr.keep K3 all0 CR.1)
      have X_bs := X_bs.keep K3
      have F_value_bs := F_value_bs.keep K3 nin0
      have F_coder_bs := F_coder_bs.keep K3 nin0
      have V_bd := V_bd.keep K3 nin0
      show own_Go p e below C T3 (mkF m 71 #[.val (.int p1), .val (.int p2), .val (.int p3), .val (.int p4), .val (.int (0 : Int32)), .val (.ref bs), .val (.int (1 : Int32)), .val (.int (p3 &&& (7 : Int32))), .val (.int (p4 &&& (255 : Int32)).toUInt32.toUInt16.toUInt32.toInt32), .unset, .unset, .unset] [(.ref so)])
      have hs0 : l0 = so → own_eqs 6 k0 1 sg = 1 := fun q => absurd q (Nat.ne_of_lt (Nat.lt_of_lt_of_le ql0 o_so))
      have hs1 : l1 = so → own_eqs 5 k1 1 sg = 1 := fun q => absurd q (Nat.ne_of_lt (Nat.lt_of_lt_of_le ql1 o_so))
      have hs2 : l2 = so → own_eqs 6 k2 1 sg = 1 := fun q => absurd q (Nat.ne_of_lt (Nat.lt_of_lt_of_le ql2 o_so))
      exact own_tail l Z a0 hw h0 p1 p2 p3 p4 cs sv va vf e0 e1 e2 l0 l1 l2 m0 m1 m2 k0 k1 k2 p e s m below meth c C hC vm1 n1 T3 h3 so sb 1 sg (1 : Int32) bs (0 : Int32) (1 : Int32) (p3 &&& (7 : Int32)) (p4 &&& (255 : Int32)).toUInt32.toUInt16.toUInt32.toInt32 W3 HS HK CR S_cs S_sf S_vs V_va Y_va S_e0 S_e1 S_e2 F_label_e0 X_l0 F_value_l0 F_coder_l0 V_m0 F_label_e1 X_l1 F_value_l1 F_coder_l1 V_m1 F_label_e2 X_l2 F_value_l2 F_coder_l2 V_m2 X_so F_value_so F_coder_so V_sb hcs hsv hv0 hv1 hv2 hk0 hk1 hk2 rfl rfl hs0 hs1 hs2
    · obtain rfl : nv = (2 : Int32) := own_lit32 hnn _ rfl
      show own_Go p e below C T1 (mkF m 68 #[.val (.int p1), .val (.int p2), .val (.int p3), .val (.int p4), .val (.int (0 : Int32)), .val (.ref bs), .val (.int (2 : Int32)), .val (.int (p3 &&& (7 : Int32))), .val (.int (p4 &&& (255 : Int32)).toUInt32.toUInt16.toUInt32.toInt32), .unset, .unset, .unset] [(.int (p4 &&& (255 : Int32)).toUInt32.toUInt16.toUInt32.toInt32), (.int (p3 &&& (7 : Int32))), (.ref bs), (.int (2 : Int32))])
      have hsz1 := own_le W1
      have lq : h1.size ≤ h1.size := Nat.le_refl _
      have ql0 := X_l0.lt
      have ql1 := X_l1.lt
      have ql2 := X_l2.lt
      refine own_callS W1 (A := [(.int (2 : Int32)), (.ref bs), (.int (p3 &&& (7 : Int32))), (.int (p4 &&& (255 : Int32)).toUInt32.toUInt16.toUInt32.toInt32)]) (wt := 0) (pc' := 71) (st := []) at_68 (wd8 hw) (wd9 hw) (wd10 hw) (wd11 hw) (by decide) (own_m1_2 l Z a0 hw [] h1 bs (p3 &&& (7 : Int32)) (p4 &&& (255 : Int32)).toUInt32.toUInt16.toUInt32.toInt32 cs sv bd 6 own_g0 (6 : Int32) S_cs S_sf X_bs F_value_bs F_coder_bs V_bd hcs hsv rfl rfl (by rw [hch2]; exact hch.1) (by rw [hch2]; exact hch.2)) all0 rfl pd_16 rfl (Nat.le_of_eq rfl) (by decide) (by decide) (by decide) (by decide) rfl ?_
      rintro T4 h4 _ W4 K4 P4 ⟨so, sb, sg, rfl, o_so, -, X_so, F_value_so, F_coder_so, V_sb⟩
      have S_cs := own_staK0 S_cs K4
      have S_sf := own_staK0 S_sf K4
      have S_vs := own_staK0 S_vs K4
      have V_va := V_va.keep K4 nin0
      have Y_va := Y_va.keep K4
      have S_e0 := own_staK0 S_e0 K4
      have S_e1 := own_staK0 S_e1 K4
      have S_e2 := own_staK0 S_e2 K4
      have F_label_e0 := F_label_e0.keep K4 nin0
      have X_l0 := X_l0.keep K4
      have F_value_l0 := F_value_l0.keep K4 nin0
      have F_coder_l0 := F_coder_l0.keep K4 nin0
      have V_m0 := V_m0.keep K4 nin0
      have F_label_e1 := F_label_e1.keep K4 nin0
      have X_l1 := X_l1.keep K4
      have F_value_l1 := F_value_l1.keep K4 nin0
      have F_coder_l1 := F_coder_l1.keep K4 nin0
      have V_m1 := V_m1.keep K4 nin0
      have F_label_e2 := F_label_e2.keep K4 nin0
      have X_l2 := X_l2.keep K4
      have F_value_l2 := F_value_l2.keep K4 nin0
      have F_coder_l2 := F_coder_l2.keep K4 nin0
      have V_m2 := V_m2.keep K4 nin0
      have HK := Nat.le_trans HK K4.1
      have CR := CR.trans (CHr.keep K4 all0 CR.1)
      have X_bs := X_bs.keep K4
      have F_value_bs := F_value_bs.keep K4 nin0
      have F_coder_bs := F_coder_bs.keep K4 nin0
      have V_bd := V_bd.keep K4 nin0
      show own_Go p e below C T4 (mkF m 71 #[.val (.int p1), .val (.int p2), .val (.int p3), .val (.int p4), .val (.int (0 : Int32)), .val (.ref bs), .val (.int (2 : Int32)), .val (.int (p3 &&& (7 : Int32))), .val (.int (p4 &&& (255 : Int32)).toUInt32.toUInt16.toUInt32.toInt32), .unset, .unset, .unset] [(.ref so)])
      have hs0 : l0 = so → own_eqs 6 k0 2 sg = 1 := fun q => absurd q (Nat.ne_of_lt (Nat.lt_of_lt_of_le ql0 o_so))
      have hs1 : l1 = so → own_eqs 5 k1 2 sg = 1 := fun q => absurd q (Nat.ne_of_lt (Nat.lt_of_lt_of_le ql1 o_so))
      have hs2 : l2 = so → own_eqs 6 k2 2 sg = 1 := fun q => absurd q (Nat.ne_of_lt (Nat.lt_of_lt_of_le ql2 o_so))
      exact own_tail l Z a0 hw h0 p1 p2 p3 p4 cs sv va vf e0 e1 e2 l0 l1 l2 m0 m1 m2 k0 k1 k2 p e s m below meth c C hC vm1 n1 T4 h4 so sb 2 sg (2 : Int32) bs (0 : Int32) (2 : Int32) (p3 &&& (7 : Int32)) (p4 &&& (255 : Int32)).toUInt32.toUInt16.toUInt32.toInt32 W4 HS HK CR S_cs S_sf S_vs V_va Y_va S_e0 S_e1 S_e2 F_label_e0 X_l0 F_value_l0 F_coder_l0 V_m0 F_label_e1 X_l1 F_value_l1 F_coder_l1 V_m1 F_label_e2 X_l2 F_value_l2 F_coder_l2 V_m2 X_so F_value_so F_coder_so V_sb hcs hsv hv0 hv1 hv2 hk0 hk1 hk2 rfl rfl hs0 hs1 hs2
    · obtain rfl : nv = (3 : Int32) := own_lit32 hnn _ rfl
      show own_Go p e below C T1 (mkF m 68 #[.val (.int p1), .val (.int p2), .val (.int p3), .val (.int p4), .val (.int (0 : Int32)), .val (.ref bs), .val (.int (3 : Int32)), .val (.int (p3 &&& (7 : Int32))), .val (.int (p4 &&& (255 : Int32)).toUInt32.toUInt16.toUInt32.toInt32), .unset, .unset, .unset] [(.int (p4 &&& (255 : Int32)).toUInt32.toUInt16.toUInt32.toInt32), (.int (p3 &&& (7 : Int32))), (.ref bs), (.int (3 : Int32))])
      have hsz1 := own_le W1
      have lq : h1.size ≤ h1.size := Nat.le_refl _
      have ql0 := X_l0.lt
      have ql1 := X_l1.lt
      have ql2 := X_l2.lt
      refine own_callS W1 (A := [(.int (3 : Int32)), (.ref bs), (.int (p3 &&& (7 : Int32))), (.int (p4 &&& (255 : Int32)).toUInt32.toUInt16.toUInt32.toInt32)]) (wt := 0) (pc' := 71) (st := []) at_68 (wd8 hw) (wd9 hw) (wd10 hw) (wd11 hw) (by decide) (own_m1_3 l Z a0 hw [] h1 bs (p3 &&& (7 : Int32)) (p4 &&& (255 : Int32)).toUInt32.toUInt16.toUInt32.toInt32 cs sv bd 6 own_g0 (6 : Int32) S_cs S_sf X_bs F_value_bs F_coder_bs V_bd hcs hsv rfl rfl (by rw [hch2]; exact hch.1) (by rw [hch2]; exact hch.2)) all0 rfl pd_16 rfl (Nat.le_of_eq rfl) (by decide) (by decide) (by decide) (by decide) rfl ?_
      rintro T5 h5 _ W5 K5 P5 ⟨so, sb, sg, rfl, o_so, -, X_so, F_value_so, F_coder_so, V_sb⟩
      have S_cs := own_staK0 S_cs K5
      have S_sf := own_staK0 S_sf K5
      have S_vs := own_staK0 S_vs K5
      have V_va := V_va.keep K5 nin0
      have Y_va := Y_va.keep K5
      have S_e0 := own_staK0 S_e0 K5
      have S_e1 := own_staK0 S_e1 K5
      have S_e2 := own_staK0 S_e2 K5
      have F_label_e0 := F_label_e0.keep K5 nin0
      have X_l0 := X_l0.keep K5
      have F_value_l0 := F_value_l0.keep K5 nin0
      have F_coder_l0 := F_coder_l0.keep K5 nin0
      have V_m0 := V_m0.keep K5 nin0
      have F_label_e1 := F_label_e1.keep K5 nin0
      have X_l1 := X_l1.keep K5
      have F_value_l1 := F_value_l1.keep K5 nin0
      have F_coder_l1 := F_coder_l1.keep K5 nin0
      have V_m1 := V_m1.keep K5 nin0
      have F_label_e2 := F_label_e2.keep K5 nin0
      have X_l2 := X_l2.keep K5
      have F_value_l2 := F_value_l2.keep K5 nin0
      have F_coder_l2 := F_coder_l2.keep K5 nin0
      have V_m2 := V_m2.keep K5 nin0
      have HK := Nat.le_trans HK K5.1
      have CR := CR.trans (CHr.keep K5 all0 CR.1)
      have X_bs := X_bs.keep K5
      have F_value_bs := F_value_bs.keep K5 nin0
      have F_coder_bs := F_coder_bs.keep K5 nin0
      have V_bd := V_bd.keep K5 nin0
      show own_Go p e below C T5 (mkF m 71 #[.val (.int p1), .val (.int p2), .val (.int p3), .val (.int p4), .val (.int (0 : Int32)), .val (.ref bs), .val (.int (3 : Int32)), .val (.int (p3 &&& (7 : Int32))), .val (.int (p4 &&& (255 : Int32)).toUInt32.toUInt16.toUInt32.toInt32), .unset, .unset, .unset] [(.ref so)])
      have hs0 : l0 = so → own_eqs 6 k0 3 sg = 1 := fun q => absurd q (Nat.ne_of_lt (Nat.lt_of_lt_of_le ql0 o_so))
      have hs1 : l1 = so → own_eqs 5 k1 3 sg = 1 := fun q => absurd q (Nat.ne_of_lt (Nat.lt_of_lt_of_le ql1 o_so))
      have hs2 : l2 = so → own_eqs 6 k2 3 sg = 1 := fun q => absurd q (Nat.ne_of_lt (Nat.lt_of_lt_of_le ql2 o_so))
      exact own_tail l Z a0 hw h0 p1 p2 p3 p4 cs sv va vf e0 e1 e2 l0 l1 l2 m0 m1 m2 k0 k1 k2 p e s m below meth c C hC vm1 n1 T5 h5 so sb 3 sg (3 : Int32) bs (0 : Int32) (3 : Int32) (p3 &&& (7 : Int32)) (p4 &&& (255 : Int32)).toUInt32.toUInt16.toUInt32.toInt32 W5 HS HK CR S_cs S_sf S_vs V_va Y_va S_e0 S_e1 S_e2 F_label_e0 X_l0 F_value_l0 F_coder_l0 V_m0 F_label_e1 X_l1 F_value_l1 F_coder_l1 V_m1 F_label_e2 X_l2 F_value_l2 F_coder_l2 V_m2 X_so F_value_so F_coder_so V_sb hcs hsv hv0 hv1 hv2 hk0 hk1 hk2 rfl rfl hs0 hs1 hs2
    · obtain rfl : nv = (4 : Int32) := own_lit32 hnn _ rfl
      show own_Go p e below C T1 (mkF m 68 #[.val (.int p1), .val (.int p2), .val (.int p3), .val (.int p4), .val (.int (0 : Int32)), .val (.ref bs), .val (.int (4 : Int32)), .val (.int (p3 &&& (7 : Int32))), .val (.int (p4 &&& (255 : Int32)).toUInt32.toUInt16.toUInt32.toInt32), .unset, .unset, .unset] [(.int (p4 &&& (255 : Int32)).toUInt32.toUInt16.toUInt32.toInt32), (.int (p3 &&& (7 : Int32))), (.ref bs), (.int (4 : Int32))])
      have hsz1 := own_le W1
      have lq : h1.size ≤ h1.size := Nat.le_refl _
      have ql0 := X_l0.lt
      have ql1 := X_l1.lt
      have ql2 := X_l2.lt
      refine own_callS W1 (A := [(.int (4 : Int32)), (.ref bs), (.int (p3 &&& (7 : Int32))), (.int (p4 &&& (255 : Int32)).toUInt32.toUInt16.toUInt32.toInt32)]) (wt := 0) (pc' := 71) (st := []) at_68 (wd8 hw) (wd9 hw) (wd10 hw) (wd11 hw) (by decide) (own_m1_4 l Z a0 hw [] h1 bs (p3 &&& (7 : Int32)) (p4 &&& (255 : Int32)).toUInt32.toUInt16.toUInt32.toInt32 cs sv bd 6 own_g0 (6 : Int32) S_cs S_sf X_bs F_value_bs F_coder_bs V_bd hcs hsv rfl rfl (by rw [hch2]; exact hch.1) (by rw [hch2]; exact hch.2)) all0 rfl pd_16 rfl (Nat.le_of_eq rfl) (by decide) (by decide) (by decide) (by decide) rfl ?_
      rintro T6 h6 _ W6 K6 P6 ⟨so, sb, sg, rfl, o_so, -, X_so, F_value_so, F_coder_so, V_sb⟩
      have S_cs := own_staK0 S_cs K6
      have S_sf := own_staK0 S_sf K6
      have S_vs := own_staK0 S_vs K6
      have V_va := V_va.keep K6 nin0
      have Y_va := Y_va.keep K6
      have S_e0 := own_staK0 S_e0 K6
      have S_e1 := own_staK0 S_e1 K6
      have S_e2 := own_staK0 S_e2 K6
      have F_label_e0 := F_label_e0.keep K6 nin0
      have X_l0 := X_l0.keep K6
      have F_value_l0 := F_value_l0.keep K6 nin0
      have F_coder_l0 := F_coder_l0.keep K6 nin0
      have V_m0 := V_m0.keep K6 nin0
      have F_label_e1 := F_label_e1.keep K6 nin0
      have X_l1 := X_l1.keep K6
      have F_value_l1 := F_value_l1.keep K6 nin0
      have F_coder_l1 := F_coder_l1.keep K6 nin0
      have V_m1 := V_m1.keep K6 nin0
      have F_label_e2 := F_label_e2.keep K6 nin0
      have X_l2 := X_l2.keep K6
      have F_value_l2 := F_value_l2.keep K6 nin0
      have F_coder_l2 := F_coder_l2.keep K6 nin0
      have V_m2 := V_m2.keep K6 nin0
      have HK := Nat.le_trans HK K6.1
      have CR := CR.trans (CHr.keep K6 all0 CR.1)
      have X_bs := X_bs.keep K6
      have F_value_bs := F_value_bs.keep K6 nin0
      have F_coder_bs := F_coder_bs.keep K6 nin0
      have V_bd := V_bd.keep K6 nin0
      show own_Go p e below C T6 (mkF m 71 #[.val (.int p1), .val (.int p2), .val (.int p3), .val (.int p4), .val (.int (0 : Int32)), .val (.ref bs), .val (.int (4 : Int32)), .val (.int (p3 &&& (7 : Int32))), .val (.int (p4 &&& (255 : Int32)).toUInt32.toUInt16.toUInt32.toInt32), .unset, .unset, .unset] [(.ref so)])
      have hs0 : l0 = so → own_eqs 6 k0 4 sg = 1 := fun q => absurd q (Nat.ne_of_lt (Nat.lt_of_lt_of_le ql0 o_so))
      have hs1 : l1 = so → own_eqs 5 k1 4 sg = 1 := fun q => absurd q (Nat.ne_of_lt (Nat.lt_of_lt_of_le ql1 o_so))
      have hs2 : l2 = so → own_eqs 6 k2 4 sg = 1 := fun q => absurd q (Nat.ne_of_lt (Nat.lt_of_lt_of_le ql2 o_so))
      exact own_tail l Z a0 hw h0 p1 p2 p3 p4 cs sv va vf e0 e1 e2 l0 l1 l2 m0 m1 m2 k0 k1 k2 p e s m below meth c C hC vm1 n1 T6 h6 so sb 4 sg (4 : Int32) bs (0 : Int32) (4 : Int32) (p3 &&& (7 : Int32)) (p4 &&& (255 : Int32)).toUInt32.toUInt16.toUInt32.toInt32 W6 HS HK CR S_cs S_sf S_vs V_va Y_va S_e0 S_e1 S_e2 F_label_e0 X_l0 F_value_l0 F_coder_l0 V_m0 F_label_e1 X_l1 F_value_l1 F_coder_l1 V_m1 F_label_e2 X_l2 F_value_l2 F_coder_l2 V_m2 X_so F_value_so F_coder_so V_sb hcs hsv hv0 hv1 hv2 hk0 hk1 hk2 rfl rfl hs0 hs1 hs2
    · obtain rfl : nv = (5 : Int32) := own_lit32 hnn _ rfl
      show own_Go p e below C T1 (mkF m 68 #[.val (.int p1), .val (.int p2), .val (.int p3), .val (.int p4), .val (.int (0 : Int32)), .val (.ref bs), .val (.int (5 : Int32)), .val (.int (p3 &&& (7 : Int32))), .val (.int (p4 &&& (255 : Int32)).toUInt32.toUInt16.toUInt32.toInt32), .unset, .unset, .unset] [(.int (p4 &&& (255 : Int32)).toUInt32.toUInt16.toUInt32.toInt32), (.int (p3 &&& (7 : Int32))), (.ref bs), (.int (5 : Int32))])
      have hsz1 := own_le W1
      have lq : h1.size ≤ h1.size := Nat.le_refl _
      have ql0 := X_l0.lt
      have ql1 := X_l1.lt
      have ql2 := X_l2.lt
      refine own_callS W1 (A := [(.int (5 : Int32)), (.ref bs), (.int (p3 &&& (7 : Int32))), (.int (p4 &&& (255 : Int32)).toUInt32.toUInt16.toUInt32.toInt32)]) (wt := 0) (pc' := 71) (st := []) at_68 (wd8 hw) (wd9 hw) (wd10 hw) (wd11 hw) (by decide) (own_m1_5 l Z a0 hw [] h1 bs (p3 &&& (7 : Int32)) (p4 &&& (255 : Int32)).toUInt32.toUInt16.toUInt32.toInt32 cs sv bd 6 own_g0 (6 : Int32) S_cs S_sf X_bs F_value_bs F_coder_bs V_bd hcs hsv rfl rfl (by rw [hch2]; exact hch.1) (by rw [hch2]; exact hch.2)) all0 rfl pd_16 rfl (Nat.le_of_eq rfl) (by decide) (by decide) (by decide) (by decide) rfl ?_
      rintro T7 h7 _ W7 K7 P7 ⟨so, sb, sg, rfl, o_so, -, X_so, F_value_so, F_coder_so, V_sb⟩
      have S_cs := own_staK0 S_cs K7
      have S_sf := own_staK0 S_sf K7
      have S_vs := own_staK0 S_vs K7
      have V_va := V_va.keep K7 nin0
      have Y_va := Y_va.keep K7
      have S_e0 := own_staK0 S_e0 K7
      have S_e1 := own_staK0 S_e1 K7
      have S_e2 := own_staK0 S_e2 K7
      have F_label_e0 := F_label_e0.keep K7 nin0
      have X_l0 := X_l0.keep K7
      have F_value_l0 := F_value_l0.keep K7 nin0
      have F_coder_l0 := F_coder_l0.keep K7 nin0
      have V_m0 := V_m0.keep K7 nin0
      have F_label_e1 := F_label_e1.keep K7 nin0
      have X_l1 := X_l1.keep K7
      have F_value_l1 := F_value_l1.keep K7 nin0
      have F_coder_l1 := F_coder_l1.keep K7 nin0
      have V_m1 := V_m1.keep K7 nin0
      have F_label_e2 := F_label_e2.keep K7 nin0
      have X_l2 := X_l2.keep K7
      have F_value_l2 := F_value_l2.keep K7 nin0
      have F_coder_l2 := F_coder_l2.keep K7 nin0
      have V_m2 := V_m2.keep K7 nin0
      have HK := Nat.le_trans HK K7.1
      have CR := CR.trans (CHr.keep K7 all0 CR.1)
      have X_bs := X_bs.keep K7
      have F_value_bs := F_value_bs.keep K7 nin0
      have F_coder_bs := F_coder_bs.keep K7 nin0
      have V_bd := V_bd.keep K7 nin0
      show own_Go p e below C T7 (mkF m 71 #[.val (.int p1), .val (.int p2), .val (.int p3), .val (.int p4), .val (.int (0 : Int32)), .val (.ref bs), .val (.int (5 : Int32)), .val (.int (p3 &&& (7 : Int32))), .val (.int (p4 &&& (255 : Int32)).toUInt32.toUInt16.toUInt32.toInt32), .unset, .unset, .unset] [(.ref so)])
      have hs0 : l0 = so → own_eqs 6 k0 5 sg = 1 := fun q => absurd q (Nat.ne_of_lt (Nat.lt_of_lt_of_le ql0 o_so))
      have hs1 : l1 = so → own_eqs 5 k1 5 sg = 1 := fun q => absurd q (Nat.ne_of_lt (Nat.lt_of_lt_of_le ql1 o_so))
      have hs2 : l2 = so → own_eqs 6 k2 5 sg = 1 := fun q => absurd q (Nat.ne_of_lt (Nat.lt_of_lt_of_le ql2 o_so))
      exact own_tail l Z a0 hw h0 p1 p2 p3 p4 cs sv va vf e0 e1 e2 l0 l1 l2 m0 m1 m2 k0 k1 k2 p e s m below meth c C hC vm1 n1 T7 h7 so sb 5 sg (5 : Int32) bs (0 : Int32) (5 : Int32) (p3 &&& (7 : Int32)) (p4 &&& (255 : Int32)).toUInt32.toUInt16.toUInt32.toInt32 W7 HS HK CR S_cs S_sf S_vs V_va Y_va S_e0 S_e1 S_e2 F_label_e0 X_l0 F_value_l0 F_coder_l0 V_m0 F_label_e1 X_l1 F_value_l1 F_coder_l1 V_m1 F_label_e2 X_l2 F_value_l2 F_coder_l2 V_m2 X_so F_value_so F_coder_so V_sb hcs hsv hv0 hv1 hv2 hk0 hk1 hk2 rfl rfl hs0 hs1 hs2
    · obtain rfl : nv = (6 : Int32) := own_lit32 hnn _ rfl
      show own_Go p e below C T1 (mkF m 68 #[.val (.int p1), .val (.int p2), .val (.int p3), .val (.int p4), .val (.int (0 : Int32)), .val (.ref bs), .val (.int (6 : Int32)), .val (.int (p3 &&& (7 : Int32))), .val (.int (p4 &&& (255 : Int32)).toUInt32.toUInt16.toUInt32.toInt32), .unset, .unset, .unset] [(.int (p4 &&& (255 : Int32)).toUInt32.toUInt16.toUInt32.toInt32), (.int (p3 &&& (7 : Int32))), (.ref bs), (.int (6 : Int32))])
      have hsz1 := own_le W1
      have lq : h1.size ≤ h1.size := Nat.le_refl _
      have ql0 := X_l0.lt
      have ql1 := X_l1.lt
      have ql2 := X_l2.lt
      refine own_callS W1 (A := [(.int (6 : Int32)), (.ref bs), (.int (p3 &&& (7 : Int32))), (.int (p4 &&& (255 : Int32)).toUInt32.toUInt16.toUInt32.toInt32)]) (wt := 0) (pc' := 71) (st := []) at_68 (wd8 hw) (wd9 hw) (wd10 hw) (wd11 hw) (by decide) (own_m1_6 l Z a0 hw [] h1 bs (p3 &&& (7 : Int32)) (p4 &&& (255 : Int32)).toUInt32.toUInt16.toUInt32.toInt32 cs sv bd 6 own_g0 (6 : Int32) S_cs S_sf X_bs F_value_bs F_coder_bs V_bd hcs hsv rfl rfl (by rw [hch2]; exact hch.1) (by rw [hch2]; exact hch.2)) all0 rfl pd_16 rfl (Nat.le_of_eq rfl) (by decide) (by decide) (by decide) (by decide) rfl ?_
      rintro T8 h8 _ W8 K8 P8 ⟨so, sb, sg, rfl, o_so, -, X_so, F_value_so, F_coder_so, V_sb⟩
      have S_cs := own_staK0 S_cs K8
      have S_sf := own_staK0 S_sf K8
      have S_vs := own_staK0 S_vs K8
      have V_va := V_va.keep K8 nin0
      have Y_va := Y_va.keep K8
      have S_e0 := own_staK0 S_e0 K8
      have S_e1 := own_staK0 S_e1 K8
      have S_e2 := own_staK0 S_e2 K8
      have F_label_e0 := F_label_e0.keep K8 nin0
      have X_l0 := X_l0.keep K8
      have F_value_l0 := F_value_l0.keep K8 nin0
      have F_coder_l0 := F_coder_l0.keep K8 nin0
      have V_m0 := V_m0.keep K8 nin0
      have F_label_e1 := F_label_e1.keep K8 nin0
      have X_l1 := X_l1.keep K8
      have F_value_l1 := F_value_l1.keep K8 nin0
      have F_coder_l1 := F_coder_l1.keep K8 nin0
      have V_m1 := V_m1.keep K8 nin0
      have F_label_e2 := F_label_e2.keep K8 nin0
      have X_l2 := X_l2.keep K8
      have F_value_l2 := F_value_l2.keep K8 nin0
      have F_coder_l2 := F_coder_l2.keep K8 nin0
      have V_m2 := V_m2.keep K8 nin0
      have HK := Nat.le_trans HK K8.1
      have CR := CR.trans (CHr.keep K8 all0 CR.1)
      have X_bs := X_bs.keep K8
      have F_value_bs := F_value_bs.keep K8 nin0
      have F_coder_bs := F_coder_bs.keep K8 nin0
      have V_bd := V_bd.keep K8 nin0
      show own_Go p e below C T8 (mkF m 71 #[.val (.int p1), .val (.int p2), .val (.int p3), .val (.int p4), .val (.int (0 : Int32)), .val (.ref bs), .val (.int (6 : Int32)), .val (.int (p3 &&& (7 : Int32))), .val (.int (p4 &&& (255 : Int32)).toUInt32.toUInt16.toUInt32.toInt32), .unset, .unset, .unset] [(.ref so)])
      have hs0 : l0 = so → own_eqs 6 k0 6 sg = 1 := fun q => absurd q (Nat.ne_of_lt (Nat.lt_of_lt_of_le ql0 o_so))
      have hs1 : l1 = so → own_eqs 5 k1 6 sg = 1 := fun q => absurd q (Nat.ne_of_lt (Nat.lt_of_lt_of_le ql1 o_so))
      have hs2 : l2 = so → own_eqs 6 k2 6 sg = 1 := fun q => absurd q (Nat.ne_of_lt (Nat.lt_of_lt_of_le ql2 o_so))
      exact own_tail l Z a0 hw h0 p1 p2 p3 p4 cs sv va vf e0 e1 e2 l0 l1 l2 m0 m1 m2 k0 k1 k2 p e s m below meth c C hC vm1 n1 T8 h8 so sb 6 sg (6 : Int32) bs (0 : Int32) (6 : Int32) (p3 &&& (7 : Int32)) (p4 &&& (255 : Int32)).toUInt32.toUInt16.toUInt32.toInt32 W8 HS HK CR S_cs S_sf S_vs V_va Y_va S_e0 S_e1 S_e2 F_label_e0 X_l0 F_value_l0 F_coder_l0 V_m0 F_label_e1 X_l1 F_value_l1 F_coder_l1 V_m1 F_label_e2 X_l2 F_value_l2 F_coder_l2 V_m2 X_so F_value_so F_coder_so V_sb hcs hsv hv0 hv1 hv2 hk0 hk1 hk2 rfl rfl hs0 hs1 hs2
    · obtain rfl : nv = (7 : Int32) := own_lit32 hnn _ rfl
      show own_Go p e below C T1 (mkF m 68 #[.val (.int p1), .val (.int p2), .val (.int p3), .val (.int p4), .val (.int (0 : Int32)), .val (.ref bs), .val (.int (7 : Int32)), .val (.int (p3 &&& (7 : Int32))), .val (.int (p4 &&& (255 : Int32)).toUInt32.toUInt16.toUInt32.toInt32), .unset, .unset, .unset] [(.int (p4 &&& (255 : Int32)).toUInt32.toUInt16.toUInt32.toInt32), (.int (p3 &&& (7 : Int32))), (.ref bs), (.int (7 : Int32))])
      have hsz1 := own_le W1
      have lq : h1.size ≤ h1.size := Nat.le_refl _
      have ql0 := X_l0.lt
      have ql1 := X_l1.lt
      have ql2 := X_l2.lt
      refine own_callS W1 (A := [(.int (7 : Int32)), (.ref bs), (.int (p3 &&& (7 : Int32))), (.int (p4 &&& (255 : Int32)).toUInt32.toUInt16.toUInt32.toInt32)]) (wt := 0) (pc' := 71) (st := []) at_68 (wd8 hw) (wd9 hw) (wd10 hw) (wd11 hw) (by decide) (own_m1_7 l Z a0 hw [] h1 bs (p3 &&& (7 : Int32)) (p4 &&& (255 : Int32)).toUInt32.toUInt16.toUInt32.toInt32 cs sv bd 6 own_g0 (6 : Int32) S_cs S_sf X_bs F_value_bs F_coder_bs V_bd hcs hsv rfl rfl (by rw [hch2]; exact hch.1) (by rw [hch2]; exact hch.2)) all0 rfl pd_16 rfl (Nat.le_of_eq rfl) (by decide) (by decide) (by decide) (by decide) rfl ?_
      rintro T9 h9 _ W9 K9 P9 ⟨so, sb, sg, rfl, o_so, -, X_so, F_value_so, F_coder_so, V_sb⟩
      have S_cs := own_staK0 S_cs K9
      have S_sf := own_staK0 S_sf K9
      have S_vs := own_staK0 S_vs K9
      have V_va := V_va.keep K9 nin0
      have Y_va := Y_va.keep K9
      have S_e0 := own_staK0 S_e0 K9
      have S_e1 := own_staK0 S_e1 K9
      have S_e2 := own_staK0 S_e2 K9
      have F_label_e0 := F_label_e0.keep K9 nin0
      have X_l0 := X_l0.keep K9
      have F_value_l0 := F_value_l0.keep K9 nin0
      have F_coder_l0 := F_coder_l0.keep K9 nin0
      have V_m0 := V_m0.keep K9 nin0
      have F_label_e1 := F_label_e1.keep K9 nin0
      have X_l1 := X_l1.keep K9
      have F_value_l1 := F_value_l1.keep K9 nin0
      have F_coder_l1 := F_coder_l1.keep K9 nin0
      have V_m1 := V_m1.keep K9 nin0
      have F_label_e2 := F_label_e2.keep K9 nin0
      have X_l2 := X_l2.keep K9
      have F_value_l2 := F_value_l2.keep K9 nin0
      have F_coder_l2 := F_coder_l2.keep K9 nin0
      have V_m2 := V_m2.keep K9 nin0
      have HK := Nat.le_trans HK K9.1
      have CR := CR.trans (CHr.keep K9 all0 CR.1)
      have X_bs := X_bs.keep K9
      have F_value_bs := F_value_bs.keep K9 nin0
      have F_coder_bs := F_coder_bs.keep K9 nin0
      have V_bd := V_bd.keep K9 nin0
      show own_Go p e below C T9 (mkF m 71 #[.val (.int p1), .val (.int p2), .val (.int p3), .val (.int p4), .val (.int (0 : Int32)), .val (.ref bs), .val (.int (7 : Int32)), .val (.int (p3 &&& (7 : Int32))), .val (.int (p4 &&& (255 : Int32)).toUInt32.toUInt16.toUInt32.toInt32), .unset, .unset, .unset] [(.ref so)])
      have hs0 : l0 = so → own_eqs 6 k0 7 sg = 1 := fun q => absurd q (Nat.ne_of_lt (Nat.lt_of_lt_of_le ql0 o_so))
      have hs1 : l1 = so → own_eqs 5 k1 7 sg = 1 := fun q => absurd q (Nat.ne_of_lt (Nat.lt_of_lt_of_le ql1 o_so))
      have hs2 : l2 = so → own_eqs 6 k2 7 sg = 1 := fun q => absurd q (Nat.ne_of_lt (Nat.lt_of_lt_of_le ql2 o_so))
      exact own_tail l Z a0 hw h0 p1 p2 p3 p4 cs sv va vf e0 e1 e2 l0 l1 l2 m0 m1 m2 k0 k1 k2 p e s m below meth c C hC vm1 n1 T9 h9 so sb 7 sg (7 : Int32) bs (0 : Int32) (7 : Int32) (p3 &&& (7 : Int32)) (p4 &&& (255 : Int32)).toUInt32.toUInt16.toUInt32.toInt32 W9 HS HK CR S_cs S_sf S_vs V_va Y_va S_e0 S_e1 S_e2 F_label_e0 X_l0 F_value_l0 F_coder_l0 V_m0 F_label_e1 X_l1 F_value_l1 F_coder_l1 V_m1 F_label_e2 X_l2 F_value_l2 F_coder_l2 V_m2 X_so F_value_so F_coder_so V_sb hcs hsv hv0 hv1 hv2 hk0 hk1 hk2 rfl rfl hs0 hs1 hs2
  · obtain rfl : mv = (1 : Int32) := own_lit32 hm _ rfl
    show own_Go p e below C T0 (mkF m 5 #[.val (.int p1), .val (.int p2), .val (.int p3), .val (.int p4), .val (.int (1 : Int32)), .unset, .unset, .unset, .unset, .unset, .unset, .unset] [])
    refine own_iload W0 7 at_5 rfl rfl ?_
    refine own_ifY W0 15 at_7 ((if0 _ _).trans (feq ((by decide) : ¬ ((1 : Int32) = (0 : Int32)))).2) (by decide) (by decide) ?_
    refine own_iload W0 17 at_15 rfl rfl ?_
    refine own_iconst W0 (1 : Int32) 18 at_17 rfl rfl ?_
    refine own_icmpN W0 21 at_18 ((teq (rfl : (1 : Int32) = (1 : Int32))).2) rfl ?_
    refine own_ldcCH (s := s) (vm0 := s.vm) (EL := own_EL) W0 64 5 own_g1 23 at_21 (wd106 hw) (own_strs hw) (own_ew hw) (List.mem_of_getElem? (i := 1) rfl) HS HK CR ⟨by decide, rfl⟩ (by decide) (by decide) (by decide) (by decide) (by decide) rfl ?_
    intro vm10 n10 T10 h10 bs bd HS HK W10 E10 CR X_bs F_value_bs F_coder_bs V_bd SF10
    have S_cs := S_cs.ext E10
    have S_sf := S_sf.ext E10
    have S_vs := S_vs.ext E10
    have V_va := V_va.ext E10
    have Y_va := Y_va.ext E10
    have S_e0 := S_e0.ext E10
    have S_e1 := S_e1.ext E10
    have S_e2 := S_e2.ext E10
    have F_label_e0 := F_label_e0.ext E10
    have X_l0 := X_l0.ext E10
    have F_value_l0 := F_value_l0.ext E10
    have F_coder_l0 := F_coder_l0.ext E10
    have V_m0 := V_m0.ext E10
    have F_label_e1 := F_label_e1.ext E10
    have X_l1 := X_l1.ext E10
    have F_value_l1 := F_value_l1.ext E10
    have F_coder_l1 := F_coder_l1.ext E10
    have V_m1 := V_m1.ext E10
    have F_label_e2 := F_label_e2.ext E10
    have X_l2 := X_l2.ext E10
    have F_value_l2 := F_value_l2.ext E10
    have F_coder_l2 := F_coder_l2.ext E10
    have V_m2 := V_m2.ext E10
    show own_Go p e below C T10 (mkF m 23 #[.val (.int p1), .val (.int p2), .val (.int p3), .val (.int p4), .val (.int (1 : Int32)), .unset, .unset, .unset, .unset, .unset, .unset, .unset] [(.ref bs)])
    refine own_goto W10 28 at_23 (by decide) (by decide) ?_
    refine own_astore W10 30 #[.val (.int p1), .val (.int p2), .val (.int p3), .val (.int p4), .val (.int (1 : Int32)), .val (.ref bs), .unset, .unset, .unset, .unset, .unset, .unset] at_28 rfl rfl rfl ?_
    refine own_iloadN W10 31 at_30 rfl rfl ?_
    refine own_bipush W10 (7 : Int32) 33 at_31 rfl rfl ?_
    refine own_iand W10 34 at_33 rfl ?_
    obtain ⟨nn, hnn, hn8⟩ := own_m7b p2
    generalize h_nv : (p2 &&& (7 : Int32)) = nv at hnn ⊢
    show own_Go p e below C T10 (mkF m 34 #[.val (.int p1), .val (.int p2), .val (.int p3), .val (.int p4), .val (.int (1 : Int32)), .val (.ref bs), .unset, .unset, .unset, .unset, .unset, .unset] [(.int nv)])
    refine own_istore W10 36 #[.val (.int p1), .val (.int p2), .val (.int p3), .val (.int p4), .val (.int (1 : Int32)), .val (.ref bs), .val (.int nv), .unset, .unset, .unset, .unset, .unset] at_34 rfl rfl ?_
    refine own_iloadN W10 37 at_36 rfl rfl ?_
    refine own_bipush W10 (7 : Int32) 39 at_37 rfl rfl ?_
    refine own_iand W10 40 at_39 rfl ?_
    refine own_istore W10 42 #[.val (.int p1), .val (.int p2), .val (.int p3), .val (.int p4), .val (.int (1 : Int32)), .val (.ref bs), .val (.int nv), .val (.int (p3 &&& (7 : Int32))), .unset, .unset, .unset, .unset] at_40 rfl rfl ?_
    refine own_iloadN W10 43 at_42 rfl rfl ?_
    refine own_sipush W10 (255 : Int32) 46 at_43 rfl rfl ?_
    refine own_iand W10 47 at_46 rfl ?_
    refine own_i2c W10 48 at_47 rfl ?_
    refine own_istore W10 50 #[.val (.int p1), .val (.int p2), .val (.int p3), .val (.int p4), .val (.int (1 : Int32)), .val (.ref bs), .val (.int nv), .val (.int (p3 &&& (7 : Int32))), .val (.int (p4 &&& (255 : Int32)).toUInt32.toUInt16.toUInt32.toInt32), .unset, .unset, .unset] at_48 rfl rfl ?_
    refine own_iload W10 52 at_50 rfl rfl ?_
    refine own_iconst W10 (3 : Int32) 53 at_52 rfl rfl ?_
    refine own_icmpY W10 60 at_53 ((feq ((by decide) : ¬ ((1 : Int32) = (3 : Int32)))).2) (by decide) (by decide) ?_
    refine own_iload W10 62 at_60 rfl rfl ?_
    refine own_aload W10 64 at_62 rfl rfl rfl ?_
    refine own_iload W10 66 at_64 rfl rfl ?_
    refine own_iload W10 68 at_66 rfl rfl ?_
    have hch := own_255 p4
    have hch2 := own_c16 hch.1 hch.2
    rcases own_lt8 hn8 with rfl | rfl | rfl | rfl | rfl | rfl | rfl | rfl
    · obtain rfl : nv = (0 : Int32) := own_lit32 hnn _ rfl
      show own_Go p e below C T10 (mkF m 68 #[.val (.int p1), .val (.int p2), .val (.int p3), .val (.int p4), .val (.int (1 : Int32)), .val (.ref bs), .val (.int (0 : Int32)), .val (.int (p3 &&& (7 : Int32))), .val (.int (p4 &&& (255 : Int32)).toUInt32.toUInt16.toUInt32.toInt32), .unset, .unset, .unset] [(.int (p4 &&& (255 : Int32)).toUInt32.toUInt16.toUInt32.toInt32), (.int (p3 &&& (7 : Int32))), (.ref bs), (.int (0 : Int32))])
      have hsz1 := own_le W10
      have lq : h10.size ≤ h10.size := Nat.le_refl _
      have ql0 := X_l0.lt
      have ql1 := X_l1.lt
      have ql2 := X_l2.lt
      refine own_callSH (s := s) (vm0 := vm10) (EL := own_EL) W10 (A := [(.int (0 : Int32)), (.ref bs), (.int (p3 &&& (7 : Int32))), (.int (p4 &&& (255 : Int32)).toUInt32.toUInt16.toUInt32.toInt32)]) (wt := 0) (pc' := 71) (st := []) at_68 (wd8 hw) (wd9 hw) (wd10 hw) (wd11 hw) (by decide) (own_ew hw) HS HK CR (own_m1e l Z a0 hw [] h10 bs (p3 &&& (7 : Int32)) (p4 &&& (255 : Int32)).toUInt32.toUInt16.toUInt32.toInt32) all0 rfl pd_16 rfl (Nat.le_of_eq rfl) (by decide) (by decide) (by decide) (by decide) rfl ?_
      rintro vm11 n11 T11 h11 _ HS HK W11 K11 CR ⟨so, sb, sg, rfl, o_so, X_so, F_value_so, F_coder_so, V_sb⟩
      have S_cs := own_staK0 S_cs K11
      have S_sf := own_staK0 S_sf K11
      have S_vs := own_staK0 S_vs K11
      have V_va := V_va.keep K11 nin0
      have Y_va := Y_va.keep K11
      have S_e0 := own_staK0 S_e0 K11
      have S_e1 := own_staK0 S_e1 K11
      have S_e2 := own_staK0 S_e2 K11
      have F_label_e0 := F_label_e0.keep K11 nin0
      have X_l0 := X_l0.keep K11
      have F_value_l0 := F_value_l0.keep K11 nin0
      have F_coder_l0 := F_coder_l0.keep K11 nin0
      have V_m0 := V_m0.keep K11 nin0
      have F_label_e1 := F_label_e1.keep K11 nin0
      have X_l1 := X_l1.keep K11
      have F_value_l1 := F_value_l1.keep K11 nin0
      have F_coder_l1 := F_coder_l1.keep K11 nin0
      have V_m1 := V_m1.keep K11 nin0
      have F_label_e2 := F_label_e2.keep K11 nin0
      have X_l2 := X_l2.keep K11
      have F_value_l2 := F_value_l2.keep K11 nin0
      have F_coder_l2 := F_coder_l2.keep K11 nin0
      have V_m2 := V_m2.keep K11 nin0
      have X_bs := X_bs.keep K11
      have F_value_bs := F_value_bs.keep K11 nin0
      have F_coder_bs := F_coder_bs.keep K11 nin0
      have V_bd := V_bd.keep K11 nin0
      show own_Go p e below C T11 (mkF m 71 #[.val (.int p1), .val (.int p2), .val (.int p3), .val (.int p4), .val (.int (1 : Int32)), .val (.ref bs), .val (.int (0 : Int32)), .val (.int (p3 &&& (7 : Int32))), .val (.int (p4 &&& (255 : Int32)).toUInt32.toUInt16.toUInt32.toInt32), .unset, .unset, .unset] [(.ref so)])
      have hs0 : l0 = so → own_eqs 6 k0 0 sg = 1 := fun q => absurd q (Nat.ne_of_lt (Nat.lt_of_lt_of_le ql0 o_so))
      have hs1 : l1 = so → own_eqs 5 k1 0 sg = 1 := fun q => absurd q (Nat.ne_of_lt (Nat.lt_of_lt_of_le ql1 o_so))
      have hs2 : l2 = so → own_eqs 6 k2 0 sg = 1 := fun q => absurd q (Nat.ne_of_lt (Nat.lt_of_lt_of_le ql2 o_so))
      exact own_tail l Z a0 hw h0 p1 p2 p3 p4 cs sv va vf e0 e1 e2 l0 l1 l2 m0 m1 m2 k0 k1 k2 p e s m below meth c C hC vm11 n11 T11 h11 so sb 0 sg (0 : Int32) bs (1 : Int32) (0 : Int32) (p3 &&& (7 : Int32)) (p4 &&& (255 : Int32)).toUInt32.toUInt16.toUInt32.toInt32 W11 HS HK CR S_cs S_sf S_vs V_va Y_va S_e0 S_e1 S_e2 F_label_e0 X_l0 F_value_l0 F_coder_l0 V_m0 F_label_e1 X_l1 F_value_l1 F_coder_l1 V_m1 F_label_e2 X_l2 F_value_l2 F_coder_l2 V_m2 X_so F_value_so F_coder_so V_sb hcs hsv hv0 hv1 hv2 hk0 hk1 hk2 rfl rfl hs0 hs1 hs2
    · obtain rfl : nv = (1 : Int32) := own_lit32 hnn _ rfl
      show own_Go p e below C T10 (mkF m 68 #[.val (.int p1), .val (.int p2), .val (.int p3), .val (.int p4), .val (.int (1 : Int32)), .val (.ref bs), .val (.int (1 : Int32)), .val (.int (p3 &&& (7 : Int32))), .val (.int (p4 &&& (255 : Int32)).toUInt32.toUInt16.toUInt32.toInt32), .unset, .unset, .unset] [(.int (p4 &&& (255 : Int32)).toUInt32.toUInt16.toUInt32.toInt32), (.int (p3 &&& (7 : Int32))), (.ref bs), (.int (1 : Int32))])
      have hsz1 := own_le W10
      have lq : h10.size ≤ h10.size := Nat.le_refl _
      have ql0 := X_l0.lt
      have ql1 := X_l1.lt
      have ql2 := X_l2.lt
      refine own_callS W10 (A := [(.int (1 : Int32)), (.ref bs), (.int (p3 &&& (7 : Int32))), (.int (p4 &&& (255 : Int32)).toUInt32.toUInt16.toUInt32.toInt32)]) (wt := 0) (pc' := 71) (st := []) at_68 (wd8 hw) (wd9 hw) (wd10 hw) (wd11 hw) (by decide) (own_m1_1 l Z a0 hw [] h10 bs (p3 &&& (7 : Int32)) (p4 &&& (255 : Int32)).toUInt32.toUInt16.toUInt32.toInt32 cs sv bd 5 own_g1 (5 : Int32) S_cs S_sf X_bs F_value_bs F_coder_bs V_bd hcs hsv rfl rfl (by rw [hch2]; exact hch.1) (by rw [hch2]; exact hch.2)) all0 rfl pd_16 rfl (Nat.le_of_eq rfl) (by decide) (by decide) (by decide) (by decide) rfl ?_
      rintro T12 h12 _ W12 K12 P12 ⟨so, sb, sg, rfl, o_so, -, X_so, F_value_so, F_coder_so, V_sb⟩
      have S_cs := own_staK0 S_cs K12
      have S_sf := own_staK0 S_sf K12
      have S_vs := own_staK0 S_vs K12
      have V_va := V_va.keep K12 nin0
      have Y_va := Y_va.keep K12
      have S_e0 := own_staK0 S_e0 K12
      have S_e1 := own_staK0 S_e1 K12
      have S_e2 := own_staK0 S_e2 K12
      have F_label_e0 := F_label_e0.keep K12 nin0
      have X_l0 := X_l0.keep K12
      have F_value_l0 := F_value_l0.keep K12 nin0
      have F_coder_l0 := F_coder_l0.keep K12 nin0
      have V_m0 := V_m0.keep K12 nin0
      have F_label_e1 := F_label_e1.keep K12 nin0
      have X_l1 := X_l1.keep K12
      have F_value_l1 := F_value_l1.keep K12 nin0
      have F_coder_l1 := F_coder_l1.keep K12 nin0
      have V_m1 := V_m1.keep K12 nin0
      have F_label_e2 := F_label_e2.keep K12 nin0
      have X_l2 := X_l2.keep K12
      have F_value_l2 := F_value_l2.keep K12 nin0
      have F_coder_l2 := F_coder_l2.keep K12 nin0
      have V_m2 := V_m2.keep K12 nin0
      have HK := Nat.le_trans HK K12.1
      have CR := CR.trans (CHr.keep K12 all0 CR.1)
      have X_bs := X_bs.keep K12
      have F_value_bs := F_value_bs.keep K12 nin0
      have F_coder_bs := F_coder_bs.keep K12 nin0
      have V_bd := V_bd.keep K12 nin0
      show own_Go p e below C T12 (mkF m 71 #[.val (.int p1), .val (.int p2), .val (.int p3), .val (.int p4), .val (.int (1 : Int32)), .val (.ref bs), .val (.int (1 : Int32)), .val (.int (p3 &&& (7 : Int32))), .val (.int (p4 &&& (255 : Int32)).toUInt32.toUInt16.toUInt32.toInt32), .unset, .unset, .unset] [(.ref so)])
      have hs0 : l0 = so → own_eqs 6 k0 1 sg = 1 := fun q => absurd q (Nat.ne_of_lt (Nat.lt_of_lt_of_le ql0 o_so))
      have hs1 : l1 = so → own_eqs 5 k1 1 sg = 1 := fun q => absurd q (Nat.ne_of_lt (Nat.lt_of_lt_of_le ql1 o_so))
      have hs2 : l2 = so → own_eqs 6 k2 1 sg = 1 := fun q => absurd q (Nat.ne_of_lt (Nat.lt_of_lt_of_le ql2 o_so))
      exact own_tail l Z a0 hw h0 p1 p2 p3 p4 cs sv va vf e0 e1 e2 l0 l1 l2 m0 m1 m2 k0 k1 k2 p e s m below meth c C hC vm10 n10 T12 h12 so sb 1 sg (1 : Int32) bs (1 : Int32) (1 : Int32) (p3 &&& (7 : Int32)) (p4 &&& (255 : Int32)).toUInt32.toUInt16.toUInt32.toInt32 W12 HS HK CR S_cs S_sf S_vs V_va Y_va S_e0 S_e1 S_e2 F_label_e0 X_l0 F_value_l0 F_coder_l0 V_m0 F_label_e1 X_l1 F_value_l1 F_coder_l1 V_m1 F_label_e2 X_l2 F_value_l2 F_coder_l2 V_m2 X_so F_value_so F_coder_so V_sb hcs hsv hv0 hv1 hv2 hk0 hk1 hk2 rfl rfl hs0 hs1 hs2
    · obtain rfl : nv = (2 : Int32) := own_lit32 hnn _ rfl
      show own_Go p e below C T10 (mkF m 68 #[.val (.int p1), .val (.int p2), .val (.int p3), .val (.int p4), .val (.int (1 : Int32)), .val (.ref bs), .val (.int (2 : Int32)), .val (.int (p3 &&& (7 : Int32))), .val (.int (p4 &&& (255 : Int32)).toUInt32.toUInt16.toUInt32.toInt32), .unset, .unset, .unset] [(.int (p4 &&& (255 : Int32)).toUInt32.toUInt16.toUInt32.toInt32), (.int (p3 &&& (7 : Int32))), (.ref bs), (.int (2 : Int32))])
      have hsz1 := own_le W10
      have lq : h10.size ≤ h10.size := Nat.le_refl _
      have ql0 := X_l0.lt
      have ql1 := X_l1.lt
      have ql2 := X_l2.lt
      refine own_callS W10 (A := [(.int (2 : Int32)), (.ref bs), (.int (p3 &&& (7 : Int32))), (.int (p4 &&& (255 : Int32)).toUInt32.toUInt16.toUInt32.toInt32)]) (wt := 0) (pc' := 71) (st := []) at_68 (wd8 hw) (wd9 hw) (wd10 hw) (wd11 hw) (by decide) (own_m1_2 l Z a0 hw [] h10 bs (p3 &&& (7 : Int32)) (p4 &&& (255 : Int32)).toUInt32.toUInt16.toUInt32.toInt32 cs sv bd 5 own_g1 (5 : Int32) S_cs S_sf X_bs F_value_bs F_coder_bs V_bd hcs hsv rfl rfl (by rw [hch2]; exact hch.1) (by rw [hch2]; exact hch.2)) all0 rfl pd_16 rfl (Nat.le_of_eq rfl) (by decide) (by decide) (by decide) (by decide) rfl ?_
      rintro T13 h13 _ W13 K13 P13 ⟨so, sb, sg, rfl, o_so, -, X_so, F_value_so, F_coder_so, V_sb⟩
      have S_cs := own_staK0 S_cs K13
      have S_sf := own_staK0 S_sf K13
      have S_vs := own_staK0 S_vs K13
      have V_va := V_va.keep K13 nin0
      have Y_va := Y_va.keep K13
      have S_e0 := own_staK0 S_e0 K13
      have S_e1 := own_staK0 S_e1 K13
      have S_e2 := own_staK0 S_e2 K13
      have F_label_e0 := F_label_e0.keep K13 nin0
      have X_l0 := X_l0.keep K13
      have F_value_l0 := F_value_l0.keep K13 nin0
      have F_coder_l0 := F_coder_l0.keep K13 nin0
      have V_m0 := V_m0.keep K13 nin0
      have F_label_e1 := F_label_e1.keep K13 nin0
      have X_l1 := X_l1.keep K13
      have F_value_l1 := F_value_l1.keep K13 nin0
      have F_coder_l1 := F_coder_l1.keep K13 nin0
      have V_m1 := V_m1.keep K13 nin0
      have F_label_e2 := F_label_e2.keep K13 nin0
      have X_l2 := X_l2.keep K13
      have F_value_l2 := F_value_l2.keep K13 nin0
      have F_coder_l2 := F_coder_l2.keep K13 nin0
      have V_m2 := V_m2.keep K13 nin0
      have HK := Nat.le_trans HK K13.1
      have CR := CR.trans (CHr.keep K13 all0 CR.1)
      have X_bs := X_bs.keep K13
      have F_value_bs := F_value_bs.keep K13 nin0
      have F_coder_bs := F_coder_bs.keep K13 nin0
      have V_bd := V_bd.keep K13 nin0
      show own_Go p e below C T13 (mkF m 71 #[.val (.int p1), .val (.int p2), .val (.int p3), .val (.int p4), .val (.int (1 : Int32)), .val (.ref bs), .val (.int (2 : Int32)), .val (.int (p3 &&& (7 : Int32))), .val (.int (p4 &&& (255 : Int32)).toUInt32.toUInt16.toUInt32.toInt32), .unset, .unset, .unset] [(.ref so)])
      have hs0 : l0 = so → own_eqs 6 k0 2 sg = 1 := fun q => absurd q (Nat.ne_of_lt (Nat.lt_of_lt_of_le ql0 o_so))
      have hs1 : l1 = so → own_eqs 5 k1 2 sg = 1 := fun q => absurd q (Nat.ne_of_lt (Nat.lt_of_lt_of_le ql1 o_so))
      have hs2 : l2 = so → own_eqs 6 k2 2 sg = 1 := fun q => absurd q (Nat.ne_of_lt (Nat.lt_of_lt_of_le ql2 o_so))
      exact own_tail l Z a0 hw h0 p1 p2 p3 p4 cs sv va vf e0 e1 e2 l0 l1 l2 m0 m1 m2 k0 k1 k2 p e s m below meth c C hC vm10 n10 T13 h13 so sb 2 sg (2 : Int32) bs (1 : Int32) (2 : Int32) (p3 &&& (7 : Int32)) (p4 &&& (255 : Int32)).toUInt32.toUInt16.toUInt32.toInt32 W13 HS HK CR S_cs S_sf S_vs V_va Y_va S_e0 S_e1 S_e2 F_label_e0 X_l0 F_value_l0 F_coder_l0 V_m0 F_label_e1 X_l1 F_value_l1 F_coder_l1 V_m1 F_label_e2 X_l2 F_value_l2 F_coder_l2 V_m2 X_so F_value_so F_coder_so V_sb hcs hsv hv0 hv1 hv2 hk0 hk1 hk2 rfl rfl hs0 hs1 hs2
    · obtain rfl : nv = (3 : Int32) := own_lit32 hnn _ rfl
      show own_Go p e below C T10 (mkF m 68 #[.val (.int p1), .val (.int p2), .val (.int p3), .val (.int p4), .val (.int (1 : Int32)), .val (.ref bs), .val (.int (3 : Int32)), .val (.int (p3 &&& (7 : Int32))), .val (.int (p4 &&& (255 : Int32)).toUInt32.toUInt16.toUInt32.toInt32), .unset, .unset, .unset] [(.int (p4 &&& (255 : Int32)).toUInt32.toUInt16.toUInt32.toInt32), (.int (p3 &&& (7 : Int32))), (.ref bs), (.int (3 : Int32))])
      have hsz1 := own_le W10
      have lq : h10.size ≤ h10.size := Nat.le_refl _
      have ql0 := X_l0.lt
      have ql1 := X_l1.lt
      have ql2 := X_l2.lt
      refine own_callS W10 (A := [(.int (3 : Int32)), (.ref bs), (.int (p3 &&& (7 : Int32))), (.int (p4 &&& (255 : Int32)).toUInt32.toUInt16.toUInt32.toInt32)]) (wt := 0) (pc' := 71) (st := []) at_68 (wd8 hw) (wd9 hw) (wd10 hw) (wd11 hw) (by decide) (own_m1_3 l Z a0 hw [] h10 bs (p3 &&& (7 : Int32)) (p4 &&& (255 : Int32)).toUInt32.toUInt16.toUInt32.toInt32 cs sv bd 5 own_g1 (5 : Int32) S_cs S_sf X_bs F_value_bs F_coder_bs V_bd hcs hsv rfl rfl (by rw [hch2]; exact hch.1) (by rw [hch2]; exact hch.2)) all0 rfl pd_16 rfl (Nat.le_of_eq rfl) (by decide) (by decide) (by decide) (by decide) rfl ?_
      rintro T14 h14 _ W14 K14 P14 ⟨so, sb, sg, rfl, o_so, -, X_so, F_value_so, F_coder_so, V_sb⟩
      have S_cs := own_staK0 S_cs K14
      have S_sf := own_staK0 S_sf K14
      have S_vs := own_staK0 S_vs K14
      have V_va := V_va.keep K14 nin0
      have Y_va := Y_va.keep K14
      have S_e0 := own_staK0 S_e0 K14
      have S_e1 := own_staK0 S_e1 K14
      have S_e2 := own_staK0 S_e2 K14
      have F_label_e0 := F_label_e0.keep K14 nin0
      have X_l0 := X_l0.keep K14
      have F_value_l0 := F_value_l0.keep K14 nin0
      have F_coder_l0 := F_coder_l0.keep K14 nin0
      have V_m0 := V_m0.keep K14 nin0
      have F_label_e1 := F_label_e1.keep K14 nin0
      have X_l1 := X_l1.keep K14
      have F_value_l1 := F_value_l1.keep K14 nin0
      have F_coder_l1 := F_coder_l1.keep K14 nin0
      have V_m1 := V_m1.keep K14 nin0
      have F_label_e2 := F_label_e2.keep K14 nin0
      have X_l2 := X_l2.keep K14
      have F_value_l2 := F_value_l2.keep K14 nin0
      have F_coder_l2 := F_coder_l2.keep K14 nin0
      have V_m2 := V_m2.keep K14 nin0
      have HK := Nat.le_trans HK K14.1
      have CR := CR.trans (CHr.keep K14 all0 CR.1)
      have X_bs := X_bs.keep K14
      have F_value_bs := F_value_bs.keep K14 nin0
      have F_coder_bs := F_coder_bs.keep K14 nin0
      have V_bd := V_bd.keep K14 nin0
      show own_Go p e below C T14 (mkF m 71 #[.val (.int p1), .val (.int p2), .val (.int p3), .val (.int p4), .val (.int (1 : Int32)), .val (.ref bs), .val (.int (3 : Int32)), .val (.int (p3 &&& (7 : Int32))), .val (.int (p4 &&& (255 : Int32)).toUInt32.toUInt16.toUInt32.toInt32), .unset, .unset, .unset] [(.ref so)])
      have hs0 : l0 = so → own_eqs 6 k0 3 sg = 1 := fun q => absurd q (Nat.ne_of_lt (Nat.lt_of_lt_of_le ql0 o_so))
      have hs1 : l1 = so → own_eqs 5 k1 3 sg = 1 := fun q => absurd q (Nat.ne_of_lt (Nat.lt_of_lt_of_le ql1 o_so))
      have hs2 : l2 = so → own_eqs 6 k2 3 sg = 1 := fun q => absurd q (Nat.ne_of_lt (Nat.lt_of_lt_of_le ql2 o_so))
      exact own_tail l Z a0 hw h0 p1 p2 p3 p4 cs sv va vf e0 e1 e2 l0 l1 l2 m0 m1 m2 k0 k1 k2 p e s m below meth c C hC vm10 n10 T14 h14 so sb 3 sg (3 : Int32) bs (1 : Int32) (3 : Int32) (p3 &&& (7 : Int32)) (p4 &&& (255 : Int32)).toUInt32.toUInt16.toUInt32.toInt32 W14 HS HK CR S_cs S_sf S_vs V_va Y_va S_e0 S_e1 S_e2 F_label_e0 X_l0 F_value_l0 F_coder_l0 V_m0 F_label_e1 X_l1 F_value_l1 F_coder_l1 V_m1 F_label_e2 X_l2 F_value_l2 F_coder_l2 V_m2 X_so F_value_so F_coder_so V_sb hcs hsv hv0 hv1 hv2 hk0 hk1 hk2 rfl rfl hs0 hs1 hs2
    · obtain rfl : nv = (4 : Int32) := own_lit32 hnn _ rfl
      show own_Go p e below C T10 (mkF m 68 #[.val (.int p1), .val (.int p2), .val (.int p3), .val (.int p4), .val (.int (1 : Int32)), .val (.ref bs), .val (.int (4 : Int32)), .val (.int (p3 &&& (7 : Int32))), .val (.int (p4 &&& (255 : Int32)).toUInt32.toUInt16.toUInt32.toInt32), .unset, .unset, .unset] [(.int (p4 &&& (255 : Int32)).toUInt32.toUInt16.toUInt32.toInt32), (.int (p3 &&& (7 : Int32))), (.ref bs), (.int (4 : Int32))])
      have hsz1 := own_le W10
      have lq : h10.size ≤ h10.size := Nat.le_refl _
      have ql0 := X_l0.lt
      have ql1 := X_l1.lt
      have ql2 := X_l2.lt
      refine own_callS W10 (A := [(.int (4 : Int32)), (.ref bs), (.int (p3 &&& (7 : Int32))), (.int (p4 &&& (255 : Int32)).toUInt32.toUInt16.toUInt32.toInt32)]) (wt := 0) (pc' := 71) (st := []) at_68 (wd8 hw) (wd9 hw) (wd10 hw) (wd11 hw) (by decide) (own_m1_4 l Z a0 hw [] h10 bs (p3 &&& (7 : Int32)) (p4 &&& (255 : Int32)).toUInt32.toUInt16.toUInt32.toInt32 cs sv bd 5 own_g1 (5 : Int32) S_cs S_sf X_bs F_value_bs F_coder_bs V_bd hcs hsv rfl rfl (by rw [hch2]; exact hch.1) (by rw [hch2]; exact hch.2)) all0 rfl pd_16 rfl (Nat.le_of_eq rfl) (by decide) (by decide) (by decide) (by decide) rfl ?_
      rintro T15 h15 _ W15 K15 P15 ⟨so, sb, sg, rfl, o_so, -, X_so, F_value_so, F_coder_so, V_sb⟩
      have S_cs := own_staK0 S_cs K15
      have S_sf := own_staK0 S_sf K15
      have S_vs := own_staK0 S_vs K15
      have V_va := V_va.keep K15 nin0
      have Y_va := Y_va.keep K15
      have S_e0 := own_staK0 S_e0 K15
      have S_e1 := own_staK0 S_e1 K15
      have S_e2 := own_staK0 S_e2 K15
      have F_label_e0 := F_label_e0.keep K15 nin0
      have X_l0 := X_l0.keep K15
      have F_value_l0 := F_value_l0.keep K15 nin0
      have F_coder_l0 := F_coder_l0.keep K15 nin0
      have V_m0 := V_m0.keep K15 nin0
      have F_label_e1 := F_label_e1.keep K15 nin0
      have X_l1 := X_l1.keep K15
      have F_value_l1 := F_value_l1.keep K15 nin0
      have F_coder_l1 := F_coder_l1.keep K15 nin0
      have V_m1 := V_m1.keep K15 nin0
      have F_label_e2 := F_label_e2.keep K15 nin0
      have X_l2 := X_l2.keep K15
      have F_value_l2 := F_value_l2.keep K15 nin0
      have F_coder_l2 := F_coder_l2.keep K15 nin0
      have V_m2 := V_m2.keep K15 nin0
      have HK := Nat.le_trans HK K15.1
      have CR := CR.trans (CHr.keep K15 all0 CR.1)
      have X_bs := X_bs.keep K15
      have F_value_bs := F_value_bs.keep K15 nin0
      have F_coder_bs := F_coder_bs.keep K15 nin0
      have V_bd := V_bd.keep K15 nin0
      show own_Go p e below C T15 (mkF m 71 #[.val (.int p1), .val (.int p2), .val (.int p3), .val (.int p4), .val (.int (1 : Int32)), .val (.ref bs), .val (.int (4 : Int32)), .val (.int (p3 &&& (7 : Int32))), .val (.int (p4 &&& (255 : Int32)).toUInt32.toUInt16.toUInt32.toInt32), .unset, .unset, .unset] [(.ref so)])
      have hs0 : l0 = so → own_eqs 6 k0 4 sg = 1 := fun q => absurd q (Nat.ne_of_lt (Nat.lt_of_lt_of_le ql0 o_so))
      have hs1 : l1 = so → own_eqs 5 k1 4 sg = 1 := fun q => absurd q (Nat.ne_of_lt (Nat.lt_of_lt_of_le ql1 o_so))
      have hs2 : l2 = so → own_eqs 6 k2 4 sg = 1 := fun q => absurd q (Nat.ne_of_lt (Nat.lt_of_lt_of_le ql2 o_so))
      exact own_tail l Z a0 hw h0 p1 p2 p3 p4 cs sv va vf e0 e1 e2 l0 l1 l2 m0 m1 m2 k0 k1 k2 p e s m below meth c C hC vm10 n10 T15 h15 so sb 4 sg (4 : Int32) bs (1 : Int32) (4 : Int32) (p3 &&& (7 : Int32)) (p4 &&& (255 : Int32)).toUInt32.toUInt16.toUInt32.toInt32 W15 HS HK CR S_cs S_sf S_vs V_va Y_va S_e0 S_e1 S_e2 F_label_e0 X_l0 F_value_l0 F_coder_l0 V_m0 F_label_e1 X_l1 F_value_l1 F_coder_l1 V_m1 F_label_e2 X_l2 F_value_l2 F_coder_l2 V_m2 X_so F_value_so F_coder_so V_sb hcs hsv hv0 hv1 hv2 hk0 hk1 hk2 rfl rfl hs0 hs1 hs2
    · obtain rfl : nv = (5 : Int32) := own_lit32 hnn _ rfl
      show own_Go p e below C T10 (mkF m 68 #[.val (.int p1), .val (.int p2), .val (.int p3), .val (.int p4), .val (.int (1 : Int32)), .val (.ref bs), .val (.int (5 : Int32)), .val (.int (p3 &&& (7 : Int32))), .val (.int (p4 &&& (255 : Int32)).toUInt32.toUInt16.toUInt32.toInt32), .unset, .unset, .unset] [(.int (p4 &&& (255 : Int32)).toUInt32.toUInt16.toUInt32.toInt32), (.int (p3 &&& (7 : Int32))), (.ref bs), (.int (5 : Int32))])
      have hsz1 := own_le W10
      have lq : h10.size ≤ h10.size := Nat.le_refl _
      have ql0 := X_l0.lt
      have ql1 := X_l1.lt
      have ql2 := X_l2.lt
      refine own_callS W10 (A := [(.int (5 : Int32)), (.ref bs), (.int (p3 &&& (7 : Int32))), (.int (p4 &&& (255 : Int32)).toUInt32.toUInt16.toUInt32.toInt32)]) (wt := 0) (pc' := 71) (st := []) at_68 (wd8 hw) (wd9 hw) (wd10 hw) (wd11 hw) (by decide) (own_m1_5 l Z a0 hw [] h10 bs (p3 &&& (7 : Int32)) (p4 &&& (255 : Int32)).toUInt32.toUInt16.toUInt32.toInt32 cs sv bd 5 own_g1 (5 : Int32) S_cs S_sf X_bs F_value_bs F_coder_bs V_bd hcs hsv rfl rfl (by rw [hch2]; exact hch.1) (by rw [hch2]; exact hch.2)) all0 rfl pd_16 rfl (Nat.le_of_eq rfl) (by decide) (by decide) (by decide) (by decide) rfl ?_
      rintro T16 h16 _ W16 K16 P16 ⟨so, sb, sg, rfl, o_so, -, X_so, F_value_so, F_coder_so, V_sb⟩
      have S_cs := own_staK0 S_cs K16
      have S_sf := own_staK0 S_sf K16
      have S_vs := own_staK0 S_vs K16
      have V_va := V_va.keep K16 nin0
      have Y_va := Y_va.keep K16
      have S_e0 := own_staK0 S_e0 K16
      have S_e1 := own_staK0 S_e1 K16
      have S_e2 := own_staK0 S_e2 K16
      have F_label_e0 := F_label_e0.keep K16 nin0
      have X_l0 := X_l0.keep K16
      have F_value_l0 := F_value_l0.keep K16 nin0
      have F_coder_l0 := F_coder_l0.keep K16 nin0
      have V_m0 := V_m0.keep K16 nin0
      have F_label_e1 := F_label_e1.keep K16 nin0
      have X_l1 := X_l1.keep K16
      have F_value_l1 := F_value_l1.keep K16 nin0
      have F_coder_l1 := F_coder_l1.keep K16 nin0
      have V_m1 := V_m1.keep K16 nin0
      have F_label_e2 := F_label_e2.keep K16 nin0
      have X_l2 := X_l2.keep K16
      have F_value_l2 := F_value_l2.keep K16 nin0
      have F_coder_l2 := F_coder_l2.keep K16 nin0
      have V_m2 := V_m2.keep K16 nin0
      have HK := Nat.le_trans HK K16.1
      have CR := CR.trans (CHr.keep K16 all0 CR.1)
      have X_bs := X_bs.keep K16
      have F_value_bs := F_value_bs.keep K16 nin0
      have F_coder_bs := F_coder_bs.keep K16 nin0
      have V_bd := V_bd.keep K16 nin0
      show own_Go p e below C T16 (mkF m 71 #[.val (.int p1), .val (.int p2), .val (.int p3), .val (.int p4), .val (.int (1 : Int32)), .val (.ref bs), .val (.int (5 : Int32)), .val (.int (p3 &&& (7 : Int32))), .val (.int (p4 &&& (255 : Int32)).toUInt32.toUInt16.toUInt32.toInt32), .unset, .unset, .unset] [(.ref so)])
      have hs0 : l0 = so → own_eqs 6 k0 5 sg = 1 := fun q => absurd q (Nat.ne_of_lt (Nat.lt_of_lt_of_le ql0 o_so))
      have hs1 : l1 = so → own_eqs 5 k1 5 sg = 1 := fun q => absurd q (Nat.ne_of_lt (Nat.lt_of_lt_of_le ql1 o_so))
      have hs2 : l2 = so → own_eqs 6 k2 5 sg = 1 := fun q => absurd q (Nat.ne_of_lt (Nat.lt_of_lt_of_le ql2 o_so))
      exact own_tail l Z a0 hw h0 p1 p2 p3 p4 cs sv va vf e0 e1 e2 l0 l1 l2 m0 m1 m2 k0 k1 k2 p e s m below meth c C hC vm10 n10 T16 h16 so sb 5 sg (5 : Int32) bs (1 : Int32) (5 : Int32) (p3 &&& (7 : Int32)) (p4 &&& (255 : Int32)).toUInt32.toUInt16.toUInt32.toInt32 W16 HS HK CR S_cs S_sf S_vs V_va Y_va S_e0 S_e1 S_e2 F_label_e0 X_l0 F_value_l0 F_coder_l0 V_m0 F_label_e1 X_l1 F_value_l1 F_coder_l1 V_m1 F_label_e2 X_l2 F_value_l2 F_coder_l2 V_m2 X_so F_value_so F_coder_so V_sb hcs hsv hv0 hv1 hv2 hk0 hk1 hk2 rfl rfl hs0 hs1 hs2
    · obtain rfl : nv = (6 : Int32) := own_lit32 hnn _ rfl
      show own_Go p e below C T10 (mkF m 68 #[.val (.int p1), .val (.int p2), .val (.int p3), .val (.int p4), .val (.int (1 : Int32)), .val (.ref bs), .val (.int (6 : Int32)), .val (.int (p3 &&& (7 : Int32))), .val (.int (p4 &&& (255 : Int32)).toUInt32.toUInt16.toUInt32.toInt32), .unset, .unset, .unset] [(.int (p4 &&& (255 : Int32)).toUInt32.toUInt16.toUInt32.toInt32), (.int (p3 &&& (7 : Int32))), (.ref bs), (.int (6 : Int32))])
      have hsz1 := own_le W10
      have lq : h10.size ≤ h10.size := Nat.le_refl _
      have ql0 := X_l0.lt
      have ql1 := X_l1.lt
      have ql2 := X_l2.lt
      refine own_callS W10 (A := [(.int (6 : Int32)), (.ref bs), (.int (p3 &&& (7 : Int32))), (.int (p4 &&& (255 : Int32)).toUInt32.toUInt16.toUInt32.toInt32)]) (wt := 0) (pc' := 71) (st := []) at_68 (wd8 hw) (wd9 hw) (wd10 hw) (wd11 hw) (by decide) (own_m1_6 l Z a0 hw [] h10 bs (p3 &&& (7 : Int32)) (p4 &&& (255 : Int32)).toUInt32.toUInt16.toUInt32.toInt32 cs sv bd 5 own_g1 (5 : Int32) S_cs S_sf X_bs F_value_bs F_coder_bs V_bd hcs hsv rfl rfl (by rw [hch2]; exact hch.1) (by rw [hch2]; exact hch.2)) all0 rfl pd_16 rfl (Nat.le_of_eq rfl) (by decide) (by decide) (by decide) (by decide) rfl ?_
      rintro T17 h17 _ W17 K17 P17 ⟨so, sb, sg, rfl, o_so, -, X_so, F_value_so, F_coder_so, V_sb⟩
      have S_cs := own_staK0 S_cs K17
      have S_sf := own_staK0 S_sf K17
      have S_vs := own_staK0 S_vs K17
      have V_va := V_va.keep K17 nin0
      have Y_va := Y_va.keep K17
      have S_e0 := own_staK0 S_e0 K17
      have S_e1 := own_staK0 S_e1 K17
      have S_e2 := own_staK0 S_e2 K17
      have F_label_e0 := F_label_e0.keep K17 nin0
      have X_l0 := X_l0.keep K17
      have F_value_l0 := F_value_l0.keep K17 nin0
      have F_coder_l0 := F_coder_l0.keep K17 nin0
      have V_m0 := V_m0.keep K17 nin0
      have F_label_e1 := F_label_e1.keep K17 nin0
      have X_l1 := X_l1.keep K17
      have F_value_l1 := F_value_l1.keep K17 nin0
      have F_coder_l1 := F_coder_l1.keep K17 nin0
      have V_m1 := V_m1.keep K17 nin0
      have F_label_e2 := F_label_e2.keep K17 nin0
      have X_l2 := X_l2.keep K17
      have F_value_l2 := F_value_l2.keep K17 nin0
      have F_coder_l2 := F_coder_l2.keep K17 nin0
      have V_m2 := V_m2.keep K17 nin0
      have HK := Nat.le_trans HK K17.1
      have CR := CR.trans (CHr.keep K17 all0 CR.1)
      have X_bs := X_bs.keep K17
      have F_value_bs := F_value_bs.keep K17 nin0
      have F_coder_bs := F_coder_bs.keep K17 nin0
      have V_bd := V_bd.keep K17 nin0
      show own_Go p e below C T17 (mkF m 71 #[.val (.int p1), .val (.int p2), .val (.int p3), .val (.int p4), .val (.int (1 : Int32)), .val (.ref bs), .val (.int (6 : Int32)), .val (.int (p3 &&& (7 : Int32))), .val (.int (p4 &&& (255 : Int32)).toUInt32.toUInt16.toUInt32.toInt32), .unset, .unset, .unset] [(.ref so)])
      have hs0 : l0 = so → own_eqs 6 k0 6 sg = 1 := fun q => absurd q (Nat.ne_of_lt (Nat.lt_of_lt_of_le ql0 o_so))
      have hs1 : l1 = so → own_eqs 5 k1 6 sg = 1 := fun q => absurd q (Nat.ne_of_lt (Nat.lt_of_lt_of_le ql1 o_so))
      have hs2 : l2 = so → own_eqs 6 k2 6 sg = 1 := fun q => absurd q (Nat.ne_of_lt (Nat.lt_of_lt_of_le ql2 o_so))
      exact own_tail l Z a0 hw h0 p1 p2 p3 p4 cs sv va vf e0 e1 e2 l0 l1 l2 m0 m1 m2 k0 k1 k2 p e s m below meth c C hC vm10 n10 T17 h17 so sb 6 sg (6 : Int32) bs (1 : Int32) (6 : Int32) (p3 &&& (7 : Int32)) (p4 &&& (255 : Int32)).toUInt32.toUInt16.toUInt32.toInt32 W17 HS HK CR S_cs S_sf S_vs V_va Y_va S_e0 S_e1 S_e2 F_label_e0 X_l0 F_value_l0 F_coder_l0 V_m0 F_label_e1 X_l1 F_value_l1 F_coder_l1 V_m1 F_label_e2 X_l2 F_value_l2 F_coder_l2 V_m2 X_so F_value_so F_coder_so V_sb hcs hsv hv0 hv1 hv2 hk0 hk1 hk2 rfl rfl hs0 hs1 hs2
    · obtain rfl : nv = (7 : Int32) := own_lit32 hnn _ rfl
      show own_Go p e below C T10 (mkF m 68 #[.val (.int p1), .val (.int p2), .val (.int p3), .val (.int p4), .val (.int (1 : Int32)), .val (.ref bs), .val (.int (7 : Int32)), .val (.int (p3 &&& (7 : Int32))), .val (.int (p4 &&& (255 : Int32)).toUInt32.toUInt16.toUInt32.toInt32), .unset, .unset, .unset] [(.int (p4 &&& (255 : Int32)).toUInt32.toUInt16.toUInt32.toInt32), (.int (p3 &&& (7 : Int32))), (.ref bs), (.int (7 : Int32))])
      have hsz1 := own_le W10
      have lq : h10.size ≤ h10.size := Nat.le_refl _
      have ql0 := X_l0.lt
      have ql1 := X_l1.lt
      have ql2 := X_l2.lt
      refine own_callS W10 (A := [(.int (7 : Int32)), (.ref bs), (.int (p3 &&& (7 : Int32))), (.int (p4 &&& (255 : Int32)).toUInt32.toUInt16.toUInt32.toInt32)]) (wt := 0) (pc' := 71) (st := []) at_68 (wd8 hw) (wd9 hw) (wd10 hw) (wd11 hw) (by decide) (own_m1_7 l Z a0 hw [] h10 bs (p3 &&& (7 : Int32)) (p4 &&& (255 : Int32)).toUInt32.toUInt16.toUInt32.toInt32 cs sv bd 5 own_g1 (5 : Int32) S_cs S_sf X_bs F_value_bs F_coder_bs V_bd hcs hsv rfl rfl (by rw [hch2]; exact hch.1) (by rw [hch2]; exact hch.2)) all0 rfl pd_16 rfl (Nat.le_of_eq rfl) (by decide) (by decide) (by decide) (by decide) rfl ?_
      rintro T18 h18 _ W18 K18 P18 ⟨so, sb, sg, rfl, o_so, -, X_so, F_value_so, F_coder_so, V_sb⟩
      have S_cs := own_staK0 S_cs K18
      have S_sf := own_staK0 S_sf K18
      have S_vs := own_staK0 S_vs K18
      have V_va := V_va.keep K18 nin0
      have Y_va := Y_va.keep K18
      have S_e0 := own_staK0 S_e0 K18
      have S_e1 := own_staK0 S_e1 K18
      have S_e2 := own_staK0 S_e2 K18
      have F_label_e0 := F_label_e0.keep K18 nin0
      have X_l0 := X_l0.keep K18
      have F_value_l0 := F_value_l0.keep K18 nin0
      have F_coder_l0 := F_coder_l0.keep K18 nin0
      have V_m0 := V_m0.keep K18 nin0
      have F_label_e1 := F_label_e1.keep K18 nin0
      have X_l1 := X_l1.keep K18
      have F_value_l1 := F_value_l1.keep K18 nin0
      have F_coder_l1 := F_coder_l1.keep K18 nin0
      have V_m1 := V_m1.keep K18 nin0
      have F_label_e2 := F_label_e2.keep K18 nin0
      have X_l2 := X_l2.keep K18
      have F_value_l2 := F_value_l2.keep K18 nin0
      have F_coder_l2 := F_coder_l2.keep K18 nin0
      have V_m2 := V_m2.keep K18 nin0
      have HK := Nat.le_trans HK K18.1
      have CR := CR.trans (CHr.keep K18 all0 CR.1)
      have X_bs := X_bs.keep K18
      have F_value_bs := F_value_bs.keep K18 nin0
      have F_coder_bs := F_coder_bs.keep K18 nin0
      have V_bd := V_bd.keep K18 nin0
      show own_Go p e below C T18 (mkF m 71 #[.val (.int p1), .val (.int p2), .val (.int p3), .val (.int p4), .val (.int (1 : Int32)), .val (.ref bs), .val (.int (7 : Int32)), .val (.int (p3 &&& (7 : Int32))), .val (.int (p4 &&& (255 : Int32)).toUInt32.toUInt16.toUInt32.toInt32), .unset, .unset, .unset] [(.ref so)])
      have hs0 : l0 = so → own_eqs 6 k0 7 sg = 1 := fun q => absurd q (Nat.ne_of_lt (Nat.lt_of_lt_of_le ql0 o_so))
      have hs1 : l1 = so → own_eqs 5 k1 7 sg = 1 := fun q => absurd q (Nat.ne_of_lt (Nat.lt_of_lt_of_le ql1 o_so))
      have hs2 : l2 = so → own_eqs 6 k2 7 sg = 1 := fun q => absurd q (Nat.ne_of_lt (Nat.lt_of_lt_of_le ql2 o_so))
      exact own_tail l Z a0 hw h0 p1 p2 p3 p4 cs sv va vf e0 e1 e2 l0 l1 l2 m0 m1 m2 k0 k1 k2 p e s m below meth c C hC vm10 n10 T18 h18 so sb 7 sg (7 : Int32) bs (1 : Int32) (7 : Int32) (p3 &&& (7 : Int32)) (p4 &&& (255 : Int32)).toUInt32.toUInt16.toUInt32.toInt32 W18 HS HK CR S_cs S_sf S_vs V_va Y_va S_e0 S_e1 S_e2 F_label_e0 X_l0 F_value_l0 F_coder_l0 V_m0 F_label_e1 X_l1 F_value_l1 F_coder_l1 V_m1 F_label_e2 X_l2 F_value_l2 F_coder_l2 V_m2 X_so F_value_so F_coder_so V_sb hcs hsv hv0 hv1 hv2 hk0 hk1 hk2 rfl rfl hs0 hs1 hs2
  · obtain rfl : mv = (2 : Int32) := own_lit32 hm _ rfl
    show own_Go p e below C T0 (mkF m 5 #[.val (.int p1), .val (.int p2), .val (.int p3), .val (.int p4), .val (.int (2 : Int32)), .unset, .unset, .unset, .unset, .unset, .unset, .unset] [])
    refine own_iload W0 7 at_5 rfl rfl ?_
    refine own_ifY W0 15 at_7 ((if0 _ _).trans (feq ((by decide) : ¬ ((2 : Int32) = (0 : Int32)))).2) (by decide) (by decide) ?_
    refine own_iload W0 17 at_15 rfl rfl ?_
    refine own_iconst W0 (1 : Int32) 18 at_17 rfl rfl ?_
    refine own_icmpY W0 26 at_18 ((feq ((by decide) : ¬ ((2 : Int32) = (1 : Int32)))).2) (by decide) (by decide) ?_
    refine own_ldcCH (s := s) (vm0 := s.vm) (EL := own_EL) W0 64 6 own_g2 28 at_26 (wd107 hw) (own_strs hw) (own_ew hw) (List.mem_of_getElem? (i := 2) rfl) HS HK CR ⟨by decide, rfl⟩ (by decide) (by decide) (by decide) (by decide) (by decide) rfl ?_
    intro vm19 n19 T19 h19 bs bd HS HK W19 E19 CR X_bs F_value_bs F_coder_bs V_bd SF19
    have S_cs := S_cs.ext E19
    have S_sf := S_sf.ext E19
    have S_vs := S_vs.ext E19
    have V_va := V_va.ext E19
    have Y_va := Y_va.ext E19
    have S_e0 := S_e0.ext E19
    have S_e1 := S_e1.ext E19
    have S_e2 := S_e2.ext E19
    have F_label_e0 := F_label_e0.ext E19
    have X_l0 := X_l0.ext E19
    have F_value_l0 := F_value_l0.ext E19
    have F_coder_l0 := F_coder_l0.ext E19
    have V_m0 := V_m0.ext E19
    have F_label_e1 := F_label_e1.ext E19
    have X_l1 := X_l1.ext E19
    have F_value_l1 := F_value_l1.ext E19
    have F_coder_l1 := F_coder_l1.ext E19
    have V_m1 := V_m1.ext E19
    have F_label_e2 := F_label_e2.ext E19
    have X_l2 := X_l2.ext E19
    have F_value_l2 := F_value_l2.ext E19
    have F_coder_l2 := F_coder_l2.ext E19
    have V_m2 := V_m2.ext E19
    show own_Go p e below C T19 (mkF m 28 #[.val (.int p1), .val (.int p2), .val (.int p3), .val (.int p4), .val (.int (2 : Int32)), .unset, .unset, .unset, .unset, .unset, .unset, .unset] [(.ref bs)])
    refine own_astore W19 30 #[.val (.int p1), .val (.int p2), .val (.int p3), .val (.int p4), .val (.int (2 : Int32)), .val (.ref bs), .unset, .unset, .unset, .unset, .unset, .unset] at_28 rfl rfl rfl ?_
    refine own_iloadN W19 31 at_30 rfl rfl ?_
    refine own_bipush W19 (7 : Int32) 33 at_31 rfl rfl ?_
    refine own_iand W19 34 at_33 rfl ?_
    obtain ⟨nn, hnn, hn8⟩ := own_m7b p2
    generalize h_nv : (p2 &&& (7 : Int32)) = nv at hnn ⊢
    show own_Go p e below C T19 (mkF m 34 #[.val (.int p1), .val (.int p2), .val (.int p3), .val (.int p4), .val (.int (2 : Int32)), .val (.ref bs), .unset, .unset, .unset, .unset, .unset, .unset] [(.int nv)])
    refine own_istore W19 36 #[.val (.int p1), .val (.int p2), .val (.int p3), .val (.int p4), .val (.int (2 : Int32)), .val (.ref bs), .val (.int nv), .unset, .unset, .unset, .unset, .unset] at_34 rfl rfl ?_
    refine own_iloadN W19 37 at_36 rfl rfl ?_
    refine own_bipush W19 (7 : Int32) 39 at_37 rfl rfl ?_
    refine own_iand W19 40 at_39 rfl ?_
    refine own_istore W19 42 #[.val (.int p1), .val (.int p2), .val (.int p3), .val (.int p4), .val (.int (2 : Int32)), .val (.ref bs), .val (.int nv), .val (.int (p3 &&& (7 : Int32))), .unset, .unset, .unset, .unset] at_40 rfl rfl ?_
    refine own_iloadN W19 43 at_42 rfl rfl ?_
    refine own_sipush W19 (255 : Int32) 46 at_43 rfl rfl ?_
    refine own_iand W19 47 at_46 rfl ?_
    refine own_i2c W19 48 at_47 rfl ?_
    refine own_istore W19 50 #[.val (.int p1), .val (.int p2), .val (.int p3), .val (.int p4), .val (.int (2 : Int32)), .val (.ref bs), .val (.int nv), .val (.int (p3 &&& (7 : Int32))), .val (.int (p4 &&& (255 : Int32)).toUInt32.toUInt16.toUInt32.toInt32), .unset, .unset, .unset] at_48 rfl rfl ?_
    refine own_iload W19 52 at_50 rfl rfl ?_
    refine own_iconst W19 (3 : Int32) 53 at_52 rfl rfl ?_
    refine own_icmpY W19 60 at_53 ((feq ((by decide) : ¬ ((2 : Int32) = (3 : Int32)))).2) (by decide) (by decide) ?_
    refine own_iload W19 62 at_60 rfl rfl ?_
    refine own_aload W19 64 at_62 rfl rfl rfl ?_
    refine own_iload W19 66 at_64 rfl rfl ?_
    refine own_iload W19 68 at_66 rfl rfl ?_
    have hch := own_255 p4
    have hch2 := own_c16 hch.1 hch.2
    rcases own_lt8 hn8 with rfl | rfl | rfl | rfl | rfl | rfl | rfl | rfl
    · obtain rfl : nv = (0 : Int32) := own_lit32 hnn _ rfl
      show own_Go p e below C T19 (mkF m 68 #[.val (.int p1), .val (.int p2), .val (.int p3), .val (.int p4), .val (.int (2 : Int32)), .val (.ref bs), .val (.int (0 : Int32)), .val (.int (p3 &&& (7 : Int32))), .val (.int (p4 &&& (255 : Int32)).toUInt32.toUInt16.toUInt32.toInt32), .unset, .unset, .unset] [(.int (p4 &&& (255 : Int32)).toUInt32.toUInt16.toUInt32.toInt32), (.int (p3 &&& (7 : Int32))), (.ref bs), (.int (0 : Int32))])
      have hsz1 := own_le W19
      have lq : h19.size ≤ h19.size := Nat.le_refl _
      have ql0 := X_l0.lt
      have ql1 := X_l1.lt
      have ql2 := X_l2.lt
      refine own_callSH (s := s) (vm0 := vm19) (EL := own_EL) W19 (A := [(.int (0 : Int32)), (.ref bs), (.int (p3 &&& (7 : Int32))), (.int (p4 &&& (255 : Int32)).toUInt32.toUInt16.toUInt32.toInt32)]) (wt := 0) (pc' := 71) (st := []) at_68 (wd8 hw) (wd9 hw) (wd10 hw) (wd11 hw) (by decide) (own_ew hw) HS HK CR (own_m1e l Z a0 hw [] h19 bs (p3 &&& (7 : Int32)) (p4 &&& (255 : Int32)).toUInt32.toUInt16.toUInt32.toInt32) all0 rfl pd_16 rfl (Nat.le_of_eq rfl) (by decide) (by decide) (by decide) (by decide) rfl ?_
      rintro vm20 n20 T20 h20 _ HS HK W20 K20 CR ⟨so, sb, sg, rfl, o_so, X_so, F_value_so, F_coder_so, V_sb⟩
      have S_cs := own_staK0 S_cs K20
      have S_sf := own_staK0 S_sf K20
      have S_vs := own_staK0 S_vs K20
      have V_va := V_va.keep K20 nin0
      have Y_va := Y_va.keep K20
      have S_e0 := own_staK0 S_e0 K20
      have S_e1 := own_staK0 S_e1 K20
      have S_e2 := own_staK0 S_e2 K20
      have F_label_e0 := F_label_e0.keep K20 nin0
      have X_l0 := X_l0.keep K20
      have F_value_l0 := F_value_l0.keep K20 nin0
      have F_coder_l0 := F_coder_l0.keep K20 nin0
      have V_m0 := V_m0.keep K20 nin0
      have F_label_e1 := F_label_e1.keep K20 nin0
      have X_l1 := X_l1.keep K20
      have F_value_l1 := F_value_l1.keep K20 nin0
      have F_coder_l1 := F_coder_l1.keep K20 nin0
      have V_m1 := V_m1.keep K20 nin0
      have F_label_e2 := F_label_e2.keep K20 nin0
      have X_l2 := X_l2.keep K20
      have F_value_l2 := F_value_l2.keep K20 nin0
      have F_coder_l2 := F_coder_l2.keep K20 nin0
      have V_m2 := V_m2.keep K20 nin0
      have X_bs := X_bs.keep K20
      have F_value_bs := F_value_bs.keep K20 nin0
      have F_coder_bs := F_coder_bs.keep K20 nin0
      have V_bd := V_bd.keep K20 nin0
      show own_Go p e below C T20 (mkF m 71 #[.val (.int p1), .val (.int p2), .val (.int p3), .val (.int p4), .val (.int (2 : Int32)), .val (.ref bs), .val (.int (0 : Int32)), .val (.int (p3 &&& (7 : Int32))), .val (.int (p4 &&& (255 : Int32)).toUInt32.toUInt16.toUInt32.toInt32), .unset, .unset, .unset] [(.ref so)])
      have hs0 : l0 = so → own_eqs 6 k0 0 sg = 1 := fun q => absurd q (Nat.ne_of_lt (Nat.lt_of_lt_of_le ql0 o_so))
      have hs1 : l1 = so → own_eqs 5 k1 0 sg = 1 := fun q => absurd q (Nat.ne_of_lt (Nat.lt_of_lt_of_le ql1 o_so))
      have hs2 : l2 = so → own_eqs 6 k2 0 sg = 1 := fun q => absurd q (Nat.ne_of_lt (Nat.lt_of_lt_of_le ql2 o_so))
      exact own_tail l Z a0 hw h0 p1 p2 p3 p4 cs sv va vf e0 e1 e2 l0 l1 l2 m0 m1 m2 k0 k1 k2 p e s m below meth c C hC vm20 n20 T20 h20 so sb 0 sg (0 : Int32) bs (2 : Int32) (0 : Int32) (p3 &&& (7 : Int32)) (p4 &&& (255 : Int32)).toUInt32.toUInt16.toUInt32.toInt32 W20 HS HK CR S_cs S_sf S_vs V_va Y_va S_e0 S_e1 S_e2 F_label_e0 X_l0 F_value_l0 F_coder_l0 V_m0 F_label_e1 X_l1 F_value_l1 F_coder_l1 V_m1 F_label_e2 X_l2 F_value_l2 F_coder_l2 V_m2 X_so F_value_so F_coder_so V_sb hcs hsv hv0 hv1 hv2 hk0 hk1 hk2 rfl rfl hs0 hs1 hs2
    · obtain rfl : nv = (1 : Int32) := own_lit32 hnn _ rfl
      show own_Go p e below C T19 (mkF m 68 #[.val (.int p1), .val (.int p2), .val (.int p3), .val (.int p4), .val (.int (2 : Int32)), .val (.ref bs), .val (.int (1 : Int32)), .val (.int (p3 &&& (7 : Int32))), .val (.int (p4 &&& (255 : Int32)).toUInt32.toUInt16.toUInt32.toInt32), .unset, .unset, .unset] [(.int (p4 &&& (255 : Int32)).toUInt32.toUInt16.toUInt32.toInt32), (.int (p3 &&& (7 : Int32))), (.ref bs), (.int (1 : Int32))])
      have hsz1 := own_le W19
      have lq : h19.size ≤ h19.size := Nat.le_refl _
      have ql0 := X_l0.lt
      have ql1 := X_l1.lt
      have ql2 := X_l2.lt
      refine own_callS W19 (A := [(.int (1 : Int32)), (.ref bs), (.int (p3 &&& (7 : Int32))), (.int (p4 &&& (255 : Int32)).toUInt32.toUInt16.toUInt32.toInt32)]) (wt := 0) (pc' := 71) (st := []) at_68 (wd8 hw) (wd9 hw) (wd10 hw) (wd11 hw) (by decide) (own_m1_1 l Z a0 hw [] h19 bs (p3 &&& (7 : Int32)) (p4 &&& (255 : Int32)).toUInt32.toUInt16.toUInt32.toInt32 cs sv bd 6 own_g2 (6 : Int32) S_cs S_sf X_bs F_value_bs F_coder_bs V_bd hcs hsv rfl rfl (by rw [hch2]; exact hch.1) (by rw [hch2]; exact hch.2)) all0 rfl pd_16 rfl (Nat.le_of_eq rfl) (by decide) (by decide) (by decide) (by decide) rfl ?_
      rintro T21 h21 _ W21 K21 P21 ⟨so, sb, sg, rfl, o_so, -, X_so, F_value_so, F_coder_so, V_sb⟩
      have S_cs := own_staK0 S_cs K21
      have S_sf := own_staK0 S_sf K21
      have S_vs := own_staK0 S_vs K21
      have V_va := V_va.keep K21 nin0
      have Y_va := Y_va.keep K21
      have S_e0 := own_staK0 S_e0 K21
      have S_e1 := own_staK0 S_e1 K21
      have S_e2 := own_staK0 S_e2 K21
      have F_label_e0 := F_label_e0.keep K21 nin0
      have X_l0 := X_l0.keep K21
      have F_value_l0 := F_value_l0.keep K21 nin0
      have F_coder_l0 := F_coder_l0.keep K21 nin0
      have V_m0 := V_m0.keep K21 nin0
      have F_label_e1 := F_label_e1.keep K21 nin0
      have X_l1 := X_l1.keep K21
      have F_value_l1 := F_value_l1.keep K21 nin0
      have F_coder_l1 := F_coder_l1.keep K21 nin0
      have V_m1 := V_m1.keep K21 nin0
      have F_label_e2 := F_label_e2.keep K21 nin0
      have X_l2 := X_l2.keep K21
      have F_value_l2 := F_value_l2.keep K21 nin0
      have F_coder_l2 := F_coder_l2.keep K21 nin0
      have V_m2 := V_m2.keep K21 nin0
      have HK := Nat.le_trans HK K21.1
      have CR := CR.trans (CHr.keep K21 all0 CR.1)
      have X_bs := X_bs.keep K21
      have F_value_bs := F_value_bs.keep K21 nin0
      have F_coder_bs := F_coder_bs.keep K21 nin0
      have V_bd := V_bd.keep K21 nin0
      show own_Go p e below C T21 (mkF m 71 #[.val (.int p1), .val (.int p2), .val (.int p3), .val (.int p4), .val (.int (2 : Int32)), .val (.ref bs), .val (.int (1 : Int32)), .val (.int (p3 &&& (7 : Int32))), .val (.int (p4 &&& (255 : Int32)).toUInt32.toUInt16.toUInt32.toInt32), .unset, .unset, .unset] [(.ref so)])
      have hs0 : l0 = so → own_eqs 6 k0 1 sg = 1 := fun q => absurd q (Nat.ne_of_lt (Nat.lt_of_lt_of_le ql0 o_so))
      have hs1 : l1 = so → own_eqs 5 k1 1 sg = 1 := fun q => absurd q (Nat.ne_of_lt (Nat.lt_of_lt_of_le ql1 o_so))
      have hs2 : l2 = so → own_eqs 6 k2 1 sg = 1 := fun q => absurd q (Nat.ne_of_lt (Nat.lt_of_lt_of_le ql2 o_so))
      exact own_tail l Z a0 hw h0 p1 p2 p3 p4 cs sv va vf e0 e1 e2 l0 l1 l2 m0 m1 m2 k0 k1 k2 p e s m below meth c C hC vm19 n19 T21 h21 so sb 1 sg (1 : Int32) bs (2 : Int32) (1 : Int32) (p3 &&& (7 : Int32)) (p4 &&& (255 : Int32)).toUInt32.toUInt16.toUInt32.toInt32 W21 HS HK CR S_cs S_sf S_vs V_va Y_va S_e0 S_e1 S_e2 F_label_e0 X_l0 F_value_l0 F_coder_l0 V_m0 F_label_e1 X_l1 F_value_l1 F_coder_l1 V_m1 F_label_e2 X_l2 F_value_l2 F_coder_l2 V_m2 X_so F_value_so F_coder_so V_sb hcs hsv hv0 hv1 hv2 hk0 hk1 hk2 rfl rfl hs0 hs1 hs2
    · obtain rfl : nv = (2 : Int32) := own_lit32 hnn _ rfl
      show own_Go p e below C T19 (mkF m 68 #[.val (.int p1), .val (.int p2), .val (.int p3), .val (.int p4), .val (.int (2 : Int32)), .val (.ref bs), .val (.int (2 : Int32)), .val (.int (p3 &&& (7 : Int32))), .val (.int (p4 &&& (255 : Int32)).toUInt32.toUInt16.toUInt32.toInt32), .unset, .unset, .unset] [(.int (p4 &&& (255 : Int32)).toUInt32.toUInt16.toUInt32.toInt32), (.int (p3 &&& (7 : Int32))), (.ref bs), (.int (2 : Int32))])
      have hsz1 := own_le W19
      have lq : h19.size ≤ h19.size := Nat.le_refl _
      have ql0 := X_l0.lt
      have ql1 := X_l1.lt
      have ql2 := X_l2.lt
      refine own_callS W19 (A := [(.int (2 : Int32)), (.ref bs), (.int (p3 &&& (7 : Int32))), (.int (p4 &&& (255 : Int32)).toUInt32.toUInt16.toUInt32.toInt32)]) (wt := 0) (pc' := 71) (st := []) at_68 (wd8 hw) (wd9 hw) (wd10 hw) (wd11 hw) (by decide) (own_m1_2 l Z a0 hw [] h19 bs (p3 &&& (7 : Int32)) (p4 &&& (255 : Int32)).toUInt32.toUInt16.toUInt32.toInt32 cs sv bd 6 own_g2 (6 : Int32) S_cs S_sf X_bs F_value_bs F_coder_bs V_bd hcs hsv rfl rfl (by rw [hch2]; exact hch.1) (by rw [hch2]; exact hch.2)) all0 rfl pd_16 rfl (Nat.le_of_eq rfl) (by decide) (by decide) (by decide) (by decide) rfl ?_
      rintro T22 h22 _ W22 K22 P22 ⟨so, sb, sg, rfl, o_so, -, X_so, F_value_so, F_coder_so, V_sb⟩
      have S_cs := own_staK0 S_cs K22
      have S_sf := own_staK0 S_sf K22
      have S_vs := own_staK0 S_vs K22
      have V_va := V_va.keep K22 nin0
      have Y_va := Y_va.keep K22
      have S_e0 := own_staK0 S_e0 K22
      have S_e1 := own_staK0 S_e1 K22
      have S_e2 := own_staK0 S_e2 K22
      have F_label_e0 := F_label_e0.keep K22 nin0
      have X_l0 := X_l0.keep K22
      have F_value_l0 := F_value_l0.keep K22 nin0
      have F_coder_l0 := F_coder_l0.keep K22 nin0
      have V_m0 := V_m0.keep K22 nin0
      have F_label_e1 := F_label_e1.keep K22 nin0
      have X_l1 := X_l1.keep K22
      have F_value_l1 := F_value_l1.keep K22 nin0
      have F_coder_l1 := F_coder_l1.keep K22 nin0
      have V_m1 := V_m1.keep K22 nin0
      have F_label_e2 := F_label_e2.keep K22 nin0
      have X_l2 := X_l2.keep K22
      have F_value_l2 := F_value_l2.keep K22 nin0
      have F_coder_l2 := F_coder_l2.keep K22 nin0
      have V_m2 := V_m2.keep K22 nin0
      have HK := Nat.le_trans HK K22.1
      have CR := CR.trans (CHr.keep K22 all0 CR.1)
      have X_bs := X_bs.keep K22
      have F_value_bs := F_value_bs.keep K22 nin0
      have F_coder_bs := F_coder_bs.keep K22 nin0
      have V_bd := V_bd.keep K22 nin0
      show own_Go p e below C T22 (mkF m 71 #[.val (.int p1), .val (.int p2), .val (.int p3), .val (.int p4), .val (.int (2 : Int32)), .val (.ref bs), .val (.int (2 : Int32)), .val (.int (p3 &&& (7 : Int32))), .val (.int (p4 &&& (255 : Int32)).toUInt32.toUInt16.toUInt32.toInt32), .unset, .unset, .unset] [(.ref so)])
      have hs0 : l0 = so → own_eqs 6 k0 2 sg = 1 := fun q => absurd q (Nat.ne_of_lt (Nat.lt_of_lt_of_le ql0 o_so))
      have hs1 : l1 = so → own_eqs 5 k1 2 sg = 1 := fun q => absurd q (Nat.ne_of_lt (Nat.lt_of_lt_of_le ql1 o_so))
      have hs2 : l2 = so → own_eqs 6 k2 2 sg = 1 := fun q => absurd q (Nat.ne_of_lt (Nat.lt_of_lt_of_le ql2 o_so))
      exact own_tail l Z a0 hw h0 p1 p2 p3 p4 cs sv va vf e0 e1 e2 l0 l1 l2 m0 m1 m2 k0 k1 k2 p e s m below meth c C hC vm19 n19 T22 h22 so sb 2 sg (2 : Int32) bs (2 : Int32) (2 : Int32) (p3 &&& (7 : Int32)) (p4 &&& (255 : Int32)).toUInt32.toUInt16.toUInt32.toInt32 W22 HS HK CR S_cs S_sf S_vs V_va Y_va S_e0 S_e1 S_e2 F_label_e0 X_l0 F_value_l0 F_coder_l0 V_m0 F_label_e1 X_l1 F_value_l1 F_coder_l1 V_m1 F_label_e2 X_l2 F_value_l2 F_coder_l2 V_m2 X_so F_value_so F_coder_so V_sb hcs hsv hv0 hv1 hv2 hk0 hk1 hk2 rfl rfl hs0 hs1 hs2
    · obtain rfl : nv = (3 : Int32) := own_lit32 hnn _ rfl
      show own_Go p e below C T19 (mkF m 68 #[.val (.int p1), .val (.int p2), .val (.int p3), .val (.int p4), .val (.int (2 : Int32)), .val (.ref bs), .val (.int (3 : Int32)), .val (.int (p3 &&& (7 : Int32))), .val (.int (p4 &&& (255 : Int32)).toUInt32.toUInt16.toUInt32.toInt32), .unset, .unset, .unset] [(.int (p4 &&& (255 : Int32)).toUInt32.toUInt16.toUInt32.toInt32), (.int (p3 &&& (7 : Int32))), (.ref bs), (.int (3 : Int32))])
      have hsz1 := own_le W19
      have lq : h19.size ≤ h19.size := Nat.le_refl _
      have ql0 := X_l0.lt
      have ql1 := X_l1.lt
      have ql2 := X_l2.lt
      refine own_callS W19 (A := [(.int (3 : Int32)), (.ref bs), (.int (p3 &&& (7 : Int32))), (.int (p4 &&& (255 : Int32)).toUInt32.toUInt16.toUInt32.toInt32)]) (wt := 0) (pc' := 71) (st := []) at_68 (wd8 hw) (wd9 hw) (wd10 hw) (wd11 hw) (by decide) (own_m1_3 l Z a0 hw [] h19 bs (p3 &&& (7 : Int32)) (p4 &&& (255 : Int32)).toUInt32.toUInt16.toUInt32.toInt32 cs sv bd 6 own_g2 (6 : Int32) S_cs S_sf X_bs F_value_bs F_coder_bs V_bd hcs hsv rfl rfl (by rw [hch2]; exact hch.1) (by rw [hch2]; exact hch.2)) all0 rfl pd_16 rfl (Nat.le_of_eq rfl) (by decide) (by decide) (by decide) (by decide) rfl ?_
      rintro T23 h23 _ W23 K23 P23 ⟨so, sb, sg, rfl, o_so, -, X_so, F_value_so, F_coder_so, V_sb⟩
      have S_cs := own_staK0 S_cs K23
      have S_sf := own_staK0 S_sf K23
      have S_vs := own_staK0 S_vs K23
      have V_va := V_va.keep K23 nin0
      have Y_va := Y_va.keep K23
      have S_e0 := own_staK0 S_e0 K23
      have S_e1 := own_staK0 S_e1 K23
      have S_e2 := own_staK0 S_e2 K23
      have F_label_e0 := F_label_e0.keep K23 nin0
      have X_l0 := X_l0.keep K23
      have F_value_l0 := F_value_l0.keep K23 nin0
      have F_coder_l0 := F_coder_l0.keep K23 nin0
      have V_m0 := V_m0.keep K23 nin0
      have F_label_e1 := F_label_e1.keep K23 nin0
      have X_l1 := X_l1.keep K23
      have F_value_l1 := F_value_l1.keep K23 nin0
      have F_coder_l1 := F_coder_l1.keep K23 nin0
      have V_m1 := V_m1.keep K23 nin0
      have F_label_e2 := F_label_e2.keep K23 nin0
      have X_l2 := X_l2.keep K23
      have F_value_l2 := F_value_l2.keep K23 nin0
      have F_coder_l2 := F_coder_l2.keep K23 nin0
      have V_m2 := V_m2.keep K23 nin0
      have HK := Nat.le_trans HK K23.1
      have CR := CR.trans (CHr.keep K23 all0 CR.1)
      have X_bs := X_bs.keep K23
      have F_value_bs := F_value_bs.keep K23 nin0
      have F_coder_bs := F_coder_bs.keep K23 nin0
      have V_bd := V_bd.keep K23 nin0
      show own_Go p e below C T23 (mkF m 71 #[.val (.int p1), .val (.int p2), .val (.int p3), .val (.int p4), .val (.int (2 : Int32)), .val (.ref bs), .val (.int (3 : Int32)), .val (.int (p3 &&& (7 : Int32))), .val (.int (p4 &&& (255 : Int32)).toUInt32.toUInt16.toUInt32.toInt32), .unset, .unset, .unset] [(.ref so)])
      have hs0 : l0 = so → own_eqs 6 k0 3 sg = 1 := fun q => absurd q (Nat.ne_of_lt (Nat.lt_of_lt_of_le ql0 o_so))
      have hs1 : l1 = so → own_eqs 5 k1 3 sg = 1 := fun q => absurd q (Nat.ne_of_lt (Nat.lt_of_lt_of_le ql1 o_so))
      have hs2 : l2 = so → own_eqs 6 k2 3 sg = 1 := fun q => absurd q (Nat.ne_of_lt (Nat.lt_of_lt_of_le ql2 o_so))
      exact own_tail l Z a0 hw h0 p1 p2 p3 p4 cs sv va vf e0 e1 e2 l0 l1 l2 m0 m1 m2 k0 k1 k2 p e s m below meth c C hC vm19 n19 T23 h23 so sb 3 sg (3 : Int32) bs (2 : Int32) (3 : Int32) (p3 &&& (7 : Int32)) (p4 &&& (255 : Int32)).toUInt32.toUInt16.toUInt32.toInt32 W23 HS HK CR S_cs S_sf S_vs V_va Y_va S_e0 S_e1 S_e2 F_label_e0 X_l0 F_value_l0 F_coder_l0 V_m0 F_label_e1 X_l1 F_value_l1 F_coder_l1 V_m1 F_label_e2 X_l2 F_value_l2 F_coder_l2 V_m2 X_so F_value_so F_coder_so V_sb hcs hsv hv0 hv1 hv2 hk0 hk1 hk2 rfl rfl hs0 hs1 hs2
    · obtain rfl : nv = (4 : Int32) := own_lit32 hnn _ rfl
      show own_Go p e below C T19 (mkF m 68 #[.val (.int p1), .val (.int p2), .val (.int p3), .val (.int p4), .val (.int (2 : Int32)), .val (.ref bs), .val (.int (4 : Int32)), .val (.int (p3 &&& (7 : Int32))), .val (.int (p4 &&& (255 : Int32)).toUInt32.toUInt16.toUInt32.toInt32), .unset, .unset, .unset] [(.int (p4 &&& (255 : Int32)).toUInt32.toUInt16.toUInt32.toInt32), (.int (p3 &&& (7 : Int32))), (.ref bs), (.int (4 : Int32))])
      have hsz1 := own_le W19
      have lq : h19.size ≤ h19.size := Nat.le_refl _
      have ql0 := X_l0.lt
      have ql1 := X_l1.lt
      have ql2 := X_l2.lt
      refine own_callS W19 (A := [(.int (4 : Int32)), (.ref bs), (.int (p3 &&& (7 : Int32))), (.int (p4 &&& (255 : Int32)).toUInt32.toUInt16.toUInt32.toInt32)]) (wt := 0) (pc' := 71) (st := []) at_68 (wd8 hw) (wd9 hw) (wd10 hw) (wd11 hw) (by decide) (own_m1_4 l Z a0 hw [] h19 bs (p3 &&& (7 : Int32)) (p4 &&& (255 : Int32)).toUInt32.toUInt16.toUInt32.toInt32 cs sv bd 6 own_g2 (6 : Int32) S_cs S_sf X_bs F_value_bs F_coder_bs V_bd hcs hsv rfl rfl (by rw [hch2]; exact hch.1) (by rw [hch2]; exact hch.2)) all0 rfl pd_16 rfl (Nat.le_of_eq rfl) (by decide) (by decide) (by decide) (by decide) rfl ?_
      rintro T24 h24 _ W24 K24 P24 ⟨so, sb, sg, rfl, o_so, -, X_so, F_value_so, F_coder_so, V_sb⟩
      have S_cs := own_staK0 S_cs K24
      have S_sf := own_staK0 S_sf K24
      have S_vs := own_staK0 S_vs K24
      have V_va := V_va.keep K24 nin0
      have Y_va := Y_va.keep K24
      have S_e0 := own_staK0 S_e0 K24
      have S_e1 := own_staK0 S_e1 K24
      have S_e2 := own_staK0 S_e2 K24
      have F_label_e0 := F_label_e0.keep K24 nin0
      have X_l0 := X_l0.keep K24
      have F_value_l0 := F_value_l0.keep K24 nin0
      have F_coder_l0 := F_coder_l0.keep K24 nin0
      have V_m0 := V_m0.keep K24 nin0
      have F_label_e1 := F_label_e1.keep K24 nin0
      have X_l1 := X_l1.keep K24
      have F_value_l1 := F_value_l1.keep K24 nin0
      have F_coder_l1 := F_coder_l1.keep K24 nin0
      have V_m1 := V_m1.keep K24 nin0
      have F_label_e2 := F_label_e2.keep K24 nin0
      have X_l2 := X_l2.keep K24
      have F_value_l2 := F_value_l2.keep K24 nin0
      have F_coder_l2 := F_coder_l2.keep K24 nin0
      have V_m2 := V_m2.keep K24 nin0
      have HK := Nat.le_trans HK K24.1
      have CR := CR.trans (CHr.keep K24 all0 CR.1)
      have X_bs := X_bs.keep K24
      have F_value_bs := F_value_bs.keep K24 nin0
      have F_coder_bs := F_coder_bs.keep K24 nin0
      have V_bd := V_bd.keep K24 nin0
      show own_Go p e below C T24 (mkF m 71 #[.val (.int p1), .val (.int p2), .val (.int p3), .val (.int p4), .val (.int (2 : Int32)), .val (.ref bs), .val (.int (4 : Int32)), .val (.int (p3 &&& (7 : Int32))), .val (.int (p4 &&& (255 : Int32)).toUInt32.toUInt16.toUInt32.toInt32), .unset, .unset, .unset] [(.ref so)])
      have hs0 : l0 = so → own_eqs 6 k0 4 sg = 1 := fun q => absurd q (Nat.ne_of_lt (Nat.lt_of_lt_of_le ql0 o_so))
      have hs1 : l1 = so → own_eqs 5 k1 4 sg = 1 := fun q => absurd q (Nat.ne_of_lt (Nat.lt_of_lt_of_le ql1 o_so))
      have hs2 : l2 = so → own_eqs 6 k2 4 sg = 1 := fun q => absurd q (Nat.ne_of_lt (Nat.lt_of_lt_of_le ql2 o_so))
      exact own_tail l Z a0 hw h0 p1 p2 p3 p4 cs sv va vf e0 e1 e2 l0 l1 l2 m0 m1 m2 k0 k1 k2 p e s m below meth c C hC vm19 n19 T24 h24 so sb 4 sg (4 : Int32) bs (2 : Int32) (4 : Int32) (p3 &&& (7 : Int32)) (p4 &&& (255 : Int32)).toUInt32.toUInt16.toUInt32.toInt32 W24 HS HK CR S_cs S_sf S_vs V_va Y_va S_e0 S_e1 S_e2 F_label_e0 X_l0 F_value_l0 F_coder_l0 V_m0 F_label_e1 X_l1 F_value_l1 F_coder_l1 V_m1 F_label_e2 X_l2 F_value_l2 F_coder_l2 V_m2 X_so F_value_so F_coder_so V_sb hcs hsv hv0 hv1 hv2 hk0 hk1 hk2 rfl rfl hs0 hs1 hs2
    · obtain rfl : nv = (5 : Int32) := own_lit32 hnn _ rfl
      show own_Go p e below C T19 (mkF m 68 #[.val (.int p1), .val (.int p2), .val (.int p3), .val (.int p4), .val (.int (2 : Int32)), .val (.ref bs), .val (.int (5 : Int32)), .val (.int (p3 &&& (7 : Int32))), .val (.int (p4 &&& (255 : Int32)).toUInt32.toUInt16.toUInt32.toInt32), .unset, .unset, .unset] [(.int (p4 &&& (255 : Int32)).toUInt32.toUInt16.toUInt32.toInt32), (.int (p3 &&& (7 : Int32))), (.ref bs), (.int (5 : Int32))])
      have hsz1 := own_le W19
      have lq : h19.size ≤ h19.size := Nat.le_refl _
      have ql0 := X_l0.lt
      have ql1 := X_l1.lt
      have ql2 := X_l2.lt
      refine own_callS W19 (A := [(.int (5 : Int32)), (.ref bs), (.int (p3 &&& (7 : Int32))), (.int (p4 &&& (255 : Int32)).toUInt32.toUInt16.toUInt32.toInt32)]) (wt := 0) (pc' := 71) (st := []) at_68 (wd8 hw) (wd9 hw) (wd10 hw) (wd11 hw) (by decide) (own_m1_5 l Z a0 hw [] h19 bs (p3 &&& (7 : Int32)) (p4 &&& (255 : Int32)).toUInt32.toUInt16.toUInt32.toInt32 cs sv bd 6 own_g2 (6 : Int32) S_cs S_sf X_bs F_value_bs F_coder_bs V_bd hcs hsv rfl rfl (by rw [hch2]; exact hch.1) (by rw [hch2]; exact hch.2)) all0 rfl pd_16 rfl (Nat.le_of_eq rfl) (by decide) (by decide) (by decide) (by decide) rfl ?_
      rintro T25 h25 _ W25 K25 P25 ⟨so, sb, sg, rfl, o_so, -, X_so, F_value_so, F_coder_so, V_sb⟩
      have S_cs := own_staK0 S_cs K25
      have S_sf := own_staK0 S_sf K25
      have S_vs := own_staK0 S_vs K25
      have V_va := V_va.keep K25 nin0
      have Y_va := Y_va.keep K25
      have S_e0 := own_staK0 S_e0 K25
      have S_e1 := own_staK0 S_e1 K25
      have S_e2 := own_staK0 S_e2 K25
      have F_label_e0 := F_label_e0.keep K25 nin0
      have X_l0 := X_l0.keep K25
      have F_value_l0 := F_value_l0.keep K25 nin0
      have F_coder_l0 := F_coder_l0.keep K25 nin0
      have V_m0 := V_m0.keep K25 nin0
      have F_label_e1 := F_label_e1.keep K25 nin0
      have X_l1 := X_l1.keep K25
      have F_value_l1 := F_value_l1.keep K25 nin0
      have F_coder_l1 := F_coder_l1.keep K25 nin0
      have V_m1 := V_m1.keep K25 nin0
      have F_label_e2 := F_label_e2.keep K25 nin0
      have X_l2 := X_l2.keep K25
      have F_value_l2 := F_value_l2.keep K25 nin0
      have F_coder_l2 := F_coder_l2.keep K25 nin0
      have V_m2 := V_m2.keep K25 nin0
      have HK := Nat.le_trans HK K25.1
      have CR := CR.trans (CHr.keep K25 all0 CR.1)
      have X_bs := X_bs.keep K25
      have F_value_bs := F_value_bs.keep K25 nin0
      have F_coder_bs := F_coder_bs.keep K25 nin0
      have V_bd := V_bd.keep K25 nin0
      show own_Go p e below C T25 (mkF m 71 #[.val (.int p1), .val (.int p2), .val (.int p3), .val (.int p4), .val (.int (2 : Int32)), .val (.ref bs), .val (.int (5 : Int32)), .val (.int (p3 &&& (7 : Int32))), .val (.int (p4 &&& (255 : Int32)).toUInt32.toUInt16.toUInt32.toInt32), .unset, .unset, .unset] [(.ref so)])
      have hs0 : l0 = so → own_eqs 6 k0 5 sg = 1 := fun q => absurd q (Nat.ne_of_lt (Nat.lt_of_lt_of_le ql0 o_so))
      have hs1 : l1 = so → own_eqs 5 k1 5 sg = 1 := fun q => absurd q (Nat.ne_of_lt (Nat.lt_of_lt_of_le ql1 o_so))
      have hs2 : l2 = so → own_eqs 6 k2 5 sg = 1 := fun q => absurd q (Nat.ne_of_lt (Nat.lt_of_lt_of_le ql2 o_so))
      exact own_tail l Z a0 hw h0 p1 p2 p3 p4 cs sv va vf e0 e1 e2 l0 l1 l2 m0 m1 m2 k0 k1 k2 p e s m below meth c C hC vm19 n19 T25 h25 so sb 5 sg (5 : Int32) bs (2 : Int32) (5 : Int32) (p3 &&& (7 : Int32)) (p4 &&& (255 : Int32)).toUInt32.toUInt16.toUInt32.toInt32 W25 HS HK CR S_cs S_sf S_vs V_va Y_va S_e0 S_e1 S_e2 F_label_e0 X_l0 F_value_l0 F_coder_l0 V_m0 F_label_e1 X_l1 F_value_l1 F_coder_l1 V_m1 F_label_e2 X_l2 F_value_l2 F_coder_l2 V_m2 X_so F_value_so F_coder_so V_sb hcs hsv hv0 hv1 hv2 hk0 hk1 hk2 rfl rfl hs0 hs1 hs2
    · obtain rfl : nv = (6 : Int32) := own_lit32 hnn _ rfl
      show own_Go p e below C T19 (mkF m 68 #[.val (.int p1), .val (.int p2), .val (.int p3), .val (.int p4), .val (.int (2 : Int32)), .val (.ref bs), .val (.int (6 : Int32)), .val (.int (p3 &&& (7 : Int32))), .val (.int (p4 &&& (255 : Int32)).toUInt32.toUInt16.toUInt32.toInt32), .unset, .unset, .unset] [(.int (p4 &&& (255 : Int32)).toUInt32.toUInt16.toUInt32.toInt32), (.int (p3 &&& (7 : Int32))), (.ref bs), (.int (6 : Int32))])
      have hsz1 := own_le W19
      have lq : h19.size ≤ h19.size := Nat.le_refl _
      have ql0 := X_l0.lt
      have ql1 := X_l1.lt
      have ql2 := X_l2.lt
      refine own_callS W19 (A := [(.int (6 : Int32)), (.ref bs), (.int (p3 &&& (7 : Int32))), (.int (p4 &&& (255 : Int32)).toUInt32.toUInt16.toUInt32.toInt32)]) (wt := 0) (pc' := 71) (st := []) at_68 (wd8 hw) (wd9 hw) (wd10 hw) (wd11 hw) (by decide) (own_m1_6 l Z a0 hw [] h19 bs (p3 &&& (7 : Int32)) (p4 &&& (255 : Int32)).toUInt32.toUInt16.toUInt32.toInt32 cs sv bd 6 own_g2 (6 : Int32) S_cs S_sf X_bs F_value_bs F_coder_bs V_bd hcs hsv rfl rfl (by rw [hch2]; exact hch.1) (by rw [hch2]; exact hch.2)) all0 rfl pd_16 rfl (Nat.le_of_eq rfl) (by decide) (by decide) (by decide) (by decide) rfl ?_
      rintro T26 h26 _ W26 K26 P26 ⟨so, sb, sg, rfl, o_so, -, X_so, F_value_so, F_coder_so, V_sb⟩
      have S_cs := own_staK0 S_cs K26
      have S_sf := own_staK0 S_sf K26
      have S_vs := own_staK0 S_vs K26
      have V_va := V_va.keep K26 nin0
      have Y_va := Y_va.keep K26
      have S_e0 := own_staK0 S_e0 K26
      have S_e1 := own_staK0 S_e1 K26
      have S_e2 := own_staK0 S_e2 K26
      have F_label_e0 := F_label_e0.keep K26 nin0
      have X_l0 := X_l0.keep K26
      have F_value_l0 := F_value_l0.keep K26 nin0
      have F_coder_l0 := F_coder_l0.keep K26 nin0
      have V_m0 := V_m0.keep K26 nin0
      have F_label_e1 := F_label_e1.keep K26 nin0
      have X_l1 := X_l1.keep K26
      have F_value_l1 := F_value_l1.keep K26 nin0
      have F_coder_l1 := F_coder_l1.keep K26 nin0
      have V_m1 := V_m1.keep K26 nin0
      have F_label_e2 := F_label_e2.keep K26 nin0
      have X_l2 := X_l2.keep K26
      have F_value_l2 := F_value_l2.keep K26 nin0
      have F_coder_l2 := F_coder_l2.keep K26 nin0
      have V_m2 := V_m2.keep K26 nin0
      have HK := Nat.le_trans HK K26.1
      have CR := CR.trans (CHr.keep K26 all0 CR.1)
      have X_bs := X_bs.keep K26
      have F_value_bs := F_value_bs.keep K26 nin0
      have F_coder_bs := F_coder_bs.keep K26 nin0
      have V_bd := V_bd.keep K26 nin0
      show own_Go p e below C T26 (mkF m 71 #[.val (.int p1), .val (.int p2), .val (.int p3), .val (.int p4), .val (.int (2 : Int32)), .val (.ref bs), .val (.int (6 : Int32)), .val (.int (p3 &&& (7 : Int32))), .val (.int (p4 &&& (255 : Int32)).toUInt32.toUInt16.toUInt32.toInt32), .unset, .unset, .unset] [(.ref so)])
      have hs0 : l0 = so → own_eqs 6 k0 6 sg = 1 := fun q => absurd q (Nat.ne_of_lt (Nat.lt_of_lt_of_le ql0 o_so))
      have hs1 : l1 = so → own_eqs 5 k1 6 sg = 1 := fun q => absurd q (Nat.ne_of_lt (Nat.lt_of_lt_of_le ql1 o_so))
      have hs2 : l2 = so → own_eqs 6 k2 6 sg = 1 := fun q => absurd q (Nat.ne_of_lt (Nat.lt_of_lt_of_le ql2 o_so))
      exact own_tail l Z a0 hw h0 p1 p2 p3 p4 cs sv va vf e0 e1 e2 l0 l1 l2 m0 m1 m2 k0 k1 k2 p e s m below meth c C hC vm19 n19 T26 h26 so sb 6 sg (6 : Int32) bs (2 : Int32) (6 : Int32) (p3 &&& (7 : Int32)) (p4 &&& (255 : Int32)).toUInt32.toUInt16.toUInt32.toInt32 W26 HS HK CR S_cs S_sf S_vs V_va Y_va S_e0 S_e1 S_e2 F_label_e0 X_l0 F_value_l0 F_coder_l0 V_m0 F_label_e1 X_l1 F_value_l1 F_coder_l1 V_m1 F_label_e2 X_l2 F_value_l2 F_coder_l2 V_m2 X_so F_value_so F_coder_so V_sb hcs hsv hv0 hv1 hv2 hk0 hk1 hk2 rfl rfl hs0 hs1 hs2
    · obtain rfl : nv = (7 : Int32) := own_lit32 hnn _ rfl
      show own_Go p e below C T19 (mkF m 68 #[.val (.int p1), .val (.int p2), .val (.int p3), .val (.int p4), .val (.int (2 : Int32)), .val (.ref bs), .val (.int (7 : Int32)), .val (.int (p3 &&& (7 : Int32))), .val (.int (p4 &&& (255 : Int32)).toUInt32.toUInt16.toUInt32.toInt32), .unset, .unset, .unset] [(.int (p4 &&& (255 : Int32)).toUInt32.toUInt16.toUInt32.toInt32), (.int (p3 &&& (7 : Int32))), (.ref bs), (.int (7 : Int32))])
      have hsz1 := own_le W19
      have lq : h19.size ≤ h19.size := Nat.le_refl _
      have ql0 := X_l0.lt
      have ql1 := X_l1.lt
      have ql2 := X_l2.lt
      refine own_callS W19 (A := [(.int (7 : Int32)), (.ref bs), (.int (p3 &&& (7 : Int32))), (.int (p4 &&& (255 : Int32)).toUInt32.toUInt16.toUInt32.toInt32)]) (wt := 0) (pc' := 71) (st := []) at_68 (wd8 hw) (wd9 hw) (wd10 hw) (wd11 hw) (by decide) (own_m1_7 l Z a0 hw [] h19 bs (p3 &&& (7 : Int32)) (p4 &&& (255 : Int32)).toUInt32.toUInt16.toUInt32.toInt32 cs sv bd 6 own_g2 (6 : Int32) S_cs S_sf X_bs F_value_bs F_coder_bs V_bd hcs hsv rfl rfl (by rw [hch2]; exact hch.1) (by rw [hch2]; exact hch.2)) all0 rfl pd_16 rfl (Nat.le_of_eq rfl) (by decide) (by decide) (by decide) (by decide) rfl ?_
      rintro T27 h27 _ W27 K27 P27 ⟨so, sb, sg, rfl, o_so, -, X_so, F_value_so, F_coder_so, V_sb⟩
      have S_cs := own_staK0 S_cs K27
      have S_sf := own_staK0 S_sf K27
      have S_vs := own_staK0 S_vs K27
      have V_va := V_va.keep K27 nin0
      have Y_va := Y_va.keep K27
      have S_e0 := own_staK0 S_e0 K27
      have S_e1 := own_staK0 S_e1 K27
      have S_e2 := own_staK0 S_e2 K27
      have F_label_e0 := F_label_e0.keep K27 nin0
      have X_l0 := X_l0.keep K27
      have F_value_l0 := F_value_l0.keep K27 nin0
      have F_coder_l0 := F_coder_l0.keep K27 nin0
      have V_m0 := V_m0.keep K27 nin0
      have F_label_e1 := F_label_e1.keep K27 nin0
      have X_l1 := X_l1.keep K27
      have F_value_l1 := F_value_l1.keep K27 nin0
      have F_coder_l1 := F_coder_l1.keep K27 nin0
      have V_m1 := V_m1.keep K27 nin0
      have F_label_e2 := F_label_e2.keep K27 nin0
      have X_l2 := X_l2.keep K27
      have F_value_l2 := F_value_l2.keep K27 nin0
      have F_coder_l2 := F_coder_l2.keep K27 nin0
      have V_m2 := V_m2.keep K27 nin0
      have HK := Nat.le_trans HK K27.1
      have CR := CR.trans (CHr.keep K27 all0 CR.1)
      have X_bs := X_bs.keep K27
      have F_value_bs := F_value_bs.keep K27 nin0
      have F_coder_bs := F_coder_bs.keep K27 nin0
      have V_bd := V_bd.keep K27 nin0
      show own_Go p e below C T27 (mkF m 71 #[.val (.int p1), .val (.int p2), .val (.int p3), .val (.int p4), .val (.int (2 : Int32)), .val (.ref bs), .val (.int (7 : Int32)), .val (.int (p3 &&& (7 : Int32))), .val (.int (p4 &&& (255 : Int32)).toUInt32.toUInt16.toUInt32.toInt32), .unset, .unset, .unset] [(.ref so)])
      have hs0 : l0 = so → own_eqs 6 k0 7 sg = 1 := fun q => absurd q (Nat.ne_of_lt (Nat.lt_of_lt_of_le ql0 o_so))
      have hs1 : l1 = so → own_eqs 5 k1 7 sg = 1 := fun q => absurd q (Nat.ne_of_lt (Nat.lt_of_lt_of_le ql1 o_so))
      have hs2 : l2 = so → own_eqs 6 k2 7 sg = 1 := fun q => absurd q (Nat.ne_of_lt (Nat.lt_of_lt_of_le ql2 o_so))
      exact own_tail l Z a0 hw h0 p1 p2 p3 p4 cs sv va vf e0 e1 e2 l0 l1 l2 m0 m1 m2 k0 k1 k2 p e s m below meth c C hC vm19 n19 T27 h27 so sb 7 sg (7 : Int32) bs (2 : Int32) (7 : Int32) (p3 &&& (7 : Int32)) (p4 &&& (255 : Int32)).toUInt32.toUInt16.toUInt32.toInt32 W27 HS HK CR S_cs S_sf S_vs V_va Y_va S_e0 S_e1 S_e2 F_label_e0 X_l0 F_value_l0 F_coder_l0 V_m0 F_label_e1 X_l1 F_value_l1 F_coder_l1 V_m1 F_label_e2 X_l2 F_value_l2 F_coder_l2 V_m2 X_so F_value_so F_coder_so V_sb hcs hsv hv0 hv1 hv2 hk0 hk1 hk2 rfl rfl hs0 hs1 hs2
  · obtain rfl : mv = (3 : Int32) := own_lit32 hm _ rfl
    show own_Go p e below C T0 (mkF m 5 #[.val (.int p1), .val (.int p2), .val (.int p3), .val (.int p4), .val (.int (3 : Int32)), .unset, .unset, .unset, .unset, .unset, .unset, .unset] [])
    refine own_iload W0 7 at_5 rfl rfl ?_
    refine own_ifY W0 15 at_7 ((if0 _ _).trans (feq ((by decide) : ¬ ((3 : Int32) = (0 : Int32)))).2) (by decide) (by decide) ?_
    refine own_iload W0 17 at_15 rfl rfl ?_
    refine own_iconst W0 (1 : Int32) 18 at_17 rfl rfl ?_
    refine own_icmpY W0 26 at_18 ((feq ((by decide) : ¬ ((3 : Int32) = (1 : Int32)))).2) (by decide) (by decide) ?_
    refine own_ldcCH (s := s) (vm0 := s.vm) (EL := own_EL) W0 64 6 own_g2 28 at_26 (wd107 hw) (own_strs hw) (own_ew hw) (List.mem_of_getElem? (i := 2) rfl) HS HK CR ⟨by decide, rfl⟩ (by decide) (by decide) (by decide) (by decide) (by decide) rfl ?_
    intro vm28 n28 T28 h28 bs bd HS HK W28 E28 CR X_bs F_value_bs F_coder_bs V_bd SF28
    have S_cs := S_cs.ext E28
    have S_sf := S_sf.ext E28
    have S_vs := S_vs.ext E28
    have V_va := V_va.ext E28
    have Y_va := Y_va.ext E28
    have S_e0 := S_e0.ext E28
    have S_e1 := S_e1.ext E28
    have S_e2 := S_e2.ext E28
    have F_label_e0 := F_label_e0.ext E28
    have X_l0 := X_l0.ext E28
    have F_value_l0 := F_value_l0.ext E28
    have F_coder_l0 := F_coder_l0.ext E28
    have V_m0 := V_m0.ext E28
    have F_label_e1 := F_label_e1.ext E28
    have X_l1 := X_l1.ext E28
    have F_value_l1 := F_value_l1.ext E28
    have F_coder_l1 := F_coder_l1.ext E28
    have V_m1 := V_m1.ext E28
    have F_label_e2 := F_label_e2.ext E28
    have X_l2 := X_l2.ext E28
    have F_value_l2 := F_value_l2.ext E28
    have F_coder_l2 := F_coder_l2.ext E28
    have V_m2 := V_m2.ext E28
    show own_Go p e below C T28 (mkF m 28 #[.val (.int p1), .val (.int p2), .val (.int p3), .val (.int p4), .val (.int (3 : Int32)), .unset, .unset, .unset, .unset, .unset, .unset, .unset] [(.ref bs)])
    refine own_astore W28 30 #[.val (.int p1), .val (.int p2), .val (.int p3), .val (.int p4), .val (.int (3 : Int32)), .val (.ref bs), .unset, .unset, .unset, .unset, .unset, .unset] at_28 rfl rfl rfl ?_
    refine own_iloadN W28 31 at_30 rfl rfl ?_
    refine own_bipush W28 (7 : Int32) 33 at_31 rfl rfl ?_
    refine own_iand W28 34 at_33 rfl ?_
    obtain ⟨nn, hnn, hn8⟩ := own_m7b p2
    generalize h_nv : (p2 &&& (7 : Int32)) = nv at hnn ⊢
    show own_Go p e below C T28 (mkF m 34 #[.val (.int p1), .val (.int p2), .val (.int p3), .val (.int p4), .val (.int (3 : Int32)), .val (.ref bs), .unset, .unset, .unset, .unset, .unset, .unset] [(.int nv)])
    refine own_istore W28 36 #[.val (.int p1), .val (.int p2), .val (.int p3), .val (.int p4), .val (.int (3 : Int32)), .val (.ref bs), .val (.int nv), .unset, .unset, .unset, .unset, .unset] at_34 rfl rfl ?_
    refine own_iloadN W28 37 at_36 rfl rfl ?_
    refine own_bipush W28 (7 : Int32) 39 at_37 rfl rfl ?_
    refine own_iand W28 40 at_39 rfl ?_
    refine own_istore W28 42 #[.val (.int p1), .val (.int p2), .val (.int p3), .val (.int p4), .val (.int (3 : Int32)), .val (.ref bs), .val (.int nv), .val (.int (p3 &&& (7 : Int32))), .unset, .unset, .unset, .unset] at_40 rfl rfl ?_
    refine own_iloadN W28 43 at_42 rfl rfl ?_
    refine own_sipush W28 (255 : Int32) 46 at_43 rfl rfl ?_
    refine own_iand W28 47 at_46 rfl ?_
    refine own_i2c W28 48 at_47 rfl ?_
    refine own_istore W28 50 #[.val (.int p1), .val (.int p2), .val (.int p3), .val (.int p4), .val (.int (3 : Int32)), .val (.ref bs), .val (.int nv), .val (.int (p3 &&& (7 : Int32))), .val (.int (p4 &&& (255 : Int32)).toUInt32.toUInt16.toUInt32.toInt32), .unset, .unset, .unset] at_48 rfl rfl ?_
    refine own_iload W28 52 at_50 rfl rfl ?_
    refine own_iconst W28 (3 : Int32) 53 at_52 rfl rfl ?_
    refine own_icmpN W28 56 at_53 ((teq (rfl : (3 : Int32) = (3 : Int32))).2) rfl ?_
    refine own_aconst_null W28 57 at_56 rfl ?_
    refine own_goto W28 71 at_57 (by decide) (by decide) ?_
    refine own_astore W28 73 #[.val (.int p1), .val (.int p2), .val (.int p3), .val (.int p4), .val (.int (3 : Int32)), .val (.ref bs), .val (.int nv), .val (.int (p3 &&& (7 : Int32))), .val (.int (p4 &&& (255 : Int32)).toUInt32.toUInt16.toUInt32.toInt32), .val .null, .unset, .unset] at_71 rfl rfl rfl ?_
    refine own_aload W28 75 at_73 rfl rfl rfl ?_
    refine own_callS W28 (A := [.null]) (wt := 0) (pc' := 78) (st := []) at_75 (wd72 hw) (wd73 hw) (wd74 hw) (wd75 hw) (by decide) (own_m16n l Z a0 hw [] h28 cs va vf e0 e1 e2 l0 l1 l2 m0 m1 m2 k0 k1 k2 S_cs S_vs V_va Y_va F_label_e0 X_l0 F_value_l0 F_coder_l0 V_m0 F_label_e1 X_l1 F_value_l1 F_coder_l1 V_m1 F_label_e2 X_l2 F_value_l2 F_coder_l2 V_m2 hcs hv0 hv1 hv2) all0 rfl pd_17 rfl (Nat.le_of_eq rfl) (by decide) (by decide) (by decide) (by decide) rfl ?_
    rintro T29 h29 _ W29 K29 P29 rfl
    have S_cs := own_staK0 S_cs K29
    have S_sf := own_staK0 S_sf K29
    have S_vs := own_staK0 S_vs K29
    have V_va := V_va.keep K29 nin0
    have Y_va := Y_va.keep K29
    have S_e0 := own_staK0 S_e0 K29
    have S_e1 := own_staK0 S_e1 K29
    have S_e2 := own_staK0 S_e2 K29
    have F_label_e0 := F_label_e0.keep K29 nin0
    have X_l0 := X_l0.keep K29
    have F_value_l0 := F_value_l0.keep K29 nin0
    have F_coder_l0 := F_coder_l0.keep K29 nin0
    have V_m0 := V_m0.keep K29 nin0
    have F_label_e1 := F_label_e1.keep K29 nin0
    have X_l1 := X_l1.keep K29
    have F_value_l1 := F_value_l1.keep K29 nin0
    have F_coder_l1 := F_coder_l1.keep K29 nin0
    have V_m1 := V_m1.keep K29 nin0
    have F_label_e2 := F_label_e2.keep K29 nin0
    have X_l2 := X_l2.keep K29
    have F_value_l2 := F_value_l2.keep K29 nin0
    have F_coder_l2 := F_coder_l2.keep K29 nin0
    have V_m2 := V_m2.keep K29 nin0
    have HK := Nat.le_trans HK K29.1
    have CR := CR.trans (CHr.keep K29 all0 CR.1)
    show own_Go p e below C T29 (mkF m 78 #[.val (.int p1), .val (.int p2), .val (.int p3), .val (.int p4), .val (.int (3 : Int32)), .val (.ref bs), .val (.int nv), .val (.int (p3 &&& (7 : Int32))), .val (.int (p4 &&& (255 : Int32)).toUInt32.toUInt16.toUInt32.toInt32), .val .null, .unset, .unset] [.null])
    refine own_astore W29 80 #[.val (.int p1), .val (.int p2), .val (.int p3), .val (.int p4), .val (.int (3 : Int32)), .val (.ref bs), .val (.int nv), .val (.int (p3 &&& (7 : Int32))), .val (.int (p4 &&& (255 : Int32)).toUInt32.toUInt16.toUInt32.toInt32), .val .null, .val .null, .unset] at_78 rfl rfl rfl ?_
    refine own_aconst_null W29 81 at_80 rfl ?_
    refine own_astore W29 83 #[.val (.int p1), .val (.int p2), .val (.int p3), .val (.int p4), .val (.int (3 : Int32)), .val (.ref bs), .val (.int nv), .val (.int (p3 &&& (7 : Int32))), .val (.int (p4 &&& (255 : Int32)).toUInt32.toUInt16.toUInt32.toInt32), .val .null, .val .null, .val .null] at_81 rfl rfl rfl ?_
    refine own_ldcCH (s := s) (vm0 := vm28) (EL := own_EL) W29 64 6 own_g0 85 at_83 (wd0 hw) (own_strs hw) (own_ew hw) (List.mem_of_getElem? (i := 0) rfl) HS HK CR ⟨by decide, rfl⟩ (by decide) (by decide) (by decide) (by decide) (by decide) rfl ?_
    intro vm30 n30 T30 h30 c0 d0 HS HK W30 E30 CR X_c0 F_value_c0 F_coder_c0 V_d0 SF30
    have S_cs := S_cs.ext E30
    have S_sf := S_sf.ext E30
    have S_vs := S_vs.ext E30
    have V_va := V_va.ext E30
    have Y_va := Y_va.ext E30
    have S_e0 := S_e0.ext E30
    have S_e1 := S_e1.ext E30
    have S_e2 := S_e2.ext E30
    have F_label_e0 := F_label_e0.ext E30
    have X_l0 := X_l0.ext E30
    have F_value_l0 := F_value_l0.ext E30
    have F_coder_l0 := F_coder_l0.ext E30
    have V_m0 := V_m0.ext E30
    have F_label_e1 := F_label_e1.ext E30
    have X_l1 := X_l1.ext E30
    have F_value_l1 := F_value_l1.ext E30
    have F_coder_l1 := F_coder_l1.ext E30
    have V_m1 := V_m1.ext E30
    have F_label_e2 := F_label_e2.ext E30
    have X_l2 := X_l2.ext E30
    have F_value_l2 := F_value_l2.ext E30
    have F_coder_l2 := F_coder_l2.ext E30
    have V_m2 := V_m2.ext E30
    show own_Go p e below C T30 (mkF m 85 #[.val (.int p1), .val (.int p2), .val (.int p3), .val (.int p4), .val (.int (3 : Int32)), .val (.ref bs), .val (.int nv), .val (.int (p3 &&& (7 : Int32))), .val (.int (p4 &&& (255 : Int32)).toUInt32.toUInt16.toUInt32.toInt32), .val .null, .val .null, .val .null] [(.ref c0)])
    refine own_aload W30 87 at_85 rfl rfl rfl ?_
    refine own_callV W30 (A := [.null]) (wt := 0) (pc' := 90) (st := []) at_87 (wd105 hw) (wd97 hw) (own_nf W30 (wd99 hw)) (wd99 hw) (wd98 hw) (wd1 hw) (wd100 hw) (by decide) X_c0 (own_m18n l Z a0 hw [] h30 c0) all0 rfl pd_13 rfl (Nat.le_of_eq rfl) (by decide) (by decide) (by decide) (by decide) rfl ?_
    rintro T31 h31 _ W31 K31 P31 rfl
    rw [P31 rfl rfl] at W31
    show own_Go p e below C T31 (mkF m 90 #[.val (.int p1), .val (.int p2), .val (.int p3), .val (.int p4), .val (.int (3 : Int32)), .val (.ref bs), .val (.int nv), .val (.int (p3 &&& (7 : Int32))), .val (.int (p4 &&& (255 : Int32)).toUInt32.toUInt16.toUInt32.toInt32), .val .null, .val .null, .val .null] [(.int (0 : Int32))])
    refine own_ifY W31 101 at_90 ((if0 _ _).trans (teq (rfl : (0 : Int32) = (0 : Int32))).1) (by decide) (by decide) ?_
    refine own_ldcCH (s := s) (vm0 := vm30) (EL := own_EL) W31 64 5 own_g1 103 at_101 (wd106 hw) (own_strs hw) (own_ew hw) (List.mem_of_getElem? (i := 1) rfl) HS HK CR ⟨by decide, rfl⟩ (by decide) (by decide) (by decide) (by decide) (by decide) rfl ?_
    intro vm32 n32 T32 h32 c1 d1 HS HK W32 E32 CR X_c1 F_value_c1 F_coder_c1 V_d1 SF32
    have S_cs := S_cs.ext E32
    have S_sf := S_sf.ext E32
    have S_vs := S_vs.ext E32
    have V_va := V_va.ext E32
    have Y_va := Y_va.ext E32
    have S_e0 := S_e0.ext E32
    have S_e1 := S_e1.ext E32
    have S_e2 := S_e2.ext E32
    have F_label_e0 := F_label_e0.ext E32
    have X_l0 := X_l0.ext E32
    have F_value_l0 := F_value_l0.ext E32
    have F_coder_l0 := F_coder_l0.ext E32
    have V_m0 := V_m0.ext E32
    have F_label_e1 := F_label_e1.ext E32
    have X_l1 := X_l1.ext E32
    have F_value_l1 := F_value_l1.ext E32
    have F_coder_l1 := F_coder_l1.ext E32
    have V_m1 := V_m1.ext E32
    have F_label_e2 := F_label_e2.ext E32
    have X_l2 := X_l2.ext E32
    have F_value_l2 := F_value_l2.ext E32
    have F_coder_l2 := F_coder_l2.ext E32
    have V_m2 := V_m2.ext E32
    show own_Go p e below C T32 (mkF m 103 #[.val (.int p1), .val (.int p2), .val (.int p3), .val (.int p4), .val (.int (3 : Int32)), .val (.ref bs), .val (.int nv), .val (.int (p3 &&& (7 : Int32))), .val (.int (p4 &&& (255 : Int32)).toUInt32.toUInt16.toUInt32.toInt32), .val .null, .val .null, .val .null] [(.ref c1)])
    refine own_aload W32 105 at_103 rfl rfl rfl ?_
    refine own_callV W32 (A := [.null]) (wt := 0) (pc' := 108) (st := []) at_105 (wd105 hw) (wd97 hw) (own_nf W32 (wd99 hw)) (wd99 hw) (wd98 hw) (wd1 hw) (wd100 hw) (by decide) X_c1 (own_m18n l Z a0 hw [] h32 c1) all0 rfl pd_13 rfl (Nat.le_of_eq rfl) (by decide) (by decide) (by decide) (by decide) rfl ?_
    rintro T33 h33 _ W33 K33 P33 rfl
    rw [P33 rfl rfl] at W33
    show own_Go p e below C T33 (mkF m 108 #[.val (.int p1), .val (.int p2), .val (.int p3), .val (.int p4), .val (.int (3 : Int32)), .val (.ref bs), .val (.int nv), .val (.int (p3 &&& (7 : Int32))), .val (.int (p4 &&& (255 : Int32)).toUInt32.toUInt16.toUInt32.toInt32), .val .null, .val .null, .val .null] [(.int (0 : Int32))])
    refine own_ifY W33 119 at_108 ((if0 _ _).trans (teq (rfl : (0 : Int32) = (0 : Int32))).1) (by decide) (by decide) ?_
    refine own_ldcCH (s := s) (vm0 := vm32) (EL := own_EL) W33 64 6 own_g2 121 at_119 (wd107 hw) (own_strs hw) (own_ew hw) (List.mem_of_getElem? (i := 2) rfl) HS HK CR ⟨by decide, rfl⟩ (by decide) (by decide) (by decide) (by decide) (by decide) rfl ?_
    intro vm34 n34 T34 h34 c2 d2 HS HK W34 E34 CR X_c2 F_value_c2 F_coder_c2 V_d2 SF34
    have S_cs := S_cs.ext E34
    have S_sf := S_sf.ext E34
    have S_vs := S_vs.ext E34
    have V_va := V_va.ext E34
    have Y_va := Y_va.ext E34
    have S_e0 := S_e0.ext E34
    have S_e1 := S_e1.ext E34
    have S_e2 := S_e2.ext E34
    have F_label_e0 := F_label_e0.ext E34
    have X_l0 := X_l0.ext E34
    have F_value_l0 := F_value_l0.ext E34
    have F_coder_l0 := F_coder_l0.ext E34
    have V_m0 := V_m0.ext E34
    have F_label_e1 := F_label_e1.ext E34
    have X_l1 := X_l1.ext E34
    have F_value_l1 := F_value_l1.ext E34
    have F_coder_l1 := F_coder_l1.ext E34
    have V_m1 := V_m1.ext E34
    have F_label_e2 := F_label_e2.ext E34
    have X_l2 := X_l2.ext E34
    have F_value_l2 := F_value_l2.ext E34
    have F_coder_l2 := F_coder_l2.ext E34
    have V_m2 := V_m2.ext E34
    show own_Go p e below C T34 (mkF m 121 #[.val (.int p1), .val (.int p2), .val (.int p3), .val (.int p4), .val (.int (3 : Int32)), .val (.ref bs), .val (.int nv), .val (.int (p3 &&& (7 : Int32))), .val (.int (p4 &&& (255 : Int32)).toUInt32.toUInt16.toUInt32.toInt32), .val .null, .val .null, .val .null] [(.ref c2)])
    refine own_aload W34 123 at_121 rfl rfl rfl ?_
    refine own_callV W34 (A := [.null]) (wt := 0) (pc' := 126) (st := []) at_123 (wd105 hw) (wd97 hw) (own_nf W34 (wd99 hw)) (wd99 hw) (wd98 hw) (wd1 hw) (wd100 hw) (by decide) X_c2 (own_m18n l Z a0 hw [] h34 c2) all0 rfl pd_13 rfl (Nat.le_of_eq rfl) (by decide) (by decide) (by decide) (by decide) rfl ?_
    rintro T35 h35 _ W35 K35 P35 rfl
    rw [P35 rfl rfl] at W35
    show own_Go p e below C T35 (mkF m 126 #[.val (.int p1), .val (.int p2), .val (.int p3), .val (.int p4), .val (.int (3 : Int32)), .val (.ref bs), .val (.int nv), .val (.int (p3 &&& (7 : Int32))), .val (.int (p4 &&& (255 : Int32)).toUInt32.toUInt16.toUInt32.toInt32), .val .null, .val .null, .val .null] [(.int (0 : Int32))])
    refine own_ifY W35 134 at_126 ((if0 _ _).trans (teq (rfl : (0 : Int32) = (0 : Int32))).1) (by decide) (by decide) ?_
    refine own_aload W35 136 at_134 rfl rfl rfl ?_
    refine own_aload W35 138 at_136 rfl rfl rfl ?_
    refine own_acmp W35 141 at_138 rfl rfl (same := true) (decide_eq_true rfl) (by decide) (by decide) ?_
    refine own_iconst W35 (1 : Int32) 142 at_141 rfl rfl ?_
    refine own_goto W35 146 at_142 (by decide) (by decide) ?_
    have hC36 : ∀ v L u, own_Fw (s.setVm vm34) [] L → ((v = some (.int (1 : Int32))) ∧ n34 ≤ u.heap.size ∧ CHr Z own_EL s.vm s.heap vm34 u.heap) → FrameEnd (s.setVm vm34) (.returned v) u L room_1.cells room_1.slots → C (.returned v) u := fun v L u q1 q2 q3 => hC v L u vm34 n34 HS q2.2.1 W35.1.2.2.2.2.2.2.2 q2.2.2 q1 q2.1 q3
    refine own_retZ (Q := fun v h => (v = some (.int (1 : Int32))) ∧ n34 ≤ h.size ∧ CHr Z own_EL s.vm s.heap vm34 h) W35 hC36 (by decide) (by decide) at_146 ?_
    exact ⟨rfl, HK, CR⟩
theorem own_ord {args : Array Value} {s : State} {t : Term} {a : Addr} {C n d : String} {k : Int32} (h : (Cond.eq (Term.field t C n d) (Term.int k)).value args s none s [] = some true) (ev : t.eval args s none [] s = some (.ref a)) : Fld s s.heap a C n d (.int k) := by
  obtain ⟨u, v, h1, h2, -, h4⟩ := cmp_v (Or.inl h)
  have h3 : (Term.int k).eval args s none [] s = some (.int k) := Term.int_eval k
  obtain rfl : v = .int k := Option.some.inj (h2.symm.trans h3)
  obtain ⟨z, rfl⟩ := h4
  have h5 := gotT (Cond.eq_ints h1 h3) h
  subst h5
  exact Fld.start ((fld_at ev).symm.trans h1)
theorem own_arrN {args : Array Value} {s : State} {t : Term} {a : Addr} {ty : FieldType} {N : Nat} {z : Int32} (ev : t.eval args s none [] s = some (.ref a)) (u : (Cond.arrayOf t ty).value args s none s [] = some true) (w : (Cond.eq (Term.length t) (Term.int z)).value args s none s [] = some true) (hz : z.toInt = (N : Int)) : ∃ A, Arr s s.heap a A ty ∧ A.slots.size = N := by
  obtain ⟨A, hA⟩ := Arr.start ev u
  obtain ⟨b, cb, g1, g2, g3, g4⟩ := length_spec (eqv_i (Term.int_eval z) w)
  cases g1.symm.trans ev
  cases g2.symm.trans (hA.fin (Vm.Alike.refl _))
  refine ⟨A, hA, ?_⟩
  have q1 := len_toInt g3
  rw [← Value.int.inj g4] at q1
  omega
theorem own_elemI {args : Array Value} {s : State} {t : Term} {a : Addr} {ty : FieldType} {A : Cell} {z k : Int32} (ev : t.eval args s none [] s = some (.ref a)) (hA : Arr s s.heap a A ty) (j : Nat) (hz : z.toInt = (j : Int)) (h : (Cond.eq (Term.elem t (Term.int z)) (Term.int k)).value args s none s [] = some true) : A.slots[j]? = some (.int k) := by
  have q := (elem_f ev (Term.int_eval z) (hA.fin (Vm.Alike.refl _)) (own_nn hz)).symm.trans (eqv_i (Term.int_eval k) h)
  rwa [own_cl hz] at q
theorem own_elemR {args : Array Value} {s : State} {t t2 : Term} {a b : Addr} {ty : FieldType} {A : Cell} {z : Int32} (ev : t.eval args s none [] s = some (.ref a)) (hA : Arr s s.heap a A ty) (j : Nat) (hz : z.toInt = (j : Int)) (eb : t2.eval args s none [] s = some (.ref b)) (h : (Cond.eq (Term.elem t (Term.int z)) t2).value args s none s [] = some true) : A.slots[j]? = some (.ref b) := by
  obtain ⟨u, v, h1, h2, -, h4⟩ := cmp_v (Or.inl h)
  cases h2.symm.trans eb
  have h5 := gotT (eq_R h1 eb h4.2 rfl) h
  subst h5
  have q := (elem_f ev (Term.int_eval z) (hA.fin (Vm.Alike.refl _)) (own_nn hz)).symm.trans h1
  rwa [own_cl hz] at q
theorem own_lab {args : Array Value} {s : State} {t : Term} {ei : Addr} {N : Nat} {z : Int32} (ev : t.eval args s none [] s = some (.ref ei)) (u1 : (Cond.exactly (Term.field t "com/example/aeneas/aeneas/Side" "label" "Ljava/lang/String;") "java/lang/String").value args s none s [] = some true) (u2 : (Cond.eq (Term.field (Term.field t "com/example/aeneas/aeneas/Side" "label" "Ljava/lang/String;") "java/lang/String" "coder" "B") (Term.int (0 : Int32))).value args s none s [] = some true) (u3 : (Cond.arrayOf (Term.field (Term.field t "com/example/aeneas/aeneas/Side" "label" "Ljava/lang/String;") "java/lang/String" "value" "[B") .byte).value args s none s [] = some true) (u4 : (Cond.eq (Term.length (Term.field (Term.field t "com/example/aeneas/aeneas/Side" "label" "Ljava/lang/String;") "java/lang/String" "value" "[B")) (Term.int z)).value args s none s [] = some true) (hz : z.toInt = (N : Int)) : ∃ (li mi : Addr) (A : Cell), (Term.field (Term.field t "com/example/aeneas/aeneas/Side" "label" "Ljava/lang/String;") "java/lang/String" "value" "[B").eval args s none [] s = some (.ref mi) ∧ Fld s s.heap ei "com/example/aeneas/aeneas/Side" "label" "Ljava/lang/String;" (.ref li) ∧ Exa s s.heap li "java/lang/String" ∧ Fld s s.heap li "java/lang/String" "value" "[B" (.ref mi) ∧ Fld s s.heap li "java/lang/String" "coder" "B" (.int (0 : Int32)) ∧ Arr s s.heap mi A .byte ∧ A.slots.size = N := by
  obtain ⟨li, vli⟩ := exa_v u1
  obtain ⟨mi, vmi⟩ := arr_v u3
  obtain ⟨A, hA, hs⟩ := own_arrN vmi u3 u4 hz
  exact ⟨li, mi, A, vmi, Fld.start ((fld_at ev).symm.trans vli), exa_at vli u1, Fld.start ((fld_at vli).symm.trans vmi), own_ord u2 vli, hA, hs⟩
set_option maxRecDepth 65536 in
set_option maxHeartbeats 40000000 in
theorem comes_1 {Post : Tables → Env → Array Value → State → Outcome → State → Prop} (hpost : ∀ tb e args s v u, (limb_1_1.after args s (.returned v) u = true ∧ limb_1_2.after args s (.returned v) u = true ∧ True) → ReturnedEndW s (.returned v) u (Jvm.fieldLocs frame_1_writes args s ++ Jvm.arrayLocs frame_1_arrays args s ++ Jvm.staticLocs frame_1_statics s) 24 4224 → Post tb e args s (.returned v) u) :
    ArmFor flags0 classFile x code maxLocals ret World_1 tables_1 room_1 Calls_1 rest_1 Pre_1 Post := by
  intro l hfl _ _ p e ha hc hk s m args below hf hA hF happ hP
  obtain ⟨hcalls, hrest, hpre⟩ := hP
  obtain ⟨-, -, -, hnamed, -, -, -, hat⟩ := (Spec.applies_iff hf).mp happ
  obtain ⟨hg, hn⟩ := and_e (Cond.before_iff.mp (show (Jvm.Cond.and given_1 narrow_1).before args s = true from hpre))
  obtain ⟨g1, g2⟩ := and_e hg
  obtain ⟨g3, g4⟩ := and_e g2
  obtain ⟨g5, g6⟩ := and_e g4
  obtain ⟨g7, g8⟩ := and_e g6
  obtain ⟨w0, w1, w2, w3, rfl⟩ : ∃ w0 w1 w2 w3 : Value, args = #[w0, w1, w2, w3] := by
    have hs : args.size = 4 := by simpa [Cond.value, given_1] using g1
    obtain ⟨L⟩ := args
    match L, hs with
    | [w0, w1, w2, w3], _ => exact ⟨w0, w1, w2, w3, rfl⟩
  have hw := fun d (hd : d ∈ tables_1) => atoms_spec (ws := Jvm.Cond.code x code maxLocals ret :: tables_1) hat d (List.mem_cons_of_mem _ hd)
  have hfit : Fit s := fun {y c} hc i hi => by
    obtain ⟨ha, rfl⟩ := Array.getElem?_eq_some_iff.mp hc
    have q := List.all_eq_true.mp ((Array.all_eq_true_iff_forall_mem.mp hF) _ (Array.getElem_mem ha)) i (List.mem_range.mpr hi)
    simpa [Array.getElem?_eq_getElem hi] using q
  obtain ⟨hsets, hown0⟩ := atoms_of _ (rest_1_c_eq ▸ (show rest_1_c.before _ s = true from hrest))
  have hr0 := Cond.before_iff.mp hown0
  obtain ⟨i0, ei0⟩ := is_v g3
  obtain rfl : w0 = (.int i0) := Option.some.inj ei0
  obtain ⟨i1, ei1⟩ := is_v g5
  obtain rfl : w1 = (.int i1) := Option.some.inj ei1
  obtain ⟨i2, ei2⟩ := is_v g7
  obtain rfl : w2 = (.int i2) := Option.some.inj ei2
  obtain ⟨i3, ei3⟩ := is_v g8
  obtain rfl : w3 = (.int i3) := Option.some.inj ei3
  obtain ⟨u_va, hn⟩ := and_e hn
  obtain ⟨u_vx, hn⟩ := and_e hn
  obtain ⟨u_vl, hn⟩ := and_e hn
  obtain ⟨u_n0, hn⟩ := and_e hn
  obtain ⟨u_q0, hn⟩ := and_e hn
  obtain ⟨u_n1, hn⟩ := and_e hn
  obtain ⟨u_q1, hn⟩ := and_e hn
  obtain ⟨u_n2, hn⟩ := and_e hn
  obtain ⟨u_q2, hn⟩ := and_e hn
  obtain ⟨u_lx0, hn⟩ := and_e hn
  obtain ⟨u_lc0, hn⟩ := and_e hn
  obtain ⟨u_la0, hn⟩ := and_e hn
  obtain ⟨u_ll0, hn⟩ := and_e hn
  obtain ⟨u_lx1, hn⟩ := and_e hn
  obtain ⟨u_lc1, hn⟩ := and_e hn
  obtain ⟨u_la1, hn⟩ := and_e hn
  obtain ⟨u_ll1, hn⟩ := and_e hn
  obtain ⟨u_lx2, hn⟩ := and_e hn
  obtain ⟨u_lc2, hn⟩ := and_e hn
  obtain ⟨u_la2, hn⟩ := and_e hn
  obtain ⟨u_ll2, hn⟩ := and_e hn
  obtain ⟨u_b0_0, hn⟩ := and_e hn
  obtain ⟨u_b0_1, hn⟩ := and_e hn
  obtain ⟨u_b0_2, hn⟩ := and_e hn
  obtain ⟨u_b0_3, hn⟩ := and_e hn
  obtain ⟨u_b0_4, hn⟩ := and_e hn
  obtain ⟨u_b0_5, hn⟩ := and_e hn
  obtain ⟨u_b1_0, hn⟩ := and_e hn
  obtain ⟨u_b1_1, hn⟩ := and_e hn
  obtain ⟨u_b1_2, hn⟩ := and_e hn
  obtain ⟨u_b1_3, hn⟩ := and_e hn
  obtain ⟨u_b1_4, hn⟩ := and_e hn
  obtain ⟨u_b2_0, hn⟩ := and_e hn
  obtain ⟨u_b2_1, hn⟩ := and_e hn
  obtain ⟨u_b2_2, hn⟩ := and_e hn
  obtain ⟨u_b2_3, hn⟩ := and_e hn
  obtain ⟨u_b2_4, hn⟩ := and_e hn
  have u_b2_5 := hn
  have j1 : (Cond.isInt (Term.static "java/lang/String" "COMPACT_STRINGS" "Z")).before _ s = true := (hsets _ (List.mem_of_getElem? (i := 1) rfl))
  have j2 : (Cond.not (Cond.eq (Term.static "java/lang/String" "COMPACT_STRINGS" "Z") (Term.int (0 : Int32)))).before _ s = true := (hsets _ (List.mem_of_getElem? (i := 2) rfl))
  have j8 : (Cond.isRef (Term.static "jdk/internal/util/Preconditions" "SIOOBE_FORMATTER" "Ljava/util/function/BiFunction;")).before _ s = true := (hsets _ (List.mem_of_getElem? (i := 8) rfl))
  obtain ⟨cs, vcs⟩ := is_v (Cond.before_iff.mp j1)
  have hcs : ¬ cs = (0 : Int32) := gotF (Cond.eq_ints vcs (Term.int_eval (0 : Int32))) (not_v (Cond.before_iff.mp j2))
  obtain ⟨sv, vsv, hsv⟩ := isR_v (Cond.before_iff.mp j8)
  have S_cs : Sta s s.heap "java/lang/String" "COMPACT_STRINGS" "Z" (.int cs) := Sta.start vcs (Or.inl (hsets _ (List.mem_of_getElem? (i := 0) rfl)))
  have S_sf : Sta s s.heap "jdk/internal/util/Preconditions" "SIOOBE_FORMATTER" "Ljava/util/function/BiFunction;" sv := Sta.start vsv (Or.inl (hsets _ (List.mem_of_getElem? (i := 7) rfl)))
  obtain ⟨va, vva⟩ := exa_v u_vx
  obtain ⟨A, hA, hsA⟩ := own_arrN vva u_va u_vl (N := 3) rfl
  obtain ⟨e0, ve0⟩ := exa_v u_n0
  have S_e0 : Sta s s.heap "com/example/aeneas/aeneas/Side" "CLIENT" "Lcom/example/aeneas/aeneas/Side;" (.ref e0) := Sta.start ve0 (Or.inr ⟨(hw _ (List.mem_of_getElem? (i := 74) rfl)), (hw _ (List.mem_of_getElem? (i := 88) rfl))⟩)
  obtain ⟨e1, ve1⟩ := exa_v u_n1
  have S_e1 : Sta s s.heap "com/example/aeneas/aeneas/Side" "AGENT" "Lcom/example/aeneas/aeneas/Side;" (.ref e1) := Sta.start ve1 (Or.inr ⟨(hw _ (List.mem_of_getElem? (i := 74) rfl)), (hw _ (List.mem_of_getElem? (i := 89) rfl))⟩)
  obtain ⟨e2, ve2⟩ := exa_v u_n2
  have S_e2 : Sta s s.heap "com/example/aeneas/aeneas/Side" "AENEAS" "Lcom/example/aeneas/aeneas/Side;" (.ref e2) := Sta.start ve2 (Or.inr ⟨(hw _ (List.mem_of_getElem? (i := 74) rfl)), (hw _ (List.mem_of_getElem? (i := 90) rfl))⟩)
  have S_vs : Sta s s.heap "com/example/aeneas/aeneas/Side" "$VALUES" "[Lcom/example/aeneas/aeneas/Side;" (.ref va) := Sta.start vva (Or.inr ⟨(hw _ (List.mem_of_getElem? (i := 74) rfl)), (hw _ (List.mem_of_getElem? (i := 80) rfl))⟩)
  have V_va : own_A s s.heap va (.object "com/example/aeneas/aeneas/Side") 3 (fun j => if j = 0 then .ref e0 else if j = 1 then .ref e1 else .ref e2) := by
    refine ⟨A, hA, hsA, fun j hj => ?_⟩
    rcases (by omega : j = 0 ∨ j = 1 ∨ j = 2) with rfl | rfl | rfl
    · exact own_elemR vva hA 0 rfl ve0 u_q0
    · exact own_elemR vva hA 1 rfl ve1 u_q1
    · exact own_elemR vva hA 2 rfl ve2 u_q2
  obtain ⟨l0, m0, A0, vm0, F_label_e0, X_l0, F_value_l0, F_coder_l0, hA0, hs0⟩ := own_lab ve0 u_lx0 u_lc0 u_la0 u_ll0 (N := 6) rfl
  have V_m0 : own_A s s.heap m0 .byte 6 (fun j => .int (own_g0 j)) := by
    refine ⟨A0, hA0, hs0, fun j hj => ?_⟩
    rcases (by omega : j = 0 ∨ j = 1 ∨ j = 2 ∨ j = 3 ∨ j = 4 ∨ j = 5) with rfl | rfl | rfl | rfl | rfl | rfl
    · exact own_elemI vm0 hA0 0 rfl u_b0_0
    · exact own_elemI vm0 hA0 1 rfl u_b0_1
    · exact own_elemI vm0 hA0 2 rfl u_b0_2
    · exact own_elemI vm0 hA0 3 rfl u_b0_3
    · exact own_elemI vm0 hA0 4 rfl u_b0_4
    · exact own_elemI vm0 hA0 5 rfl u_b0_5
  obtain ⟨l1, m1, A1, vm1, F_label_e1, X_l1, F_value_l1, F_coder_l1, hA1, hs1⟩ := own_lab ve1 u_lx1 u_lc1 u_la1 u_ll1 (N := 5) rfl
  have V_m1 : own_A s s.heap m1 .byte 5 (fun j => .int (own_g1 j)) := by
    refine ⟨A1, hA1, hs1, fun j hj => ?_⟩
    rcases (by omega : j = 0 ∨ j = 1 ∨ j = 2 ∨ j = 3 ∨ j = 4) with rfl | rfl | rfl | rfl | rfl
    · exact own_elemI vm1 hA1 0 rfl u_b1_0
    · exact own_elemI vm1 hA1 1 rfl u_b1_1
    · exact own_elemI vm1 hA1 2 rfl u_b1_2
    · exact own_elemI vm1 hA1 3 rfl u_b1_3
    · exact own_elemI vm1 hA1 4 rfl u_b1_4
  obtain ⟨l2, m2, A2, vm2, F_label_e2, X_l2, F_value_l2, F_coder_l2, hA2, hs2⟩ := own_lab ve2 u_lx2 u_lc2 u_la2 u_ll2 (N := 6) rfl
  have V_m2 : own_A s s.heap m2 .byte 6 (fun j => .int (own_g2 j)) := by
    refine ⟨A2, hA2, hs2, fun j hj => ?_⟩
    rcases (by omega : j = 0 ∨ j = 1 ∨ j = 2 ∨ j = 3 ∨ j = 4 ∨ j = 5) with rfl | rfl | rfl | rfl | rfl | rfl
    · exact own_elemI vm2 hA2 0 rfl u_b2_0
    · exact own_elemI vm2 hA2 1 rfl u_b2_1
    · exact own_elemI vm2 hA2 2 rfl u_b2_2
    · exact own_elemI vm2 hA2 3 rfl u_b2_3
    · exact own_elemI vm2 hA2 4 rfl u_b2_4
    · exact own_elemI vm2 hA2 5 rfl u_b2_5
  have hCH : CHv s own_EL s.vm s.heap := CHv.start (own_ew hw) (fun z hz => hcalls.1 z hz) (hsets _ (List.mem_of_getElem? (i := 2) rfl)) (hw _ (List.mem_of_getElem? (i := 3) rfl)) (hw _ (List.mem_of_getElem? (i := 2) rfl))
  obtain ⟨n, o, h1, h2, h3, _, L, rfl, ⟨N0, -, rfl⟩, -, hq⟩ := own_m0 l s _ hw tables_1 s.heap i0 i1 i2 i3 cs sv va _ e0 e1 e2 l0 l1 l2 m0 m1 m2 own_g0 own_g1 own_g2 S_cs S_sf S_vs V_va (Exa.start vva u_vx) S_e0 S_e1 S_e2 F_label_e0 X_l0 F_value_l0 F_coder_l0 V_m0 F_label_e1 X_l1 F_value_l1 F_coder_l1 V_m1 F_label_e2 X_l2 F_value_l2 F_coder_l2 V_m2 hcs hsv rfl rfl rfl (fun _ _ => rfl) (fun _ _ => rfl) (fun _ _ => rfl) p e ha hc hk s m _ below hf ((Spec.applies_iff_loose hf).mp happ).1 ⟨rfl, State.Warmed39.refl s, rfl, hCH⟩ trivial
  have N : ∀ y ∈ L, s.heap.size ≤ y.base := fun y hy => (N0 y hy).resolve_left (fun q => nomatch q)
  refine ⟨n, _, h1, h2, h3, hpost _ _ _ _ _ _ ⟨Cond.after_iff.mpr rfl, Cond.after_iff.mpr (eq_i res_at (Term.int_eval (1)) rfl), trivial⟩ ⟨hq.1, hq.2.1, hq.2.2.1, (hq.2.2.2.sift fun y hy => Or.inr (N y hy)).mono (by decide) (by decide)⟩⟩
theorem main_1_1 : Claimed_1_1 := comes_1 fun _ _ _ _ _ _ h hF => ⟨h.1, hF⟩
theorem main_1_2 : Claimed_1_2 := comes_1 fun _ _ _ _ _ _ h hF => ⟨h.2.1, hF⟩
end Jvm.Pilot.@@N@@
namespace Jvm.Pilot.@@N@@
open Jvm Jvm.ClassFile Sem Op Lib Jvm.Free Jvm.Stand Jvm.Pilot.@@N@@.Jvm.D
/-! MADE BY PROGRAM (witnessworld.py) out of the Statement's table words and the real class files: 22 classes; the members and pool entries that the words name. The judged class is class 1, her method 1. -/
namespace start1
open Jvm.ClassFile
def u (s : String) : CpInfo := .utf8 (stringToUtf16 s)
/-- a pool by its gaps: so many unusable entries, then the entry; so many at the end -/
def gap : Nat → List CpInfo → List CpInfo
  | 0, r => r
  | n + 1, r => .unusable :: gap n r
def poolList (es : List (Nat × CpInfo)) (last : Nat) : List CpInfo := es.foldr (fun e r => gap e.1 (e.2 :: r)) (gap last [])
def pool (es : List (Nat × CpInfo)) (last : Nat) : Array CpInfo := ⟨poolList es last⟩
def fileOf (pool : Array CpInfo) (this : Nat) (attrs : Array Attribute := #[]) (ms : Array MethodInfo := #[]) (fl : Nat := 33) (sup : Nat := 0) (ifs : Array Nat := #[]) (fds : Array FieldInfo := #[]) : ClassFile where
  minorVersion := 0
  majorVersion := 65
  constantPool := pool
  accessFlags := fl
  thisClass := this
  superClass := sup
  interfaces := ifs
  fields := fds
  methods := ms
  attributes := attrs
def plain (name : String) (sup : Option ClassId) : Class where
  name := name
  kind := .ordinary
  loader := none
  accessFlags := 33
  super := sup
  interfaces := #[]
  cf := none
  fields := #[]
  methods := #[]
  instanceTypes := #[]
  staticTypes := #[]
  resolved := #[]
  callSites := []
  init := .initialized
  statics := none
  mirror := none

def pool0 : Array CpInfo := pool [(5, u "<init>"), (0, u "()V"), (1, .class_ 10), (1, u "java/lang/Object"), (85, u "clone"), (0, u "()Ljava/lang/Object;")] 26

def k0c0 : Code := { maxStack := 0, maxLocals := 1, code := object_method_1_code, exceptionTable := #[], attributes := #[] }
def k0m0 : Method := { name := "<init>", desc := "()V", sig := { parameters := [], returnType := none }, accessFlags := 1, code := some k0c0 }
def k0m1 : Method := { name := "clone", desc := "()Ljava/lang/Object;", sig := { parameters := [], returnType := some (.object "java/lang/Object") }, accessFlags := 260, code := none }
/-- java/lang/Object -/
def k0 : Class := { plain "java/lang/Object" none with
  accessFlags := 33
  interfaces := #[]
  cf := some (fileOf pool0 8 #[] #[{ accessFlags := 1, nameIndex := 5, descriptorIndex := 6, attributes := #[] }, { accessFlags := 260, nameIndex := 96, descriptorIndex := 97, attributes := #[] }] 33 0 #[] #[])
  fields := #[]
  methods := #[k0m0, k0m1]
  instanceTypes := #[]
  staticTypes := #[]
  resolved := Array.replicate 124 none
  statics := none }

def pool1 : Array CpInfo := pool [(2, .class_ 4), (1, u "java/lang/Object"), (0, u "<init>"), (0, u "()V"), (0, .string 8), (0, u "client"), (0, .string 10), (0, u "agent"), (0, .string 12), (0, u "aeneas"), (0, .methodref 14 15), (0, .class_ 16), (0, .nameAndType 17 18), (0, u "com/example/aeneas/aeneas/SideWithLabelPinLaw"), (0, u "make"), (0, u "(ILjava/lang/String;IC)Ljava/lang/String;"), (0, .methodref 20 21), (0, .class_ 22), (0, .nameAndType 23 24), (0, u "com/example/aeneas/aeneas/Side"), (0, u "withLabel"), (0, u "(Ljava/lang/String;)Lcom/example/aeneas/aeneas/Side;"), (0, .methodref 26 27), (0, .class_ 28), (0, .nameAndType 29 30), (0, u "java/lang/String"), (0, u "equals"), (0, u "(Ljava/lang/Object;)Z"), (0, .fieldref 20 32), (0, .nameAndType 33 34), (0, u "CLIENT"), (0, u "Lcom/example/aeneas/aeneas/Side;"), (0, .fieldref 20 36), (0, .nameAndType 37 34), (0, u "AGENT"), (0, .fieldref 20 39), (0, .nameAndType 40 34), (0, u "AENEAS"), (0, .methodref 26 42), (0, .nameAndType 43 44), (0, u "length"), (0, u "()I"), (0, .methodref 26 46), (0, .nameAndType 47 48), (0, u "charAt"), (0, u "(I)C"), (0, .methodref 26 50), (0, .nameAndType 5 51), (0, u "([C)V"), (0, .methodref 14 53), (0, .nameAndType 54 55), (0, u "at"), (0, u "(Ljava/lang/String;IIC)C"), (2, u "law"), (0, u "(IIII)Z")] 3

def k1m0 : Method := { name := "<init>", desc := "()V", sig := { parameters := [], returnType := none }, accessFlags := 1, code := none }
def k1c1 : Code := { maxStack := 4, maxLocals := 12, code := code, exceptionTable := #[], attributes := #[] }
def k1m1 : Method := { name := "law", desc := "(IIII)Z", sig := { parameters := [.int, .int, .int, .int], returnType := some .boolean }, accessFlags := 9, code := some k1c1 }
def k1c2 : Code := { maxStack := 2, maxLocals := 4, code := method_3_code, exceptionTable := #[], attributes := #[] }
def k1m2 : Method := { name := "at", desc := "(Ljava/lang/String;IIC)C", sig := { parameters := [(.object "java/lang/String"), .int, .int, .char], returnType := some .char }, accessFlags := 10, code := some k1c2 }
def k1c3 : Code := { maxStack := 9, maxLocals := 4, code := method_4_code, exceptionTable := #[], attributes := #[] }
def k1m3 : Method := { name := "make", desc := "(ILjava/lang/String;IC)Ljava/lang/String;", sig := { parameters := [.int, (.object "java/lang/String"), .int, .char], returnType := some (.object "java/lang/String") }, accessFlags := 10, code := some k1c3 }
/-- com/example/aeneas/aeneas/SideWithLabelPinLaw -/
def k1 : Class := { plain "com/example/aeneas/aeneas/SideWithLabelPinLaw" (some 0) with
  accessFlags := 49
  interfaces := #[]
  cf := some (fileOf pool1 14 #[] #[{ accessFlags := 1, nameIndex := 5, descriptorIndex := 6, attributes := #[] }, { accessFlags := 9, nameIndex := 58, descriptorIndex := 59, attributes := #[] }, { accessFlags := 10, nameIndex := 54, descriptorIndex := 55, attributes := #[] }, { accessFlags := 10, nameIndex := 17, descriptorIndex := 18, attributes := #[] }] 49 2 #[] #[])
  fields := #[]
  methods := #[k1m0, k1m1, k1m2, k1m3]
  instanceTypes := #[]
  staticTypes := #[]
  resolved := Array.replicate 63 none
  statics := none }

def pool2 : Array CpInfo := pool [(1, .class_ 2), (0, u "java/io/Serializable"), (0, .class_ 4), (0, u "java/lang/Object")] 2

/-- java/io/Serializable -/
def k2 : Class := { plain "java/io/Serializable" (some 0) with
  accessFlags := 1537
  interfaces := #[]
  cf := some (fileOf pool2 1 #[] #[] 1537 3 #[] #[])
  fields := #[]
  methods := #[]
  instanceTypes := #[]
  staticTypes := #[]
  resolved := Array.replicate 7 none
  statics := none }

def pool3 : Array CpInfo := pool [(1, .class_ 2), (0, u "java/lang/Comparable"), (0, .class_ 4), (0, u "java/lang/Object")] 7

/-- java/lang/Comparable -/
def k3 : Class := { plain "java/lang/Comparable" (some 0) with
  accessFlags := 1537
  interfaces := #[]
  cf := some (fileOf pool3 1 #[] #[] 1537 3 #[] #[])
  fields := #[]
  methods := #[]
  instanceTypes := #[]
  staticTypes := #[]
  resolved := Array.replicate 12 none
  statics := none }

def pool4 : Array CpInfo := pool [(2, .class_ 4), (1, u "java/lang/CharSequence"), (42, .class_ 48), (0, u "java/lang/CharSequence$1CodePointIterator"), (10, .class_ 60), (0, u "java/lang/CharSequence$1CharIterator"), (5, .class_ 67), (0, u "java/lang/Object")] 63

/-- java/lang/CharSequence -/
def k4 : Class := { plain "java/lang/CharSequence" (some 0) with
  accessFlags := 1537
  interfaces := #[]
  cf := some (fileOf pool4 2 #[.nestMembers #[47, 59]] #[] 1537 66 #[] #[])
  fields := #[]
  methods := #[]
  instanceTypes := #[]
  staticTypes := #[]
  resolved := Array.replicate 131 none
  statics := none }

def pool5 : Array CpInfo := pool [(1, .class_ 2), (0, u "java/lang/constant/Constable"), (0, .class_ 4), (0, u "java/lang/Object")] 6

/-- java/lang/constant/Constable -/
def k5 : Class := { plain "java/lang/constant/Constable" (some 0) with
  accessFlags := 1537
  interfaces := #[]
  cf := some (fileOf pool5 1 #[] #[] 1537 3 #[] #[])
  fields := #[]
  methods := #[]
  instanceTypes := #[]
  staticTypes := #[]
  resolved := Array.replicate 11 none
  statics := none }

def pool6 : Array CpInfo := pool [(1, .class_ 2), (0, u "java/lang/constant/ConstantDesc"), (0, .class_ 4), (0, u "java/lang/Object")] 32

/-- java/lang/constant/ConstantDesc -/
def k6 : Class := { plain "java/lang/constant/ConstantDesc" (some 0) with
  accessFlags := 1537
  interfaces := #[]
  cf := some (fileOf pool6 1 #[] #[] 1537 3 #[] #[])
  fields := #[]
  methods := #[]
  instanceTypes := #[]
  staticTypes := #[]
  resolved := Array.replicate 37 none
  statics := none }

def pool7 : Array CpInfo := pool [(1, .methodref 2 3), (0, .class_ 4), (0, .nameAndType 5 6), (0, u "java/lang/Object"), (0, u "<init>"), (0, u "()V"), (0, .string 8), (0, u ""), (0, .fieldref 10 11), (0, .class_ 12), (0, .nameAndType 13 14), (0, u "java/lang/String"), (0, u "value"), (0, u "[B"), (0, .fieldref 10 16), (0, .nameAndType 17 18), (0, u "coder"), (0, u "B"), (2, u "hash"), (0, u "I"), (2, u "hashIsZero"), (0, u "Z"), (0, .methodref 10 28), (0, .nameAndType 5 29), (0, u "([CIILjava/lang/Void;)V"), (8, .fieldref 10 39), (0, .nameAndType 40 26), (0, u "COMPACT_STRINGS"), (1, .class_ 44), (1, u "java/lang/StringUTF16"), (0, u "compress"), (1, .methodref 42 48), (0, .nameAndType 49 50), (0, u "coderFromArrayLen"), (0, u "([BI)B"), (56, .class_ 109), (1, u "java/lang/StringLatin1"), (32, u "()Z"), (34, .methodref 42 178), (0, .nameAndType 45 179), (0, u "([CII)[B"), (154, u "()I"), (0, .methodref 10 336), (0, .nameAndType 17 337), (0, u "()B"), (25, u "([BI)C"), (27, u "(II)V"), (35, u "(I)C"), (64, .methodref 10 493), (0, .nameAndType 494 142), (0, u "isLatin1"), (0, .methodref 107 496), (0, .nameAndType 497 363), (0, u "charAt"), (3, u "checkIndex"), (5, u "length"), (33, .methodref 107 542), (0, .nameAndType 543 544), (0, u "equals"), (0, u "([B[B)Z"), (28, u "(Ljava/lang/Object;)Z"), (1, .class_ 576), (0, u "java/lang/CharSequence"), (22, u "CASE_INSENSITIVE_ORDER"), (0, u "Ljava/util/Comparator;"), (409, u "([C)V"), (42, .fieldref 1054 1055), (0, .class_ 1056), (0, .nameAndType 1057 1058), (0, u "jdk/internal/util/Preconditions"), (0, u "SIOOBE_FORMATTER"), (0, u "Ljava/util/function/BiFunction;"), (0, .methodref 1054 1060), (0, .nameAndType 501 1061), (0, u "(IILjava/util/function/BiFunction;)I"), (39, u "serialPersistentFields"), (0, u "[Ljava/io/ObjectStreamField;"), (0, .class_ 1104), (0, u "java/lang/String$CaseInsensitiveComparator"), (1, .class_ 1107), (0, u "java/io/Serializable"), (0, .class_ 1109), (0, u "java/lang/Comparable"), (0, .class_ 1111), (0, u "java/lang/constant/Constable"), (0, .class_ 1113), (0, u "java/lang/constant/ConstantDesc"), (2, u "serialVersionUID"), (0, u "J"), (3, u "REPL"), (0, u "C"), (2, u "LATIN1"), (1, u "UTF16")] 323

def k7m0 : Method := { name := "<init>", desc := "()V", sig := { parameters := [], returnType := none }, accessFlags := 1, code := none }
def k7c1 : Code := { maxStack := 5, maxLocals := 2, code := jdk_42_method_3_code, exceptionTable := #[], attributes := #[] }
def k7m1 : Method := { name := "<init>", desc := "([C)V", sig := { parameters := [(.array .char)], returnType := none }, accessFlags := 1, code := some k7c1 }
def k7c2 : Code := { maxStack := 2, maxLocals := 1, code := jdk_42_method_54_code, exceptionTable := #[], attributes := #[] }
def k7m2 : Method := { name := "length", desc := "()I", sig := { parameters := [], returnType := some .int }, accessFlags := 1, code := some k7c2 }
def k7c3 : Code := { maxStack := 2, maxLocals := 2, code := jdk_42_method_56_code, exceptionTable := #[], attributes := #[] }
def k7m3 : Method := { name := "charAt", desc := "(I)C", sig := { parameters := [.int], returnType := some .char }, accessFlags := 1, code := some k7c3 }
def k7c4 : Code := { maxStack := 2, maxLocals := 3, code := jdk_42_method_66_code, exceptionTable := #[], attributes := #[] }
def k7m4 : Method := { name := "equals", desc := "(Ljava/lang/Object;)Z", sig := { parameters := [(.object "java/lang/Object")], returnType := some .boolean }, accessFlags := 1, code := some k7c4 }
def k7c5 : Code := { maxStack := 4, maxLocals := 6, code := jdk_42_method_149_code, exceptionTable := #[], attributes := #[] }
def k7m5 : Method := { name := "<init>", desc := "([CIILjava/lang/Void;)V", sig := { parameters := [(.array .char), .int, .int, (.object "java/lang/Void")], returnType := none }, accessFlags := 2, code := some k7c5 }
def k7c6 : Code := { maxStack := 1, maxLocals := 1, code := jdk_42_method_152_code, exceptionTable := #[], attributes := #[] }
def k7m6 : Method := { name := "coder", desc := "()B", sig := { parameters := [], returnType := some .byte }, accessFlags := 0, code := some k7c6 }
def k7c7 : Code := { maxStack := 1, maxLocals := 1, code := jdk_42_method_154_code, exceptionTable := #[], attributes := #[] }
def k7m7 : Method := { name := "isLatin1", desc := "()Z", sig := { parameters := [], returnType := some .boolean }, accessFlags := 0, code := some k7c7 }
def k7c8 : Code := { maxStack := 3, maxLocals := 2, code := jdk_42_method_155_code, exceptionTable := #[], attributes := #[] }
def k7m8 : Method := { name := "checkIndex", desc := "(II)V", sig := { parameters := [.int, .int], returnType := none }, accessFlags := 8, code := some k7c8 }
/-- java/lang/String -/
def k7 : Class := { plain "java/lang/String" (some 0) with
  accessFlags := 49
  interfaces := #[2, 3, 4, 5, 6]
  cf := some (fileOf pool7 10 #[.nestMembers #[1103]] #[{ accessFlags := 1, nameIndex := 5, descriptorIndex := 6, attributes := #[] }, { accessFlags := 1, nameIndex := 5, descriptorIndex := 1010, attributes := #[] }, { accessFlags := 1, nameIndex := 507, descriptorIndex := 334, attributes := #[] }, { accessFlags := 1, nameIndex := 497, descriptorIndex := 427, attributes := #[] }, { accessFlags := 1, nameIndex := 543, descriptorIndex := 573, attributes := #[] }, { accessFlags := 2, nameIndex := 5, descriptorIndex := 29, attributes := #[] }, { accessFlags := 0, nameIndex := 17, descriptorIndex := 337, attributes := #[] }, { accessFlags := 0, nameIndex := 494, descriptorIndex := 142, attributes := #[] }, { accessFlags := 8, nameIndex := 501, descriptorIndex := 391, attributes := #[] }] 49 2 #[1106, 1108, 575, 1110, 1112] #[{ accessFlags := 18, nameIndex := 13, descriptorIndex := 14, attributes := #[] }, { accessFlags := 18, nameIndex := 17, descriptorIndex := 18, attributes := #[] }, { accessFlags := 2, nameIndex := 21, descriptorIndex := 22, attributes := #[] }, { accessFlags := 2, nameIndex := 25, descriptorIndex := 26, attributes := #[] }, { accessFlags := 26, nameIndex := 1116, descriptorIndex := 1117, attributes := #[] }, { accessFlags := 24, nameIndex := 40, descriptorIndex := 26, attributes := #[] }, { accessFlags := 26, nameIndex := 1101, descriptorIndex := 1102, attributes := #[] }, { accessFlags := 26, nameIndex := 1121, descriptorIndex := 1122, attributes := #[] }, { accessFlags := 25, nameIndex := 599, descriptorIndex := 600, attributes := #[] }, { accessFlags := 24, nameIndex := 1125, descriptorIndex := 18, attributes := #[] }, { accessFlags := 24, nameIndex := 1127, descriptorIndex := 18, attributes := #[] }])
  fields := #[{ name := "value", type := (.array .byte), accessFlags := 18, slot := 0, constantValue := 0 }, { name := "coder", type := .byte, accessFlags := 18, slot := 1, constantValue := 0 }, { name := "hash", type := .int, accessFlags := 2, slot := 2, constantValue := 0 }, { name := "hashIsZero", type := .boolean, accessFlags := 2, slot := 3, constantValue := 0 }, { name := "serialVersionUID", type := .long, accessFlags := 26, slot := 0, constantValue := 0 }, { name := "COMPACT_STRINGS", type := .boolean, accessFlags := 24, slot := 1, constantValue := 0 }, { name := "serialPersistentFields", type := (.array (.object "java/io/ObjectStreamField")), accessFlags := 26, slot := 2, constantValue := 0 }, { name := "REPL", type := .char, accessFlags := 26, slot := 3, constantValue := 0 }, { name := "CASE_INSENSITIVE_ORDER", type := (.object "java/util/Comparator"), accessFlags := 25, slot := 4, constantValue := 0 }, { name := "LATIN1", type := .byte, accessFlags := 24, slot := 5, constantValue := 0 }, { name := "UTF16", type := .byte, accessFlags := 24, slot := 6, constantValue := 0 }]
  methods := #[k7m0, k7m1, k7m2, k7m3, k7m4, k7m5, k7m6, k7m7, k7m8]
  instanceTypes := #[(.array .byte), .byte, .int, .boolean]
  staticTypes := #[.long, .boolean, (.array (.object "java/io/ObjectStreamField")), .char, (.object "java/util/Comparator"), .byte, .byte]
  resolved := Array.replicate 1451 none
  statics := some 0 }

def pool8 : Array CpInfo := pool [(1, .class_ 2), (0, u "java/lang/String"), (1, .class_ 6), (1, u "java/lang/Object"), (0, u "<init>"), (0, u "()V"), (0, .methodref 1 10), (0, .nameAndType 11 12), (0, u "checkIndex"), (0, u "(II)V"), (1, .class_ 16), (1, u "java/lang/StringLatin1"), (36, u "([BI)C"), (67, u "$assertionsDisabled"), (0, u "Z"), (98, .class_ 223), (1, u "java/lang/StringLatin1$LinesSpliterator"), (28, u "charAt"), (28, u "equals"), (0, u "([B[B)Z"), (107, .class_ 391), (0, u "java/lang/StringLatin1$CharsSpliterator")] 3

def k8m0 : Method := { name := "<init>", desc := "()V", sig := { parameters := [], returnType := none }, accessFlags := 0, code := none }
def k8c1 : Code := { maxStack := 2, maxLocals := 2, code := jdk_43_method_2_code, exceptionTable := #[], attributes := #[] }
def k8m1 : Method := { name := "charAt", desc := "([BI)C", sig := { parameters := [(.array .byte), .int], returnType := some .char }, accessFlags := 9, code := some k8c1 }
def k8c2 : Code := { maxStack := 3, maxLocals := 3, code := jdk_43_method_13_code, exceptionTable := #[], attributes := #[] }
def k8m2 : Method := { name := "equals", desc := "([B[B)Z", sig := { parameters := [(.array .byte), (.array .byte)], returnType := some .boolean }, accessFlags := 9, code := some k8c2 }
/-- java/lang/StringLatin1 -/
def k8 : Class := { plain "java/lang/StringLatin1" (some 0) with
  accessFlags := 48
  interfaces := #[]
  cf := some (fileOf pool8 14 #[.nestMembers #[390, 221]] #[{ accessFlags := 0, nameIndex := 7, descriptorIndex := 8, attributes := #[] }, { accessFlags := 9, nameIndex := 252, descriptorIndex := 53, attributes := #[] }, { accessFlags := 9, nameIndex := 281, descriptorIndex := 282, attributes := #[] }] 48 4 #[] #[{ accessFlags := 4120, nameIndex := 121, descriptorIndex := 122, attributes := #[] }])
  fields := #[{ name := "$assertionsDisabled", type := .boolean, accessFlags := 4120, slot := 0, constantValue := 0 }]
  methods := #[k8m0, k8m1, k8m2]
  instanceTypes := #[]
  staticTypes := #[.boolean]
  resolved := Array.replicate 395 none
  statics := none }

def pool9 : Array CpInfo := pool [(2, .class_ 4), (1, u "java/lang/Object"), (0, u "<init>"), (0, u "()V"), (17, .class_ 26), (1, u "jdk/internal/util/Preconditions"), (6, u "checkIndex"), (21, .class_ 56), (0, u "jdk/internal/util/Preconditions$4"), (57, .class_ 115), (0, u "jdk/internal/util/Preconditions$1"), (7, u "SIOOBE_FORMATTER"), (0, u "Ljava/util/function/BiFunction;"), (0, .class_ 126), (0, u "jdk/internal/util/Preconditions$2"), (3, u "AIOOBE_FORMATTER"), (0, .class_ 132), (0, u "jdk/internal/util/Preconditions$3"), (3, u "IOOBE_FORMATTER"), (41, u "(IILjava/util/function/BiFunction;)I")] 15

def k9m0 : Method := { name := "<init>", desc := "()V", sig := { parameters := [], returnType := none }, accessFlags := 1, code := none }
def k9c1 : Code := { maxStack := 3, maxLocals := 3, code := jdk_41_method_11_code, exceptionTable := #[], attributes := #[] }
def k9m1 : Method := { name := "checkIndex", desc := "(IILjava/util/function/BiFunction;)I", sig := { parameters := [.int, .int, (.object "java/util/function/BiFunction")], returnType := some .int }, accessFlags := 9, code := some k9c1 }
/-- jdk/internal/util/Preconditions -/
def k9 : Class := { plain "jdk/internal/util/Preconditions" (some 0) with
  accessFlags := 33
  interfaces := #[]
  cf := some (fileOf pool9 24 #[.nestMembers #[55, 131, 125, 114]] #[{ accessFlags := 1, nameIndex := 5, descriptorIndex := 6, attributes := #[] }, { accessFlags := 9, nameIndex := 33, descriptorIndex := 178, attributes := #[] }] 33 2 #[] #[{ accessFlags := 25, nameIndex := 123, descriptorIndex := 124, attributes := #[] }, { accessFlags := 25, nameIndex := 130, descriptorIndex := 124, attributes := #[] }, { accessFlags := 25, nameIndex := 136, descriptorIndex := 124, attributes := #[] }])
  fields := #[{ name := "SIOOBE_FORMATTER", type := (.object "java/util/function/BiFunction"), accessFlags := 25, slot := 0, constantValue := 0 }, { name := "AIOOBE_FORMATTER", type := (.object "java/util/function/BiFunction"), accessFlags := 25, slot := 1, constantValue := 0 }, { name := "IOOBE_FORMATTER", type := (.object "java/util/function/BiFunction"), accessFlags := 25, slot := 2, constantValue := 0 }]
  methods := #[k9m0, k9m1]
  instanceTypes := #[]
  staticTypes := #[(.object "java/util/function/BiFunction"), (.object "java/util/function/BiFunction"), (.object "java/util/function/BiFunction")]
  resolved := Array.replicate 194 none
  statics := some 1 }

def pool10 : Array CpInfo := pool [(6, .class_ 8), (1, u "java/lang/Object"), (0, u "<init>"), (0, u "()V"), (1, .class_ 14), (1, u "java/lang/StringUTF16"), (31, u "$assertionsDisabled"), (0, u "Z"), (13, u "HI_BYTE_SHIFT"), (0, u "I"), (2, u "LO_BYTE_SHIFT"), (49, .methodref 12 116), (0, .nameAndType 117 118), (0, u "compress"), (0, u "([CI[BII)I"), (3, u "([CII)[B"), (138, u "coderFromArrayLen"), (0, u "([BI)B"), (106, .class_ 371), (1, u "java/lang/StringUTF16$LinesSpliterator"), (58, u "MAX_LENGTH"), (196, .class_ 628), (0, u "java/lang/StringUTF16$CodePointsSpliterator"), (0, .class_ 630), (0, u "java/lang/StringUTF16$CharsSpliterator")] 4

def k10m0 : Method := { name := "<init>", desc := "()V", sig := { parameters := [], returnType := none }, accessFlags := 0, code := none }
def k10c1 : Code := { maxStack := 2, maxLocals := 2, code := jdk_52_method_15_code, exceptionTable := #[], attributes := #[] }
def k10m1 : Method := { name := "coderFromArrayLen", desc := "([BI)B", sig := { parameters := [(.array .byte), .int], returnType := some .byte }, accessFlags := 8, code := some k10c1 }
def k10c2 : Code := { maxStack := 5, maxLocals := 6, code := jdk_52_method_16_code, exceptionTable := #[], attributes := #[] }
def k10m2 : Method := { name := "compress", desc := "([CII)[B", sig := { parameters := [(.array .char), .int, .int], returnType := some (.array .byte) }, accessFlags := 9, code := some k10c2 }
def k10c3 : Code := { maxStack := 3, maxLocals := 7, code := jdk_52_method_21_code, exceptionTable := #[], attributes := #[] }
def k10m3 : Method := { name := "compress", desc := "([CI[BII)I", sig := { parameters := [(.array .char), .int, (.array .byte), .int, .int], returnType := some .int }, accessFlags := 9, code := some k10c3 }
/-- java/lang/StringUTF16 -/
def k10 : Class := { plain "java/lang/StringUTF16" (some 0) with
  accessFlags := 48
  interfaces := #[]
  cf := some (fileOf pool10 12 #[.nestMembers #[627, 629, 369]] #[{ accessFlags := 0, nameIndex := 9, descriptorIndex := 10, attributes := #[] }, { accessFlags := 8, nameIndex := 261, descriptorIndex := 262, attributes := #[] }, { accessFlags := 9, nameIndex := 117, descriptorIndex := 122, attributes := #[] }, { accessFlags := 9, nameIndex := 117, descriptorIndex := 118, attributes := #[] }] 48 6 #[] #[{ accessFlags := 26, nameIndex := 61, descriptorIndex := 62, attributes := #[] }, { accessFlags := 26, nameIndex := 65, descriptorIndex := 62, attributes := #[] }, { accessFlags := 24, nameIndex := 430, descriptorIndex := 62, attributes := #[] }, { accessFlags := 4120, nameIndex := 46, descriptorIndex := 47, attributes := #[] }])
  fields := #[{ name := "HI_BYTE_SHIFT", type := .int, accessFlags := 26, slot := 0, constantValue := 0 }, { name := "LO_BYTE_SHIFT", type := .int, accessFlags := 26, slot := 1, constantValue := 0 }, { name := "MAX_LENGTH", type := .int, accessFlags := 24, slot := 2, constantValue := 0 }, { name := "$assertionsDisabled", type := .boolean, accessFlags := 4120, slot := 3, constantValue := 0 }]
  methods := #[k10m0, k10m1, k10m2, k10m3]
  instanceTypes := #[]
  staticTypes := #[.int, .int, .int, .boolean]
  resolved := Array.replicate 635 none
  statics := none }

def pool11 : Array CpInfo := pool [(2, .class_ 4), (1, u "java/lang/Enum"), (0, u "name"), (0, u "Ljava/lang/String;"), (2, u "ordinal"), (0, u "I"), (1, .class_ 14), (1, u "java/lang/Object"), (4, u "hash"), (86, .class_ 108), (1, u "java/lang/Enum$EnumDesc"), (2, .class_ 112), (0, u "java/lang/constant/Constable"), (0, .class_ 114), (0, u "java/lang/Comparable"), (0, .class_ 116), (0, u "java/io/Serializable")] 87

/-- java/lang/Enum -/
def k11 : Class := { plain "java/lang/Enum" (some 0) with
  accessFlags := 1057
  interfaces := #[5, 3, 2]
  cf := some (fileOf pool11 2 #[.nestMembers #[106]] #[] 1057 12 #[111, 113, 115] #[{ accessFlags := 18, nameIndex := 5, descriptorIndex := 6, attributes := #[] }, { accessFlags := 18, nameIndex := 9, descriptorIndex := 10, attributes := #[] }, { accessFlags := 2, nameIndex := 19, descriptorIndex := 10, attributes := #[] }])
  fields := #[{ name := "name", type := (.object "java/lang/String"), accessFlags := 18, slot := 0, constantValue := 0 }, { name := "ordinal", type := .int, accessFlags := 18, slot := 1, constantValue := 0 }, { name := "hash", type := .int, accessFlags := 2, slot := 2, constantValue := 0 }]
  methods := #[]
  instanceTypes := #[(.object "java/lang/String"), .int, .int]
  staticTypes := #[]
  resolved := Array.replicate 204 none
  statics := none }

def pool12 : Array CpInfo := pool [(1, .class_ 2), (0, u "com/example/aeneas/aeneas/Side"), (2, u "CLIENT"), (0, u "Lcom/example/aeneas/aeneas/Side;"), (2, u "AGENT"), (2, u "AENEAS"), (0, .fieldref 1 14), (0, .nameAndType 15 16), (0, u "$VALUES"), (0, u "[Lcom/example/aeneas/aeneas/Side;"), (0, .methodref 18 19), (0, .class_ 16), (0, .nameAndType 20 21), (0, u "clone"), (0, u "()Ljava/lang/Object;"), (1, .class_ 25), (1, u "java/lang/Enum"), (6, .fieldref 1 33), (0, .nameAndType 34 35), (0, u "label"), (0, u "Ljava/lang/String;"), (5, .methodref 1 42), (0, .nameAndType 43 44), (0, u "values"), (0, u "()[Lcom/example/aeneas/aeneas/Side;"), (12, .methodref 58 59), (0, .class_ 60), (0, .nameAndType 61 62), (0, u "java/lang/String"), (0, u "equals"), (0, u "(Ljava/lang/Object;)Z"), (17, u "(Ljava/lang/String;)Lcom/example/aeneas/aeneas/Side;"), (5, u "withLabel")] 4

def k12c0 : Code := { maxStack := 1, maxLocals := 0, code := prog_25_method_1_code, exceptionTable := #[], attributes := #[] }
def k12m0 : Method := { name := "values", desc := "()[Lcom/example/aeneas/aeneas/Side;", sig := { parameters := [], returnType := some (.array (.object "com/example/aeneas/aeneas/Side")) }, accessFlags := 9, code := some k12c0 }
def k12c1 : Code := { maxStack := 2, maxLocals := 6, code := prog_25_method_6_code, exceptionTable := #[], attributes := #[] }
def k12m1 : Method := { name := "withLabel", desc := "(Ljava/lang/String;)Lcom/example/aeneas/aeneas/Side;", sig := { parameters := [(.object "java/lang/String")], returnType := some (.object "com/example/aeneas/aeneas/Side") }, accessFlags := 8, code := some k12c1 }
/-- com/example/aeneas/aeneas/Side -/
def k12 : Class := { plain "com/example/aeneas/aeneas/Side" (some 11) with
  accessFlags := 16432
  interfaces := #[]
  cf := some (fileOf pool12 1 #[] #[{ accessFlags := 9, nameIndex := 43, descriptorIndex := 44, attributes := #[] }, { accessFlags := 8, nameIndex := 86, descriptorIndex := 80, attributes := #[] }] 16432 23 #[] #[{ accessFlags := 16409, nameIndex := 5, descriptorIndex := 6, attributes := #[] }, { accessFlags := 16409, nameIndex := 9, descriptorIndex := 6, attributes := #[] }, { accessFlags := 16409, nameIndex := 12, descriptorIndex := 6, attributes := #[] }, { accessFlags := 18, nameIndex := 34, descriptorIndex := 35, attributes := #[] }, { accessFlags := 4122, nameIndex := 15, descriptorIndex := 16, attributes := #[] }])
  fields := #[{ name := "CLIENT", type := (.object "com/example/aeneas/aeneas/Side"), accessFlags := 16409, slot := 0, constantValue := 0 }, { name := "AGENT", type := (.object "com/example/aeneas/aeneas/Side"), accessFlags := 16409, slot := 1, constantValue := 0 }, { name := "AENEAS", type := (.object "com/example/aeneas/aeneas/Side"), accessFlags := 16409, slot := 2, constantValue := 0 }, { name := "label", type := (.object "java/lang/String"), accessFlags := 18, slot := 3, constantValue := 0 }, { name := "$VALUES", type := (.array (.object "com/example/aeneas/aeneas/Side")), accessFlags := 4122, slot := 3, constantValue := 0 }]
  methods := #[k12m0, k12m1]
  instanceTypes := #[(.object "java/lang/String"), .int, .int, (.object "java/lang/String")]
  staticTypes := #[(.object "com/example/aeneas/aeneas/Side"), (.object "com/example/aeneas/aeneas/Side"), (.object "com/example/aeneas/aeneas/Side"), (.array (.object "com/example/aeneas/aeneas/Side"))]
  resolved := Array.replicate 91 none
  statics := some 2 }

def pool13 : Array CpInfo := pool [(1, .class_ 2), (0, u "java/lang/Cloneable"), (0, .class_ 4), (0, u "java/lang/Object")] 2

/-- java/lang/Cloneable -/
def k13 : Class := { plain "java/lang/Cloneable" (some 0) with
  accessFlags := 1537
  interfaces := #[]
  cf := some (fileOf pool13 1 #[] #[] 1537 3 #[] #[])
  fields := #[]
  methods := #[]
  instanceTypes := #[]
  staticTypes := #[]
  resolved := Array.replicate 7 none
  statics := none }

def pool14 : Array CpInfo := pool [(9, u "<init>"), (6, .class_ 18), (1, u "java/lang/Object"), (0, u "()V"), (1, .class_ 23), (1, u "jdk/internal/util/ArraysSupport"), (0, u "LOG2_ARRAY_LONG_INDEX_SCALE"), (0, u "I"), (2, u "U"), (0, u "Ljdk/internal/misc/Unsafe;"), (8, u "BIG_ENDIAN"), (0, u "Z"), (8, u "LOG2_BYTE_BIT_SIZE"), (4, u "LOG2_ARRAY_INT_INDEX_SCALE"), (54, u "JLA"), (0, u "Ljdk/internal/access/JavaLangAccess;"), (11, u "LOG2_ARRAY_BOOLEAN_INDEX_SCALE"), (9, u "LOG2_ARRAY_BYTE_INDEX_SCALE"), (5, u "LOG2_ARRAY_CHAR_INDEX_SCALE"), (5, u "LOG2_ARRAY_SHORT_INDEX_SCALE"), (18, u "LOG2_ARRAY_FLOAT_INDEX_SCALE"), (24, u "LOG2_ARRAY_DOUBLE_INDEX_SCALE"), (89, u "T_BOOLEAN"), (2, u "T_CHAR"), (1, u "T_FLOAT"), (1, u "T_DOUBLE"), (1, u "T_BYTE"), (1, u "T_SHORT"), (1, u "T_INT"), (1, u "T_LONG"), (1, u "SOFT_MAX_ARRAY_LENGTH")] 83

def k14m0 : Method := { name := "<init>", desc := "()V", sig := { parameters := [], returnType := none }, accessFlags := 2, code := none }
/-- jdk/internal/util/ArraysSupport -/
def k14 : Class := { plain "jdk/internal/util/ArraysSupport" (some 0) with
  accessFlags := 33
  interfaces := #[]
  cf := some (fileOf pool14 21 #[] #[{ accessFlags := 2, nameIndex := 9, descriptorIndex := 19, attributes := #[] }] 33 16 #[] #[{ accessFlags := 24, nameIndex := 28, descriptorIndex := 29, attributes := #[] }, { accessFlags := 26, nameIndex := 38, descriptorIndex := 39, attributes := #[] }, { accessFlags := 25, nameIndex := 121, descriptorIndex := 25, attributes := #[] }, { accessFlags := 25, nameIndex := 131, descriptorIndex := 25, attributes := #[] }, { accessFlags := 25, nameIndex := 137, descriptorIndex := 25, attributes := #[] }, { accessFlags := 25, nameIndex := 143, descriptorIndex := 25, attributes := #[] }, { accessFlags := 25, nameIndex := 53, descriptorIndex := 25, attributes := #[] }, { accessFlags := 25, nameIndex := 24, descriptorIndex := 25, attributes := #[] }, { accessFlags := 25, nameIndex := 162, descriptorIndex := 25, attributes := #[] }, { accessFlags := 25, nameIndex := 187, descriptorIndex := 25, attributes := #[] }, { accessFlags := 26, nameIndex := 48, descriptorIndex := 25, attributes := #[] }, { accessFlags := 25, nameIndex := 277, descriptorIndex := 25, attributes := #[] }, { accessFlags := 25, nameIndex := 280, descriptorIndex := 25, attributes := #[] }, { accessFlags := 25, nameIndex := 282, descriptorIndex := 25, attributes := #[] }, { accessFlags := 25, nameIndex := 284, descriptorIndex := 25, attributes := #[] }, { accessFlags := 25, nameIndex := 286, descriptorIndex := 25, attributes := #[] }, { accessFlags := 25, nameIndex := 288, descriptorIndex := 25, attributes := #[] }, { accessFlags := 25, nameIndex := 290, descriptorIndex := 25, attributes := #[] }, { accessFlags := 25, nameIndex := 292, descriptorIndex := 25, attributes := #[] }, { accessFlags := 26, nameIndex := 108, descriptorIndex := 109, attributes := #[] }, { accessFlags := 25, nameIndex := 294, descriptorIndex := 25, attributes := #[] }])
  fields := #[{ name := "U", type := (.object "jdk/internal/misc/Unsafe"), accessFlags := 24, slot := 0, constantValue := 0 }, { name := "BIG_ENDIAN", type := .boolean, accessFlags := 26, slot := 1, constantValue := 0 }, { name := "LOG2_ARRAY_BOOLEAN_INDEX_SCALE", type := .int, accessFlags := 25, slot := 2, constantValue := 0 }, { name := "LOG2_ARRAY_BYTE_INDEX_SCALE", type := .int, accessFlags := 25, slot := 3, constantValue := 0 }, { name := "LOG2_ARRAY_CHAR_INDEX_SCALE", type := .int, accessFlags := 25, slot := 4, constantValue := 0 }, { name := "LOG2_ARRAY_SHORT_INDEX_SCALE", type := .int, accessFlags := 25, slot := 5, constantValue := 0 }, { name := "LOG2_ARRAY_INT_INDEX_SCALE", type := .int, accessFlags := 25, slot := 6, constantValue := 0 }, { name := "LOG2_ARRAY_LONG_INDEX_SCALE", type := .int, accessFlags := 25, slot := 7, constantValue := 0 }, { name := "LOG2_ARRAY_FLOAT_INDEX_SCALE", type := .int, accessFlags := 25, slot := 8, constantValue := 0 }, { name := "LOG2_ARRAY_DOUBLE_INDEX_SCALE", type := .int, accessFlags := 25, slot := 9, constantValue := 0 }, { name := "LOG2_BYTE_BIT_SIZE", type := .int, accessFlags := 26, slot := 10, constantValue := 0 }, { name := "T_BOOLEAN", type := .int, accessFlags := 25, slot := 11, constantValue := 0 }, { name := "T_CHAR", type := .int, accessFlags := 25, slot := 12, constantValue := 0 }, { name := "T_FLOAT", type := .int, accessFlags := 25, slot := 13, constantValue := 0 }, { name := "T_DOUBLE", type := .int, accessFlags := 25, slot := 14, constantValue := 0 }, { name := "T_BYTE", type := .int, accessFlags := 25, slot := 15, constantValue := 0 }, { name := "T_SHORT", type := .int, accessFlags := 25, slot := 16, constantValue := 0 }, { name := "T_INT", type := .int, accessFlags := 25, slot := 17, constantValue := 0 }, { name := "T_LONG", type := .int, accessFlags := 25, slot := 18, constantValue := 0 }, { name := "JLA", type := (.object "jdk/internal/access/JavaLangAccess"), accessFlags := 26, slot := 19, constantValue := 0 }, { name := "SOFT_MAX_ARRAY_LENGTH", type := .int, accessFlags := 25, slot := 20, constantValue := 0 }]
  methods := #[k14m0]
  instanceTypes := #[]
  staticTypes := #[(.object "jdk/internal/misc/Unsafe"), .boolean, .int, .int, .int, .int, .int, .int, .int, .int, .int, .int, .int, .int, .int, .int, .int, .int, .int, (.object "jdk/internal/access/JavaLangAccess"), .int]
  resolved := Array.replicate 378 none
  statics := none }

/-- the primitive byte -/
def k15 : Class := { plain "byte" none with kind := .primitive 'B', accessFlags := 0x411 }
/-- [B -/
def k16 : Class := { plain "[B" (some 0) with kind := .array 15 .byte, interfaces := #[13, 2], accessFlags := 1041 }

/-- the primitive char -/
def k17 : Class := { plain "char" none with kind := .primitive 'C', accessFlags := 0x411 }
/-- [C -/
def k18 : Class := { plain "[C" (some 0) with kind := .array 17 .char, interfaces := #[13, 2], accessFlags := 1041 }

/-- the primitive int -/
def k19 : Class := { plain "int" none with kind := .primitive 'I', accessFlags := 0x411 }
/-- [I -/
def k20 : Class := { plain "[I" (some 0) with kind := .array 19 .int, interfaces := #[13, 2], accessFlags := 1041 }

/-- [Lcom/example/aeneas/aeneas/Side; -/
def k21 : Class := { plain "[Lcom/example/aeneas/aeneas/Side;" (some 0) with kind := .array 12 (.object "com/example/aeneas/aeneas/Side"), interfaces := #[13, 2], accessFlags := 1041 }

def heap : Heap := #[{ cls := 7, slots := #[.long 0, .int 1, .null, .int 0, .null, .int 0, .int 0], vm := .statics 7 },
  { cls := 9, slots := #[.null, .null, .null], vm := .statics 9 },
  { cls := 12, slots := #[.ref 4, .ref 5, .ref 6, .ref 3], vm := .statics 12 },
  { cls := 21, slots := #[.ref 4, .ref 5, .ref 6], vm := .none },
  { cls := 12, slots := #[.null, .int 0, .int 0, .ref 7], vm := .none },
  { cls := 12, slots := #[.null, .int 1, .int 0, .ref 8], vm := .none },
  { cls := 12, slots := #[.null, .int 2, .int 0, .ref 9], vm := .none },
  { cls := 7, slots := #[.ref 10, .int 0, .int 0, .int 0], vm := .none },
  { cls := 7, slots := #[.ref 11, .int 0, .int 0, .int 0], vm := .none },
  { cls := 7, slots := #[.ref 12, .int 0, .int 0, .int 0], vm := .none },
  { cls := 16, slots := #[.int 99, .int 108, .int 105, .int 101, .int 110, .int 116], vm := .none },
  { cls := 16, slots := #[.int 97, .int 103, .int 101, .int 110, .int 116], vm := .none },
  { cls := 16, slots := #[.int 97, .int 101, .int 110, .int 101, .int 97, .int 115], vm := .none }]
def classes : Array Class := #[k0, k1, k2, k3, k4, k5, k6, k7, k8, k9, k10, k11, k12, k13, k14, k15, k16, k17, k18, k19, k20, k21]
def interned : List (Array UInt16 × Addr) := []
def slotsUsed : Nat := 58
def theMethod : MethodId := ⟨1, 1⟩
def args0 : Array Value := #[.int 1, .int 2, .int 3, .int 4]
def aboutOver (below : List Frame) : State where
  vm := { classes := classes, interned := interned.toArray }
  heap := heap
  slotsUsed := slotsUsed
  threads := #[{ frames := .invoking theMethod args0 :: below }]
def below0 : List Frame := [.native { method := ⟨0, 0⟩, args := #[] }]
def about1 : State := aboutOver below0
def p0 : Program := .bare "" "" ""
def e0 : Env := launch0.env 0 0 0
theorem w_frames : about1.frames = Frame.invoking theMethod args0 :: below0 := rfl
set_option maxRecDepth 65536 in
theorem w_args : argsFit about1.vm theMethod args0 = true := by decide +kernel
set_option maxRecDepth 65536 in
theorem w_heap : heapFits about1 = true := by decide +kernel
set_option maxRecDepth 65536 in
theorem w_runnable : about1.curStatus? = some .runnable := by decide +kernel
set_option maxRecDepth 65536 in
theorem w_alone : about1.alone = true := by decide +kernel
set_option maxRecDepth 65536 in
theorem w_named : about1.methodNamed? x = some theMethod := by decide +kernel
set_option maxRecDepth 65536 in
theorem w_hears : about1.hears theMethod below0 = true := by decide +kernel
set_option maxRecDepth 65536 in
theorem w_ripe : about1.ripe theMethod args0 below0 = true := by decide +kernel
theorem w_running : about1.status = .running := rfl
set_option maxRecDepth 65536 in
theorem w_room : about1.hasRoom e0.platform room_1 = true :=
  launch0.hasRoom_least _ room_1 (by decide +kernel) (by decide +kernel) (by decide +kernel) (by decide +kernel) (by decide +kernel) (by decide +kernel)
theorem allAtoms_all (ts : List Jvm.Cond) (a : Array Jvm.Value) (st : Jvm.State) : (allAtoms ts).before a st = ts.all (fun c => c.before a st) := by
  induction ts with
  | nil => rfl
  | cons c t ih =>
    show (Jvm.Cond.and c (allAtoms t)).before a st = _
    rw [Jvm.Cond.before_and, ih, List.all_cons]
def words1 : List Jvm.Cond := Jvm.Cond.code x code maxLocals ret :: tables_1
/-- a 'code' word, met by the world's own term for the bytes: nothing is compared byte by byte -/
theorem code_word {y : MethodName} {bytes : ByteArray} {mx : Nat} {rt : Option FieldType} {a : Array Value} {s : State} {m : MethodId} {meth : Method} {c : Code} (h1 : s.methodNamed? y = some m) (h2 : s.vm.method? m = some meth) (h3 : meth.code = some c) (h4 : c.code = bytes)
    (h5 : (c.maxLocals == mx && c.exceptionTable.isEmpty && decide (c.maxStack ≤ mostOperands) && decide (meth.sig.returnType = rt) && !meth.locks && decide (parseMethodDescriptor y.desc = some meth.sig)) = true) : (Jvm.Cond.code y bytes mx rt).before a s = true := by
  simp only [Bool.and_eq_true, beq_iff_eq, Bool.not_eq_true', decide_eq_true_eq] at h5
  obtain ⟨⟨⟨⟨⟨g1, g2⟩, g3⟩, g4⟩, g5⟩, g6⟩ := h5
  simp [Cond.before, Cond.holds, Cond.value, h1, h2, h3, h4, g1, g2, g3, g4, g5, g6]
def isCode : Jvm.Cond → Bool
  | .code _ _ _ _ => true
  | _ => false
theorem all_split {L : List Jvm.Cond} {P : Jvm.Cond → Bool} (h1 : L.all (fun c => isCode c || P c) = true) (h2 : ∀ c ∈ L.filter isCode, P c = true) : L.all P = true := by
  refine List.all_eq_true.mpr fun c hc => ?_
  have h := List.all_eq_true.mp h1 c hc
  rcases Bool.eq_false_or_eq_true (isCode c) with hi | hi
  · exact h2 c (List.mem_filter.mpr ⟨hc, hi⟩)
  · simpa [hi] using h
set_option maxRecDepth 65536 in
theorem w_c0 : (Jvm.Cond.code x code maxLocals ret).before args0 about1 = true := code_word (m := ⟨1, 1⟩) (meth := k1m1) (c := k1c1) (by decide +kernel) rfl rfl rfl (by decide +kernel)
set_option maxRecDepth 65536 in
theorem w_c1 : (Jvm.Cond.code ({ cls := "com/example/aeneas/aeneas/SideWithLabelPinLaw", name := "make", desc := "(ILjava/lang/String;IC)Ljava/lang/String;" } : Jvm.MethodName) method_4_code (4 : Nat) (Option.some (Jvm.ClassFile.FieldType.object "java/lang/String"))).before args0 about1 = true := code_word (m := ⟨1, 3⟩) (meth := k1m3) (c := k1c3) (by decide +kernel) rfl rfl rfl (by decide +kernel)
set_option maxRecDepth 65536 in
theorem w_c2 : (Jvm.Cond.code ({ cls := "com/example/aeneas/aeneas/SideWithLabelPinLaw", name := "at", desc := "(Ljava/lang/String;IIC)C" } : Jvm.MethodName) method_3_code (4 : Nat) (Option.some Jvm.ClassFile.FieldType.char)).before args0 about1 = true := code_word (m := ⟨1, 2⟩) (meth := k1m2) (c := k1c2) (by decide +kernel) rfl rfl rfl (by decide +kernel)
set_option maxRecDepth 65536 in
theorem w_c3 : (Jvm.Cond.code ({ cls := "java/lang/String", name := "length", desc := "()I" } : Jvm.MethodName) jdk_42_method_54_code (1 : Nat) (Option.some Jvm.ClassFile.FieldType.int)).before args0 about1 = true := code_word (m := ⟨7, 2⟩) (meth := k7m2) (c := k7c2) (by decide +kernel) rfl rfl rfl (by decide +kernel)
set_option maxRecDepth 65536 in
theorem w_c4 : (Jvm.Cond.code ({ cls := "java/lang/String", name := "coder", desc := "()B" } : Jvm.MethodName) jdk_42_method_152_code (1 : Nat) (Option.some Jvm.ClassFile.FieldType.byte)).before args0 about1 = true := code_word (m := ⟨7, 6⟩) (meth := k7m6) (c := k7c6) (by decide +kernel) rfl rfl rfl (by decide +kernel)
set_option maxRecDepth 65536 in
theorem w_c5 : (Jvm.Cond.code ({ cls := "java/lang/String", name := "charAt", desc := "(I)C" } : Jvm.MethodName) jdk_42_method_56_code (2 : Nat) (Option.some Jvm.ClassFile.FieldType.char)).before args0 about1 = true := code_word (m := ⟨7, 3⟩) (meth := k7m3) (c := k7c3) (by decide +kernel) rfl rfl rfl (by decide +kernel)
set_option maxRecDepth 65536 in
theorem w_c6 : (Jvm.Cond.code ({ cls := "java/lang/String", name := "isLatin1", desc := "()Z" } : Jvm.MethodName) jdk_42_method_154_code (1 : Nat) (Option.some Jvm.ClassFile.FieldType.boolean)).before args0 about1 = true := code_word (m := ⟨7, 7⟩) (meth := k7m7) (c := k7c7) (by decide +kernel) rfl rfl rfl (by decide +kernel)
set_option maxRecDepth 65536 in
theorem w_c7 : (Jvm.Cond.code ({ cls := "java/lang/StringLatin1", name := "charAt", desc := "([BI)C" } : Jvm.MethodName) jdk_43_method_2_code (2 : Nat) (Option.some Jvm.ClassFile.FieldType.char)).before args0 about1 = true := code_word (m := ⟨8, 1⟩) (meth := k8m1) (c := k8c1) (by decide +kernel) rfl rfl rfl (by decide +kernel)
set_option maxRecDepth 65536 in
theorem w_c8 : (Jvm.Cond.code ({ cls := "java/lang/String", name := "checkIndex", desc := "(II)V" } : Jvm.MethodName) jdk_42_method_155_code (2 : Nat) (Option.none : Option Jvm.ClassFile.FieldType)).before args0 about1 = true := code_word (m := ⟨7, 8⟩) (meth := k7m8) (c := k7c8) (by decide +kernel) rfl rfl rfl (by decide +kernel)
set_option maxRecDepth 65536 in
theorem w_c9 : (Jvm.Cond.code ({ cls := "jdk/internal/util/Preconditions", name := "checkIndex", desc := "(IILjava/util/function/BiFunction;)I" } : Jvm.MethodName) jdk_41_method_11_code (3 : Nat) (Option.some Jvm.ClassFile.FieldType.int)).before args0 about1 = true := code_word (m := ⟨9, 1⟩) (meth := k9m1) (c := k9c1) (by decide +kernel) rfl rfl rfl (by decide +kernel)
set_option maxRecDepth 65536 in
theorem w_c10 : (Jvm.Cond.code ({ cls := "java/lang/String", name := "<init>", desc := "([C)V" } : Jvm.MethodName) jdk_42_method_3_code (2 : Nat) (Option.none : Option Jvm.ClassFile.FieldType)).before args0 about1 = true := code_word (m := ⟨7, 1⟩) (meth := k7m1) (c := k7c1) (by decide +kernel) rfl rfl rfl (by decide +kernel)
set_option maxRecDepth 65536 in
theorem w_c11 : (Jvm.Cond.code ({ cls := "java/lang/String", name := "<init>", desc := "([CIILjava/lang/Void;)V" } : Jvm.MethodName) jdk_42_method_149_code (6 : Nat) (Option.none : Option Jvm.ClassFile.FieldType)).before args0 about1 = true := code_word (m := ⟨7, 5⟩) (meth := k7m5) (c := k7c5) (by decide +kernel) rfl rfl rfl (by decide +kernel)
set_option maxRecDepth 65536 in
theorem w_c12 : (Jvm.Cond.code ({ cls := "java/lang/Object", name := "<init>", desc := "()V" } : Jvm.MethodName) object_method_1_code (1 : Nat) (Option.none : Option Jvm.ClassFile.FieldType)).before args0 about1 = true := code_word (m := ⟨0, 0⟩) (meth := k0m0) (c := k0c0) (by decide +kernel) rfl rfl rfl (by decide +kernel)
set_option maxRecDepth 65536 in
theorem w_c13 : (Jvm.Cond.code ({ cls := "java/lang/StringUTF16", name := "compress", desc := "([CII)[B" } : Jvm.MethodName) jdk_52_method_16_code (6 : Nat) (Option.some (Jvm.ClassFile.FieldType.array Jvm.ClassFile.FieldType.byte))).before args0 about1 = true := code_word (m := ⟨10, 2⟩) (meth := k10m2) (c := k10c2) (by decide +kernel) rfl rfl rfl (by decide +kernel)
set_option maxRecDepth 65536 in
theorem w_c14 : (Jvm.Cond.code ({ cls := "java/lang/StringUTF16", name := "compress", desc := "([CI[BII)I" } : Jvm.MethodName) jdk_52_method_21_code (7 : Nat) (Option.some Jvm.ClassFile.FieldType.int)).before args0 about1 = true := code_word (m := ⟨10, 3⟩) (meth := k10m3) (c := k10c3) (by decide +kernel) rfl rfl rfl (by decide +kernel)
set_option maxRecDepth 65536 in
theorem w_c15 : (Jvm.Cond.code ({ cls := "java/lang/StringUTF16", name := "coderFromArrayLen", desc := "([BI)B" } : Jvm.MethodName) jdk_52_method_15_code (2 : Nat) (Option.some Jvm.ClassFile.FieldType.byte)).before args0 about1 = true := code_word (m := ⟨10, 1⟩) (meth := k10m1) (c := k10c1) (by decide +kernel) rfl rfl rfl (by decide +kernel)
set_option maxRecDepth 65536 in
theorem w_c16 : (Jvm.Cond.code ({ cls := "com/example/aeneas/aeneas/Side", name := "withLabel", desc := "(Ljava/lang/String;)Lcom/example/aeneas/aeneas/Side;" } : Jvm.MethodName) prog_25_method_6_code (6 : Nat) (Option.some (Jvm.ClassFile.FieldType.object "com/example/aeneas/aeneas/Side"))).before args0 about1 = true := code_word (m := ⟨12, 1⟩) (meth := k12m1) (c := k12c1) (by decide +kernel) rfl rfl rfl (by decide +kernel)
set_option maxRecDepth 65536 in
theorem w_c17 : (Jvm.Cond.code ({ cls := "com/example/aeneas/aeneas/Side", name := "values", desc := "()[Lcom/example/aeneas/aeneas/Side;" } : Jvm.MethodName) prog_25_method_1_code (0 : Nat) (Option.some (Jvm.ClassFile.FieldType.array (Jvm.ClassFile.FieldType.object "com/example/aeneas/aeneas/Side")))).before args0 about1 = true := code_word (m := ⟨12, 0⟩) (meth := k12m0) (c := k12c0) (by decide +kernel) rfl rfl rfl (by decide +kernel)
set_option maxRecDepth 65536 in
theorem w_c18 : (Jvm.Cond.code ({ cls := "java/lang/String", name := "equals", desc := "(Ljava/lang/Object;)Z" } : Jvm.MethodName) jdk_42_method_66_code (3 : Nat) (Option.some Jvm.ClassFile.FieldType.boolean)).before args0 about1 = true := code_word (m := ⟨7, 4⟩) (meth := k7m4) (c := k7c4) (by decide +kernel) rfl rfl rfl (by decide +kernel)
set_option maxRecDepth 65536 in
theorem w_c19 : (Jvm.Cond.code ({ cls := "java/lang/StringLatin1", name := "equals", desc := "([B[B)Z" } : Jvm.MethodName) jdk_43_method_13_code (3 : Nat) (Option.some Jvm.ClassFile.FieldType.boolean)).before args0 about1 = true := code_word (m := ⟨8, 2⟩) (meth := k8m2) (c := k8c2) (by decide +kernel) rfl rfl rfl (by decide +kernel)
def codes1 : List Jvm.Cond := [Jvm.Cond.code x code maxLocals ret, Jvm.Cond.code ({ cls := "com/example/aeneas/aeneas/SideWithLabelPinLaw", name := "make", desc := "(ILjava/lang/String;IC)Ljava/lang/String;" } : Jvm.MethodName) method_4_code (4 : Nat) (Option.some (Jvm.ClassFile.FieldType.object "java/lang/String")), Jvm.Cond.code ({ cls := "com/example/aeneas/aeneas/SideWithLabelPinLaw", name := "at", desc := "(Ljava/lang/String;IIC)C" } : Jvm.MethodName) method_3_code (4 : Nat) (Option.some Jvm.ClassFile.FieldType.char), Jvm.Cond.code ({ cls := "java/lang/String", name := "length", desc := "()I" } : Jvm.MethodName) jdk_42_method_54_code (1 : Nat) (Option.some Jvm.ClassFile.FieldType.int), Jvm.Cond.code ({ cls := "java/lang/String", name := "coder", desc := "()B" } : Jvm.MethodName) jdk_42_method_152_code (1 : Nat) (Option.some Jvm.ClassFile.FieldType.byte), Jvm.Cond.code ({ cls := "java/lang/String", name := "charAt", desc := "(I)C" } : Jvm.MethodName) jdk_42_method_56_code (2 : Nat) (Option.some Jvm.ClassFile.FieldType.char), Jvm.Cond.code ({ cls := "java/lang/String", name := "isLatin1", desc := "()Z" } : Jvm.MethodName) jdk_42_method_154_code (1 : Nat) (Option.some Jvm.ClassFile.FieldType.boolean), Jvm.Cond.code ({ cls := "java/lang/StringLatin1", name := "charAt", desc := "([BI)C" } : Jvm.MethodName) jdk_43_method_2_code (2 : Nat) (Option.some Jvm.ClassFile.FieldType.char), Jvm.Cond.code ({ cls := "java/lang/String", name := "checkIndex", desc := "(II)V" } : Jvm.MethodName) jdk_42_method_155_code (2 : Nat) (Option.none : Option Jvm.ClassFile.FieldType), Jvm.Cond.code ({ cls := "jdk/internal/util/Preconditions", name := "checkIndex", desc := "(IILjava/util/function/BiFunction;)I" } : Jvm.MethodName) jdk_41_method_11_code (3 : Nat) (Option.some Jvm.ClassFile.FieldType.int), Jvm.Cond.code ({ cls := "java/lang/String", name := "<init>", desc := "([C)V" } : Jvm.MethodName) jdk_42_method_3_code (2 : Nat) (Option.none : Option Jvm.ClassFile.FieldType), Jvm.Cond.code ({ cls := "java/lang/String", name := "<init>", desc := "([CIILjava/lang/Void;)V" } : Jvm.MethodName) jdk_42_method_149_code (6 : Nat) (Option.none : Option Jvm.ClassFile.FieldType), Jvm.Cond.code ({ cls := "java/lang/Object", name := "<init>", desc := "()V" } : Jvm.MethodName) object_method_1_code (1 : Nat) (Option.none : Option Jvm.ClassFile.FieldType), Jvm.Cond.code ({ cls := "java/lang/StringUTF16", name := "compress", desc := "([CII)[B" } : Jvm.MethodName) jdk_52_method_16_code (6 : Nat) (Option.some (Jvm.ClassFile.FieldType.array Jvm.ClassFile.FieldType.byte)), Jvm.Cond.code ({ cls := "java/lang/StringUTF16", name := "compress", desc := "([CI[BII)I" } : Jvm.MethodName) jdk_52_method_21_code (7 : Nat) (Option.some Jvm.ClassFile.FieldType.int), Jvm.Cond.code ({ cls := "java/lang/StringUTF16", name := "coderFromArrayLen", desc := "([BI)B" } : Jvm.MethodName) jdk_52_method_15_code (2 : Nat) (Option.some Jvm.ClassFile.FieldType.byte), Jvm.Cond.code ({ cls := "com/example/aeneas/aeneas/Side", name := "withLabel", desc := "(Ljava/lang/String;)Lcom/example/aeneas/aeneas/Side;" } : Jvm.MethodName) prog_25_method_6_code (6 : Nat) (Option.some (Jvm.ClassFile.FieldType.object "com/example/aeneas/aeneas/Side")), Jvm.Cond.code ({ cls := "com/example/aeneas/aeneas/Side", name := "values", desc := "()[Lcom/example/aeneas/aeneas/Side;" } : Jvm.MethodName) prog_25_method_1_code (0 : Nat) (Option.some (Jvm.ClassFile.FieldType.array (Jvm.ClassFile.FieldType.object "com/example/aeneas/aeneas/Side"))), Jvm.Cond.code ({ cls := "java/lang/String", name := "equals", desc := "(Ljava/lang/Object;)Z" } : Jvm.MethodName) jdk_42_method_66_code (3 : Nat) (Option.some Jvm.ClassFile.FieldType.boolean), Jvm.Cond.code ({ cls := "java/lang/StringLatin1", name := "equals", desc := "([B[B)Z" } : Jvm.MethodName) jdk_43_method_13_code (3 : Nat) (Option.some Jvm.ClassFile.FieldType.boolean)]
set_option maxRecDepth 65536 in
theorem codes_eq : words1.filter isCode = codes1 := rfl
theorem w_codes : ∀ c ∈ words1.filter isCode, c.before args0 about1 = true := by
  rw [codes_eq]
  intro c hc
  simp only [codes1, List.mem_cons, List.not_mem_nil, or_false] at hc
  rcases hc with rfl | rfl | rfl | rfl | rfl | rfl | rfl | rfl | rfl | rfl | rfl | rfl | rfl | rfl | rfl | rfl | rfl | rfl | rfl | rfl
  · exact w_c0
  · exact w_c1
  · exact w_c2
  · exact w_c3
  · exact w_c4
  · exact w_c5
  · exact w_c6
  · exact w_c7
  · exact w_c8
  · exact w_c9
  · exact w_c10
  · exact w_c11
  · exact w_c12
  · exact w_c13
  · exact w_c14
  · exact w_c15
  · exact w_c16
  · exact w_c17
  · exact w_c18
  · exact w_c19
set_option maxRecDepth 65536 in
theorem w_t1 : (words1.take 24).all (fun c => isCode c || c.before args0 about1) = true := by decide +kernel
set_option maxRecDepth 65536 in
theorem w_t2 : ((words1.drop 24).take 24).all (fun c => isCode c || c.before args0 about1) = true := by decide +kernel
set_option maxRecDepth 65536 in
theorem w_t3 : (((words1.drop 24).drop 24).take 24).all (fun c => isCode c || c.before args0 about1) = true := by decide +kernel
set_option maxRecDepth 65536 in
theorem w_t4 : ((((words1.drop 24).drop 24).drop 24).take 24).all (fun c => isCode c || c.before args0 about1) = true := by decide +kernel
set_option maxRecDepth 65536 in
theorem w_t5 : ((((words1.drop 24).drop 24).drop 24).drop 24).all (fun c => isCode c || c.before args0 about1) = true := by decide +kernel
theorem w_tables : (allAtoms (Jvm.Cond.code x code maxLocals ret :: tables_1)).before args0 about1 = true := by
  rw [allAtoms_all]
  show words1.all (fun c => c.before args0 about1) = true
  refine all_split ?_ w_codes
  rw [← List.take_append_drop 24 words1, List.all_append, w_t1, ← List.take_append_drop 24 (words1.drop 24), List.all_append, w_t2, ← List.take_append_drop 24 ((words1.drop 24).drop 24), List.all_append, w_t3, ← List.take_append_drop 24 (((words1.drop 24).drop 24).drop 24), List.all_append, w_t4, w_t5]
  rfl
set_option maxRecDepth 65536 in
theorem w_rest : rest_1_c.before args0 about1 = true := by decide +kernel
set_option maxRecDepth 65536 in
theorem w_case : (Jvm.Cond.and given_1 narrow_1).before args0 about1 = true := by decide +kernel
set_option maxRecDepth 65536 in
theorem w_consts : constsHeld consts_1 about1 := Jvm.Lit.constsHeldB_iff.mp (by decide +kernel)
theorem w_applies : (headSpec (Jvm.Cond.code x code maxLocals ret :: tables_1) room_1).applies x e0.platform about1 = true :=
  (Spec.applies_iff w_frames).mpr ⟨w_running, w_runnable, w_alone, w_named, w_hears, w_ripe, w_room, w_tables⟩
theorem atStart : AtStart classFile x code maxLocals ret World_1 tables_1 room_1 Calls_1 rest_1 Pre_1 launch0 p0 e0 about1 theMethod args0 below0 :=
  ⟨lists_1, trivial, launch0.admits_env _ _ _, launch0.least_env, fairChoices_fair.cas, fairChoices_fair.clock, w_frames, w_args, w_heap, w_applies, ⟨w_consts, trivial⟩, w_rest, w_case⟩
end start1
theorem witness_1 : WitnessClaimed_1 := ⟨start1.p0, start1.e0, start1.about1, start1.theMethod, start1.args0, start1.below0, start1.atStart⟩
end Jvm.Pilot.@@N@@
