import JvmDerived
import JvmDerived.Pilot.@@N@@Statement
import JvmDerived.Pilot.@@N@@Code
set_option linter.unusedVariables false
set_option linter.unusedSimpArgs false
namespace Jvm.Pilot.@@N@@
open Jvm Jvm.ClassFile Sem Op Lib Jvm.Free Jvm.Stand Jvm.LawKit Jvm.RoadKit Bundle Jvm.Pilot.@@N@@.Jvm.D
section OwnKit
variable {p : Program} {l : Launch} {e : Env} {R : Room} {s : State} {m : MethodId} {args : Array Value} {below : List Frame} {meth : Method} {c : Code} {Z : State} {y : MethodName} {ret : Option FieldType} {code : ByteArray} {ml : Nat} {ws : List Addr} {T : State} {h : Heap} {cells slots : Nat} {C : Outcome → State → Prop} {a0 : Array Value}
/-- the run goes on from this frame to an end that C allows -/
def own_Go (p : Program) (e : Env) (below : List Frame) (C : Outcome → State → Prop) (T : State) (g : JFrame) : Prop :=
  ∃ u o, Steps p.tables e below (T.setTop g) u ∧ u.status = .running ∧ Ended u below o ∧ C o u
/-- what was written lies at one of ws, or is new since s -/
def own_Fw (s : State) (ws : List Addr) (L : List Loc) : Prop := ∀ y ∈ L, y.base ∈ ws ∨ s.heap.size ≤ y.base
/-- where the walk stands: what is fixed of this body; the heap h; nothing old written but at ws -/
def own_W (p : Program) (l : Launch) (e : Env) (R : Room) (s : State) (m : MethodId) (args : Array Value) (below : List Frame) (meth : Method) (c : Code) (Z : State) (y : MethodName) (ret : Option FieldType) (code : ByteArray) (ml : Nat) (ws : List Addr) (T : State) (h : Heap) (cells slots : Nat) : Prop :=
  (p.tables.exec = Jvm.exec ∧ c.code = code ∧ c.maxLocals = ml ∧ s.vm.findClass y.cls = some m.cls ∧ meth.name = y.name ∧ meth.sig.returnType = ret ∧ meth.locks = false ∧ Z.Warmed39 s.vm) ∧ ∃ locs, Stand p l e R s m args below meth c T locs cells slots ∧ T.heap = h ∧ own_Fw s ws locs
/-- what a call leaves: written at ws or new alone; all else kept; where nothing is made or written the heap itself; and Q -/
def own_Q (ws : List Addr) (rm : Room) (h0 : Heap) (Q : Option Value → Heap → Prop) (v : Option Value) (h : Heap) (L : List Loc) : Prop := (∀ y ∈ L, y.base ∈ ws ∨ h0.size ≤ y.base) ∧ Keep h0 h ws ∧ (rm.cells = 0 → ws = [] → h = h0) ∧ Q v h
/-- a body's contract: called with A at the heap h0 it returns, Q holds of what it returns and of the heap, nothing old is written but at ws -/
def own_M (l : Launch) (Z : State) (wo : List Jvm.Cond) (y : MethodName) (bytes : ByteArray) (maxL : Nat) (ret : Option FieldType) (rm : Room) (ws : List Addr) (A : Array Value) (h0 : Heap) (Q : Option Value → Heap → Prop) : Prop :=
  MetFree l y (head1 (Jvm.Cond.code y bytes maxL ret :: wo) rm) (fun a U => a = A ∧ Z.Warmed39 U.vm ∧ U.heap = h0) (fun _ _ _ _ _ => True) (fun _ U o U' => ∃ v L, o = .returned v ∧ own_Q ws rm h0 Q v U'.heap L ∧ FrameEnd U o U' L rm.cells rm.slots)
theorem own_keep {u : State} {L : List Loc} {k n : Nat} (q : s.sameButNew ({ u with vm := s.vm } : State) L k n) (F : own_Fw s ws L) : Keep s.heap u.heap ws := by
  obtain ⟨-, q2, -, -, -, q6⟩ := q
  refine ⟨q2, fun x c hx hn => ?_, fun x c hx => ?_⟩
  · obtain ⟨c', h1, h2, h3, h4⟩ := q6 x c hx
    have h5 : c'.slots = c.slots := by
      apply Array.ext_getElem?
      intro i
      refine h4 i fun hm => ?_
      rcases F _ hm with w | w
      · exact hn w
      · exact absurd (Array.getElem?_eq_some_iff.mp hx).1 (Nat.not_lt.mpr w)
    rw [h5] at h2
    rw [h2] at h1
    exact h1
  · obtain ⟨c', h1, h2, h3, h4⟩ := q6 x c hx
    exact ⟨c', h1, by rw [h2], by rw [h2], h3⟩
theorem own_same0 {u : State} {L : List Loc} {n : Nat} (q : s.sameButNew ({ u with vm := s.vm } : State) L 0 n) (K : Keep s.heap u.heap []) : u.heap = s.heap := by
  obtain ⟨-, q2, q3, -⟩ := q
  apply Array.ext_getElem?
  intro i
  rcases Nat.lt_or_ge i s.heap.size with hi | hi
  · have hs : s.heap[i]? = some s.heap[i] := Array.getElem?_eq_getElem hi
    rw [hs]
    exact K.2.1 i _ hs nin0
  · have h1 : u.heap.size ≤ i := Nat.le_trans q3 hi
    rw [Array.getElem?_eq_none hi, Array.getElem?_eq_none h1]
theorem own_st {T' : State} {g g' : JFrame} (q : ∀ t, Steps p.tables e below (T'.setTop g') t → Steps p.tables e below (T.setTop g) t) (k : own_Go p e below C T' g') : own_Go p e below C T g := by
  obtain ⟨u, o, h1, h2⟩ := k
  exact ⟨u, o, q _ h1, h2⟩
theorem own_tr {T' : State} {g g' : JFrame} (q : Steps p.tables e below (T.setTop g) (T'.setTop g')) (k : own_Go p e below C T' g') : own_Go p e below C T g := by
  obtain ⟨u, o, h1, h2⟩ := k
  exact ⟨u, o, q.trans h1, h2⟩
theorem own_body {wo : List Jvm.Cond} {maxL : Nat} {rm : Room} {A : Array Value} {h0 : Heap} {Q : Option Value → Heap → Prop} {L0 : Array Slot} (hpl : plainFor y = true) (hef : ∀ m, entryFrame m A maxL = mkF m 0 L0 [])
    (body : ∀ p e s m below meth c (C : Outcome → State → Prop) (_ : ∀ v L u, own_Fw s ws L → Q v u.heap → FrameEnd s (.returned v) u L rm.cells rm.slots → C (.returned v) u) T0,
      own_W p l e rm s m A below meth c Z y ret code maxL ws T0 h0 0 0 → own_Go p e below C T0 (mkF m 0 L0 [])) :
    own_M l Z wo y code maxL ret rm ws A h0 Q := by
  refine MetFree.of_bodySF hpl hisR ?_
  intro p e s m args below meth c s₁ Bd hml0 hP hK
  obtain ⟨rfl, hZ, rfl⟩ := hP
  have X0 : Stand p l e rm s m _ below meth c s₁ [] 0 0 := Stand.of_body Bd
  have e0 : s₁.heap = s.heap := by rw [Bd.state]; rfl
  have hlk : meth.locks = false := BodyLoose.notSynchronized Bd
  have k := body p e s m below meth c (fun o U' => ∃ v L, o = .returned v ∧ own_Q ws rm s.heap Q v U'.heap L ∧ FrameEnd s o U' L rm.cells rm.slots)
    (fun v L u h1 h2 h3 => by
      have K := own_keep h3.2.2 h1
      refine ⟨v, L, rfl, ⟨h1, K, fun hc hw => ?_, h2⟩, h3⟩
      subst hw
      have h4 := h3.2.2
      rw [hc] at h4
      exact own_same0 h4 K) s₁
    ⟨⟨Bd.exec, Bd.bytes, hml0, findClass_of_methodNamed Bd.named, (name_of_methodNamed Bd.named Bd.method).1, Bd.returns, hlk, hZ⟩, [], X0, e0, fun _ hy => nomatch hy⟩
  obtain ⟨u, o, h1, h2⟩ := k
  exact ⟨u, o, castTop (hef m) h1, h2⟩
theorem own_Fw_snoc {L : List Loc} {a : Addr} {sl : Nat} (N : own_Fw s ws L) (q : a ∈ ws ∨ s.heap.size ≤ a) : own_Fw s ws (L ++ [⟨a, sl⟩]) := fun y hy => by
  rcases List.mem_append.mp hy with w | w
  · exact N y w
  · cases List.mem_singleton.mp w; exact q
theorem own_Fw_app {L L' : List Loc} {wc' : List Addr} (N : own_Fw s ws L) (q : ∀ y ∈ L', y.base ∈ wc' ∨ h.size ≤ y.base) (r : ∀ b ∈ wc', b ∈ ws ∨ s.heap.size ≤ b) (z : s.heap.size ≤ h.size) : own_Fw s ws (L ++ L') := fun y hy => by
  rcases List.mem_append.mp hy with w | w
  · exact N y w
  · rcases q y w with u | u
    · exact r _ u
    · exact Or.inr (Nat.le_trans z u)
theorem own_le (W : own_W p l e R s m args below meth c Z y ret code ml ws T h cells slots) : s.heap.size ≤ h.size := by
  obtain ⟨-, locs, X, rfl, -⟩ := W
  exact X.same.2.1
theorem own_iadd (W : own_W p l e R s m args below meth c Z y ret code ml ws T h cells slots) {u v : Int32} {pc : Nat} (pc' : Nat) {L : Array Slot} {st : List Value} (hd : decode code pc = .ok (.iadd, 1))  (hp : pc + 1 = pc') (k : own_Go p e below C T (mkF m pc' L (.int (u + v) :: st))) : own_Go p e below C T (mkF m pc L (.int v :: .int u :: st)) := by
  have hsz := own_le W
  obtain ⟨⟨hx, hby, hml, hown, hnm, hrt, hlk, hZ⟩, locs, X, eT, N⟩ := W
  subst hp
  exact own_st (fun _ k => XS.iadd X.here hx rfl (hb hby hd) rfl k) k
theorem own_ladd (W : own_W p l e R s m args below meth c Z y ret code ml ws T h cells slots) {u v : Int64} {pc : Nat} (pc' : Nat) {L : Array Slot} {st : List Value} (hd : decode code pc = .ok (.ladd, 1))  (hp : pc + 1 = pc') (k : own_Go p e below C T (mkF m pc' L (.long (u + v) :: st))) : own_Go p e below C T (mkF m pc L (.long v :: .long u :: st)) := by
  have hsz := own_le W
  obtain ⟨⟨hx, hby, hml, hown, hnm, hrt, hlk, hZ⟩, locs, X, eT, N⟩ := W
  subst hp
  exact own_st (fun _ k => XS.ladd X.here hx rfl (hb hby hd) rfl k) k
theorem own_isub (W : own_W p l e R s m args below meth c Z y ret code ml ws T h cells slots) {u v : Int32} {pc : Nat} (pc' : Nat) {L : Array Slot} {st : List Value} (hd : decode code pc = .ok (.isub, 1))  (hp : pc + 1 = pc') (k : own_Go p e below C T (mkF m pc' L (.int (u - v) :: st))) : own_Go p e below C T (mkF m pc L (.int v :: .int u :: st)) := by
  have hsz := own_le W
  obtain ⟨⟨hx, hby, hml, hown, hnm, hrt, hlk, hZ⟩, locs, X, eT, N⟩ := W
  subst hp
  exact own_st (fun _ k => XS.isub X.here hx rfl (hb hby hd) rfl k) k
theorem own_lsub (W : own_W p l e R s m args below meth c Z y ret code ml ws T h cells slots) {u v : Int64} {pc : Nat} (pc' : Nat) {L : Array Slot} {st : List Value} (hd : decode code pc = .ok (.lsub, 1))  (hp : pc + 1 = pc') (k : own_Go p e below C T (mkF m pc' L (.long (u - v) :: st))) : own_Go p e below C T (mkF m pc L (.long v :: .long u :: st)) := by
  have hsz := own_le W
  obtain ⟨⟨hx, hby, hml, hown, hnm, hrt, hlk, hZ⟩, locs, X, eT, N⟩ := W
  subst hp
  exact own_st (fun _ k => XS.lsub X.here hx rfl (hb hby hd) rfl k) k
theorem own_imul (W : own_W p l e R s m args below meth c Z y ret code ml ws T h cells slots) {u v : Int32} {pc : Nat} (pc' : Nat) {L : Array Slot} {st : List Value} (hd : decode code pc = .ok (.imul, 1))  (hp : pc + 1 = pc') (k : own_Go p e below C T (mkF m pc' L (.int (u * v) :: st))) : own_Go p e below C T (mkF m pc L (.int v :: .int u :: st)) := by
  have hsz := own_le W
  obtain ⟨⟨hx, hby, hml, hown, hnm, hrt, hlk, hZ⟩, locs, X, eT, N⟩ := W
  subst hp
  exact own_st (fun _ k => XS.imul X.here hx rfl (hb hby hd) rfl k) k
theorem own_lmul (W : own_W p l e R s m args below meth c Z y ret code ml ws T h cells slots) {u v : Int64} {pc : Nat} (pc' : Nat) {L : Array Slot} {st : List Value} (hd : decode code pc = .ok (.lmul, 1))  (hp : pc + 1 = pc') (k : own_Go p e below C T (mkF m pc' L (.long (u * v) :: st))) : own_Go p e below C T (mkF m pc L (.long v :: .long u :: st)) := by
  have hsz := own_le W
  obtain ⟨⟨hx, hby, hml, hown, hnm, hrt, hlk, hZ⟩, locs, X, eT, N⟩ := W
  subst hp
  exact own_st (fun _ k => XS.lmul X.here hx rfl (hb hby hd) rfl k) k
theorem own_iand (W : own_W p l e R s m args below meth c Z y ret code ml ws T h cells slots) {u v : Int32} {pc : Nat} (pc' : Nat) {L : Array Slot} {st : List Value} (hd : decode code pc = .ok (.iand, 1))  (hp : pc + 1 = pc') (k : own_Go p e below C T (mkF m pc' L (.int (u &&& v) :: st))) : own_Go p e below C T (mkF m pc L (.int v :: .int u :: st)) := by
  have hsz := own_le W
  obtain ⟨⟨hx, hby, hml, hown, hnm, hrt, hlk, hZ⟩, locs, X, eT, N⟩ := W
  subst hp
  exact own_st (fun _ k => XS.iand X.here hx rfl (hb hby hd) rfl k) k
theorem own_land (W : own_W p l e R s m args below meth c Z y ret code ml ws T h cells slots) {u v : Int64} {pc : Nat} (pc' : Nat) {L : Array Slot} {st : List Value} (hd : decode code pc = .ok (.land, 1))  (hp : pc + 1 = pc') (k : own_Go p e below C T (mkF m pc' L (.long (u &&& v) :: st))) : own_Go p e below C T (mkF m pc L (.long v :: .long u :: st)) := by
  have hsz := own_le W
  obtain ⟨⟨hx, hby, hml, hown, hnm, hrt, hlk, hZ⟩, locs, X, eT, N⟩ := W
  subst hp
  exact own_st (fun _ k => XS.land X.here hx rfl (hb hby hd) rfl k) k
theorem own_ior (W : own_W p l e R s m args below meth c Z y ret code ml ws T h cells slots) {u v : Int32} {pc : Nat} (pc' : Nat) {L : Array Slot} {st : List Value} (hd : decode code pc = .ok (.ior, 1))  (hp : pc + 1 = pc') (k : own_Go p e below C T (mkF m pc' L (.int (u ||| v) :: st))) : own_Go p e below C T (mkF m pc L (.int v :: .int u :: st)) := by
  have hsz := own_le W
  obtain ⟨⟨hx, hby, hml, hown, hnm, hrt, hlk, hZ⟩, locs, X, eT, N⟩ := W
  subst hp
  exact own_st (fun _ k => XS.ior X.here hx rfl (hb hby hd) rfl k) k
theorem own_lor (W : own_W p l e R s m args below meth c Z y ret code ml ws T h cells slots) {u v : Int64} {pc : Nat} (pc' : Nat) {L : Array Slot} {st : List Value} (hd : decode code pc = .ok (.lor, 1))  (hp : pc + 1 = pc') (k : own_Go p e below C T (mkF m pc' L (.long (u ||| v) :: st))) : own_Go p e below C T (mkF m pc L (.long v :: .long u :: st)) := by
  have hsz := own_le W
  obtain ⟨⟨hx, hby, hml, hown, hnm, hrt, hlk, hZ⟩, locs, X, eT, N⟩ := W
  subst hp
  exact own_st (fun _ k => XS.lor X.here hx rfl (hb hby hd) rfl k) k
theorem own_ixor (W : own_W p l e R s m args below meth c Z y ret code ml ws T h cells slots) {u v : Int32} {pc : Nat} (pc' : Nat) {L : Array Slot} {st : List Value} (hd : decode code pc = .ok (.ixor, 1))  (hp : pc + 1 = pc') (k : own_Go p e below C T (mkF m pc' L (.int (u ^^^ v) :: st))) : own_Go p e below C T (mkF m pc L (.int v :: .int u :: st)) := by
  have hsz := own_le W
  obtain ⟨⟨hx, hby, hml, hown, hnm, hrt, hlk, hZ⟩, locs, X, eT, N⟩ := W
  subst hp
  exact own_st (fun _ k => XS.ixor X.here hx rfl (hb hby hd) rfl k) k
theorem own_lxor (W : own_W p l e R s m args below meth c Z y ret code ml ws T h cells slots) {u v : Int64} {pc : Nat} (pc' : Nat) {L : Array Slot} {st : List Value} (hd : decode code pc = .ok (.lxor, 1))  (hp : pc + 1 = pc') (k : own_Go p e below C T (mkF m pc' L (.long (u ^^^ v) :: st))) : own_Go p e below C T (mkF m pc L (.long v :: .long u :: st)) := by
  have hsz := own_le W
  obtain ⟨⟨hx, hby, hml, hown, hnm, hrt, hlk, hZ⟩, locs, X, eT, N⟩ := W
  subst hp
  exact own_st (fun _ k => XS.lxor X.here hx rfl (hb hby hd) rfl k) k
theorem own_ishl (W : own_W p l e R s m args below meth c Z y ret code ml ws T h cells slots) {u v : Int32} {pc : Nat} (pc' : Nat) {L : Array Slot} {st : List Value} (hd : decode code pc = .ok (.ishl, 1))  (hp : pc + 1 = pc') (k : own_Go p e below C T (mkF m pc' L (.int (u <<< (v &&& 31)) :: st))) : own_Go p e below C T (mkF m pc L (.int v :: .int u :: st)) := by
  have hsz := own_le W
  obtain ⟨⟨hx, hby, hml, hown, hnm, hrt, hlk, hZ⟩, locs, X, eT, N⟩ := W
  subst hp
  exact own_st (fun _ k => XS.ishl X.here hx rfl (hb hby hd) rfl k) k
theorem own_ishr (W : own_W p l e R s m args below meth c Z y ret code ml ws T h cells slots) {u v : Int32} {pc : Nat} (pc' : Nat) {L : Array Slot} {st : List Value} (hd : decode code pc = .ok (.ishr, 1))  (hp : pc + 1 = pc') (k : own_Go p e below C T (mkF m pc' L (.int (u >>> (v &&& 31)) :: st))) : own_Go p e below C T (mkF m pc L (.int v :: .int u :: st)) := by
  have hsz := own_le W
  obtain ⟨⟨hx, hby, hml, hown, hnm, hrt, hlk, hZ⟩, locs, X, eT, N⟩ := W
  subst hp
  exact own_st (fun _ k => XS.ishr X.here hx rfl (hb hby hd) rfl k) k
theorem own_iushr (W : own_W p l e R s m args below meth c Z y ret code ml ws T h cells slots) {u v : Int32} {pc : Nat} (pc' : Nat) {L : Array Slot} {st : List Value} (hd : decode code pc = .ok (.iushr, 1))  (hp : pc + 1 = pc') (k : own_Go p e below C T (mkF m pc' L (.int ((u.toUInt32 >>> (v &&& 31).toUInt32).toInt32) :: st))) : own_Go p e below C T (mkF m pc L (.int v :: .int u :: st)) := by
  have hsz := own_le W
  obtain ⟨⟨hx, hby, hml, hown, hnm, hrt, hlk, hZ⟩, locs, X, eT, N⟩ := W
  subst hp
  exact own_st (fun _ k => XS.iushr X.here hx rfl (hb hby hd) rfl k) k
theorem own_lshl (W : own_W p l e R s m args below meth c Z y ret code ml ws T h cells slots) {u : Int64} {v : Int32} {pc : Nat} (pc' : Nat) {L : Array Slot} {st : List Value} (hd : decode code pc = .ok (.lshl, 1))  (hp : pc + 1 = pc') (k : own_Go p e below C T (mkF m pc' L (.long (u <<< (v &&& 0x3f).toInt64) :: st))) : own_Go p e below C T (mkF m pc L (.int v :: .long u :: st)) := by
  have hsz := own_le W
  obtain ⟨⟨hx, hby, hml, hown, hnm, hrt, hlk, hZ⟩, locs, X, eT, N⟩ := W
  subst hp
  exact own_st (fun _ k => XS.lshl X.here hx rfl (hb hby hd) rfl k) k
theorem own_lshr (W : own_W p l e R s m args below meth c Z y ret code ml ws T h cells slots) {u : Int64} {v : Int32} {pc : Nat} (pc' : Nat) {L : Array Slot} {st : List Value} (hd : decode code pc = .ok (.lshr, 1))  (hp : pc + 1 = pc') (k : own_Go p e below C T (mkF m pc' L (.long (u >>> (v &&& 0x3f).toInt64) :: st))) : own_Go p e below C T (mkF m pc L (.int v :: .long u :: st)) := by
  have hsz := own_le W
  obtain ⟨⟨hx, hby, hml, hown, hnm, hrt, hlk, hZ⟩, locs, X, eT, N⟩ := W
  subst hp
  exact own_st (fun _ k => XS.lshr X.here hx rfl (hb hby hd) rfl k) k
theorem own_lushr (W : own_W p l e R s m args below meth c Z y ret code ml ws T h cells slots) {u : Int64} {v : Int32} {pc : Nat} (pc' : Nat) {L : Array Slot} {st : List Value} (hd : decode code pc = .ok (.lushr, 1))  (hp : pc + 1 = pc') (k : own_Go p e below C T (mkF m pc' L (.long ((u.toUInt64 >>> (v &&& 0x3f).toInt64.toUInt64).toInt64) :: st))) : own_Go p e below C T (mkF m pc L (.int v :: .long u :: st)) := by
  have hsz := own_le W
  obtain ⟨⟨hx, hby, hml, hown, hnm, hrt, hlk, hZ⟩, locs, X, eT, N⟩ := W
  subst hp
  exact own_st (fun _ k => XS.lushr X.here hx rfl (hb hby hd) rfl k) k
theorem own_ineg (W : own_W p l e R s m args below meth c Z y ret code ml ws T h cells slots) {u : Int32} {pc : Nat} (pc' : Nat) {L : Array Slot} {st : List Value} (hd : decode code pc = .ok (.ineg, 1))  (hp : pc + 1 = pc') (k : own_Go p e below C T (mkF m pc' L (.int (-u) :: st))) : own_Go p e below C T (mkF m pc L (.int u :: st)) := by
  have hsz := own_le W
  obtain ⟨⟨hx, hby, hml, hown, hnm, hrt, hlk, hZ⟩, locs, X, eT, N⟩ := W
  subst hp
  exact own_st (fun _ k => XS.ineg X.here hx rfl (hb hby hd) rfl k) k
theorem own_lneg (W : own_W p l e R s m args below meth c Z y ret code ml ws T h cells slots) {u : Int64} {pc : Nat} (pc' : Nat) {L : Array Slot} {st : List Value} (hd : decode code pc = .ok (.lneg, 1))  (hp : pc + 1 = pc') (k : own_Go p e below C T (mkF m pc' L (.long (-u) :: st))) : own_Go p e below C T (mkF m pc L (.long u :: st)) := by
  have hsz := own_le W
  obtain ⟨⟨hx, hby, hml, hown, hnm, hrt, hlk, hZ⟩, locs, X, eT, N⟩ := W
  subst hp
  exact own_st (fun _ k => XS.lneg X.here hx rfl (hb hby hd) rfl k) k
theorem own_i2l (W : own_W p l e R s m args below meth c Z y ret code ml ws T h cells slots) {u : Int32} {pc : Nat} (pc' : Nat) {L : Array Slot} {st : List Value} (hd : decode code pc = .ok (.i2l, 1))  (hp : pc + 1 = pc') (k : own_Go p e below C T (mkF m pc' L (.long u.toInt64 :: st))) : own_Go p e below C T (mkF m pc L (.int u :: st)) := by
  have hsz := own_le W
  obtain ⟨⟨hx, hby, hml, hown, hnm, hrt, hlk, hZ⟩, locs, X, eT, N⟩ := W
  subst hp
  exact own_st (fun _ k => XS.i2l X.here hx rfl (hb hby hd) rfl k) k
theorem own_l2i (W : own_W p l e R s m args below meth c Z y ret code ml ws T h cells slots) {u : Int64} {pc : Nat} (pc' : Nat) {L : Array Slot} {st : List Value} (hd : decode code pc = .ok (.l2i, 1))  (hp : pc + 1 = pc') (k : own_Go p e below C T (mkF m pc' L (.int u.toInt32 :: st))) : own_Go p e below C T (mkF m pc L (.long u :: st)) := by
  have hsz := own_le W
  obtain ⟨⟨hx, hby, hml, hown, hnm, hrt, hlk, hZ⟩, locs, X, eT, N⟩ := W
  subst hp
  exact own_st (fun _ k => XS.l2i X.here hx rfl (hb hby hd) rfl k) k
theorem own_i2b (W : own_W p l e R s m args below meth c Z y ret code ml ws T h cells slots) {u : Int32} {pc : Nat} (pc' : Nat) {L : Array Slot} {st : List Value} (hd : decode code pc = .ok (.i2b, 1))  (hp : pc + 1 = pc') (k : own_Go p e below C T (mkF m pc' L (.int u.toInt8.toInt32 :: st))) : own_Go p e below C T (mkF m pc L (.int u :: st)) := by
  have hsz := own_le W
  obtain ⟨⟨hx, hby, hml, hown, hnm, hrt, hlk, hZ⟩, locs, X, eT, N⟩ := W
  subst hp
  exact own_st (fun _ k => XS.i2b X.here hx rfl (hb hby hd) rfl k) k
theorem own_i2c (W : own_W p l e R s m args below meth c Z y ret code ml ws T h cells slots) {u : Int32} {pc : Nat} (pc' : Nat) {L : Array Slot} {st : List Value} (hd : decode code pc = .ok (.i2c, 1))  (hp : pc + 1 = pc') (k : own_Go p e below C T (mkF m pc' L (.int u.toUInt32.toUInt16.toUInt32.toInt32 :: st))) : own_Go p e below C T (mkF m pc L (.int u :: st)) := by
  have hsz := own_le W
  obtain ⟨⟨hx, hby, hml, hown, hnm, hrt, hlk, hZ⟩, locs, X, eT, N⟩ := W
  subst hp
  exact own_st (fun _ k => XS.i2c X.here hx rfl (hb hby hd) rfl k) k
theorem own_lcmp (W : own_W p l e R s m args below meth c Z y ret code ml ws T h cells slots) {u v : Int64} {pc : Nat} (pc' : Nat) {L : Array Slot} {st : List Value} (hd : decode code pc = .ok (.lcmp, 1))  (hp : pc + 1 = pc') (k : own_Go p e below C T (mkF m pc' L (.int (lcmpW u v) :: st))) : own_Go p e below C T (mkF m pc L (.long v :: .long u :: st)) := by
  have hsz := own_le W
  obtain ⟨⟨hx, hby, hml, hown, hnm, hrt, hlk, hZ⟩, locs, X, eT, N⟩ := W
  subst hp
  exact own_st (fun _ k => XS.lcmp X.here hx rfl (hb hby hd) rfl k) k
theorem own_idiv (W : own_W p l e R s m args below meth c Z y ret code ml ws T h cells slots) {u v : Int32} {pc : Nat} (pc' : Nat) {L : Array Slot} {st : List Value} (hd : decode code pc = .ok (.idiv, 1)) (hv : v ≠ 0) (hp : pc + 1 = pc') (k : own_Go p e below C T (mkF m pc' L (.int (u / v) :: st))) : own_Go p e below C T (mkF m pc L (.int v :: .int u :: st)) := by
  have hsz := own_le W
  obtain ⟨⟨hx, hby, hml, hown, hnm, hrt, hlk, hZ⟩, locs, X, eT, N⟩ := W
  subst hp
  exact own_st (fun _ k => XS.idiv X.here hx rfl (hb hby hd) rfl hv k) k
theorem own_ldiv (W : own_W p l e R s m args below meth c Z y ret code ml ws T h cells slots) {u v : Int64} {pc : Nat} (pc' : Nat) {L : Array Slot} {st : List Value} (hd : decode code pc = .ok (.ldiv, 1)) (hv : v ≠ 0) (hp : pc + 1 = pc') (k : own_Go p e below C T (mkF m pc' L (.long (u / v) :: st))) : own_Go p e below C T (mkF m pc L (.long v :: .long u :: st)) := by
  have hsz := own_le W
  obtain ⟨⟨hx, hby, hml, hown, hnm, hrt, hlk, hZ⟩, locs, X, eT, N⟩ := W
  subst hp
  exact own_st (fun _ k => XS.ldiv X.here hx rfl (hb hby hd) rfl hv k) k
theorem own_lrem (W : own_W p l e R s m args below meth c Z y ret code ml ws T h cells slots) {u v : Int64} {pc : Nat} (pc' : Nat) {L : Array Slot} {st : List Value} (hd : decode code pc = .ok (.lrem, 1)) (hv : v ≠ 0) (hp : pc + 1 = pc') (k : own_Go p e below C T (mkF m pc' L (.long (u - (u / v) * v) :: st))) : own_Go p e below C T (mkF m pc L (.long v :: .long u :: st)) := by
  have hsz := own_le W
  obtain ⟨⟨hx, hby, hml, hown, hnm, hrt, hlk, hZ⟩, locs, X, eT, N⟩ := W
  subst hp
  exact own_st (fun _ k => XS.lrem X.here hx rfl (hb hby hd) rfl hv k) k
theorem own_irem (W : own_W p l e R s m args below meth c Z y ret code ml ws T h cells slots) {u v : Int32} {pc : Nat} (pc' : Nat) {L : Array Slot} {st : List Value} (hd : decode code pc = .ok (.irem, 1)) (hv : v ≠ 0) (hp : pc + 1 = pc') (k : own_Go p e below C T (mkF m pc' L (.int (u % v) :: st))) : own_Go p e below C T (mkF m pc L (.int v :: .int u :: st)) := by
  have hsz := own_le W
  obtain ⟨⟨hx, hby, hml, hown, hnm, hrt, hlk, hZ⟩, locs, X, eT, N⟩ := W
  subst hp
  exact own_st (fun _ k => iremM X hx rfl (hb hby hd) rfl hv k) k
theorem own_iconst (W : own_W p l e R s m args below meth c Z y ret code ml ws T h cells slots) {i : Int} (v : Int32) {pc : Nat} (pc' : Nat) {L : Array Slot} {st : List Value} (hd : decode code pc = .ok (.iconst i, 1)) (hv : Int32.ofInt i = v) (hp : pc + 1 = pc') (k : own_Go p e below C T (mkF m pc' L (.int v :: st))) : own_Go p e below C T (mkF m pc L st) := by
  have hsz := own_le W
  obtain ⟨⟨hx, hby, hml, hown, hnm, hrt, hlk, hZ⟩, locs, X, eT, N⟩ := W
  subst hp hv
  exact own_st (fun _ k => XS.iconst X.here hx rfl (hb hby hd) k) k
theorem own_bipush (W : own_W p l e R s m args below meth c Z y ret code ml ws T h cells slots) {i : Int} (v : Int32) {pc : Nat} (pc' : Nat) {L : Array Slot} {st : List Value} (hd : decode code pc = .ok (.bipush i, 2)) (hv : (Int8.ofInt i).toInt32 = v) (hp : pc + 2 = pc') (k : own_Go p e below C T (mkF m pc' L (.int v :: st))) : own_Go p e below C T (mkF m pc L st) := by
  have hsz := own_le W
  obtain ⟨⟨hx, hby, hml, hown, hnm, hrt, hlk, hZ⟩, locs, X, eT, N⟩ := W
  subst hp hv
  exact own_st (fun _ k => XS.bipush X.here hx rfl (hb hby hd) k) k
theorem own_sipush (W : own_W p l e R s m args below meth c Z y ret code ml ws T h cells slots) {i : Int} (v : Int32) {pc : Nat} (pc' : Nat) {L : Array Slot} {st : List Value} (hd : decode code pc = .ok (.sipush i, 3)) (hv : (Int16.ofInt i).toInt32 = v) (hp : pc + 3 = pc') (k : own_Go p e below C T (mkF m pc' L (.int v :: st))) : own_Go p e below C T (mkF m pc L st) := by
  have hsz := own_le W
  obtain ⟨⟨hx, hby, hml, hown, hnm, hrt, hlk, hZ⟩, locs, X, eT, N⟩ := W
  subst hp hv
  exact own_st (fun _ k => XS.sipush X.here hx rfl (hb hby hd) k) k
theorem own_lconst (W : own_W p l e R s m args below meth c Z y ret code ml ws T h cells slots) {i : Fin 2} (v : Int64) {pc : Nat} (pc' : Nat) {L : Array Slot} {st : List Value} (hd : decode code pc = .ok (.lconst i, 1)) (hv : Int64.ofNat i.val = v) (hp : pc + 1 = pc') (k : own_Go p e below C T (mkF m pc' L (.long v :: st))) : own_Go p e below C T (mkF m pc L st) := by
  have hsz := own_le W
  obtain ⟨⟨hx, hby, hml, hown, hnm, hrt, hlk, hZ⟩, locs, X, eT, N⟩ := W
  subst hp hv
  exact own_st (fun _ k => XS.lconst X.here hx rfl (hb hby hd) k) k
theorem own_aconst_null (W : own_W p l e R s m args below meth c Z y ret code ml ws T h cells slots) {pc : Nat} (pc' : Nat) {L : Array Slot} {st : List Value} (hd : decode code pc = .ok (.aconst_null, 1)) (hp : pc + 1 = pc') (k : own_Go p e below C T (mkF m pc' L (.null :: st))) : own_Go p e below C T (mkF m pc L st) := by
  have hsz := own_le W
  obtain ⟨⟨hx, hby, hml, hown, hnm, hrt, hlk, hZ⟩, locs, X, eT, N⟩ := W
  subst hp
  exact own_st (fun _ k => XS.aconstNull X.here hx rfl (hb hby hd) k) k
theorem own_ldcInt (W : own_W p l e R s m args below meth c Z y ret code ml ws T h cells slots) {i : Nat} {v : Int32} {pc : Nat} (pc' : Nat) {L : Array Slot} {st : List Value} (hd : decode code pc = .ok (.ldc i, 2)) (w : (Jvm.Cond.constant y.cls i v).before a0 Z = true) (hp : pc + 2 = pc') (k : own_Go p e below C T (mkF m pc' L (.int v :: st))) : own_Go p e below C T (mkF m pc L st) := by
  have hsz := own_le W
  obtain ⟨⟨hx, hby, hml, hown, hnm, hrt, hlk, hZ⟩, locs, X, eT, N⟩ := W
  subst hp
  exact own_st (fun _ k => X.ldcInt hx hown (mvT hZ w) (g := mkF m pc L st) rfl (hb hby hd) _ k) k
theorem own_ldc2Long (W : own_W p l e R s m args below meth c Z y ret code ml ws T h cells slots) {i : Nat} {v : Int64} {pc : Nat} (pc' : Nat) {L : Array Slot} {st : List Value} (hd : decode code pc = .ok (.ldc2_w i, 3)) (w : (Jvm.Cond.constantLong y.cls i v).before a0 Z = true) (hp : pc + 3 = pc') (k : own_Go p e below C T (mkF m pc' L (.long v :: st))) : own_Go p e below C T (mkF m pc L st) := by
  have hsz := own_le W
  obtain ⟨⟨hx, hby, hml, hown, hnm, hrt, hlk, hZ⟩, locs, X, eT, N⟩ := W
  subst hp
  exact own_st (fun _ k => X.ldc2Long hx hown (mvT hZ w) (g := mkF m pc L st) rfl (hb hby hd) _ k) k
theorem own_iloadN (W : own_W p l e R s m args below meth c Z y ret code ml ws T h cells slots) {i : Fin 4} {v : Int32} {pc : Nat} (pc' : Nat) {L : Array Slot} {st : List Value} (hd : decode code pc = .ok (.iload_n i, 1)) (hl : L[i.val]? = some (.val (.int v))) (hp : pc + 1 = pc') (k : own_Go p e below C T (mkF m pc' L (.int v :: st))) : own_Go p e below C T (mkF m pc L st) := by
  have hsz := own_le W
  obtain ⟨⟨hx, hby, hml, hown, hnm, hrt, hlk, hZ⟩, locs, X, eT, N⟩ := W
  subst hp
  exact own_st (fun _ k => XS.iloadN X.here hx rfl (hb hby hd) hl k) k
theorem own_iload (W : own_W p l e R s m args below meth c Z y ret code ml ws T h cells slots) {i : Nat} {v : Int32} {pc : Nat} (pc' : Nat) {L : Array Slot} {st : List Value} (hd : decode code pc = .ok (.iload i, 2)) (hl : L[i]? = some (.val (.int v))) (hp : pc + 2 = pc') (k : own_Go p e below C T (mkF m pc' L (.int v :: st))) : own_Go p e below C T (mkF m pc L st) := by
  have hsz := own_le W
  obtain ⟨⟨hx, hby, hml, hown, hnm, hrt, hlk, hZ⟩, locs, X, eT, N⟩ := W
  subst hp
  exact own_st (fun _ k => XS.iload X.here hx rfl (hb hby hd) hl k) k
theorem own_lloadN (W : own_W p l e R s m args below meth c Z y ret code ml ws T h cells slots) {i : Fin 4} {v : Int64} {pc : Nat} (pc' : Nat) {L : Array Slot} {st : List Value} (hd : decode code pc = .ok (.lload_n i, 1)) (hl : L[i.val]? = some (.val (.long v))) (hp : pc + 1 = pc') (k : own_Go p e below C T (mkF m pc' L (.long v :: st))) : own_Go p e below C T (mkF m pc L st) := by
  have hsz := own_le W
  obtain ⟨⟨hx, hby, hml, hown, hnm, hrt, hlk, hZ⟩, locs, X, eT, N⟩ := W
  subst hp
  exact own_st (fun _ k => XS.lloadN X.here hx rfl (hb hby hd) hl k) k
theorem own_lload (W : own_W p l e R s m args below meth c Z y ret code ml ws T h cells slots) {i : Nat} {v : Int64} {pc : Nat} (pc' : Nat) {L : Array Slot} {st : List Value} (hd : decode code pc = .ok (.lload i, 2)) (hl : L[i]? = some (.val (.long v))) (hp : pc + 2 = pc') (k : own_Go p e below C T (mkF m pc' L (.long v :: st))) : own_Go p e below C T (mkF m pc L st) := by
  have hsz := own_le W
  obtain ⟨⟨hx, hby, hml, hown, hnm, hrt, hlk, hZ⟩, locs, X, eT, N⟩ := W
  subst hp
  exact own_st (fun _ k => XS.lload X.here hx rfl (hb hby hd) hl k) k
theorem own_aloadN (W : own_W p l e R s m args below meth c Z y ret code ml ws T h cells slots) {i : Fin 4} {v : Value} {pc : Nat} (pc' : Nat) {L : Array Slot} {st : List Value} (hd : decode code pc = .ok (.aload_n i, 1)) (hl : L[i.val]? = some (.val v)) (hv : v.isRef = true) (hp : pc + 1 = pc') (k : own_Go p e below C T (mkF m pc' L (v :: st))) : own_Go p e below C T (mkF m pc L st) := by
  have hsz := own_le W
  obtain ⟨⟨hx, hby, hml, hown, hnm, hrt, hlk, hZ⟩, locs, X, eT, N⟩ := W
  subst hp
  exact own_st (fun _ k => XS.aloadN X.here hx rfl (hb hby hd) hl hv k) k
theorem own_aload (W : own_W p l e R s m args below meth c Z y ret code ml ws T h cells slots) {i : Nat} {v : Value} {pc : Nat} (pc' : Nat) {L : Array Slot} {st : List Value} (hd : decode code pc = .ok (.aload i, 2)) (hl : L[i]? = some (.val v)) (hv : v.isRef = true) (hp : pc + 2 = pc') (k : own_Go p e below C T (mkF m pc' L (v :: st))) : own_Go p e below C T (mkF m pc L st) := by
  have hsz := own_le W
  obtain ⟨⟨hx, hby, hml, hown, hnm, hrt, hlk, hZ⟩, locs, X, eT, N⟩ := W
  subst hp
  exact own_st (fun _ k => XS.aload X.here hx rfl (hb hby hd) hl hv k) k
theorem own_istoreN (W : own_W p l e R s m args below meth c Z y ret code ml ws T h cells slots) {i : Fin 4} {v : Int32} {pc : Nat} (pc' : Nat) {L : Array Slot} (L' : Array Slot) {st : List Value} (hd : decode code pc = .ok (.istore_n i, 1)) (hl : storeLocals L i.val (.int v) = some L') (hp : pc + 1 = pc') (k : own_Go p e below C T (mkF m pc' L' st)) : own_Go p e below C T (mkF m pc L (.int v :: st)) := by
  have hsz := own_le W
  obtain ⟨⟨hx, hby, hml, hown, hnm, hrt, hlk, hZ⟩, locs, X, eT, N⟩ := W
  subst hp
  exact own_st (fun _ k => XS.istoreN X.here hx rfl (hb hby hd) rfl hl k) k
theorem own_istore (W : own_W p l e R s m args below meth c Z y ret code ml ws T h cells slots) {i : Nat} {v : Int32} {pc : Nat} (pc' : Nat) {L : Array Slot} (L' : Array Slot) {st : List Value} (hd : decode code pc = .ok (.istore i, 2)) (hl : storeLocals L i (.int v) = some L') (hp : pc + 2 = pc') (k : own_Go p e below C T (mkF m pc' L' st)) : own_Go p e below C T (mkF m pc L (.int v :: st)) := by
  have hsz := own_le W
  obtain ⟨⟨hx, hby, hml, hown, hnm, hrt, hlk, hZ⟩, locs, X, eT, N⟩ := W
  subst hp
  exact own_st (fun _ k => XS.istore X.here hx rfl (hb hby hd) rfl hl k) k
theorem own_lstoreN (W : own_W p l e R s m args below meth c Z y ret code ml ws T h cells slots) {i : Fin 4} {v : Int64} {pc : Nat} (pc' : Nat) {L : Array Slot} (L' : Array Slot) {st : List Value} (hd : decode code pc = .ok (.lstore_n i, 1)) (hl : storeLocals L i.val (.long v) = some L') (hp : pc + 1 = pc') (k : own_Go p e below C T (mkF m pc' L' st)) : own_Go p e below C T (mkF m pc L (.long v :: st)) := by
  have hsz := own_le W
  obtain ⟨⟨hx, hby, hml, hown, hnm, hrt, hlk, hZ⟩, locs, X, eT, N⟩ := W
  subst hp
  exact own_st (fun _ k => XS.lstoreN X.here hx rfl (hb hby hd) rfl hl k) k
theorem own_lstore (W : own_W p l e R s m args below meth c Z y ret code ml ws T h cells slots) {i : Nat} {v : Int64} {pc : Nat} (pc' : Nat) {L : Array Slot} (L' : Array Slot) {st : List Value} (hd : decode code pc = .ok (.lstore i, 2)) (hl : storeLocals L i (.long v) = some L') (hp : pc + 2 = pc') (k : own_Go p e below C T (mkF m pc' L' st)) : own_Go p e below C T (mkF m pc L (.long v :: st)) := by
  have hsz := own_le W
  obtain ⟨⟨hx, hby, hml, hown, hnm, hrt, hlk, hZ⟩, locs, X, eT, N⟩ := W
  subst hp
  exact own_st (fun _ k => XS.lstore X.here hx rfl (hb hby hd) rfl hl k) k
theorem own_astoreN (W : own_W p l e R s m args below meth c Z y ret code ml ws T h cells slots) {i : Fin 4} {v : Value} {pc : Nat} (pc' : Nat) {L : Array Slot} (L' : Array Slot) {st : List Value} (hd : decode code pc = .ok (.astore_n i, 1)) (hv : v.isRef = true) (hl : storeLocals L i.val v = some L') (hp : pc + 1 = pc') (k : own_Go p e below C T (mkF m pc' L' st)) : own_Go p e below C T (mkF m pc L (v :: st)) := by
  have hsz := own_le W
  obtain ⟨⟨hx, hby, hml, hown, hnm, hrt, hlk, hZ⟩, locs, X, eT, N⟩ := W
  subst hp
  exact own_st (fun _ k => XS.astoreN X.here hx rfl (hb hby hd) rfl hv hl k) k
theorem own_astore (W : own_W p l e R s m args below meth c Z y ret code ml ws T h cells slots) {i : Nat} {v : Value} {pc : Nat} (pc' : Nat) {L : Array Slot} (L' : Array Slot) {st : List Value} (hd : decode code pc = .ok (.astore i, 2)) (hv : v.isRef = true) (hl : storeLocals L i v = some L') (hp : pc + 2 = pc') (k : own_Go p e below C T (mkF m pc' L' st)) : own_Go p e below C T (mkF m pc L (v :: st)) := by
  have hsz := own_le W
  obtain ⟨⟨hx, hby, hml, hown, hnm, hrt, hlk, hZ⟩, locs, X, eT, N⟩ := W
  subst hp
  exact own_st (fun _ k => XS.astore X.here hx rfl (hb hby hd) rfl hv hl k) k
theorem own_iinc (W : own_W p l e R s m args below meth c Z y ret code ml ws T h cells slots) {i : Nat} {cst : Int} {v : Int32} (v' : Int32) {pc : Nat} (pc' : Nat) {L : Array Slot} (L' : Array Slot) {st : List Value} (hd : decode code pc = .ok (.iinc i cst, 3)) (hv : L[i]? = some (.val (.int v))) (hv' : v + Int32.ofInt cst = v') (hl : storeLocals L i (.int v') = some L') (hp : pc + 3 = pc') (k : own_Go p e below C T (mkF m pc' L' st)) : own_Go p e below C T (mkF m pc L st) := by
  have hsz := own_le W
  obtain ⟨⟨hx, hby, hml, hown, hnm, hrt, hlk, hZ⟩, locs, X, eT, N⟩ := W
  subst hp hv'
  exact own_st (fun _ k => XS.iinc X.here hx rfl (hb hby hd) hv hl k) k
theorem own_dup (W : own_W p l e R s m args below meth c Z y ret code ml ws T h cells slots) {v : Value} {pc : Nat} (pc' : Nat) {L : Array Slot} {st : List Value} (hd : decode code pc = .ok (.dup, 1)) (hc : v.category = 1) (hp : pc + 1 = pc') (k : own_Go p e below C T (mkF m pc' L (v :: v :: st))) : own_Go p e below C T (mkF m pc L (v :: st)) := by
  have hsz := own_le W
  obtain ⟨⟨hx, hby, hml, hown, hnm, hrt, hlk, hZ⟩, locs, X, eT, N⟩ := W
  subst hp
  exact own_st (fun _ k => XS.dup X.here hx rfl (hb hby hd) rfl hc k) k
theorem own_pop (W : own_W p l e R s m args below meth c Z y ret code ml ws T h cells slots) {v : Value} {pc : Nat} (pc' : Nat) {L : Array Slot} {st : List Value} (hd : decode code pc = .ok (.pop, 1)) (hc : v.category = 1) (hp : pc + 1 = pc') (k : own_Go p e below C T (mkF m pc' L st)) : own_Go p e below C T (mkF m pc L (v :: st)) := by
  have hsz := own_le W
  obtain ⟨⟨hx, hby, hml, hown, hnm, hrt, hlk, hZ⟩, locs, X, eT, N⟩ := W
  subst hp
  exact own_st (fun _ k => XS.pop X.here hx rfl (hb hby hd) rfl hc k) k
theorem own_dup_x1 (W : own_W p l e R s m args below meth c Z y ret code ml ws T h cells slots) {u v : Value} {pc : Nat} (pc' : Nat) {L : Array Slot} {st : List Value} (hd : decode code pc = .ok (.dup_x1, 1)) (hc : v.category = 1) (hc' : u.category = 1) (hp : pc + 1 = pc') (k : own_Go p e below C T (mkF m pc' L (v :: u :: v :: st))) : own_Go p e below C T (mkF m pc L (v :: u :: st)) := by
  have hsz := own_le W
  obtain ⟨⟨hx, hby, hml, hown, hnm, hrt, hlk, hZ⟩, locs, X, eT, N⟩ := W
  subst hp
  exact own_st (fun _ k => XS.dupX1 X.here hx rfl (hb hby hd) rfl hc hc' k) k
theorem own_goto (W : own_W p l e R s m args below meth c Z y ret code ml ws T h cells slots) {o : Int} {pc : Nat} (pc' : Nat) {L : Array Slot} {st : List Value} (hd : decode code pc = .ok (.goto o, 3)) (ho : 0 ≤ (pc : Int) + o) (hp : ((pc : Int) + o).toNat = pc') (k : own_Go p e below C T (mkF m pc' L st)) : own_Go p e below C T (mkF m pc L st) := by
  have hsz := own_le W
  obtain ⟨⟨hx, hby, hml, hown, hnm, hrt, hlk, hZ⟩, locs, X, eT, N⟩ := W
  exact own_st (fun _ k => XS.goto X.here hx rfl rfl (hb hby hd) ho hp k) k
theorem own_ifY (W : own_W p l e R s m args below meth c Z y ret code ml ws T h cells slots) {cd : ClassFile.Cond} {o : Int} {u : Int32} {pc : Nat} (pc' : Nat) {L : Array Slot} {st : List Value} (hd : decode code pc = .ok (.ifCond cd o, 3)) (hc : ifCond.holds cd u = true) (ho : 0 ≤ (pc : Int) + o) (hp : ((pc : Int) + o).toNat = pc') (k : own_Go p e below C T (mkF m pc' L st)) : own_Go p e below C T (mkF m pc L (.int u :: st)) := by
  have hsz := own_le W
  obtain ⟨⟨hx, hby, hml, hown, hnm, hrt, hlk, hZ⟩, locs, X, eT, N⟩ := W
  exact own_st (fun _ k => XS.ifYes X.here hx rfl rfl (hb hby hd) rfl hc ho hp k) k
theorem own_ifN (W : own_W p l e R s m args below meth c Z y ret code ml ws T h cells slots) {cd : ClassFile.Cond} {o : Int} {u : Int32} {pc : Nat} (pc' : Nat) {L : Array Slot} {st : List Value} (hd : decode code pc = .ok (.ifCond cd o, 3)) (hc : ifCond.holds cd u = false) (hp : pc + 3 = pc') (k : own_Go p e below C T (mkF m pc' L st)) : own_Go p e below C T (mkF m pc L (.int u :: st)) := by
  have hsz := own_le W
  obtain ⟨⟨hx, hby, hml, hown, hnm, hrt, hlk, hZ⟩, locs, X, eT, N⟩ := W
  subst hp
  exact own_st (fun _ k => XS.ifNo X.here hx rfl (hb hby hd) rfl hc k) k
theorem own_icmpY (W : own_W p l e R s m args below meth c Z y ret code ml ws T h cells slots) {cd : ClassFile.Cond} {o : Int} {u v : Int32} {pc : Nat} (pc' : Nat) {L : Array Slot} {st : List Value} (hd : decode code pc = .ok (.if_icmp cd o, 3)) (hc : if_icmp.holds cd u v = true) (ho : 0 ≤ (pc : Int) + o) (hp : ((pc : Int) + o).toNat = pc') (k : own_Go p e below C T (mkF m pc' L st)) : own_Go p e below C T (mkF m pc L (.int v :: .int u :: st)) := by
  have hsz := own_le W
  obtain ⟨⟨hx, hby, hml, hown, hnm, hrt, hlk, hZ⟩, locs, X, eT, N⟩ := W
  exact own_st (fun _ k => XS.icmpYes X.here hx rfl rfl (hb hby hd) rfl hc ho hp k) k
theorem own_icmpN (W : own_W p l e R s m args below meth c Z y ret code ml ws T h cells slots) {cd : ClassFile.Cond} {o : Int} {u v : Int32} {pc : Nat} (pc' : Nat) {L : Array Slot} {st : List Value} (hd : decode code pc = .ok (.if_icmp cd o, 3)) (hc : if_icmp.holds cd u v = false) (hp : pc + 3 = pc') (k : own_Go p e below C T (mkF m pc' L st)) : own_Go p e below C T (mkF m pc L (.int v :: .int u :: st)) := by
  have hsz := own_le W
  obtain ⟨⟨hx, hby, hml, hown, hnm, hrt, hlk, hZ⟩, locs, X, eT, N⟩ := W
  subst hp
  exact own_st (fun _ k => XS.icmpNo X.here hx rfl (hb hby hd) rfl hc k) k
theorem own_ifnullY (W : own_W p l e R s m args below meth c Z y ret code ml ws T h cells slots) {o : Int}  {pc : Nat} (pc' : Nat) {L : Array Slot} {st : List Value} (hd : decode code pc = .ok (.ifnull o, 3)) (ho : 0 ≤ (pc : Int) + o) (hp : ((pc : Int) + o).toNat = pc') (k : own_Go p e below C T (mkF m pc' L st)) : own_Go p e below C T (mkF m pc L (.null :: st)) := by
  have hsz := own_le W
  obtain ⟨⟨hx, hby, hml, hown, hnm, hrt, hlk, hZ⟩, locs, X, eT, N⟩ := W
  exact own_st (fun _ k => XS.ifnullYes X.here hx rfl rfl (hb hby hd) rfl ho hp k) k
theorem own_ifnullN (W : own_W p l e R s m args below meth c Z y ret code ml ws T h cells slots) {o : Int} {b : Addr} {pc : Nat} (pc' : Nat) {L : Array Slot} {st : List Value} (hd : decode code pc = .ok (.ifnull o, 3)) (hp : pc + 3 = pc') (k : own_Go p e below C T (mkF m pc' L st)) : own_Go p e below C T (mkF m pc L (.ref b :: st)) := by
  have hsz := own_le W
  obtain ⟨⟨hx, hby, hml, hown, hnm, hrt, hlk, hZ⟩, locs, X, eT, N⟩ := W
  subst hp
  exact own_st (fun _ k => XS.ifnullNo X.here hx rfl (hb hby hd) rfl k) k
theorem own_ifnonnullY (W : own_W p l e R s m args below meth c Z y ret code ml ws T h cells slots) {o : Int} {b : Addr} {pc : Nat} (pc' : Nat) {L : Array Slot} {st : List Value} (hd : decode code pc = .ok (.ifnonnull o, 3)) (ho : 0 ≤ (pc : Int) + o) (hp : ((pc : Int) + o).toNat = pc') (k : own_Go p e below C T (mkF m pc' L st)) : own_Go p e below C T (mkF m pc L (.ref b :: st)) := by
  have hsz := own_le W
  obtain ⟨⟨hx, hby, hml, hown, hnm, hrt, hlk, hZ⟩, locs, X, eT, N⟩ := W
  exact own_st (fun _ k => XS.ifnonnullYes X.here hx rfl rfl (hb hby hd) rfl ho hp k) k
theorem own_ifnonnullN (W : own_W p l e R s m args below meth c Z y ret code ml ws T h cells slots) {o : Int}  {pc : Nat} (pc' : Nat) {L : Array Slot} {st : List Value} (hd : decode code pc = .ok (.ifnonnull o, 3)) (hp : pc + 3 = pc') (k : own_Go p e below C T (mkF m pc' L st)) : own_Go p e below C T (mkF m pc L (.null :: st)) := by
  have hsz := own_le W
  obtain ⟨⟨hx, hby, hml, hown, hnm, hrt, hlk, hZ⟩, locs, X, eT, N⟩ := W
  subst hp
  exact own_st (fun _ k => XS.ifnonnullNo X.here hx rfl (hb hby hd) rfl k) k
theorem own_acmp (W : own_W p l e R s m args below meth c Z y ret code ml ws T h cells slots) {cd : ACond} {o : Int} {u v : Value} {same : Bool} {pc : Nat} (pc' : Nat) {L : Array Slot} {st : List Value} (hd : decode code pc = .ok (.if_acmp cd o, 3)) (h1 : u.isRef = true) (h2 : v.isRef = true) (hq : decide (u = v) = same) (ho : 0 ≤ (pc : Int) + o) (hp : pc' = if acV cd same = true then ((pc : Int) + o).toNat else pc + 3) (k : own_Go p e below C T (mkF m pc' L st)) : own_Go p e below C T (mkF m pc L (v :: u :: st)) := by
  have hsz := own_le W
  obtain ⟨⟨hx, hby, hml, hown, hnm, hrt, hlk, hZ⟩, locs, X, eT, N⟩ := W
  exact own_st (fun _ k => Jvm.RoadKit.acmp X hx rfl h1 h2 rfl (hb hby hd) rfl hq ho hp k) k
theorem own_retI {Q : Option Value → Heap → Prop} {kc ks : Nat} {z : Int32}  (W : own_W p l e R s m args below meth c Z y (some .int) code ml ws T h cells slots) (hC : ∀ v L u, own_Fw s ws L → Q v u.heap → FrameEnd s (.returned v) u L kc ks → C (.returned v) u) (hcl : cells ≤ kc) (hsl : slots ≤ ks) {pc : Nat} {L : Array Slot} {st : List Value} (hd : decode code pc = .ok (.ireturn, 1)) (hq : Q (some (.int z)) h) : own_Go p e below C T (mkF m pc L (.int z :: st)) := by
  have hsz := own_le W
  obtain ⟨⟨hx, hby, hml, hown, hnm, hrt, hlk, hZ⟩, locs, X, eT, N⟩ := W
  subst eT
  obtain ⟨fs, hr, hrun, hended, hW, hsame⟩ := X.leave (v := (some (.int z))) (fun h => by rw [hrt] at h; cases h) hlk
  refine ⟨_, _, ?_, hrun, hended, hC _ _ _ N hq ⟨⟨_, rfl⟩, hW, hsame.mono hcl hsl⟩⟩
  have hn : narrow .int (.int z) = .int z := rfl
  show Steps p.tables e below (T.setTop { method := m, pc := pc, locals := L, stack := _ :: st, locked := none }) _
  have hm' := X.method'
  jvm_step X.here [X.here.top, hx, (hb hby hd), hm', hrt, hn]
  first | (intro acts; rw [hr _ acts rfl rfl rfl]) | rw [hr _ _ rfl rfl rfl]
  exact Steps.refl _
theorem own_retZ {Q : Option Value → Heap → Prop} {kc ks : Nat} {z : Int32}  (W : own_W p l e R s m args below meth c Z y (some .boolean) code ml ws T h cells slots) (hC : ∀ v L u, own_Fw s ws L → Q v u.heap → FrameEnd s (.returned v) u L kc ks → C (.returned v) u) (hcl : cells ≤ kc) (hsl : slots ≤ ks) {pc : Nat} {L : Array Slot} {st : List Value} (hd : decode code pc = .ok (.ireturn, 1)) (hq : Q (some (.int (z &&& 1))) h) : own_Go p e below C T (mkF m pc L (.int z :: st)) := by
  have hsz := own_le W
  obtain ⟨⟨hx, hby, hml, hown, hnm, hrt, hlk, hZ⟩, locs, X, eT, N⟩ := W
  subst eT
  obtain ⟨fs, hr, hrun, hended, hW, hsame⟩ := X.leave (v := (some (.int (z &&& 1)))) (fun h => by rw [hrt] at h; cases h) hlk
  refine ⟨_, _, ?_, hrun, hended, hC _ _ _ N hq ⟨⟨_, rfl⟩, hW, hsame.mono hcl hsl⟩⟩
  exact retN X hx (t := .boolean) hrt (by simp) (hb hby hd) hr
theorem own_retB {Q : Option Value → Heap → Prop} {kc ks : Nat} {z : Int32}  (W : own_W p l e R s m args below meth c Z y (some .byte) code ml ws T h cells slots) (hC : ∀ v L u, own_Fw s ws L → Q v u.heap → FrameEnd s (.returned v) u L kc ks → C (.returned v) u) (hcl : cells ≤ kc) (hsl : slots ≤ ks) {pc : Nat} {L : Array Slot} {st : List Value} (hd : decode code pc = .ok (.ireturn, 1)) (hq : Q (some (.int z.toInt8.toInt32)) h) : own_Go p e below C T (mkF m pc L (.int z :: st)) := by
  have hsz := own_le W
  obtain ⟨⟨hx, hby, hml, hown, hnm, hrt, hlk, hZ⟩, locs, X, eT, N⟩ := W
  subst eT
  obtain ⟨fs, hr, hrun, hended, hW, hsame⟩ := X.leave (v := (some (.int z.toInt8.toInt32))) (fun h => by rw [hrt] at h; cases h) hlk
  refine ⟨_, _, ?_, hrun, hended, hC _ _ _ N hq ⟨⟨_, rfl⟩, hW, hsame.mono hcl hsl⟩⟩
  exact retN X hx (t := .byte) hrt (by simp) (hb hby hd) hr
theorem own_retC {Q : Option Value → Heap → Prop} {kc ks : Nat} {z : Int32}  (W : own_W p l e R s m args below meth c Z y (some .char) code ml ws T h cells slots) (hC : ∀ v L u, own_Fw s ws L → Q v u.heap → FrameEnd s (.returned v) u L kc ks → C (.returned v) u) (hcl : cells ≤ kc) (hsl : slots ≤ ks) {pc : Nat} {L : Array Slot} {st : List Value} (hd : decode code pc = .ok (.ireturn, 1)) (hq : Q (some (.int z.toUInt32.toUInt16.toUInt32.toInt32)) h) : own_Go p e below C T (mkF m pc L (.int z :: st)) := by
  have hsz := own_le W
  obtain ⟨⟨hx, hby, hml, hown, hnm, hrt, hlk, hZ⟩, locs, X, eT, N⟩ := W
  subst eT
  obtain ⟨fs, hr, hrun, hended, hW, hsame⟩ := X.leave (v := (some (.int z.toUInt32.toUInt16.toUInt32.toInt32))) (fun h => by rw [hrt] at h; cases h) hlk
  refine ⟨_, _, ?_, hrun, hended, hC _ _ _ N hq ⟨⟨_, rfl⟩, hW, hsame.mono hcl hsl⟩⟩
  exact retN X hx (t := .char) hrt (by simp) (hb hby hd) hr
theorem own_retJ {Q : Option Value → Heap → Prop} {kc ks : Nat} {z : Int64}  (W : own_W p l e R s m args below meth c Z y (some .long) code ml ws T h cells slots) (hC : ∀ v L u, own_Fw s ws L → Q v u.heap → FrameEnd s (.returned v) u L kc ks → C (.returned v) u) (hcl : cells ≤ kc) (hsl : slots ≤ ks) {pc : Nat} {L : Array Slot} {st : List Value} (hd : decode code pc = .ok (.lreturn, 1)) (hq : Q (some (.long z)) h) : own_Go p e below C T (mkF m pc L (.long z :: st)) := by
  have hsz := own_le W
  obtain ⟨⟨hx, hby, hml, hown, hnm, hrt, hlk, hZ⟩, locs, X, eT, N⟩ := W
  subst eT
  obtain ⟨fs, hr, hrun, hended, hW, hsame⟩ := X.leave (v := (some (.long z))) (fun h => by rw [hrt] at h; cases h) hlk
  refine ⟨_, _, ?_, hrun, hended, hC _ _ _ N hq ⟨⟨_, rfl⟩, hW, hsame.mono hcl hsl⟩⟩
  have hn : narrow .long (.long z) = .long z := rfl
  show Steps p.tables e below (T.setTop { method := m, pc := pc, locals := L, stack := _ :: st, locked := none }) _
  have hm' := X.method'
  jvm_step X.here [X.here.top, hx, (hb hby hd), hm', hrt, hn]
  first | (intro acts; rw [hr _ acts rfl rfl rfl]) | rw [hr _ _ rfl rfl rfl]
  exact Steps.refl _
theorem own_retV {Q : Option Value → Heap → Prop} {kc ks : Nat}  (W : own_W p l e R s m args below meth c Z y none code ml ws T h cells slots) (hC : ∀ v L u, own_Fw s ws L → Q v u.heap → FrameEnd s (.returned v) u L kc ks → C (.returned v) u) (hcl : cells ≤ kc) (hsl : slots ≤ ks) {pc : Nat} {L : Array Slot} (hd : decode code pc = .ok (.return_, 1)) (hq : Q none h) : own_Go p e below C T (mkF m pc L []) := by
  have hsz := own_le W
  obtain ⟨⟨hx, hby, hml, hown, hnm, hrt, hlk, hZ⟩, locs, X, eT, N⟩ := W
  subst eT
  obtain ⟨fs, hr, hrun, hended, hW, hsame⟩ := X.leave (v := none) (fun _ => rfl) hlk
  refine ⟨_, _, ?_, hrun, hended, hC _ _ _ N hq ⟨⟨_, rfl⟩, hW, hsame.mono hcl hsl⟩⟩
  exact X.returnOut hx hrt (hb hby hd) hr
theorem own_retA {Q : Option Value → Heap → Prop} {kc ks : Nat} {rt : FieldType} {z : Value} (W : own_W p l e R s m args below meth c Z y (some rt) code ml ws T h cells slots) (hC : ∀ v L u, own_Fw s ws L → Q v u.heap → FrameEnd s (.returned v) u L kc ks → C (.returned v) u) (hcl : cells ≤ kc) (hsl : slots ≤ ks) (hrr : rt.isReference = true) (hzr : z.isRef = true) {pc : Nat} {L : Array Slot} {st : List Value} (hd : decode code pc = .ok (.areturn, 1)) (hn : narrow rt z = z) (hq : Q (some z) h) : own_Go p e below C T (mkF m pc L (z :: st)) := by
  have hsz := own_le W
  obtain ⟨⟨hx, hby, hml, hown, hnm, hrt, hlk, hZ⟩, locs, X, eT, N⟩ := W
  subst eT
  obtain ⟨fs, hr, hrun, hended, hW, hsame⟩ := X.leave (v := some z) (fun h => by rw [hrt] at h; cases h) hlk
  refine ⟨_, _, ?_, hrun, hended, hC _ _ _ N hq ⟨⟨_, rfl⟩, hW, hsame.mono hcl hsl⟩⟩
  exact retOut X hx hrt hn (Or.inr (Or.inr (Or.inr (Or.inr ⟨rfl, hrr, hzr⟩)))) (hb hby hd) hr
/-- an array by its places: n of them, place j holds f j -/
def own_A (Z : State) (h : Heap) (a : Addr) (ty : FieldType) (n : Nat) (f : Nat → Value) : Prop := ∃ cl : Cell, Arr Z h a cl ty ∧ cl.slots.size = n ∧ ∀ j, j < n → cl.slots[j]? = some (f j)
def own_upd (f : Nat → Value) (k : Nat) (v : Value) : Nat → Value := fun j => if j = k then v else f j
theorem own_A.lt {a : Addr} {ty : FieldType} {n : Nat} {f : Nat → Value} (F : own_A Z h a ty n f) : a < h.size := by obtain ⟨cl, A, -⟩ := F; exact A.lt
theorem own_A.ext {h' : Heap} {a : Addr} {ty : FieldType} {n : Nat} {f : Nat → Value} (F : own_A Z h a ty n f) (E : Ext h h') : own_A Z h' a ty n f := by obtain ⟨cl, A, r⟩ := F; exact ⟨cl, A.ext E, r⟩
theorem own_A.other {h' : Heap} {a b : Addr} {sl : Nat} {v : Value} {ty : FieldType} {n : Nat} {f : Nat → Value} (F : own_A Z h b ty n f) (q : Wr h h' a sl v) (ne : b ≠ a) : own_A Z h' b ty n f := by obtain ⟨cl, A, r⟩ := F; exact ⟨cl, A.other q ne, r⟩
theorem own_A.keep {h' : Heap} {ws : List Addr} {a : Addr} {ty : FieldType} {n : Nat} {f : Nat → Value} (F : own_A Z h a ty n f) (K : Keep h h' ws) (q : a ∉ ws) : own_A Z h' a ty n f := by obtain ⟨cl, A, r⟩ := F; exact ⟨cl, ⟨K.2.1 a cl A.1 q, A.2⟩, r⟩
theorem own_A.congr {a : Addr} {ty : FieldType} {n : Nat} {f g : Nat → Value} (F : own_A Z h a ty n f) (q : ∀ j, j < n → f j = g j) : own_A Z h a ty n g := by obtain ⟨cl, A, r1, r2⟩ := F; exact ⟨cl, A, r1, fun j hj => by rw [r2 j hj, q j hj]⟩
theorem own_nn {z : Int32} {k : Nat} (hz : z.toInt = (k : Int)) : ¬ z < 0 := by rw [Int32.lt_iff_toInt_lt]; have : (0 : Int32).toInt = 0 := rfl; omega
theorem own_cl {z : Int32} {k : Nat} (hz : z.toInt = (k : Int)) : z.toNatClampNeg = k := by
  have h := nat_of (own_nn hz)
  omega
theorem own_in {z : Int32} {k n : Nat} {cl : Cell} (hz : z.toInt = (k : Int)) (hs : cl.slots.size = n) (hk : k < n) : ¬ (z < 0 ∨ cl.slots.size ≤ z.toNatClampNeg) := by
  rintro (q | q)
  · exact own_nn hz q
  · rw [own_cl hz] at q; omega
theorem own_A.set {h' : Heap} {a : Addr} {ty : FieldType} {n k : Nat} {f : Nat → Value} {v : Value} (F : own_A Z h a ty n f) (q : Wr h h' a k v) (hk : k < n) : own_A Z h' a ty n (own_upd f k v) := by
  obtain ⟨cl, A, r1, r2⟩ := F
  refine ⟨cl.setSlot k v, Arr.same q A, by rw [sz_set]; exact r1, fun j hj => ?_⟩
  by_cases e : j = k
  · subst e; simp [own_upd, Cell.setSlot, r1, hj]
  · simp only [own_upd, if_neg e, Cell.setSlot]
    rw [Array.getElem?_setIfInBounds_ne (Ne.symm e)]; exact r2 j hj
theorem own_newarray (W : own_W p l e R s m args below meth c Z y ret code ml ws T h cells slots) {aty : ArrayType} {z : Int32} (N cap : Nat) {pc : Nat} (pc' : Nat) {L : Array Slot} {st : List Value} (hd : decode code pc = .ok (.newarray aty, 2)) (w : (Jvm.Cond.arrayClass (newarray.typeOf aty)).before a0 Z = true) (hz : z.toInt = (N : Int)) (hcap : N ≤ cap) (hb8 : cap * 8 ≤ 536870912) (hc : cells + 1 ≤ R.cells) (hl : slots + cap ≤ R.slots) (hp : pc + 2 = pc') (k : ∀ T' h' a, own_W p l e R s m args below meth c Z y ret code ml ws T' h' (cells + 1) (slots + cap) → Ext h h' → a = h.size → s.heap.size ≤ a → own_A Z h' a (newarray.typeOf aty) N (fun _ => defaultValue (newarray.typeOf aty)) → own_Go p e below C T' (mkF m pc' L (.ref a :: st))) : own_Go p e below C T (mkF m pc L (.int z :: st)) := by
  have hsz := own_le W
  obtain ⟨⟨hx, hby, hml, hown, hnm, hrt, hlk, hZ⟩, locs, X, eT, Nf⟩ := W
  subst hp
  have hcl := own_cl hz
  obtain ⟨T', h', cA, X', e', E', A', st'⟩ := newP X hx hZ w eT (g := mkF m pc L (.int z :: st)) rfl (hb hby hd) rfl (own_nn hz) (cap := cap) (by rw [hcl]; exact hcap) hb8 hc hl
  refine own_st st' (k T' h' h.size ⟨⟨hx, hby, hml, hown, hnm, hrt, hlk, hZ⟩, locs, X', e', Nf⟩ E' rfl hsz ⟨_, A', by rw [sz_new, hcl], fun j hj => ?_⟩)
  simp [newA, hcl, hj]
theorem own_baload (W : own_W p l e R s m args below meth c Z y ret code ml ws T h cells slots) {a : Addr} {z : Int32} {n : Nat} {f : Nat → Value} (k : Nat) (v : Int32) {pc : Nat} (pc' : Nat) {L : Array Slot} {st : List Value} (hd : decode code pc = .ok (.baload, 1)) (F : own_A Z h a .byte n f) (hz : z.toInt = (k : Int)) (hk : k < n) (hv : f k = (.int v)) (hp : pc + 1 = pc') (kk : own_Go p e below C T (mkF m pc' L ((.int v) :: st))) : own_Go p e below C T (mkF m pc L (.int z :: .ref a :: st)) := by
  have hsz := own_le W
  obtain ⟨⟨hx, hby, hml, hown, hnm, hrt, hlk, hZ⟩, locs, X, eT, N⟩ := W
  subst hp eT
  obtain ⟨cl, A, hs, hf⟩ := F
  have hat : cl.slots[z.toNatClampNeg]? = some (.int v) := by rw [own_cl hz, hf k hk, hv]
  exact own_st (fun t q => X.baloadBytes hx A.1 (State.isArrayOf_alike hZ.alike A.2.1) A.2.2 (own_in hz hs hk) hat (g := mkF m pc L (.int z :: .ref a :: st)) rfl rfl (hb hby hd) t q) kk
theorem own_iaload (W : own_W p l e R s m args below meth c Z y ret code ml ws T h cells slots) {a : Addr} {z : Int32} {n : Nat} {f : Nat → Value} (k : Nat) (v : Int32) {pc : Nat} (pc' : Nat) {L : Array Slot} {st : List Value} (hd : decode code pc = .ok (.iaload, 1)) (F : own_A Z h a .int n f) (hz : z.toInt = (k : Int)) (hk : k < n) (hv : f k = (.int v)) (hp : pc + 1 = pc') (kk : own_Go p e below C T (mkF m pc' L ((.int v) :: st))) : own_Go p e below C T (mkF m pc L (.int z :: .ref a :: st)) := by
  have hsz := own_le W
  obtain ⟨⟨hx, hby, hml, hown, hnm, hrt, hlk, hZ⟩, locs, X, eT, N⟩ := W
  subst hp eT
  obtain ⟨cl, A, hs, hf⟩ := F
  have hat : cl.slots[z.toNatClampNeg]? = some (.int v) := by rw [own_cl hz, hf k hk, hv]
  exact own_st (fun t q => X.iaload hx A.1 (State.isArrayOf_alike hZ.alike A.2.1) A.2.2 (own_in hz hs hk) hat (g := mkF m pc L (.int z :: .ref a :: st)) rfl rfl (hb hby hd) t q) kk
theorem own_laload (W : own_W p l e R s m args below meth c Z y ret code ml ws T h cells slots) {a : Addr} {z : Int32} {n : Nat} {f : Nat → Value} (k : Nat) (v : Int64) {pc : Nat} (pc' : Nat) {L : Array Slot} {st : List Value} (hd : decode code pc = .ok (.laload, 1)) (F : own_A Z h a .long n f) (hz : z.toInt = (k : Int)) (hk : k < n) (hv : f k = (.long v)) (hp : pc + 1 = pc') (kk : own_Go p e below C T (mkF m pc' L ((.long v) :: st))) : own_Go p e below C T (mkF m pc L (.int z :: .ref a :: st)) := by
  have hsz := own_le W
  obtain ⟨⟨hx, hby, hml, hown, hnm, hrt, hlk, hZ⟩, locs, X, eT, N⟩ := W
  subst hp eT
  obtain ⟨cl, A, hs, hf⟩ := F
  have hat : cl.slots[z.toNatClampNeg]? = some (.long v) := by rw [own_cl hz, hf k hk, hv]
  exact own_st (fun t q => X.laload hx A.1 (State.isArrayOf_alike hZ.alike A.2.1) A.2.2 (own_in hz hs hk) hat (g := mkF m pc L (.int z :: .ref a :: st)) rfl rfl (hb hby hd) t q) kk
theorem own_caload (W : own_W p l e R s m args below meth c Z y ret code ml ws T h cells slots) {a : Addr} {z : Int32} {n : Nat} {f : Nat → Value} (k : Nat) (v : Int32) {pc : Nat} (pc' : Nat) {L : Array Slot} {st : List Value} (hd : decode code pc = .ok (.caload, 1)) (F : own_A Z h a .char n f) (hz : z.toInt = (k : Int)) (hk : k < n) (hv : f k = (.int v)) (hp : pc + 1 = pc') (kk : own_Go p e below C T (mkF m pc' L ((.int v) :: st))) : own_Go p e below C T (mkF m pc L (.int z :: .ref a :: st)) := by
  have hsz := own_le W
  obtain ⟨⟨hx, hby, hml, hown, hnm, hrt, hlk, hZ⟩, locs, X, eT, N⟩ := W
  subst hp eT
  obtain ⟨cl, A, hs, hf⟩ := F
  have hat : cl.slots[z.toNatClampNeg]? = some (.int v) := by rw [own_cl hz, hf k hk, hv]
  exact own_st (fun t q => X.caload hx A.1 (State.isArrayOf_alike hZ.alike A.2.1) A.2.2 (own_in hz hs hk) hat (g := mkF m pc L (.int z :: .ref a :: st)) rfl rfl (hb hby hd) t q) kk
theorem own_bastore (W : own_W p l e R s m args below meth c Z y ret code ml ws T h cells slots) {a : Addr} {z : Int32} {n : Nat} {f : Nat → Value} {xx : Int32} (k : Nat) {pc : Nat} (pc' : Nat) {L : Array Slot} {st : List Value} (hd : decode code pc = .ok (.bastore, 1)) (F : own_A Z h a .byte n f) (ha : a ∈ ws ∨ s.heap.size ≤ a) (hz : z.toInt = (k : Int)) (hk : k < n) (hp : pc + 1 = pc') (kk : ∀ T' h', own_W p l e R s m args below meth c Z y ret code ml ws T' h' cells slots → Wr h h' a k (.int xx.toInt8.toInt32) → own_A Z h' a .byte n (own_upd f k (.int xx.toInt8.toInt32)) → own_Go p e below C T' (mkF m pc' L st)) : own_Go p e below C T (mkF m pc L (.int xx :: .int z :: .ref a :: st)) := by
  have hsz := own_le W
  obtain ⟨⟨hx, hby, hml, hown, hnm, hrt, hlk, hZ⟩, locs, X, eT, N⟩ := W
  subst hp
  have F' := F
  obtain ⟨cl, A, hs, hf⟩ := F
  obtain ⟨T', h', X', e', W', st'⟩ := stB X hx hZ eT A (j := z) (own_in hz hs hk) (g := mkF m pc L (.int xx :: .int z :: .ref a :: st)) rfl rfl (hb hby hd)
  rw [own_cl hz] at W'
  exact own_st st' (kk T' h' ⟨⟨hx, hby, hml, hown, hnm, hrt, hlk, hZ⟩, _, X', e', own_Fw_snoc N ha⟩ W' (F'.set W' hk))
theorem own_iastore (W : own_W p l e R s m args below meth c Z y ret code ml ws T h cells slots) {a : Addr} {z : Int32} {n : Nat} {f : Nat → Value} {xx : Int32} (k : Nat) {pc : Nat} (pc' : Nat) {L : Array Slot} {st : List Value} (hd : decode code pc = .ok (.iastore, 1)) (F : own_A Z h a .int n f) (ha : a ∈ ws ∨ s.heap.size ≤ a) (hz : z.toInt = (k : Int)) (hk : k < n) (hp : pc + 1 = pc') (kk : ∀ T' h', own_W p l e R s m args below meth c Z y ret code ml ws T' h' cells slots → Wr h h' a k (.int xx) → own_A Z h' a .int n (own_upd f k (.int xx)) → own_Go p e below C T' (mkF m pc' L st)) : own_Go p e below C T (mkF m pc L (.int xx :: .int z :: .ref a :: st)) := by
  have hsz := own_le W
  obtain ⟨⟨hx, hby, hml, hown, hnm, hrt, hlk, hZ⟩, locs, X, eT, N⟩ := W
  subst hp
  have F' := F
  obtain ⟨cl, A, hs, hf⟩ := F
  obtain ⟨T', h', X', e', W', st'⟩ := stI X hx hZ eT A (j := z) (own_in hz hs hk) (g := mkF m pc L (.int xx :: .int z :: .ref a :: st)) rfl rfl (hb hby hd)
  rw [own_cl hz] at W'
  exact own_st st' (kk T' h' ⟨⟨hx, hby, hml, hown, hnm, hrt, hlk, hZ⟩, _, X', e', own_Fw_snoc N ha⟩ W' (F'.set W' hk))
theorem own_lastore (W : own_W p l e R s m args below meth c Z y ret code ml ws T h cells slots) {a : Addr} {z : Int32} {n : Nat} {f : Nat → Value} {xx : Int64} (k : Nat) {pc : Nat} (pc' : Nat) {L : Array Slot} {st : List Value} (hd : decode code pc = .ok (.lastore, 1)) (F : own_A Z h a .long n f) (ha : a ∈ ws ∨ s.heap.size ≤ a) (hz : z.toInt = (k : Int)) (hk : k < n) (hp : pc + 1 = pc') (kk : ∀ T' h', own_W p l e R s m args below meth c Z y ret code ml ws T' h' cells slots → Wr h h' a k (.long xx) → own_A Z h' a .long n (own_upd f k (.long xx)) → own_Go p e below C T' (mkF m pc' L st)) : own_Go p e below C T (mkF m pc L (.long xx :: .int z :: .ref a :: st)) := by
  have hsz := own_le W
  obtain ⟨⟨hx, hby, hml, hown, hnm, hrt, hlk, hZ⟩, locs, X, eT, N⟩ := W
  subst hp
  have F' := F
  obtain ⟨cl, A, hs, hf⟩ := F
  obtain ⟨T', h', X', e', W', st'⟩ := stJ X hx hZ eT A (j := z) (own_in hz hs hk) (g := mkF m pc L (.long xx :: .int z :: .ref a :: st)) rfl rfl (hb hby hd)
  rw [own_cl hz] at W'
  exact own_st st' (kk T' h' ⟨⟨hx, hby, hml, hown, hnm, hrt, hlk, hZ⟩, _, X', e', own_Fw_snoc N ha⟩ W' (F'.set W' hk))
theorem own_castore (W : own_W p l e R s m args below meth c Z y ret code ml ws T h cells slots) {a : Addr} {z : Int32} {n : Nat} {f : Nat → Value} {xx : Int32} (k : Nat) {pc : Nat} (pc' : Nat) {L : Array Slot} {st : List Value} (hd : decode code pc = .ok (.castore, 1)) (F : own_A Z h a .char n f) (ha : a ∈ ws ∨ s.heap.size ≤ a) (hz : z.toInt = (k : Int)) (hk : k < n) (hp : pc + 1 = pc') (kk : ∀ T' h', own_W p l e R s m args below meth c Z y ret code ml ws T' h' cells slots → Wr h h' a k (.int xx.toUInt32.toUInt16.toUInt32.toInt32) → own_A Z h' a .char n (own_upd f k (.int xx.toUInt32.toUInt16.toUInt32.toInt32)) → own_Go p e below C T' (mkF m pc' L st)) : own_Go p e below C T (mkF m pc L (.int xx :: .int z :: .ref a :: st)) := by
  have hsz := own_le W
  obtain ⟨⟨hx, hby, hml, hown, hnm, hrt, hlk, hZ⟩, locs, X, eT, N⟩ := W
  subst hp
  have F' := F
  obtain ⟨cl, A, hs, hf⟩ := F
  obtain ⟨T', h', X', e', W', st'⟩ := stC X hx hZ eT A (j := z) (own_in hz hs hk) (g := mkF m pc L (.int xx :: .int z :: .ref a :: st)) rfl rfl (hb hby hd)
  rw [own_cl hz] at W'
  exact own_st st' (kk T' h' ⟨⟨hx, hby, hml, hown, hnm, hrt, hlk, hZ⟩, _, X', e', own_Fw_snoc N ha⟩ W' (F'.set W' hk))
theorem own_arraylength (W : own_W p l e R s m args below meth c Z y ret code ml ws T h cells slots) {a : Addr} {ty : FieldType} {n : Nat} {f : Nat → Value} (z : Int32) {pc : Nat} (pc' : Nat) {L : Array Slot} {st : List Value} (hd : decode code pc = .ok (.arraylength, 1)) (F : own_A Z h a ty n f) (hz : n.toInt32 = z) (hp : pc + 1 = pc') (k : own_Go p e below C T (mkF m pc' L (.int z :: st))) : own_Go p e below C T (mkF m pc L (.ref a :: st)) := by
  have hsz := own_le W
  obtain ⟨⟨hx, hby, hml, hown, hnm, hrt, hlk, hZ⟩, locs, X, eT, N⟩ := W
  subst hp eT
  obtain ⟨cl, A, hs, hf⟩ := F
  subst hs hz
  exact own_st (fun t q => X.arraylength hx A.1 (State.isArrayOf_alike hZ.alike A.2.1) (g := mkF m pc L (.ref a :: st)) rfl rfl (hb hby hd) t q) k
/-- an array of references to objects of C (and of what may be stored there) -/
def own_R (Z : State) (h : Heap) (a : Addr) (C0 : String) (n : Nat) (f : Nat → Value) : Prop := ∃ cl : Cell, Arr Z h a cl (.object C0) ∧ Ovr Z cl.cls C0 ∧ cl.slots.size = n ∧ ∀ j, j < n → cl.slots[j]? = some (f j)
theorem own_R.lt {a : Addr} {C0 : String} {n : Nat} {f : Nat → Value} (F : own_R Z h a C0 n f) : a < h.size := by obtain ⟨cl, A, -⟩ := F; exact A.lt
theorem own_R.ext {h' : Heap} {a : Addr} {C0 : String} {n : Nat} {f : Nat → Value} (F : own_R Z h a C0 n f) (E : Ext h h') : own_R Z h' a C0 n f := by obtain ⟨cl, A, r⟩ := F; exact ⟨cl, A.ext E, r⟩
theorem own_R.other {h' : Heap} {a b : Addr} {sl : Nat} {v : Value} {C0 : String} {n : Nat} {f : Nat → Value} (F : own_R Z h b C0 n f) (q : Wr h h' a sl v) (ne : b ≠ a) : own_R Z h' b C0 n f := by obtain ⟨cl, A, r⟩ := F; exact ⟨cl, A.other q ne, r⟩
theorem own_R.keep {h' : Heap} {ws : List Addr} {a : Addr} {C0 : String} {n : Nat} {f : Nat → Value} (F : own_R Z h a C0 n f) (K : Keep h h' ws) (q : a ∉ ws) : own_R Z h' a C0 n f := by obtain ⟨cl, A, r⟩ := F; exact ⟨cl, ⟨K.2.1 a cl A.1 q, A.2⟩, r⟩
theorem own_R.set {h' : Heap} {a : Addr} {C0 : String} {n k : Nat} {f : Nat → Value} {v : Value} (F : own_R Z h a C0 n f) (q : Wr h h' a k v) (hk : k < n) : own_R Z h' a C0 n (own_upd f k v) := by
  obtain ⟨cl, A, O, r1, r2⟩ := F
  refine ⟨cl.setSlot k v, Arr.same q A, O, by rw [sz_set]; exact r1, fun j hj => ?_⟩
  by_cases e : j = k
  · subst e; simp [own_upd, Cell.setSlot, r1, hj]
  · simp only [own_upd, if_neg e, Cell.setSlot]
    rw [Array.getElem?_setIfInBounds_ne (Ne.symm e)]; exact r2 j hj
theorem own_anewarray (W : own_W p l e R s m args below meth c Z y ret code ml ws T h cells slots) {C0 : String} {i : Nat} {z : Int32} (N cap : Nat) {pc : Nat} (pc' : Nat) {L : Array Slot} {st : List Value} (hd : decode code pc = .ok (.anewarray i, 3)) (w1 : (Jvm.Cond.classLink y.cls i C0).before a0 Z = true) (w2 : (Jvm.Cond.arrayOver (.object C0)).before a0 Z = true) (hz : z.toInt = (N : Int)) (hcap : N ≤ cap) (hb8 : cap * 8 ≤ 536870912) (hc : cells + 1 ≤ R.cells) (hl : slots + cap ≤ R.slots) (hp : pc + 3 = pc') (k : ∀ T' h' a, own_W p l e R s m args below meth c Z y ret code ml ws T' h' (cells + 1) (slots + cap) → Ext h h' → a = h.size → s.heap.size ≤ a → own_R Z h' a C0 N (fun _ => .null) → own_Go p e below C T' (mkF m pc' L (.ref a :: st))) : own_Go p e below C T (mkF m pc L (.int z :: st)) := by
  have hsz := own_le W
  obtain ⟨⟨hx, hby, hml, hown, hnm, hrt, hlk, hZ⟩, locs, X, eT, Nf⟩ := W
  subst hp
  have hcl := own_cl hz
  obtain ⟨T', h', cA, X', e', E', A', O', st'⟩ := newR X hx hZ hown w1 w2 eT (g := mkF m pc L (.int z :: st)) rfl (hb hby hd) rfl (own_nn hz) (cap := cap) (by rw [hcl]; exact hcap) hb8 hc hl
  refine own_st st' (k T' h' h.size ⟨⟨hx, hby, hml, hown, hnm, hrt, hlk, hZ⟩, locs, X', e', Nf⟩ E' rfl hsz ⟨_, A', O', by rw [sz_new, hcl], fun j hj => ?_⟩)
  simp [newA, hcl, hj, defaultValue]
theorem own_aastore (W : own_W p l e R s m args below meth c Z y ret code ml ws T h cells slots) {a b : Addr} {C0 : String} {z : Int32} {n : Nat} {f : Nat → Value} (k : Nat) {pc : Nat} (pc' : Nat) {L : Array Slot} {st : List Value} (hd : decode code pc = .ok (.aastore, 1)) (F : own_R Z h a C0 n f) (I : Ins Z h b C0 true) (ha : a ∈ ws ∨ s.heap.size ≤ a) (hz : z.toInt = (k : Int)) (hk : k < n) (hp : pc + 1 = pc') (kk : ∀ T' h', own_W p l e R s m args below meth c Z y ret code ml ws T' h' cells slots → Wr h h' a k (.ref b) → own_R Z h' a C0 n (own_upd f k (.ref b)) → own_Go p e below C T' (mkF m pc' L st)) : own_Go p e below C T (mkF m pc L (.ref b :: .int z :: .ref a :: st)) := by
  have hsz := own_le W
  obtain ⟨⟨hx, hby, hml, hown, hnm, hrt, hlk, hZ⟩, locs, X, eT, N⟩ := W
  subst hp
  have F' := F
  obtain ⟨cl, A, O, hs, hf⟩ := F
  obtain ⟨T', h', X', e', W', st'⟩ := stR X hx hZ eT A (j := z) (own_in hz hs hk) rfl (Sto.of A O I) (g := mkF m pc L (.ref b :: .int z :: .ref a :: st)) rfl rfl (hb hby hd)
  rw [own_cl hz] at W'
  exact own_st st' (kk T' h' ⟨⟨hx, hby, hml, hown, hnm, hrt, hlk, hZ⟩, _, X', e', own_Fw_snoc N ha⟩ W' (F'.set W' hk))
theorem own_aaload (W : own_W p l e R s m args below meth c Z y ret code ml ws T h cells slots) {a : Addr} {C0 : String} {z : Int32} {n : Nat} {f : Nat → Value} (k : Nat) (v : Value) {pc : Nat} (pc' : Nat) {L : Array Slot} {st : List Value} (hd : decode code pc = .ok (.aaload, 1)) (F : own_R Z h a C0 n f) (hz : z.toInt = (k : Int)) (hk : k < n) (hv : f k = v) (hp : pc + 1 = pc') (kk : own_Go p e below C T (mkF m pc' L (v :: st))) : own_Go p e below C T (mkF m pc L (.int z :: .ref a :: st)) := by
  have hsz := own_le W
  obtain ⟨⟨hx, hby, hml, hown, hnm, hrt, hlk, hZ⟩, locs, X, eT, N⟩ := W
  subst hp eT
  obtain ⟨cl, A, O, hs, hf⟩ := F
  have hat : cl.slots[z.toNatClampNeg]? = some v := by rw [own_cl hz, hf k hk, hv]
  exact own_st (fun t q => X.aaload hx A.1 (State.isArrayOf_alike hZ.alike A.2.1) rfl A.2.2 (own_in hz hs hk) hat (g := mkF m pc L (.int z :: .ref a :: st)) rfl rfl (hb hby hd) t q) kk
theorem own_dup2 (W : own_W p l e R s m args below meth c Z y ret code ml ws T h cells slots) {a : Addr} {z : Int32} {pc : Nat} (pc' : Nat) {L : Array Slot} {st : List Value} (hd : decode code pc = .ok (.dup2, 1)) (hp : pc + 1 = pc') (k : own_Go p e below C T (mkF m pc' L (.int z :: .ref a :: .int z :: .ref a :: st))) : own_Go p e below C T (mkF m pc L (.int z :: .ref a :: st)) := by
  have hsz := own_le W
  obtain ⟨⟨hx, hby, hml, hown, hnm, hrt, hlk, hZ⟩, locs, X, eT, N⟩ := W
  subst hp
  refine own_st (fun t q => ?_) k
  show Steps p.tables e below (T.setTop { method := m, pc := pc, locals := L, stack := .int z :: .ref a :: st, locked := none }) _
  jvm_step X.here [X.here.top, hx, (hb hby hd), Value.category]
  exact q
theorem own_gd {n k : Nat} {f : Nat → Value} {d : Value} (hk : k < n) : ((List.range n).map f).getD k d = f k := by simp [List.getD, hk]
theorem own_A.arv {a : Addr} {ty : FieldType} {n : Nat} {f : Nat → Value} (F : own_A Z h a ty n f) (hn : n < 2147483648) (hf : ∀ j, j < n → fits ty (f j) = true) (d : Value) : ∃ k, Arv Z h a k ty n.toInt32 ((List.range n).map f) d := by
  obtain ⟨cl, A, r1, r2⟩ := F
  have hz : n.toInt32.toInt = (n : Int) := len_toInt hn
  refine ⟨cl.cls, cl, A, rfl, by rw [r1, own_cl hz], own_nn hz, fun k hk => ?_, fun i hi => ?_⟩
  · rw [r1] at hk
    rw [r2 k hk, own_gd hk]
  · rw [r1] at hi
    rw [own_gd hi]; exact hf i hi
theorem own_A.of_arv {a : Addr} {k : ClassId} {ty : FieldType} {z : Int32} {n : Nat} {vs : List Value} {d : Value} (F : Arv Z h a k ty z vs d) (hz : z.toInt = (n : Int)) : own_A Z h a ty n (fun j => vs.getD j d) := by
  obtain ⟨cl, A, -, r2, -, H, -⟩ := F
  rw [own_cl hz] at r2
  exact ⟨cl, A, r2, fun j hj => H j (by rw [r2]; exact hj)⟩
theorem own_cpl (f f' : Nat → Value) (n n' i j k : Nat) (d : Value) (h4 : i + k ≤ n) (h5 : j + k ≤ n') (q : Nat) (hq : q < n') :
    (((List.range n').map f').take j ++ (List.range k).map (fun t => ((List.range n).map f).getD (i + t) d) ++ ((List.range n').map f').drop (j + k)).getD q d = if j ≤ q ∧ q < j + k then f (i + (q - j)) else f' q := by
  have hl : (((List.range n').map f').take j).length = j := by simp; omega
  have hm : ((List.range k).map (fun t => ((List.range n).map f).getD (i + t) d)).length = k := by simp
  rw [List.getD_eq_getElem?_getD, List.append_assoc]
  rcases Nat.lt_or_ge q j with h1 | h1
  · rw [List.getElem?_append_left (by omega), if_neg (by omega)]
    simp [List.getElem?_take, h1, hq]
  · rw [List.getElem?_append_right (by omega), hl]
    rcases Nat.lt_or_ge q (j + k) with h2 | h2
    · rw [List.getElem?_append_left (by omega), if_pos ⟨h1, h2⟩, List.getElem?_map, List.getElem?_range (by omega)]
      simp only [Option.map_some, Option.getD_some]
      rw [own_gd (by omega)]
    · rw [List.getElem?_append_right (by omega), hm, if_neg (by omega), List.getElem?_drop]
      rw [show j + k + (q - j - k) = q by omega]
      simp [hq]
theorem own_arraycopy (W : own_W p l e R s m args below meth c Z y ret code ml [] T h cells slots) {i : Nat} {a b : Addr} {ty : FieldType} {n n' : Nat} {f f' : Nat → Value} {sp dp nn : Int32} (i1 j1 k1 wt : Nat) {pc : Nat} (pc' : Nat) {L : Array Slot} {st : List Value} (hd : decode code pc = .ok (.invokestatic i, 3)) (w1 : (Jvm.Cond.methodLink y.cls i Jvm.Stand.acN).before a0 Z = true) (w2 : (Jvm.Cond.native Jvm.Stand.acN).before a0 Z = true) (w3 : (Jvm.Cond.static Jvm.Stand.acN).before a0 Z = true) (w4 : (Jvm.Cond.initialized "java/lang/System").before a0 Z = true) (F : own_A Z h a ty n f) (G : own_A Z h b ty n' f') (hff : ∀ j, j < n → fits ty (f j) = true) (hfg : ∀ j, j < n' → fits ty (f' j) = true) (hn : n < 2147483648) (hn' : n' < 2147483648) (hrk : refKind ty = false) (hsp : sp.toInt = (i1 : Int)) (hdp : dp.toInt = (j1 : Int)) (hnn : nn.toInt = (k1 : Int)) (h4 : i1 + k1 ≤ n) (h5 : j1 + k1 ≤ n') (hob : s.heap.size ≤ b) (hL : L.size = ml) (hwt : (st.map fun v => v.category).sum ≤ wt) (hf : 1 ≤ R.frames) (hlo : wt + (nativeFrameWords "java/lang/System" "arraycopy" 5 + 11) ≤ R.locals) (hp : pc + 3 = pc') (k : ∀ T' h', own_W p l e R s m args below meth c Z y ret code ml [] T' h' cells slots → Keep h h' [b] → own_A Z h' b ty n' (fun q => if j1 ≤ q ∧ q < j1 + k1 then f (i1 + (q - j1)) else f' q) → own_Go p e below C T' (mkF m pc' L st)) : own_Go p e below C T (mkF m pc L (.int nn :: .int dp :: .ref b :: .int sp :: .ref a :: st)) := by
  have hsz := own_le W
  obtain ⟨⟨hx, hby, hml, hown, hnm, hrt, hlk, hZ⟩, locs, X, eT, N⟩ := W
  subst hp
  have NF : Fr s.heap.size locs := fun y hy => (N y hy).resolve_left (fun q => nomatch q)
  obtain ⟨ka, A⟩ := F.arv hn hff (.int 0)
  obtain ⟨kb, B⟩ := G.arv hn' hfg (.int 0)
  have ez : n.toInt32.toNatClampNeg = n := own_cl (len_toInt hn)
  have ez' : n'.toInt32.toNatClampNeg = n' := own_cl (len_toInt hn')
  obtain ⟨T', h', L', X', e', N', K', B', st'⟩ := cpA X hx hZ hown w1 w2 w3 w4 eT A B (Or.inl ⟨rfl, hrk⟩) (own_nn hsp) (own_nn hdp) (own_nn hnn) (by rw [own_cl hsp, own_cl hnn, ez]; exact h4) (by rw [own_cl hdp, own_cl hnn, ez']; exact h5) rfl (by rw [own_cl hdp, own_cl hnn]; simpa using h5) NF hob (g := mkF m pc L (.int nn :: .int dp :: .ref b :: .int sp :: .ref a :: st)) rfl (by rw [hml]; exact hL) rfl (hb hby hd) hf (W := wt) (by show 2 * 0 + _ ≤ _; omega) hlo
  refine own_st st' (k T' h' ⟨⟨hx, hby, hml, hown, hnm, hrt, hlk, hZ⟩, L', X', e', fun y hy => Or.inr (N' y hy)⟩ K' ((own_A.of_arv B' (len_toInt hn')).congr fun q hq => ?_))
  rw [own_cl hsp, own_cl hdp, own_cl hnn]
  exact own_cpl f f' n n' i1 j1 k1 _ h4 h5 q hq
theorem own_new (W : own_W p l e R s m args below meth c Z y ret code ml ws T h cells slots) {C0 : String} {i nn : Nat} {pc : Nat} (pc' : Nat) {L : Array Slot} {st : List Value} (hd : decode code pc = .ok (.new i, 3)) (w : (Jvm.Cond.classLink y.cls i C0).before a0 Z = true) (wi : (Jvm.Cond.instantiable C0 nn).before a0 Z = true) (wz : (Jvm.Cond.initialized C0).before a0 Z = true) (hc : cells + 1 ≤ R.cells) (hl : slots + nn ≤ R.slots) (hp : pc + 3 = pc') (k : ∀ T' h' a, own_W p l e R s m args below meth c Z y ret code ml ws T' h' (cells + 1) (slots + nn) → Ext h h' → a = h.size → s.heap.size ≤ a → Exa Z h' a C0 → (∀ {O nm d : String} {ty : FieldType}, Laid Z a0 C0 O nm d → parseFieldDescriptor d = some ty → Fld Z h' a O nm d (defaultValue ty)) → own_Go p e below C T' (mkF m pc' L (.ref a :: st))) : own_Go p e below C T (mkF m pc L st) := by
  have hsz := own_le W
  obtain ⟨⟨hx, hby, hml, hown, hnm, hrt, hlk, hZ⟩, locs, X, eT, N⟩ := W
  subst hp
  obtain ⟨T', h', X', e', E', A', D', -, st'⟩ := newO X hx hZ hown w wi wz eT (g := mkF m pc L st) rfl (hb hby hd) hc hl
  exact own_st st' (k T' h' h.size ⟨⟨hx, hby, hml, hown, hnm, hrt, hlk, hZ⟩, locs, X', e', N⟩ E' rfl hsz A' D')
theorem own_getfield (W : own_W p l e R s m args below meth c Z y ret code ml ws T h cells slots) {O n d : String} {i : Nat} {a : Addr} {v : Value} {pc : Nat} (pc' : Nat) {L : Array Slot} {st : List Value} (hd : decode code pc = .ok (.getfield i, 3)) (w : (Jvm.Cond.fieldLink y.cls i O n d).before a0 Z = true) (F : Fld Z h a O n d v) (hp : pc + 3 = pc') (k : ∀ T', own_W p l e R s m args below meth c Z y ret code ml ws T' h cells slots → own_Go p e below C T' (mkF m pc' L (v :: st))) : own_Go p e below C T (mkF m pc L (.ref a :: st)) := by
  have hsz := own_le W
  obtain ⟨⟨hx, hby, hml, hown, hnm, hrt, hlk, hZ⟩, locs, X, eT, N⟩ := W
  subst hp
  obtain ⟨T', X', e', st'⟩ := getF X hx hZ hown (host := "") (Or.inl w) Via.refl eT F (g := mkF m pc L (.ref a :: st)) rfl rfl (hb hby hd)
  exact own_st st' (k T' ⟨⟨hx, hby, hml, hown, hnm, hrt, hlk, hZ⟩, locs, X', e', N⟩)
theorem own_getfieldN (W : own_W p l e R s m args below meth c Z y ret code ml ws T h cells slots) {O n d host : String} {i : Nat} {a : Addr} {v : Value} {pc : Nat} (pc' : Nat) {L : Array Slot} {st : List Value} (hd : decode code pc = .ok (.getfield i, 3)) (w : (Jvm.Cond.fieldLinkNest y.cls i O n d host).before a0 Z = true) (F : Fld Z h a O n d v) (hp : pc + 3 = pc') (k : ∀ T', own_W p l e R s m args below meth c Z y ret code ml ws T' h cells slots → own_Go p e below C T' (mkF m pc' L (v :: st))) : own_Go p e below C T (mkF m pc L (.ref a :: st)) := by
  have hsz := own_le W
  obtain ⟨⟨hx, hby, hml, hown, hnm, hrt, hlk, hZ⟩, locs, X, eT, N⟩ := W
  subst hp
  obtain ⟨T', X', e', st'⟩ := getF X hx hZ hown (host := host) (Or.inr w) Via.refl eT F (g := mkF m pc L (.ref a :: st)) rfl rfl (hb hby hd)
  exact own_st st' (k T' ⟨⟨hx, hby, hml, hown, hnm, hrt, hlk, hZ⟩, locs, X', e', N⟩)
theorem own_getstatic (W : own_W p l e R s m args below meth c Z y ret code ml ws T h cells slots) {O n d : String} {i : Nat} {v : Value} {pc : Nat} (pc' : Nat) {L : Array Slot} {st : List Value} (hd : decode code pc = .ok (.getstatic i, 3)) (w : (Jvm.Cond.fieldLink y.cls i O n d).before a0 Z = true) (F : Sta Z h O n d v) (hp : pc + 3 = pc') (k : ∀ T', own_W p l e R s m args below meth c Z y ret code ml ws T' h cells slots → own_Go p e below C T' (mkF m pc' L (v :: st))) : own_Go p e below C T (mkF m pc L st) := by
  have hsz := own_le W
  obtain ⟨⟨hx, hby, hml, hown, hnm, hrt, hlk, hZ⟩, locs, X, eT, N⟩ := W
  subst hp
  obtain ⟨T', X', e', st'⟩ := getS X hx hZ hown (host := "") w Via.refl eT F (g := mkF m pc L st) rfl (hb hby hd)
  exact own_st st' (k T' ⟨⟨hx, hby, hml, hown, hnm, hrt, hlk, hZ⟩, locs, X', e', N⟩)
theorem own_putfield (W : own_W p l e R s m args below meth c Z y ret code ml ws T h cells slots) {O n d C0 : String} {i kk : Nat} {ty : FieldType} {a : Addr} {v old : Value} (v' : Value) {pc : Nat} (pc' : Nat) {L : Array Slot} {st : List Value} (hd : decode code pc = .ok (.putfield i, 3)) (w : (Jvm.Cond.fieldLink y.cls i O n d).before a0 Z = true) (F : Fld Z h a O n d old) (E : Exa Z h a C0) (La : (Jvm.Cond.lays C0 O n d).before a0 Z = true ∨ ((Jvm.Cond.laysFinal C0 O n d).before a0 Z = true ∧ y.cls = O ∧ y.name = "<init>")) (wi : (Jvm.Cond.instantiable C0 kk).before a0 Z = true) (ha : a ∈ ws ∨ s.heap.size ≤ a) (hty : parseFieldDescriptor d = some ty) (hn : narrow ty v = v') (hf : fits ty v' = true) (hp : pc + 3 = pc') (k : ∀ T' h', own_W p l e R s m args below meth c Z y ret code ml ws T' h' cells slots → Wr h h' a (Jvm.RoadKit.slotOf Z O n d) v' → Fld Z h' a O n d v' → own_Go p e below C T' (mkF m pc' L st)) : own_Go p e below C T (mkF m pc L (v :: .ref a :: st)) := by
  have hsz := own_le W
  obtain ⟨⟨hx, hby, hml, hown, hnm, hrt, hlk, hZ⟩, locs, X, eT, N⟩ := W
  subst hp
  obtain ⟨T', h', X', e', W', st'⟩ := putFN X hx hZ hown w Via.refl eT F E (by rw [hnm]; exact La) wi hty hn hf (g := mkF m pc L (v :: .ref a :: st)) rfl rfl (hb hby hd)
  exact own_st st' (k T' h' ⟨⟨hx, hby, hml, hown, hnm, hrt, hlk, hZ⟩, _, X', e', own_Fw_snoc N ha⟩ W' (F.same W'))
theorem own_callS (W : own_W p l e R s m args below meth c Z y ret code ml ws T h cells slots) {i : Nat} {yc : MethodName} {bytes : ByteArray} {maxL : Nat} {rt : Option FieldType} {rm : Room} {Q : Option Value → Heap → Prop} {ps : List FieldType} {rr : Option FieldType} {wc' : List Addr} (A : List Value) (wt : Nat) {pc : Nat} (pc' : Nat) {L : Array Slot} {st : List Value} (hd : decode code pc = .ok (.invokestatic i, 3)) (wl : (Jvm.Cond.methodLink y.cls i yc).before a0 Z = true) (wst : (Jvm.Cond.static yc).before a0 Z = true) (wz : (Jvm.Cond.initialized yc.cls).before a0 Z = true) (wc : (Jvm.Cond.code yc bytes maxL rt).before a0 Z = true) (hy : yc.cls ≠ "java/lang/invoke/MethodHandle" ∧ yc.cls ≠ "java/lang/invoke/VarHandle") (hM : own_M l Z [] yc bytes maxL rt rm wc' A.toArray h Q) (hws : ∀ b ∈ wc', b ∈ ws ∨ s.heap.size ≤ b) (hL : L.size = ml) (hds : parseMethodDescriptor yc.desc = some ⟨ps, rr⟩) (hA : A.length = ps.length) (hwt : (st.map fun v => v.category).sum ≤ wt) (hf : rm.frames + 1 ≤ R.frames) (hlo : wt + (maxL + 11) + rm.locals ≤ R.locals) (hc : cells + rm.cells ≤ R.cells) (hs : slots + rm.slots ≤ R.slots) (hp : pc + 3 = pc') (k : ∀ T' h' v, own_W p l e R s m args below meth c Z y ret code ml ws T' h' (cells + rm.cells) (slots + rm.slots) → Keep h h' wc' → (rm.cells = 0 → wc' = [] → h' = h) → Q v h' → own_Go p e below C T' (mkF m pc' L (v.toList ++ st))) : own_Go p e below C T (mkF m pc L (A.reverse ++ st)) := by
  have hsz := own_le W
  obtain ⟨⟨hx, hby, hml, hown, hnm, hrt, hlk, hZ⟩, locs, X, eT, N⟩ := W
  subst hp
  obtain ⟨_, _, ⟨T', L', k', n'⟩, -, X', ⟨Lc', hQ', l', y', z'⟩, st'⟩ := Jvm.LawKit.callS X hx (y := yc) hown (mvT hZ wl) (mvT hZ wst) (mvT hZ wz) (mvT hZ wc) hy (backOf (W := wt) hM hZ wc wz hf hlo) (g := mkF m pc L (A.reverse ++ st)) rfl (by rw [hml]; exact hL) (argsL := A) (rest := st) (lenOf hds hA) rfl (by show 2 * 0 + _ ≤ _; omega) (hb hby hd) (fun _ _ => ⟨rfl, eT, hc, hs⟩)
  dsimp only [Pt.U, Pt.locs, Pt.cells, Pt.slots] at X' l' y' z' st' hQ'
  subst l' y' z'
  exact own_st st' (k T' _ _ ⟨⟨hx, hby, hml, hown, hnm, hrt, hlk, hZ⟩, _, X', rfl, own_Fw_app N hQ'.1 hws hsz⟩ hQ'.2.1 hQ'.2.2.1 hQ'.2.2.2)
theorem own_callN (W : own_W p l e R s m args below meth c Z y ret code ml ws T h cells slots) {i : Nat} {yc : MethodName} {bytes : ByteArray} {maxL : Nat} {rm : Room} {Q : Option Value → Heap → Prop} {ps : List FieldType} {rr : Option FieldType} {a : Addr} {wc' : List Addr} (A : List Value) (wt : Nat) {pc : Nat} (pc' : Nat) {L : Array Slot} {st : List Value} (hd : decode code pc = .ok (.invokespecial i, 3)) (hi : yc.name = "<init>") (wl : (Jvm.Cond.methodLink y.cls i yc).before a0 Z = true) (wst : (Jvm.Cond.instanceMethod yc).before a0 Z = true) (wz : (Jvm.Cond.initialized yc.cls).before a0 Z = true) (wc : (Jvm.Cond.code yc bytes maxL none).before a0 Z = true) (hy : yc.cls ≠ "java/lang/invoke/MethodHandle" ∧ yc.cls ≠ "java/lang/invoke/VarHandle") (hM : own_M l Z [] yc bytes maxL none rm wc' (.ref a :: A).toArray h Q) (hws : ∀ b ∈ wc', b ∈ ws ∨ s.heap.size ≤ b) (hL : L.size = ml) (hds : parseMethodDescriptor yc.desc = some ⟨ps, rr⟩) (hA : A.length = ps.length) (hwt : (st.map fun v => v.category).sum ≤ wt) (hf : rm.frames + 1 ≤ R.frames) (hlo : wt + (maxL + 11) + rm.locals ≤ R.locals) (hc : cells + rm.cells ≤ R.cells) (hs : slots + rm.slots ≤ R.slots) (hp : pc + 3 = pc') (k : ∀ T' h' v, own_W p l e R s m args below meth c Z y ret code ml ws T' h' (cells + rm.cells) (slots + rm.slots) → Keep h h' wc' → (rm.cells = 0 → wc' = [] → h' = h) → Q v h' → own_Go p e below C T' (mkF m pc' L (v.toList ++ st))) : own_Go p e below C T (mkF m pc L (A.reverse ++ .ref a :: st)) := by
  have hsz := own_le W
  obtain ⟨⟨hx, hby, hml, hown, hnm, hrt, hlk, hZ⟩, locs, X, eT, N⟩ := W
  subst hp
  obtain ⟨_, _, ⟨T', L', k', n'⟩, -, X', ⟨Lc', hQ', l', y', z'⟩, st'⟩ := X.specialBack hx (y := yc) hi hown (mvT hZ wl) (mvT hZ wst) (mvT hZ wc) hy (backOf (W := wt) hM hZ wc wz hf hlo) (g := mkF m pc L (A.reverse ++ .ref a :: st)) rfl (by rw [hml]; exact hL) (Steps.refl _) (a := a) (argsL := A) (rest := st) (lenOf hds hA) rfl (by show 2 * 0 + _ ≤ _; omega) (hb hby hd) (fun _ _ => ⟨rfl, eT, hc, hs⟩)
  dsimp only [Pt.U, Pt.locs, Pt.cells, Pt.slots] at X' l' y' z' st' hQ'
  subst l' y' z'
  exact own_tr st' (k T' _ _ ⟨⟨hx, hby, hml, hown, hnm, hrt, hlk, hZ⟩, _, X', rfl, own_Fw_app N hQ'.1 hws hsz⟩ hQ'.2.1 hQ'.2.2.1 hQ'.2.2.2)
theorem own_callV (W : own_W p l e R s m args below meth c Z y ret code ml ws T h cells slots) {C0 : String} {i : Nat} {yc zc : MethodName} {bytes : ByteArray} {maxL : Nat} {rt : Option FieldType} {rm : Room} {Q : Option Value → Heap → Prop} {ps : List FieldType} {rr : Option FieldType} {a : Addr} {wc' : List Addr} (A : List Value) (wt : Nat) {pc : Nat} (pc' : Nat) {L : Array Slot} {st : List Value} (hd : decode code pc = .ok (.invokevirtual i, 3)) (wl : (Jvm.Cond.methodLink y.cls i yc).before a0 Z = true) (wd : (Jvm.Cond.declares yc).before a0 Z = true) (nf : NotFace s yc) (wse : (Jvm.Cond.selects C0 yc zc).before a0 Z = true) (wst : (Jvm.Cond.instanceMethod zc).before a0 Z = true) (wz : (Jvm.Cond.initialized zc.cls).before a0 Z = true) (wc : (Jvm.Cond.code zc bytes maxL rt).before a0 Z = true) (hy : yc.cls ≠ "java/lang/invoke/MethodHandle" ∧ yc.cls ≠ "java/lang/invoke/VarHandle") (E : Exa Z h a C0) (hM : own_M l Z [] zc bytes maxL rt rm wc' (.ref a :: A).toArray h Q) (hws : ∀ b ∈ wc', b ∈ ws ∨ s.heap.size ≤ b) (hL : L.size = ml) (hds : parseMethodDescriptor yc.desc = some ⟨ps, rr⟩) (hA : A.length = ps.length) (hwt : (st.map fun v => v.category).sum ≤ wt) (hf : rm.frames + 1 ≤ R.frames) (hlo : wt + (maxL + 11) + rm.locals ≤ R.locals) (hc : cells + rm.cells ≤ R.cells) (hs : slots + rm.slots ≤ R.slots) (hp : pc + 3 = pc') (k : ∀ T' h' v, own_W p l e R s m args below meth c Z y ret code ml ws T' h' (cells + rm.cells) (slots + rm.slots) → Keep h h' wc' → (rm.cells = 0 → wc' = [] → h' = h) → Q v h' → own_Go p e below C T' (mkF m pc' L (v.toList ++ st))) : own_Go p e below C T (mkF m pc L (A.reverse ++ .ref a :: st)) := by
  have hsz := own_le W
  obtain ⟨⟨hx, hby, hml, hown, hnm, hrt, hlk, hZ⟩, locs, X, eT, N⟩ := W
  subst hp
  obtain ⟨cq, kq, qa, qb, qc⟩ := isOf hZ eT E
  obtain ⟨_, _, ⟨T', L', k', n'⟩, -, X', ⟨Lc', hQ', l', y', z'⟩, st'⟩ := X.virtualBack hx (y := yc) (z := zc) hown (mvT hZ wl) (mvT hZ wd) nf (mvT hZ wse) (mvT hZ wst) hy (backOf (W := wt) hM hZ wc wz hf hlo) qa qc (g := mkF m pc L (A.reverse ++ .ref a :: st)) rfl (by rw [hml]; exact hL) (Steps.refl _) (argsL := A) (rest := st) (lenOf hds hA) rfl (by show 2 * 0 + _ ≤ _; omega) (hb hby hd) (fun _ _ => ⟨rfl, eT, hc, hs⟩)
  dsimp only [Pt.U, Pt.locs, Pt.cells, Pt.slots] at X' l' y' z' st' hQ'
  subst l' y' z'
  exact own_tr st' (k T' _ _ ⟨⟨hx, hby, hml, hown, hnm, hrt, hlk, hZ⟩, _, X', rfl, own_Fw_app N hQ'.1 hws hsz⟩ hQ'.2.1 hQ'.2.2.1 hQ'.2.2.2)
theorem own_nf (W : own_W p l e R s m args below meth c Z y ret code ml ws T h cells slots) {C0 : String} {yc : MethodName} (wse : (Jvm.Cond.selects C0 yc yc).before a0 Z = true) : NotFace s yc := by
  have hsz := own_le W
  obtain ⟨⟨hx, hby, hml, hown, hnm, hrt, hlk, hZ⟩, locs, X, eT, N⟩ := W
  exact notFace_of_selects (args := #[]) (mvT hZ wse)
theorem own_initO (W : own_W p l e R s m args below meth c Z y ret code ml ws T h cells slots) {i : Nat} {a : Addr} (wt : Nat) {pc : Nat} (pc' : Nat) {L : Array Slot} {st : List Value} (hd : decode code pc = .ok (.invokespecial i, 3)) (w1 : (Jvm.Cond.methodLink y.cls i Lib.objectInit).before a0 Z = true) (w2 : (Jvm.Cond.instanceMethod Lib.objectInit).before a0 Z = true) (w3 : (Jvm.Cond.code Lib.objectInit ⟨#[0xb1]⟩ 1 none).before a0 Z = true) (hL : L.size = ml) (hwt : (st.map fun v => v.category).sum ≤ wt) (hf : 1 ≤ R.frames) (hlo : wt + 12 ≤ R.locals) (hp : pc + 3 = pc') (k : ∀ T', own_W p l e R s m args below meth c Z y ret code ml ws T' h cells slots → own_Go p e below C T' (mkF m pc' L st)) : own_Go p e below C T (mkF m pc L (.ref a :: st)) := by
  have hsz := own_le W
  obtain ⟨⟨hx, hby, hml, hown, hnm, hrt, hlk, hZ⟩, locs, X, eT, N⟩ := W
  subst hp
  obtain ⟨T', X', e', st'⟩ := initO X hx hZ hown w1 w2 w3 eT (g := mkF m pc L (.ref a :: st)) rfl (by rw [hml]; exact hL) rfl (hb hby hd) hf (W := wt) (by show 2 * 0 + _ ≤ _; omega) hlo
  exact own_st st' (k T' ⟨⟨hx, hby, hml, hown, hnm, hrt, hlk, hZ⟩, locs, X', e', N⟩)
theorem own_b1 {P : Prop} [Decidable P] (q : P) : ¬ (if P then (1 : Int32) else 0) = 0 := by rw [if_pos q]; decide
theorem own_b0 {P : Prop} [Decidable P] (q : ¬ P) : (if P then (1 : Int32) else 0) = 0 := if_neg q
theorem own_bz {P : Prop} [Decidable P] : (if P then (1 : Int32) else 0) &&& 1 = if P then (1 : Int32) else 0 := by split <;> rfl
end OwnKit

theorem wd0 {a0 : Array Value} {Z : State} (hw : ∀ d ∈ tables_1, d.before a0 Z = true) : (Jvm.Cond.constant "com/example/nodemata/nodemata/PairNumbersSetPinLaw" (7 : Nat) (2147483647 : Int32)).before a0 Z = true := hw _ (List.mem_of_getElem? (i := 0) rfl)
theorem wd1 {a0 : Array Value} {Z : State} (hw : ∀ d ∈ tables_1, d.before a0 Z = true) : (Jvm.Cond.classLink "com/example/nodemata/nodemata/PairNumbersSetPinLaw" (8 : Nat) "com/example/nodemata/nodemata/PairNumbers").before a0 Z = true := hw _ (List.mem_of_getElem? (i := 1) rfl)
theorem wd2 {a0 : Array Value} {Z : State} (hw : ∀ d ∈ tables_1, d.before a0 Z = true) : (Jvm.Cond.instantiable "com/example/nodemata/nodemata/PairNumbers" (6 : Nat)).before a0 Z = true := hw _ (List.mem_of_getElem? (i := 2) rfl)
theorem wd3 {a0 : Array Value} {Z : State} (hw : ∀ d ∈ tables_1, d.before a0 Z = true) : (Jvm.Cond.initialized "com/example/nodemata/nodemata/PairNumbers").before a0 Z = true := hw _ (List.mem_of_getElem? (i := 3) rfl)
theorem wd4 {a0 : Array Value} {Z : State} (hw : ∀ d ∈ tables_1, d.before a0 Z = true) : (Jvm.Cond.methodLink "com/example/nodemata/nodemata/PairNumbersSetPinLaw" (10 : Nat) ({ cls := "com/example/nodemata/nodemata/PairNumbers", name := "<init>", desc := "(I)V" } : Jvm.MethodName)).before a0 Z = true := hw _ (List.mem_of_getElem? (i := 4) rfl)
theorem wd5 {a0 : Array Value} {Z : State} (hw : ∀ d ∈ tables_1, d.before a0 Z = true) : (Jvm.Cond.instanceMethod ({ cls := "com/example/nodemata/nodemata/PairNumbers", name := "<init>", desc := "(I)V" } : Jvm.MethodName)).before a0 Z = true := hw _ (List.mem_of_getElem? (i := 5) rfl)
theorem wd6 {a0 : Array Value} {Z : State} (hw : ∀ d ∈ tables_1, d.before a0 Z = true) : (Jvm.Cond.code ({ cls := "com/example/nodemata/nodemata/PairNumbers", name := "<init>", desc := "(I)V" } : Jvm.MethodName) prog_83_method_1_code (2 : Nat) (Option.none : Option Jvm.ClassFile.FieldType)).before a0 Z = true := hw _ (List.mem_of_getElem? (i := 6) rfl)
theorem wd7 {a0 : Array Value} {Z : State} (hw : ∀ d ∈ tables_1, d.before a0 Z = true) : (Jvm.Cond.methodLink "com/example/nodemata/nodemata/PairNumbers" (1 : Nat) ({ cls := "java/lang/Object", name := "<init>", desc := "()V" } : Jvm.MethodName)).before a0 Z = true := hw _ (List.mem_of_getElem? (i := 7) rfl)
theorem wd8 {a0 : Array Value} {Z : State} (hw : ∀ d ∈ tables_1, d.before a0 Z = true) : (Jvm.Cond.instanceMethod ({ cls := "java/lang/Object", name := "<init>", desc := "()V" } : Jvm.MethodName)).before a0 Z = true := hw _ (List.mem_of_getElem? (i := 8) rfl)
theorem wd9 {a0 : Array Value} {Z : State} (hw : ∀ d ∈ tables_1, d.before a0 Z = true) : (Jvm.Cond.code ({ cls := "java/lang/Object", name := "<init>", desc := "()V" } : Jvm.MethodName) object_method_1_code (1 : Nat) (Option.none : Option Jvm.ClassFile.FieldType)).before a0 Z = true := hw _ (List.mem_of_getElem? (i := 9) rfl)
theorem wd10 {a0 : Array Value} {Z : State} (hw : ∀ d ∈ tables_1, d.before a0 Z = true) : (Jvm.Cond.arrayClass Jvm.ClassFile.FieldType.long).before a0 Z = true := hw _ (List.mem_of_getElem? (i := 10) rfl)
theorem wd11 {a0 : Array Value} {Z : State} (hw : ∀ d ∈ tables_1, d.before a0 Z = true) : (Jvm.Cond.fieldLink "com/example/nodemata/nodemata/PairNumbers" (7 : Nat) "com/example/nodemata/nodemata/PairNumbers" "pairs" "[J").before a0 Z = true := hw _ (List.mem_of_getElem? (i := 11) rfl)
theorem wd12 {a0 : Array Value} {Z : State} (hw : ∀ d ∈ tables_1, d.before a0 Z = true) : (Jvm.Cond.lays "com/example/nodemata/nodemata/PairNumbers" "com/example/nodemata/nodemata/PairNumbers" "pairs" "[J").before a0 Z = true := hw _ (List.mem_of_getElem? (i := 12) rfl)
theorem wd13 {a0 : Array Value} {Z : State} (hw : ∀ d ∈ tables_1, d.before a0 Z = true) : (Jvm.Cond.fieldLink "com/example/nodemata/nodemata/PairNumbers" (13 : Nat) "com/example/nodemata/nodemata/PairNumbers" "sortedPairs" "[J").before a0 Z = true := hw _ (List.mem_of_getElem? (i := 13) rfl)
theorem wd14 {a0 : Array Value} {Z : State} (hw : ∀ d ∈ tables_1, d.before a0 Z = true) : (Jvm.Cond.lays "com/example/nodemata/nodemata/PairNumbers" "com/example/nodemata/nodemata/PairNumbers" "sortedPairs" "[J").before a0 Z = true := hw _ (List.mem_of_getElem? (i := 14) rfl)
theorem wd15 {a0 : Array Value} {Z : State} (hw : ∀ d ∈ tables_1, d.before a0 Z = true) : (Jvm.Cond.arrayClass Jvm.ClassFile.FieldType.int).before a0 Z = true := hw _ (List.mem_of_getElem? (i := 15) rfl)
theorem wd16 {a0 : Array Value} {Z : State} (hw : ∀ d ∈ tables_1, d.before a0 Z = true) : (Jvm.Cond.fieldLink "com/example/nodemata/nodemata/PairNumbers" (16 : Nat) "com/example/nodemata/nodemata/PairNumbers" "indices" "[I").before a0 Z = true := hw _ (List.mem_of_getElem? (i := 16) rfl)
theorem wd17 {a0 : Array Value} {Z : State} (hw : ∀ d ∈ tables_1, d.before a0 Z = true) : (Jvm.Cond.lays "com/example/nodemata/nodemata/PairNumbers" "com/example/nodemata/nodemata/PairNumbers" "indices" "[I").before a0 Z = true := hw _ (List.mem_of_getElem? (i := 17) rfl)
theorem wd18 {a0 : Array Value} {Z : State} (hw : ∀ d ∈ tables_1, d.before a0 Z = true) : (Jvm.Cond.fieldLink "com/example/nodemata/nodemata/PairNumbers" (20 : Nat) "com/example/nodemata/nodemata/PairNumbers" "sortedIndices" "[I").before a0 Z = true := hw _ (List.mem_of_getElem? (i := 18) rfl)
theorem wd19 {a0 : Array Value} {Z : State} (hw : ∀ d ∈ tables_1, d.before a0 Z = true) : (Jvm.Cond.lays "com/example/nodemata/nodemata/PairNumbers" "com/example/nodemata/nodemata/PairNumbers" "sortedIndices" "[I").before a0 Z = true := hw _ (List.mem_of_getElem? (i := 19) rfl)
theorem wd20 {a0 : Array Value} {Z : State} (hw : ∀ d ∈ tables_1, d.before a0 Z = true) : (Jvm.Cond.fieldLink "com/example/nodemata/nodemata/PairNumbers" (23 : Nat) "com/example/nodemata/nodemata/PairNumbers" "numbers" "[I").before a0 Z = true := hw _ (List.mem_of_getElem? (i := 20) rfl)
theorem wd21 {a0 : Array Value} {Z : State} (hw : ∀ d ∈ tables_1, d.before a0 Z = true) : (Jvm.Cond.laysFinal "com/example/nodemata/nodemata/PairNumbers" "com/example/nodemata/nodemata/PairNumbers" "numbers" "[I").before a0 Z = true := hw _ (List.mem_of_getElem? (i := 21) rfl)
theorem wd22 {a0 : Array Value} {Z : State} (hw : ∀ d ∈ tables_1, d.before a0 Z = true) : (Jvm.Cond.methodLink "com/example/nodemata/nodemata/PairNumbersSetPinLaw" (13 : Nat) ({ cls := "com/example/nodemata/nodemata/PairNumbers", name := "start", desc := "(I)V" } : Jvm.MethodName)).before a0 Z = true := hw _ (List.mem_of_getElem? (i := 22) rfl)
theorem wd23 {a0 : Array Value} {Z : State} (hw : ∀ d ∈ tables_1, d.before a0 Z = true) : (Jvm.Cond.declares ({ cls := "com/example/nodemata/nodemata/PairNumbers", name := "start", desc := "(I)V" } : Jvm.MethodName)).before a0 Z = true := hw _ (List.mem_of_getElem? (i := 23) rfl)
theorem wd24 {a0 : Array Value} {Z : State} (hw : ∀ d ∈ tables_1, d.before a0 Z = true) : (Jvm.Cond.instanceMethod ({ cls := "com/example/nodemata/nodemata/PairNumbers", name := "start", desc := "(I)V" } : Jvm.MethodName)).before a0 Z = true := hw _ (List.mem_of_getElem? (i := 24) rfl)
theorem wd25 {a0 : Array Value} {Z : State} (hw : ∀ d ∈ tables_1, d.before a0 Z = true) : (Jvm.Cond.selects "com/example/nodemata/nodemata/PairNumbers" ({ cls := "com/example/nodemata/nodemata/PairNumbers", name := "start", desc := "(I)V" } : Jvm.MethodName) ({ cls := "com/example/nodemata/nodemata/PairNumbers", name := "start", desc := "(I)V" } : Jvm.MethodName)).before a0 Z = true := hw _ (List.mem_of_getElem? (i := 25) rfl)
theorem wd26 {a0 : Array Value} {Z : State} (hw : ∀ d ∈ tables_1, d.before a0 Z = true) : (Jvm.Cond.code ({ cls := "com/example/nodemata/nodemata/PairNumbers", name := "start", desc := "(I)V" } : Jvm.MethodName) prog_83_method_2_code (2 : Nat) (Option.none : Option Jvm.ClassFile.FieldType)).before a0 Z = true := hw _ (List.mem_of_getElem? (i := 26) rfl)
theorem wd27 {a0 : Array Value} {Z : State} (hw : ∀ d ∈ tables_1, d.before a0 Z = true) : (Jvm.Cond.fieldLink "com/example/nodemata/nodemata/PairNumbers" (26 : Nat) "com/example/nodemata/nodemata/PairNumbers" "count" "I").before a0 Z = true := hw _ (List.mem_of_getElem? (i := 27) rfl)
theorem wd28 {a0 : Array Value} {Z : State} (hw : ∀ d ∈ tables_1, d.before a0 Z = true) : (Jvm.Cond.lays "com/example/nodemata/nodemata/PairNumbers" "com/example/nodemata/nodemata/PairNumbers" "count" "I").before a0 Z = true := hw _ (List.mem_of_getElem? (i := 28) rfl)
theorem wd29 {a0 : Array Value} {Z : State} (hw : ∀ d ∈ tables_1, d.before a0 Z = true) : (Jvm.Cond.methodLink "com/example/nodemata/nodemata/PairNumbersSetPinLaw" (16 : Nat) ({ cls := "com/example/nodemata/nodemata/PairNumbers", name := "set", desc := "(III)V" } : Jvm.MethodName)).before a0 Z = true := hw _ (List.mem_of_getElem? (i := 29) rfl)
theorem wd30 {a0 : Array Value} {Z : State} (hw : ∀ d ∈ tables_1, d.before a0 Z = true) : (Jvm.Cond.declares ({ cls := "com/example/nodemata/nodemata/PairNumbers", name := "set", desc := "(III)V" } : Jvm.MethodName)).before a0 Z = true := hw _ (List.mem_of_getElem? (i := 30) rfl)
theorem wd31 {a0 : Array Value} {Z : State} (hw : ∀ d ∈ tables_1, d.before a0 Z = true) : (Jvm.Cond.instanceMethod ({ cls := "com/example/nodemata/nodemata/PairNumbers", name := "set", desc := "(III)V" } : Jvm.MethodName)).before a0 Z = true := hw _ (List.mem_of_getElem? (i := 31) rfl)
theorem wd32 {a0 : Array Value} {Z : State} (hw : ∀ d ∈ tables_1, d.before a0 Z = true) : (Jvm.Cond.selects "com/example/nodemata/nodemata/PairNumbers" ({ cls := "com/example/nodemata/nodemata/PairNumbers", name := "set", desc := "(III)V" } : Jvm.MethodName) ({ cls := "com/example/nodemata/nodemata/PairNumbers", name := "set", desc := "(III)V" } : Jvm.MethodName)).before a0 Z = true := hw _ (List.mem_of_getElem? (i := 32) rfl)
theorem wd33 {a0 : Array Value} {Z : State} (hw : ∀ d ∈ tables_1, d.before a0 Z = true) : (Jvm.Cond.code ({ cls := "com/example/nodemata/nodemata/PairNumbers", name := "set", desc := "(III)V" } : Jvm.MethodName) prog_83_method_3_code (4 : Nat) (Option.none : Option Jvm.ClassFile.FieldType)).before a0 Z = true := hw _ (List.mem_of_getElem? (i := 33) rfl)
theorem wd34 {a0 : Array Value} {Z : State} (hw : ∀ d ∈ tables_1, d.before a0 Z = true) : (Jvm.Cond.fieldLink "com/example/nodemata/nodemata/PairNumbers" (30 : Nat) "com/example/nodemata/nodemata/PairNumbers" "$assertionsDisabled" "Z").before a0 Z = true := hw _ (List.mem_of_getElem? (i := 34) rfl)
theorem wd36 {a0 : Array Value} {Z : State} (hw : ∀ d ∈ tables_1, d.before a0 Z = true) : (Jvm.Cond.methodLink "com/example/nodemata/nodemata/PairNumbersSetPinLaw" (20 : Nat) ({ cls := "com/example/nodemata/nodemata/PairNumbers", name := "number", desc := "()I" } : Jvm.MethodName)).before a0 Z = true := hw _ (List.mem_of_getElem? (i := 36) rfl)
theorem wd37 {a0 : Array Value} {Z : State} (hw : ∀ d ∈ tables_1, d.before a0 Z = true) : (Jvm.Cond.declares ({ cls := "com/example/nodemata/nodemata/PairNumbers", name := "number", desc := "()I" } : Jvm.MethodName)).before a0 Z = true := hw _ (List.mem_of_getElem? (i := 37) rfl)
theorem wd38 {a0 : Array Value} {Z : State} (hw : ∀ d ∈ tables_1, d.before a0 Z = true) : (Jvm.Cond.instanceMethod ({ cls := "com/example/nodemata/nodemata/PairNumbers", name := "number", desc := "()I" } : Jvm.MethodName)).before a0 Z = true := hw _ (List.mem_of_getElem? (i := 38) rfl)
theorem wd39 {a0 : Array Value} {Z : State} (hw : ∀ d ∈ tables_1, d.before a0 Z = true) : (Jvm.Cond.selects "com/example/nodemata/nodemata/PairNumbers" ({ cls := "com/example/nodemata/nodemata/PairNumbers", name := "number", desc := "()I" } : Jvm.MethodName) ({ cls := "com/example/nodemata/nodemata/PairNumbers", name := "number", desc := "()I" } : Jvm.MethodName)).before a0 Z = true := hw _ (List.mem_of_getElem? (i := 39) rfl)
theorem wd40 {a0 : Array Value} {Z : State} (hw : ∀ d ∈ tables_1, d.before a0 Z = true) : (Jvm.Cond.code ({ cls := "com/example/nodemata/nodemata/PairNumbers", name := "number", desc := "()I" } : Jvm.MethodName) prog_83_method_4_code (3 : Nat) (Option.some Jvm.ClassFile.FieldType.int)).before a0 Z = true := hw _ (List.mem_of_getElem? (i := 40) rfl)
theorem wd41 {a0 : Array Value} {Z : State} (hw : ∀ d ∈ tables_1, d.before a0 Z = true) : (Jvm.Cond.methodLink "com/example/nodemata/nodemata/PairNumbers" (45 : Nat) ({ cls := "com/example/nodemata/nodemata/PairNumbers", name := "sort", desc := "()V" } : Jvm.MethodName)).before a0 Z = true := hw _ (List.mem_of_getElem? (i := 41) rfl)
theorem wd42 {a0 : Array Value} {Z : State} (hw : ∀ d ∈ tables_1, d.before a0 Z = true) : (Jvm.Cond.instanceMethod ({ cls := "com/example/nodemata/nodemata/PairNumbers", name := "sort", desc := "()V" } : Jvm.MethodName)).before a0 Z = true := hw _ (List.mem_of_getElem? (i := 42) rfl)
theorem wd43 {a0 : Array Value} {Z : State} (hw : ∀ d ∈ tables_1, d.before a0 Z = true) : (Jvm.Cond.privateMethod ({ cls := "com/example/nodemata/nodemata/PairNumbers", name := "sort", desc := "()V" } : Jvm.MethodName)).before a0 Z = true := hw _ (List.mem_of_getElem? (i := 43) rfl)
theorem wd44 {a0 : Array Value} {Z : State} (hw : ∀ d ∈ tables_1, d.before a0 Z = true) : (Jvm.Cond.code ({ cls := "com/example/nodemata/nodemata/PairNumbers", name := "sort", desc := "()V" } : Jvm.MethodName) prog_83_method_6_code (18 : Nat) (Option.none : Option Jvm.ClassFile.FieldType)).before a0 Z = true := hw _ (List.mem_of_getElem? (i := 44) rfl)
theorem wd45 {a0 : Array Value} {Z : State} (hw : ∀ d ∈ tables_1, d.before a0 Z = true) : (Jvm.Cond.constantLong "com/example/nodemata/nodemata/PairNumbers" (48 : Nat) (4294967295 : Int64)).before a0 Z = true := hw _ (List.mem_of_getElem? (i := 45) rfl)
theorem wd46 {a0 : Array Value} {Z : State} (hw : ∀ d ∈ tables_1, d.before a0 Z = true) : (Jvm.Cond.methodLink "com/example/nodemata/nodemata/PairNumbers" (52 : Nat) ({ cls := "java/lang/Long", name := "numberOfLeadingZeros", desc := "(J)I" } : Jvm.MethodName)).before a0 Z = true := hw _ (List.mem_of_getElem? (i := 46) rfl)
theorem wd47 {a0 : Array Value} {Z : State} (hw : ∀ d ∈ tables_1, d.before a0 Z = true) : (Jvm.Cond.static ({ cls := "java/lang/Long", name := "numberOfLeadingZeros", desc := "(J)I" } : Jvm.MethodName)).before a0 Z = true := hw _ (List.mem_of_getElem? (i := 47) rfl)
theorem wd48 {a0 : Array Value} {Z : State} (hw : ∀ d ∈ tables_1, d.before a0 Z = true) : (Jvm.Cond.initialized "java/lang/Long").before a0 Z = true := hw _ (List.mem_of_getElem? (i := 48) rfl)
theorem wd49 {a0 : Array Value} {Z : State} (hw : ∀ d ∈ tables_1, d.before a0 Z = true) : (Jvm.Cond.code ({ cls := "java/lang/Long", name := "numberOfLeadingZeros", desc := "(J)I" } : Jvm.MethodName) jdk_35_method_48_code (3 : Nat) (Option.some Jvm.ClassFile.FieldType.int)).before a0 Z = true := hw _ (List.mem_of_getElem? (i := 49) rfl)
theorem wd50 {a0 : Array Value} {Z : State} (hw : ∀ d ∈ tables_1, d.before a0 Z = true) : (Jvm.Cond.methodLink "java/lang/Long" (308 : Nat) ({ cls := "java/lang/Integer", name := "numberOfLeadingZeros", desc := "(I)I" } : Jvm.MethodName)).before a0 Z = true := hw _ (List.mem_of_getElem? (i := 50) rfl)
theorem wd51 {a0 : Array Value} {Z : State} (hw : ∀ d ∈ tables_1, d.before a0 Z = true) : (Jvm.Cond.static ({ cls := "java/lang/Integer", name := "numberOfLeadingZeros", desc := "(I)I" } : Jvm.MethodName)).before a0 Z = true := hw _ (List.mem_of_getElem? (i := 51) rfl)
theorem wd52 {a0 : Array Value} {Z : State} (hw : ∀ d ∈ tables_1, d.before a0 Z = true) : (Jvm.Cond.initialized "java/lang/Integer").before a0 Z = true := hw _ (List.mem_of_getElem? (i := 52) rfl)
theorem wd53 {a0 : Array Value} {Z : State} (hw : ∀ d ∈ tables_1, d.before a0 Z = true) : (Jvm.Cond.code ({ cls := "java/lang/Integer", name := "numberOfLeadingZeros", desc := "(I)I" } : Jvm.MethodName) jdk_33_method_47_code (2 : Nat) (Option.some Jvm.ClassFile.FieldType.int)).before a0 Z = true := hw _ (List.mem_of_getElem? (i := 53) rfl)
theorem wd54 {a0 : Array Value} {Z : State} (hw : ∀ d ∈ tables_1, d.before a0 Z = true) : (Jvm.Cond.constant "java/lang/Integer" (264 : Nat) (65536 : Int32)).before a0 Z = true := hw _ (List.mem_of_getElem? (i := 54) rfl)
theorem wd55 {a0 : Array Value} {Z : State} (hw : ∀ d ∈ tables_1, d.before a0 Z = true) : (Jvm.Cond.methodLink "com/example/nodemata/nodemata/PairNumbers" (56 : Nat) ({ cls := "java/lang/Integer", name := "numberOfLeadingZeros", desc := "(I)I" } : Jvm.MethodName)).before a0 Z = true := hw _ (List.mem_of_getElem? (i := 55) rfl)
theorem wd56 {a0 : Array Value} {Z : State} (hw : ∀ d ∈ tables_1, d.before a0 Z = true) : (Jvm.Cond.methodLink "com/example/nodemata/nodemata/PairNumbers" (59 : Nat) ({ cls := "java/lang/Math", name := "min", desc := "(II)I" } : Jvm.MethodName)).before a0 Z = true := hw _ (List.mem_of_getElem? (i := 56) rfl)
theorem wd57 {a0 : Array Value} {Z : State} (hw : ∀ d ∈ tables_1, d.before a0 Z = true) : (Jvm.Cond.static ({ cls := "java/lang/Math", name := "min", desc := "(II)I" } : Jvm.MethodName)).before a0 Z = true := hw _ (List.mem_of_getElem? (i := 57) rfl)
theorem wd58 {a0 : Array Value} {Z : State} (hw : ∀ d ∈ tables_1, d.before a0 Z = true) : (Jvm.Cond.initialized "java/lang/Math").before a0 Z = true := hw _ (List.mem_of_getElem? (i := 58) rfl)
theorem wd59 {a0 : Array Value} {Z : State} (hw : ∀ d ∈ tables_1, d.before a0 Z = true) : (Jvm.Cond.code ({ cls := "java/lang/Math", name := "min", desc := "(II)I" } : Jvm.MethodName) jdk_29_method_69_code (2 : Nat) (Option.some Jvm.ClassFile.FieldType.int)).before a0 Z = true := hw _ (List.mem_of_getElem? (i := 59) rfl)
theorem wd60 {a0 : Array Value} {Z : State} (hw : ∀ d ∈ tables_1, d.before a0 Z = true) : (Jvm.Cond.methodLink "com/example/nodemata/nodemata/PairNumbers" (65 : Nat) ({ cls := "com/example/nodemata/nodemata/PairNumbers", name := "digit", desc := "(JII)I" } : Jvm.MethodName)).before a0 Z = true := hw _ (List.mem_of_getElem? (i := 60) rfl)
theorem wd61 {a0 : Array Value} {Z : State} (hw : ∀ d ∈ tables_1, d.before a0 Z = true) : (Jvm.Cond.static ({ cls := "com/example/nodemata/nodemata/PairNumbers", name := "digit", desc := "(JII)I" } : Jvm.MethodName)).before a0 Z = true := hw _ (List.mem_of_getElem? (i := 61) rfl)
theorem wd62 {a0 : Array Value} {Z : State} (hw : ∀ d ∈ tables_1, d.before a0 Z = true) : (Jvm.Cond.code ({ cls := "com/example/nodemata/nodemata/PairNumbers", name := "digit", desc := "(JII)I" } : Jvm.MethodName) prog_83_method_7_code (4 : Nat) (Option.some Jvm.ClassFile.FieldType.int)).before a0 Z = true := hw _ (List.mem_of_getElem? (i := 62) rfl)
theorem wd63 {a0 : Array Value} {Z : State} (hw : ∀ d ∈ tables_1, d.before a0 Z = true) : (Jvm.Cond.methodLink "com/example/nodemata/nodemata/PairNumbersSetPinLaw" (24 : Nat) ({ cls := "com/example/nodemata/nodemata/PairNumbersSetPinLaw", name := "rank", desc := "(IIIIII)I" } : Jvm.MethodName)).before a0 Z = true := hw _ (List.mem_of_getElem? (i := 63) rfl)
theorem wd64 {a0 : Array Value} {Z : State} (hw : ∀ d ∈ tables_1, d.before a0 Z = true) : (Jvm.Cond.static ({ cls := "com/example/nodemata/nodemata/PairNumbersSetPinLaw", name := "rank", desc := "(IIIIII)I" } : Jvm.MethodName)).before a0 Z = true := hw _ (List.mem_of_getElem? (i := 64) rfl)
theorem wd65 {a0 : Array Value} {Z : State} (hw : ∀ d ∈ tables_1, d.before a0 Z = true) : (Jvm.Cond.initialized "com/example/nodemata/nodemata/PairNumbersSetPinLaw").before a0 Z = true := hw _ (List.mem_of_getElem? (i := 65) rfl)
theorem wd66 {a0 : Array Value} {Z : State} (hw : ∀ d ∈ tables_1, d.before a0 Z = true) : (Jvm.Cond.code ({ cls := "com/example/nodemata/nodemata/PairNumbersSetPinLaw", name := "rank", desc := "(IIIIII)I" } : Jvm.MethodName) method_4_code (9 : Nat) (Option.some Jvm.ClassFile.FieldType.int)).before a0 Z = true := hw _ (List.mem_of_getElem? (i := 66) rfl)
theorem wd67 {a0 : Array Value} {Z : State} (hw : ∀ d ∈ tables_1, d.before a0 Z = true) : (Jvm.Cond.methodLink "com/example/nodemata/nodemata/PairNumbersSetPinLaw" (34 : Nat) ({ cls := "com/example/nodemata/nodemata/PairNumbersSetPinLaw", name := "lt", desc := "(IIII)Z" } : Jvm.MethodName)).before a0 Z = true := hw _ (List.mem_of_getElem? (i := 67) rfl)
theorem wd68 {a0 : Array Value} {Z : State} (hw : ∀ d ∈ tables_1, d.before a0 Z = true) : (Jvm.Cond.static ({ cls := "com/example/nodemata/nodemata/PairNumbersSetPinLaw", name := "lt", desc := "(IIII)Z" } : Jvm.MethodName)).before a0 Z = true := hw _ (List.mem_of_getElem? (i := 68) rfl)
theorem wd69 {a0 : Array Value} {Z : State} (hw : ∀ d ∈ tables_1, d.before a0 Z = true) : (Jvm.Cond.code ({ cls := "com/example/nodemata/nodemata/PairNumbersSetPinLaw", name := "lt", desc := "(IIII)Z" } : Jvm.MethodName) method_3_code (4 : Nat) (Option.some Jvm.ClassFile.FieldType.boolean)).before a0 Z = true := hw _ (List.mem_of_getElem? (i := 69) rfl)
theorem wd70 {a0 : Array Value} {Z : State} (hw : ∀ d ∈ tables_1, d.before a0 Z = true) : (Jvm.Cond.methodLink "com/example/nodemata/nodemata/PairNumbersSetPinLaw" (30 : Nat) ({ cls := "com/example/nodemata/nodemata/PairNumbers", name := "numberOf", desc := "(I)I" } : Jvm.MethodName)).before a0 Z = true := hw _ (List.mem_of_getElem? (i := 70) rfl)
theorem wd71 {a0 : Array Value} {Z : State} (hw : ∀ d ∈ tables_1, d.before a0 Z = true) : (Jvm.Cond.declares ({ cls := "com/example/nodemata/nodemata/PairNumbers", name := "numberOf", desc := "(I)I" } : Jvm.MethodName)).before a0 Z = true := hw _ (List.mem_of_getElem? (i := 71) rfl)
theorem wd72 {a0 : Array Value} {Z : State} (hw : ∀ d ∈ tables_1, d.before a0 Z = true) : (Jvm.Cond.instanceMethod ({ cls := "com/example/nodemata/nodemata/PairNumbers", name := "numberOf", desc := "(I)I" } : Jvm.MethodName)).before a0 Z = true := hw _ (List.mem_of_getElem? (i := 72) rfl)
theorem wd73 {a0 : Array Value} {Z : State} (hw : ∀ d ∈ tables_1, d.before a0 Z = true) : (Jvm.Cond.selects "com/example/nodemata/nodemata/PairNumbers" ({ cls := "com/example/nodemata/nodemata/PairNumbers", name := "numberOf", desc := "(I)I" } : Jvm.MethodName) ({ cls := "com/example/nodemata/nodemata/PairNumbers", name := "numberOf", desc := "(I)I" } : Jvm.MethodName)).before a0 Z = true := hw _ (List.mem_of_getElem? (i := 73) rfl)
theorem wd74 {a0 : Array Value} {Z : State} (hw : ∀ d ∈ tables_1, d.before a0 Z = true) : (Jvm.Cond.code ({ cls := "com/example/nodemata/nodemata/PairNumbers", name := "numberOf", desc := "(I)I" } : Jvm.MethodName) prog_83_method_5_code (2 : Nat) (Option.some Jvm.ClassFile.FieldType.int)).before a0 Z = true := hw _ (List.mem_of_getElem? (i := 74) rfl)
theorem d12_0 : decode method_3_code 0 = .ok (.iload_n 0, 1) := by decide +kernel
theorem d12_1 : decode method_3_code 1 = .ok (.iload_n 2, 1) := by decide +kernel
theorem d12_2 : decode method_3_code 2 = .ok (.if_icmp .lt 13, 3) := by decide +kernel
theorem d12_15 : decode method_3_code 15 = .ok (.iconst 1, 1) := by decide +kernel
theorem d12_16 : decode method_3_code 16 = .ok (.goto 4, 3) := by decide +kernel
theorem d12_5 : decode method_3_code 5 = .ok (.iload_n 0, 1) := by decide +kernel
theorem d12_6 : decode method_3_code 6 = .ok (.iload_n 2, 1) := by decide +kernel
theorem d12_7 : decode method_3_code 7 = .ok (.if_icmp .ne 12, 3) := by decide +kernel
theorem d12_10 : decode method_3_code 10 = .ok (.iload_n 1, 1) := by decide +kernel
theorem d12_11 : decode method_3_code 11 = .ok (.iload_n 3, 1) := by decide +kernel
theorem d12_12 : decode method_3_code 12 = .ok (.if_icmp .ge 7, 3) := by decide +kernel
theorem d12_19 : decode method_3_code 19 = .ok (.iconst 0, 1) := by decide +kernel
theorem d12_20 : decode method_3_code 20 = .ok (.ireturn, 1) := by decide +kernel
theorem pn_12 : plainName "com/example/nodemata/nodemata/PairNumbersSetPinLaw" = true := by first | (simp [plainName, overriddenIn]; done) | decide +kernel
theorem d11_0 : decode method_4_code 0 = .ok (.iload_n 2, 1) := by decide +kernel
theorem d11_1 : decode method_4_code 1 = .ok (.iload_n 3, 1) := by decide +kernel
theorem d11_2 : decode method_4_code 2 = .ok (.iload_n 0, 1) := by decide +kernel
theorem d11_3 : decode method_4_code 3 = .ok (.iload_n 1, 1) := by decide +kernel
theorem pd_0 : parseMethodDescriptor "(IIII)Z" = some ⟨[.int, .int, .int, .int], some .boolean⟩ := by decide +kernel
theorem d11_4 : decode method_4_code 4 = .ok (.invokestatic 34, 3) := by decide +kernel
theorem d11_7 : decode method_4_code 7 = .ok (.istore 6, 2) := by decide +kernel
theorem d11_9 : decode method_4_code 9 = .ok (.iload 4, 2) := by decide +kernel
theorem d11_11 : decode method_4_code 11 = .ok (.iload 5, 2) := by decide +kernel
theorem d11_13 : decode method_4_code 13 = .ok (.iload_n 0, 1) := by decide +kernel
theorem d11_14 : decode method_4_code 14 = .ok (.iload_n 1, 1) := by decide +kernel
theorem d11_15 : decode method_4_code 15 = .ok (.invokestatic 34, 3) := by decide +kernel
theorem d11_18 : decode method_4_code 18 = .ok (.istore 7, 2) := by decide +kernel
theorem d11_20 : decode method_4_code 20 = .ok (.iload 6, 2) := by decide +kernel
theorem d11_22 : decode method_4_code 22 = .ok (.ifCond .eq 7, 3) := by decide +kernel
theorem d11_25 : decode method_4_code 25 = .ok (.iconst 1, 1) := by decide +kernel
theorem d11_26 : decode method_4_code 26 = .ok (.goto 4, 3) := by decide +kernel
theorem d11_30 : decode method_4_code 30 = .ok (.iload 7, 2) := by decide +kernel
theorem d11_32 : decode method_4_code 32 = .ok (.ifCond .eq 7, 3) := by decide +kernel
theorem d11_35 : decode method_4_code 35 = .ok (.iconst 1, 1) := by decide +kernel
theorem d11_36 : decode method_4_code 36 = .ok (.goto 4, 3) := by decide +kernel
theorem d11_40 : decode method_4_code 40 = .ok (.iadd, 1) := by decide +kernel
theorem d11_41 : decode method_4_code 41 = .ok (.istore 8, 2) := by decide +kernel
theorem d11_43 : decode method_4_code 43 = .ok (.iload 6, 2) := by decide +kernel
theorem d11_45 : decode method_4_code 45 = .ok (.ifCond .eq 26, 3) := by decide +kernel
theorem d11_48 : decode method_4_code 48 = .ok (.iload 7, 2) := by decide +kernel
theorem d11_50 : decode method_4_code 50 = .ok (.ifCond .eq 21, 3) := by decide +kernel
theorem d11_53 : decode method_4_code 53 = .ok (.iload_n 2, 1) := by decide +kernel
theorem d11_54 : decode method_4_code 54 = .ok (.iload 4, 2) := by decide +kernel
theorem d11_56 : decode method_4_code 56 = .ok (.if_icmp .ne 15, 3) := by decide +kernel
theorem d11_59 : decode method_4_code 59 = .ok (.iload_n 3, 1) := by decide +kernel
theorem d11_60 : decode method_4_code 60 = .ok (.iload 5, 2) := by decide +kernel
theorem d11_62 : decode method_4_code 62 = .ok (.if_icmp .ne 9, 3) := by decide +kernel
theorem d11_65 : decode method_4_code 65 = .ok (.iload 8, 2) := by decide +kernel
theorem d11_67 : decode method_4_code 67 = .ok (.iconst 1, 1) := by decide +kernel
theorem d11_68 : decode method_4_code 68 = .ok (.isub, 1) := by decide +kernel
theorem d11_69 : decode method_4_code 69 = .ok (.istore 8, 2) := by decide +kernel
theorem d11_71 : decode method_4_code 71 = .ok (.iload 8, 2) := by decide +kernel
theorem d11_73 : decode method_4_code 73 = .ok (.ireturn, 1) := by decide +kernel
theorem d11_39 : decode method_4_code 39 = .ok (.iconst 0, 1) := by decide +kernel
theorem d11_29 : decode method_4_code 29 = .ok (.iconst 0, 1) := by decide +kernel
theorem pn_11 : plainName "com/example/nodemata/nodemata/PairNumbersSetPinLaw" = true := by first | (simp [plainName, overriddenIn]; done) | decide +kernel
theorem d10_0 : decode prog_83_method_7_code 0 = .ok (.lload_n 0, 1) := by decide +kernel
theorem d10_1 : decode prog_83_method_7_code 1 = .ok (.iload_n 2, 1) := by decide +kernel
theorem d10_2 : decode prog_83_method_7_code 2 = .ok (.lushr, 1) := by decide +kernel
theorem d10_3 : decode prog_83_method_7_code 3 = .ok (.l2i, 1) := by decide +kernel
theorem d10_4 : decode prog_83_method_7_code 4 = .ok (.iload_n 3, 1) := by decide +kernel
theorem d10_5 : decode prog_83_method_7_code 5 = .ok (.iconst 1, 1) := by decide +kernel
theorem d10_6 : decode prog_83_method_7_code 6 = .ok (.isub, 1) := by decide +kernel
theorem d10_7 : decode prog_83_method_7_code 7 = .ok (.iand, 1) := by decide +kernel
theorem d10_8 : decode prog_83_method_7_code 8 = .ok (.ireturn, 1) := by decide +kernel
theorem pn_10 : plainName "com/example/nodemata/nodemata/PairNumbers" = true := by first | (simp [plainName, overriddenIn]; done) | decide +kernel
theorem d9_0 : decode jdk_29_method_69_code 0 = .ok (.iload_n 0, 1) := by decide +kernel
theorem d9_1 : decode jdk_29_method_69_code 1 = .ok (.iload_n 1, 1) := by decide +kernel
theorem d9_2 : decode jdk_29_method_69_code 2 = .ok (.if_icmp .gt 7, 3) := by decide +kernel
theorem d9_9 : decode jdk_29_method_69_code 9 = .ok (.iload_n 1, 1) := by decide +kernel
theorem d9_5 : decode jdk_29_method_69_code 5 = .ok (.iload_n 0, 1) := by decide +kernel
theorem d9_6 : decode jdk_29_method_69_code 6 = .ok (.goto 4, 3) := by decide +kernel
theorem d9_10 : decode jdk_29_method_69_code 10 = .ok (.ireturn, 1) := by decide +kernel
theorem d8_0 : decode jdk_33_method_47_code 0 = .ok (.iload_n 0, 1) := by decide +kernel
theorem d8_1 : decode jdk_33_method_47_code 1 = .ok (.ifCond .gt 14, 3) := by decide +kernel
theorem d8_15 : decode jdk_33_method_47_code 15 = .ok (.bipush 31, 2) := by decide +kernel
theorem d8_17 : decode jdk_33_method_47_code 17 = .ok (.istore_n 1, 1) := by decide +kernel
theorem d8_73 : decode jdk_33_method_47_code 73 = .ok (.iload_n 1, 1) := by decide +kernel
theorem d8_74 : decode jdk_33_method_47_code 74 = .ok (.iload_n 0, 1) := by decide +kernel
theorem d8_75 : decode jdk_33_method_47_code 75 = .ok (.iconst 1, 1) := by decide +kernel
theorem d8_76 : decode jdk_33_method_47_code 76 = .ok (.iushr, 1) := by decide +kernel
theorem d8_77 : decode jdk_33_method_47_code 77 = .ok (.isub, 1) := by decide +kernel
theorem d8_78 : decode jdk_33_method_47_code 78 = .ok (.ireturn, 1) := by decide +kernel
theorem d8_61 : decode jdk_33_method_47_code 61 = .ok (.iload_n 0, 1) := by decide +kernel
theorem d8_62 : decode jdk_33_method_47_code 62 = .ok (.iconst 4, 1) := by decide +kernel
theorem d8_63 : decode jdk_33_method_47_code 63 = .ok (.if_icmp .lt 10, 3) := by decide +kernel
theorem d8_66 : decode jdk_33_method_47_code 66 = .ok (.iinc 1 (-2), 3) := by decide +kernel
theorem d8_69 : decode jdk_33_method_47_code 69 = .ok (.iload_n 0, 1) := by decide +kernel
theorem d8_70 : decode jdk_33_method_47_code 70 = .ok (.iconst 2, 1) := by decide +kernel
theorem d8_71 : decode jdk_33_method_47_code 71 = .ok (.iushr, 1) := by decide +kernel
theorem d8_72 : decode jdk_33_method_47_code 72 = .ok (.istore_n 0, 1) := by decide +kernel
theorem d8_48 : decode jdk_33_method_47_code 48 = .ok (.iload_n 0, 1) := by decide +kernel
theorem d8_49 : decode jdk_33_method_47_code 49 = .ok (.bipush 16, 2) := by decide +kernel
theorem d8_51 : decode jdk_33_method_47_code 51 = .ok (.if_icmp .lt 10, 3) := by decide +kernel
theorem d8_54 : decode jdk_33_method_47_code 54 = .ok (.iinc 1 (-4), 3) := by decide +kernel
theorem d8_57 : decode jdk_33_method_47_code 57 = .ok (.iload_n 0, 1) := by decide +kernel
theorem d8_58 : decode jdk_33_method_47_code 58 = .ok (.iconst 4, 1) := by decide +kernel
theorem d8_59 : decode jdk_33_method_47_code 59 = .ok (.iushr, 1) := by decide +kernel
theorem d8_60 : decode jdk_33_method_47_code 60 = .ok (.istore_n 0, 1) := by decide +kernel
theorem d8_33 : decode jdk_33_method_47_code 33 = .ok (.iload_n 0, 1) := by decide +kernel
theorem d8_34 : decode jdk_33_method_47_code 34 = .ok (.sipush 256, 3) := by decide +kernel
theorem d8_37 : decode jdk_33_method_47_code 37 = .ok (.if_icmp .lt 11, 3) := by decide +kernel
theorem d8_40 : decode jdk_33_method_47_code 40 = .ok (.iinc 1 (-8), 3) := by decide +kernel
theorem d8_43 : decode jdk_33_method_47_code 43 = .ok (.iload_n 0, 1) := by decide +kernel
theorem d8_44 : decode jdk_33_method_47_code 44 = .ok (.bipush 8, 2) := by decide +kernel
theorem d8_46 : decode jdk_33_method_47_code 46 = .ok (.iushr, 1) := by decide +kernel
theorem d8_47 : decode jdk_33_method_47_code 47 = .ok (.istore_n 0, 1) := by decide +kernel
theorem d8_18 : decode jdk_33_method_47_code 18 = .ok (.iload_n 0, 1) := by decide +kernel
theorem d8_19 : decode jdk_33_method_47_code 19 = .ok (.ldc_w 264, 3) := by decide +kernel
theorem d8_22 : decode jdk_33_method_47_code 22 = .ok (.if_icmp .lt 11, 3) := by decide +kernel
theorem d8_25 : decode jdk_33_method_47_code 25 = .ok (.iinc 1 (-16), 3) := by decide +kernel
theorem d8_28 : decode jdk_33_method_47_code 28 = .ok (.iload_n 0, 1) := by decide +kernel
theorem d8_29 : decode jdk_33_method_47_code 29 = .ok (.bipush 16, 2) := by decide +kernel
theorem d8_31 : decode jdk_33_method_47_code 31 = .ok (.iushr, 1) := by decide +kernel
theorem d8_32 : decode jdk_33_method_47_code 32 = .ok (.istore_n 0, 1) := by decide +kernel
theorem d8_4 : decode jdk_33_method_47_code 4 = .ok (.iload_n 0, 1) := by decide +kernel
theorem d8_5 : decode jdk_33_method_47_code 5 = .ok (.ifCond .ne 8, 3) := by decide +kernel
theorem d8_8 : decode jdk_33_method_47_code 8 = .ok (.bipush 32, 2) := by decide +kernel
theorem d8_10 : decode jdk_33_method_47_code 10 = .ok (.goto 4, 3) := by decide +kernel
theorem d8_14 : decode jdk_33_method_47_code 14 = .ok (.ireturn, 1) := by decide +kernel
theorem pn_8 : plainName "java/lang/Integer" = true := by first | (simp [plainName, overriddenIn]; done) | decide +kernel
theorem d7_0 : decode jdk_35_method_48_code 0 = .ok (.lload_n 0, 1) := by decide +kernel
theorem d7_1 : decode jdk_35_method_48_code 1 = .ok (.bipush 32, 2) := by decide +kernel
theorem d7_3 : decode jdk_35_method_48_code 3 = .ok (.lushr, 1) := by decide +kernel
theorem d7_4 : decode jdk_35_method_48_code 4 = .ok (.l2i, 1) := by decide +kernel
theorem d7_5 : decode jdk_35_method_48_code 5 = .ok (.istore_n 2, 1) := by decide +kernel
theorem d7_6 : decode jdk_35_method_48_code 6 = .ok (.iload_n 2, 1) := by decide +kernel
theorem d7_7 : decode jdk_35_method_48_code 7 = .ok (.ifCond .ne 14, 3) := by decide +kernel
theorem d7_10 : decode jdk_35_method_48_code 10 = .ok (.bipush 32, 2) := by decide +kernel
theorem d7_12 : decode jdk_35_method_48_code 12 = .ok (.lload_n 0, 1) := by decide +kernel
theorem d7_13 : decode jdk_35_method_48_code 13 = .ok (.l2i, 1) := by decide +kernel
theorem pd_1 : parseMethodDescriptor "(I)I" = some ⟨[.int], some .int⟩ := by decide +kernel
theorem d7_14 : decode jdk_35_method_48_code 14 = .ok (.invokestatic 308, 3) := by decide +kernel
theorem d7_17 : decode jdk_35_method_48_code 17 = .ok (.iadd, 1) := by decide +kernel
theorem d7_18 : decode jdk_35_method_48_code 18 = .ok (.goto 7, 3) := by decide +kernel
theorem d7_25 : decode jdk_35_method_48_code 25 = .ok (.ireturn, 1) := by decide +kernel
theorem pn_7 : plainName "java/lang/Long" = true := by first | (simp [plainName, overriddenIn]; done) | decide +kernel
theorem d13_0 : decode prog_83_method_5_code 0 = .ok (.aload_n 0, 1) := by decide +kernel
theorem d13_1 : decode prog_83_method_5_code 1 = .ok (.getfield 23, 3) := by decide +kernel
theorem d13_4 : decode prog_83_method_5_code 4 = .ok (.iload_n 1, 1) := by decide +kernel
theorem d13_5 : decode prog_83_method_5_code 5 = .ok (.iaload, 1) := by decide +kernel
theorem d13_6 : decode prog_83_method_5_code 6 = .ok (.ireturn, 1) := by decide +kernel
theorem pn_13 : plainName "com/example/nodemata/nodemata/PairNumbers" = true := by first | (simp [plainName, overriddenIn]; done) | decide +kernel
theorem d1_0 : decode prog_83_method_1_code 0 = .ok (.aload_n 0, 1) := by decide +kernel
theorem d1_1 : decode prog_83_method_1_code 1 = .ok (.invokespecial 1, 3) := by decide +kernel
theorem d1_4 : decode prog_83_method_1_code 4 = .ok (.aload_n 0, 1) := by decide +kernel
theorem d1_5 : decode prog_83_method_1_code 5 = .ok (.iload_n 1, 1) := by decide +kernel
theorem d1_6 : decode prog_83_method_1_code 6 = .ok (.newarray .long, 2) := by decide +kernel
theorem d1_8 : decode prog_83_method_1_code 8 = .ok (.putfield 7, 3) := by decide +kernel
theorem d1_11 : decode prog_83_method_1_code 11 = .ok (.aload_n 0, 1) := by decide +kernel
theorem d1_12 : decode prog_83_method_1_code 12 = .ok (.iload_n 1, 1) := by decide +kernel
theorem d1_13 : decode prog_83_method_1_code 13 = .ok (.newarray .long, 2) := by decide +kernel
theorem d1_15 : decode prog_83_method_1_code 15 = .ok (.putfield 13, 3) := by decide +kernel
theorem d1_18 : decode prog_83_method_1_code 18 = .ok (.aload_n 0, 1) := by decide +kernel
theorem d1_19 : decode prog_83_method_1_code 19 = .ok (.iload_n 1, 1) := by decide +kernel
theorem d1_20 : decode prog_83_method_1_code 20 = .ok (.newarray .int, 2) := by decide +kernel
theorem d1_22 : decode prog_83_method_1_code 22 = .ok (.putfield 16, 3) := by decide +kernel
theorem d1_25 : decode prog_83_method_1_code 25 = .ok (.aload_n 0, 1) := by decide +kernel
theorem d1_26 : decode prog_83_method_1_code 26 = .ok (.iload_n 1, 1) := by decide +kernel
theorem d1_27 : decode prog_83_method_1_code 27 = .ok (.newarray .int, 2) := by decide +kernel
theorem d1_29 : decode prog_83_method_1_code 29 = .ok (.putfield 20, 3) := by decide +kernel
theorem d1_32 : decode prog_83_method_1_code 32 = .ok (.aload_n 0, 1) := by decide +kernel
theorem d1_33 : decode prog_83_method_1_code 33 = .ok (.iload_n 1, 1) := by decide +kernel
theorem d1_34 : decode prog_83_method_1_code 34 = .ok (.newarray .int, 2) := by decide +kernel
theorem d1_36 : decode prog_83_method_1_code 36 = .ok (.putfield 23, 3) := by decide +kernel
theorem d1_39 : decode prog_83_method_1_code 39 = .ok (.return_, 1) := by decide +kernel
theorem pn_1 : plainName "com/example/nodemata/nodemata/PairNumbers" = true := by first | (simp [plainName, overriddenIn]; done) | decide +kernel
theorem d3_0 : decode prog_83_method_2_code 0 = .ok (.aload_n 0, 1) := by decide +kernel
theorem d3_1 : decode prog_83_method_2_code 1 = .ok (.iload_n 1, 1) := by decide +kernel
theorem d3_2 : decode prog_83_method_2_code 2 = .ok (.putfield 26, 3) := by decide +kernel
theorem d3_5 : decode prog_83_method_2_code 5 = .ok (.return_, 1) := by decide +kernel
theorem pn_3 : plainName "com/example/nodemata/nodemata/PairNumbers" = true := by first | (simp [plainName, overriddenIn]; done) | decide +kernel
theorem d4_0 : decode prog_83_method_3_code 0 = .ok (.getstatic 30, 3) := by decide +kernel
theorem d4_3 : decode prog_83_method_3_code 3 = .ok (.ifCond .ne 26, 3) := by decide +kernel
theorem d4_29 : decode prog_83_method_3_code 29 = .ok (.aload_n 0, 1) := by decide +kernel
theorem d4_30 : decode prog_83_method_3_code 30 = .ok (.getfield 7, 3) := by decide +kernel
theorem d4_33 : decode prog_83_method_3_code 33 = .ok (.iload_n 1, 1) := by decide +kernel
theorem d4_34 : decode prog_83_method_3_code 34 = .ok (.iload_n 2, 1) := by decide +kernel
theorem d4_35 : decode prog_83_method_3_code 35 = .ok (.i2l, 1) := by decide +kernel
theorem d4_36 : decode prog_83_method_3_code 36 = .ok (.bipush 32, 2) := by decide +kernel
theorem d4_38 : decode prog_83_method_3_code 38 = .ok (.lshl, 1) := by decide +kernel
theorem d4_39 : decode prog_83_method_3_code 39 = .ok (.iload_n 3, 1) := by decide +kernel
theorem d4_40 : decode prog_83_method_3_code 40 = .ok (.i2l, 1) := by decide +kernel
theorem d4_41 : decode prog_83_method_3_code 41 = .ok (.lor, 1) := by decide +kernel
theorem d4_42 : decode prog_83_method_3_code 42 = .ok (.lastore, 1) := by decide +kernel
theorem d4_43 : decode prog_83_method_3_code 43 = .ok (.return_, 1) := by decide +kernel
theorem pn_4 : plainName "com/example/nodemata/nodemata/PairNumbers" = true := by first | (simp [plainName, overriddenIn]; done) | decide +kernel
theorem d6_0 : decode prog_83_method_6_code 0 = .ok (.lconst 0, 1) := by decide +kernel
theorem d6_1 : decode prog_83_method_6_code 1 = .ok (.lstore_n 1, 1) := by decide +kernel
theorem d6_2 : decode prog_83_method_6_code 2 = .ok (.lconst 0, 1) := by decide +kernel
theorem d6_3 : decode prog_83_method_6_code 3 = .ok (.lstore_n 3, 1) := by decide +kernel
theorem d6_4 : decode prog_83_method_6_code 4 = .ok (.iconst 0, 1) := by decide +kernel
theorem d6_5 : decode prog_83_method_6_code 5 = .ok (.istore 5, 2) := by decide +kernel
theorem d6_7 : decode prog_83_method_6_code 7 = .ok (.iload 5, 2) := by decide +kernel
theorem d6_9 : decode prog_83_method_6_code 9 = .ok (.aload_n 0, 1) := by decide +kernel
theorem d6_10 : decode prog_83_method_6_code 10 = .ok (.getfield 26, 3) := by decide +kernel
theorem d6_13 : decode prog_83_method_6_code 13 = .ok (.if_icmp .ge 36, 3) := by decide +kernel
theorem d6_16 : decode prog_83_method_6_code 16 = .ok (.lload_n 1, 1) := by decide +kernel
theorem d6_17 : decode prog_83_method_6_code 17 = .ok (.aload_n 0, 1) := by decide +kernel
theorem d6_18 : decode prog_83_method_6_code 18 = .ok (.getfield 7, 3) := by decide +kernel
theorem d6_21 : decode prog_83_method_6_code 21 = .ok (.iload 5, 2) := by decide +kernel
theorem d6_23 : decode prog_83_method_6_code 23 = .ok (.laload, 1) := by decide +kernel
theorem d6_24 : decode prog_83_method_6_code 24 = .ok (.bipush 32, 2) := by decide +kernel
theorem d6_26 : decode prog_83_method_6_code 26 = .ok (.lushr, 1) := by decide +kernel
theorem d6_27 : decode prog_83_method_6_code 27 = .ok (.lor, 1) := by decide +kernel
theorem d6_28 : decode prog_83_method_6_code 28 = .ok (.lstore_n 1, 1) := by decide +kernel
theorem d6_29 : decode prog_83_method_6_code 29 = .ok (.lload_n 3, 1) := by decide +kernel
theorem d6_30 : decode prog_83_method_6_code 30 = .ok (.aload_n 0, 1) := by decide +kernel
theorem d6_31 : decode prog_83_method_6_code 31 = .ok (.getfield 7, 3) := by decide +kernel
theorem d6_34 : decode prog_83_method_6_code 34 = .ok (.iload 5, 2) := by decide +kernel
theorem d6_36 : decode prog_83_method_6_code 36 = .ok (.laload, 1) := by decide +kernel
theorem d6_37 : decode prog_83_method_6_code 37 = .ok (.ldc2_w 48, 3) := by decide +kernel
theorem d6_40 : decode prog_83_method_6_code 40 = .ok (.land, 1) := by decide +kernel
theorem d6_41 : decode prog_83_method_6_code 41 = .ok (.lor, 1) := by decide +kernel
theorem d6_42 : decode prog_83_method_6_code 42 = .ok (.lstore_n 3, 1) := by decide +kernel
theorem d6_43 : decode prog_83_method_6_code 43 = .ok (.iinc 5 1, 3) := by decide +kernel
theorem d6_46 : decode prog_83_method_6_code 46 = .ok (.goto (-39), 3) := by decide +kernel
theorem d6_49 : decode prog_83_method_6_code 49 = .ok (.bipush 64, 2) := by decide +kernel
theorem d6_51 : decode prog_83_method_6_code 51 = .ok (.lload_n 3, 1) := by decide +kernel
theorem pd_2 : parseMethodDescriptor "(J)I" = some ⟨[.long], some .int⟩ := by decide +kernel
theorem d6_52 : decode prog_83_method_6_code 52 = .ok (.invokestatic 52, 3) := by decide +kernel
theorem d6_55 : decode prog_83_method_6_code 55 = .ok (.isub, 1) := by decide +kernel
theorem d6_56 : decode prog_83_method_6_code 56 = .ok (.istore 5, 2) := by decide +kernel
theorem d6_58 : decode prog_83_method_6_code 58 = .ok (.iload 5, 2) := by decide +kernel
theorem d6_60 : decode prog_83_method_6_code 60 = .ok (.bipush 64, 2) := by decide +kernel
theorem d6_62 : decode prog_83_method_6_code 62 = .ok (.iadd, 1) := by decide +kernel
theorem d6_63 : decode prog_83_method_6_code 63 = .ok (.lload_n 1, 1) := by decide +kernel
theorem d6_64 : decode prog_83_method_6_code 64 = .ok (.invokestatic 52, 3) := by decide +kernel
theorem d6_67 : decode prog_83_method_6_code 67 = .ok (.isub, 1) := by decide +kernel
theorem d6_68 : decode prog_83_method_6_code 68 = .ok (.istore 6, 2) := by decide +kernel
theorem d6_70 : decode prog_83_method_6_code 70 = .ok (.iload 6, 2) := by decide +kernel
theorem d6_72 : decode prog_83_method_6_code 72 = .ok (.ifCond .eq 11, 3) := by decide +kernel
theorem d6_83 : decode prog_83_method_6_code 83 = .ok (.return_, 1) := by decide +kernel
theorem d6_75 : decode prog_83_method_6_code 75 = .ok (.aload_n 0, 1) := by decide +kernel
theorem d6_76 : decode prog_83_method_6_code 76 = .ok (.getfield 26, 3) := by decide +kernel
theorem d6_79 : decode prog_83_method_6_code 79 = .ok (.iconst 2, 1) := by decide +kernel
theorem d6_80 : decode prog_83_method_6_code 80 = .ok (.if_icmp .ge 4, 3) := by decide +kernel
theorem d6_84 : decode prog_83_method_6_code 84 = .ok (.bipush 11, 2) := by decide +kernel
theorem d6_86 : decode prog_83_method_6_code 86 = .ok (.bipush 32, 2) := by decide +kernel
theorem d6_88 : decode prog_83_method_6_code 88 = .ok (.aload_n 0, 1) := by decide +kernel
theorem d6_89 : decode prog_83_method_6_code 89 = .ok (.getfield 26, 3) := by decide +kernel
theorem d6_92 : decode prog_83_method_6_code 92 = .ok (.invokestatic 56, 3) := by decide +kernel
theorem d6_95 : decode prog_83_method_6_code 95 = .ok (.isub, 1) := by decide +kernel
theorem pd_3 : parseMethodDescriptor "(II)I" = some ⟨[.int, .int], some .int⟩ := by decide +kernel
theorem d6_96 : decode prog_83_method_6_code 96 = .ok (.invokestatic 59, 3) := by decide +kernel
theorem d6_99 : decode prog_83_method_6_code 99 = .ok (.istore 7, 2) := by decide +kernel
theorem d6_101 : decode prog_83_method_6_code 101 = .ok (.iload 6, 2) := by decide +kernel
theorem d6_103 : decode prog_83_method_6_code 103 = .ok (.iload 7, 2) := by decide +kernel
theorem d6_105 : decode prog_83_method_6_code 105 = .ok (.iadd, 1) := by decide +kernel
theorem d6_106 : decode prog_83_method_6_code 106 = .ok (.iconst 1, 1) := by decide +kernel
theorem d6_107 : decode prog_83_method_6_code 107 = .ok (.isub, 1) := by decide +kernel
theorem d6_108 : decode prog_83_method_6_code 108 = .ok (.iload 7, 2) := by decide +kernel
theorem d6_110 : decode prog_83_method_6_code 110 = .ok (.idiv, 1) := by decide +kernel
theorem d6_111 : decode prog_83_method_6_code 111 = .ok (.istore 8, 2) := by decide +kernel
theorem d6_113 : decode prog_83_method_6_code 113 = .ok (.iload 6, 2) := by decide +kernel
theorem d6_115 : decode prog_83_method_6_code 115 = .ok (.iload 8, 2) := by decide +kernel
theorem d6_117 : decode prog_83_method_6_code 117 = .ok (.iadd, 1) := by decide +kernel
theorem d6_118 : decode prog_83_method_6_code 118 = .ok (.iconst 1, 1) := by decide +kernel
theorem d6_119 : decode prog_83_method_6_code 119 = .ok (.isub, 1) := by decide +kernel
theorem d6_120 : decode prog_83_method_6_code 120 = .ok (.iload 8, 2) := by decide +kernel
theorem d6_122 : decode prog_83_method_6_code 122 = .ok (.idiv, 1) := by decide +kernel
theorem d6_123 : decode prog_83_method_6_code 123 = .ok (.istore 9, 2) := by decide +kernel
theorem d6_125 : decode prog_83_method_6_code 125 = .ok (.iconst 1, 1) := by decide +kernel
theorem d6_126 : decode prog_83_method_6_code 126 = .ok (.iload 9, 2) := by decide +kernel
theorem d6_128 : decode prog_83_method_6_code 128 = .ok (.ishl, 1) := by decide +kernel
theorem d6_129 : decode prog_83_method_6_code 129 = .ok (.istore 10, 2) := by decide +kernel
theorem d6_131 : decode prog_83_method_6_code 131 = .ok (.iload 8, 2) := by decide +kernel
theorem d6_133 : decode prog_83_method_6_code 133 = .ok (.iload 10, 2) := by decide +kernel
theorem d6_135 : decode prog_83_method_6_code 135 = .ok (.imul, 1) := by decide +kernel
theorem d6_136 : decode prog_83_method_6_code 136 = .ok (.newarray .int, 2) := by decide +kernel
theorem d6_138 : decode prog_83_method_6_code 138 = .ok (.astore 11, 2) := by decide +kernel
theorem d6_191 : decode prog_83_method_6_code 191 = .ok (.iload 15, 2) := by decide +kernel
theorem d6_193 : decode prog_83_method_6_code 193 = .ok (.iload 8, 2) := by decide +kernel
theorem d6_195 : decode prog_83_method_6_code 195 = .ok (.if_icmp .ge 34, 3) := by decide +kernel
theorem d6_198 : decode prog_83_method_6_code 198 = .ok (.aload 11, 2) := by decide +kernel
theorem d6_200 : decode prog_83_method_6_code 200 = .ok (.iload 15, 2) := by decide +kernel
theorem d6_202 : decode prog_83_method_6_code 202 = .ok (.iload 10, 2) := by decide +kernel
theorem d6_204 : decode prog_83_method_6_code 204 = .ok (.imul, 1) := by decide +kernel
theorem d6_205 : decode prog_83_method_6_code 205 = .ok (.lload 13, 2) := by decide +kernel
theorem d6_207 : decode prog_83_method_6_code 207 = .ok (.iload 15, 2) := by decide +kernel
theorem d6_209 : decode prog_83_method_6_code 209 = .ok (.iload 9, 2) := by decide +kernel
theorem d6_211 : decode prog_83_method_6_code 211 = .ok (.imul, 1) := by decide +kernel
theorem d6_212 : decode prog_83_method_6_code 212 = .ok (.iload 10, 2) := by decide +kernel
theorem pd_4 : parseMethodDescriptor "(JII)I" = some ⟨[.long, .int, .int], some .int⟩ := by decide +kernel
theorem d6_214 : decode prog_83_method_6_code 214 = .ok (.invokestatic 65, 3) := by decide +kernel
theorem d6_217 : decode prog_83_method_6_code 217 = .ok (.iadd, 1) := by decide +kernel
theorem d6_218 : decode prog_83_method_6_code 218 = .ok (.dup2, 1) := by decide +kernel
theorem d6_219 : decode prog_83_method_6_code 219 = .ok (.iaload, 1) := by decide +kernel
theorem d6_220 : decode prog_83_method_6_code 220 = .ok (.iconst 1, 1) := by decide +kernel
theorem d6_221 : decode prog_83_method_6_code 221 = .ok (.iadd, 1) := by decide +kernel
theorem d6_222 : decode prog_83_method_6_code 222 = .ok (.iastore, 1) := by decide +kernel
theorem d6_223 : decode prog_83_method_6_code 223 = .ok (.iinc 15 1, 3) := by decide +kernel
theorem d6_226 : decode prog_83_method_6_code 226 = .ok (.goto (-35), 3) := by decide +kernel
theorem d6_140 : decode prog_83_method_6_code 140 = .ok (.iconst 0, 1) := by decide +kernel
theorem d6_141 : decode prog_83_method_6_code 141 = .ok (.istore 12, 2) := by decide +kernel
theorem d6_143 : decode prog_83_method_6_code 143 = .ok (.iload 12, 2) := by decide +kernel
theorem d6_145 : decode prog_83_method_6_code 145 = .ok (.aload_n 0, 1) := by decide +kernel
theorem d6_146 : decode prog_83_method_6_code 146 = .ok (.getfield 26, 3) := by decide +kernel
theorem d6_149 : decode prog_83_method_6_code 149 = .ok (.if_icmp .ge 86, 3) := by decide +kernel
theorem d6_152 : decode prog_83_method_6_code 152 = .ok (.aload_n 0, 1) := by decide +kernel
theorem d6_153 : decode prog_83_method_6_code 153 = .ok (.getfield 7, 3) := by decide +kernel
theorem d6_156 : decode prog_83_method_6_code 156 = .ok (.iload 12, 2) := by decide +kernel
theorem d6_158 : decode prog_83_method_6_code 158 = .ok (.laload, 1) := by decide +kernel
theorem d6_159 : decode prog_83_method_6_code 159 = .ok (.bipush 32, 2) := by decide +kernel
theorem d6_161 : decode prog_83_method_6_code 161 = .ok (.lushr, 1) := by decide +kernel
theorem d6_162 : decode prog_83_method_6_code 162 = .ok (.iload 5, 2) := by decide +kernel
theorem d6_164 : decode prog_83_method_6_code 164 = .ok (.lshl, 1) := by decide +kernel
theorem d6_165 : decode prog_83_method_6_code 165 = .ok (.aload_n 0, 1) := by decide +kernel
theorem d6_166 : decode prog_83_method_6_code 166 = .ok (.getfield 7, 3) := by decide +kernel
theorem d6_169 : decode prog_83_method_6_code 169 = .ok (.iload 12, 2) := by decide +kernel
theorem d6_171 : decode prog_83_method_6_code 171 = .ok (.laload, 1) := by decide +kernel
theorem d6_172 : decode prog_83_method_6_code 172 = .ok (.ldc2_w 48, 3) := by decide +kernel
theorem d6_175 : decode prog_83_method_6_code 175 = .ok (.land, 1) := by decide +kernel
theorem d6_176 : decode prog_83_method_6_code 176 = .ok (.lor, 1) := by decide +kernel
theorem d6_177 : decode prog_83_method_6_code 177 = .ok (.lstore 13, 2) := by decide +kernel
theorem d6_179 : decode prog_83_method_6_code 179 = .ok (.aload_n 0, 1) := by decide +kernel
theorem d6_180 : decode prog_83_method_6_code 180 = .ok (.getfield 7, 3) := by decide +kernel
theorem d6_183 : decode prog_83_method_6_code 183 = .ok (.iload 12, 2) := by decide +kernel
theorem d6_185 : decode prog_83_method_6_code 185 = .ok (.lload 13, 2) := by decide +kernel
theorem d6_187 : decode prog_83_method_6_code 187 = .ok (.lastore, 1) := by decide +kernel
theorem d6_188 : decode prog_83_method_6_code 188 = .ok (.iconst 0, 1) := by decide +kernel
theorem d6_189 : decode prog_83_method_6_code 189 = .ok (.istore 15, 2) := by decide +kernel
theorem d6_229 : decode prog_83_method_6_code 229 = .ok (.iinc 12 1, 3) := by decide +kernel
theorem d6_232 : decode prog_83_method_6_code 232 = .ok (.goto (-89), 3) := by decide +kernel
theorem d6_235 : decode prog_83_method_6_code 235 = .ok (.iconst 0, 1) := by decide +kernel
theorem d6_236 : decode prog_83_method_6_code 236 = .ok (.istore 12, 2) := by decide +kernel
theorem d6_238 : decode prog_83_method_6_code 238 = .ok (.iload 12, 2) := by decide +kernel
theorem d6_240 : decode prog_83_method_6_code 240 = .ok (.iload 8, 2) := by decide +kernel
theorem d6_242 : decode prog_83_method_6_code 242 = .ok (.if_icmp .ge 206, 3) := by decide +kernel
theorem d6_448 : decode prog_83_method_6_code 448 = .ok (.return_, 1) := by decide +kernel
theorem d6_259 : decode prog_83_method_6_code 259 = .ok (.aload 11, 2) := by decide +kernel
theorem d6_261 : decode prog_83_method_6_code 261 = .ok (.iload 14, 2) := by decide +kernel
theorem d6_263 : decode prog_83_method_6_code 263 = .ok (.aload_n 0, 1) := by decide +kernel
theorem d6_264 : decode prog_83_method_6_code 264 = .ok (.getfield 7, 3) := by decide +kernel
theorem d6_267 : decode prog_83_method_6_code 267 = .ok (.iconst 0, 1) := by decide +kernel
theorem d6_268 : decode prog_83_method_6_code 268 = .ok (.laload, 1) := by decide +kernel
theorem d6_269 : decode prog_83_method_6_code 269 = .ok (.iload 13, 2) := by decide +kernel
theorem d6_271 : decode prog_83_method_6_code 271 = .ok (.iload 10, 2) := by decide +kernel
theorem d6_273 : decode prog_83_method_6_code 273 = .ok (.invokestatic 65, 3) := by decide +kernel
theorem d6_276 : decode prog_83_method_6_code 276 = .ok (.iadd, 1) := by decide +kernel
theorem d6_277 : decode prog_83_method_6_code 277 = .ok (.iaload, 1) := by decide +kernel
theorem d6_278 : decode prog_83_method_6_code 278 = .ok (.aload_n 0, 1) := by decide +kernel
theorem d6_279 : decode prog_83_method_6_code 279 = .ok (.getfield 26, 3) := by decide +kernel
theorem d6_282 : decode prog_83_method_6_code 282 = .ok (.if_icmp .ge 160, 3) := by decide +kernel
theorem d6_329 : decode prog_83_method_6_code 329 = .ok (.iconst 0, 1) := by decide +kernel
theorem d6_330 : decode prog_83_method_6_code 330 = .ok (.istore 16, 2) := by decide +kernel
theorem d6_332 : decode prog_83_method_6_code 332 = .ok (.iload 16, 2) := by decide +kernel
theorem d6_334 : decode prog_83_method_6_code 334 = .ok (.aload_n 0, 1) := by decide +kernel
theorem d6_335 : decode prog_83_method_6_code 335 = .ok (.getfield 26, 3) := by decide +kernel
theorem d6_338 : decode prog_83_method_6_code 338 = .ok (.if_icmp .ge 64, 3) := by decide +kernel
theorem d6_341 : decode prog_83_method_6_code 341 = .ok (.aload 11, 2) := by decide +kernel
theorem d6_343 : decode prog_83_method_6_code 343 = .ok (.iload 14, 2) := by decide +kernel
theorem d6_345 : decode prog_83_method_6_code 345 = .ok (.aload_n 0, 1) := by decide +kernel
theorem d6_346 : decode prog_83_method_6_code 346 = .ok (.getfield 7, 3) := by decide +kernel
theorem d6_349 : decode prog_83_method_6_code 349 = .ok (.iload 16, 2) := by decide +kernel
theorem d6_351 : decode prog_83_method_6_code 351 = .ok (.laload, 1) := by decide +kernel
theorem d6_352 : decode prog_83_method_6_code 352 = .ok (.iload 13, 2) := by decide +kernel
theorem d6_354 : decode prog_83_method_6_code 354 = .ok (.iload 10, 2) := by decide +kernel
theorem d6_356 : decode prog_83_method_6_code 356 = .ok (.invokestatic 65, 3) := by decide +kernel
theorem d6_359 : decode prog_83_method_6_code 359 = .ok (.iadd, 1) := by decide +kernel
theorem d6_360 : decode prog_83_method_6_code 360 = .ok (.dup2, 1) := by decide +kernel
theorem d6_361 : decode prog_83_method_6_code 361 = .ok (.iaload, 1) := by decide +kernel
theorem d6_362 : decode prog_83_method_6_code 362 = .ok (.dup_x2, 1) := by decide +kernel
theorem d6_363 : decode prog_83_method_6_code 363 = .ok (.iconst 1, 1) := by decide +kernel
theorem d6_364 : decode prog_83_method_6_code 364 = .ok (.iadd, 1) := by decide +kernel
theorem d6_365 : decode prog_83_method_6_code 365 = .ok (.iastore, 1) := by decide +kernel
theorem d6_366 : decode prog_83_method_6_code 366 = .ok (.istore 17, 2) := by decide +kernel
theorem d6_368 : decode prog_83_method_6_code 368 = .ok (.aload_n 0, 1) := by decide +kernel
theorem d6_369 : decode prog_83_method_6_code 369 = .ok (.getfield 13, 3) := by decide +kernel
theorem d6_372 : decode prog_83_method_6_code 372 = .ok (.iload 17, 2) := by decide +kernel
theorem d6_374 : decode prog_83_method_6_code 374 = .ok (.aload_n 0, 1) := by decide +kernel
theorem d6_375 : decode prog_83_method_6_code 375 = .ok (.getfield 7, 3) := by decide +kernel
theorem d6_378 : decode prog_83_method_6_code 378 = .ok (.iload 16, 2) := by decide +kernel
theorem d6_380 : decode prog_83_method_6_code 380 = .ok (.laload, 1) := by decide +kernel
theorem d6_381 : decode prog_83_method_6_code 381 = .ok (.lastore, 1) := by decide +kernel
theorem d6_382 : decode prog_83_method_6_code 382 = .ok (.aload_n 0, 1) := by decide +kernel
theorem d6_383 : decode prog_83_method_6_code 383 = .ok (.getfield 20, 3) := by decide +kernel
theorem d6_386 : decode prog_83_method_6_code 386 = .ok (.iload 17, 2) := by decide +kernel
theorem d6_388 : decode prog_83_method_6_code 388 = .ok (.aload_n 0, 1) := by decide +kernel
theorem d6_389 : decode prog_83_method_6_code 389 = .ok (.getfield 16, 3) := by decide +kernel
theorem d6_392 : decode prog_83_method_6_code 392 = .ok (.iload 16, 2) := by decide +kernel
theorem d6_394 : decode prog_83_method_6_code 394 = .ok (.iaload, 1) := by decide +kernel
theorem d6_395 : decode prog_83_method_6_code 395 = .ok (.iastore, 1) := by decide +kernel
theorem d6_396 : decode prog_83_method_6_code 396 = .ok (.iinc 16 1, 3) := by decide +kernel
theorem d6_399 : decode prog_83_method_6_code 399 = .ok (.goto (-67), 3) := by decide +kernel
theorem d6_402 : decode prog_83_method_6_code 402 = .ok (.aload_n 0, 1) := by decide +kernel
theorem d6_403 : decode prog_83_method_6_code 403 = .ok (.getfield 13, 3) := by decide +kernel
theorem d6_406 : decode prog_83_method_6_code 406 = .ok (.astore 16, 2) := by decide +kernel
theorem d6_408 : decode prog_83_method_6_code 408 = .ok (.aload_n 0, 1) := by decide +kernel
theorem d6_409 : decode prog_83_method_6_code 409 = .ok (.aload_n 0, 1) := by decide +kernel
theorem d6_410 : decode prog_83_method_6_code 410 = .ok (.getfield 7, 3) := by decide +kernel
theorem d6_413 : decode prog_83_method_6_code 413 = .ok (.putfield 13, 3) := by decide +kernel
theorem d6_416 : decode prog_83_method_6_code 416 = .ok (.aload_n 0, 1) := by decide +kernel
theorem d6_417 : decode prog_83_method_6_code 417 = .ok (.aload 16, 2) := by decide +kernel
theorem d6_419 : decode prog_83_method_6_code 419 = .ok (.putfield 7, 3) := by decide +kernel
theorem d6_422 : decode prog_83_method_6_code 422 = .ok (.aload_n 0, 1) := by decide +kernel
theorem d6_423 : decode prog_83_method_6_code 423 = .ok (.getfield 20, 3) := by decide +kernel
theorem d6_426 : decode prog_83_method_6_code 426 = .ok (.astore 17, 2) := by decide +kernel
theorem d6_428 : decode prog_83_method_6_code 428 = .ok (.aload_n 0, 1) := by decide +kernel
theorem d6_429 : decode prog_83_method_6_code 429 = .ok (.aload_n 0, 1) := by decide +kernel
theorem d6_430 : decode prog_83_method_6_code 430 = .ok (.getfield 16, 3) := by decide +kernel
theorem d6_433 : decode prog_83_method_6_code 433 = .ok (.putfield 20, 3) := by decide +kernel
theorem d6_436 : decode prog_83_method_6_code 436 = .ok (.aload_n 0, 1) := by decide +kernel
theorem d6_437 : decode prog_83_method_6_code 437 = .ok (.aload 17, 2) := by decide +kernel
theorem d6_439 : decode prog_83_method_6_code 439 = .ok (.putfield 16, 3) := by decide +kernel
theorem d6_442 : decode prog_83_method_6_code 442 = .ok (.iinc 12 1, 3) := by decide +kernel
theorem d6_445 : decode prog_83_method_6_code 445 = .ok (.goto (-207), 3) := by decide +kernel
theorem d6_285 : decode prog_83_method_6_code 285 = .ok (.iconst 0, 1) := by decide +kernel
theorem d6_286 : decode prog_83_method_6_code 286 = .ok (.istore 15, 2) := by decide +kernel
theorem d6_288 : decode prog_83_method_6_code 288 = .ok (.iload 14, 2) := by decide +kernel
theorem d6_290 : decode prog_83_method_6_code 290 = .ok (.istore 16, 2) := by decide +kernel
theorem d6_292 : decode prog_83_method_6_code 292 = .ok (.iload 16, 2) := by decide +kernel
theorem d6_294 : decode prog_83_method_6_code 294 = .ok (.iload 14, 2) := by decide +kernel
theorem d6_296 : decode prog_83_method_6_code 296 = .ok (.iload 10, 2) := by decide +kernel
theorem d6_298 : decode prog_83_method_6_code 298 = .ok (.iadd, 1) := by decide +kernel
theorem d6_299 : decode prog_83_method_6_code 299 = .ok (.if_icmp .ge 30, 3) := by decide +kernel
theorem d6_302 : decode prog_83_method_6_code 302 = .ok (.aload 11, 2) := by decide +kernel
theorem d6_304 : decode prog_83_method_6_code 304 = .ok (.iload 16, 2) := by decide +kernel
theorem d6_306 : decode prog_83_method_6_code 306 = .ok (.iaload, 1) := by decide +kernel
theorem d6_307 : decode prog_83_method_6_code 307 = .ok (.istore 17, 2) := by decide +kernel
theorem d6_309 : decode prog_83_method_6_code 309 = .ok (.aload 11, 2) := by decide +kernel
theorem d6_311 : decode prog_83_method_6_code 311 = .ok (.iload 16, 2) := by decide +kernel
theorem d6_313 : decode prog_83_method_6_code 313 = .ok (.iload 15, 2) := by decide +kernel
theorem d6_315 : decode prog_83_method_6_code 315 = .ok (.iastore, 1) := by decide +kernel
theorem d6_316 : decode prog_83_method_6_code 316 = .ok (.iload 15, 2) := by decide +kernel
theorem d6_318 : decode prog_83_method_6_code 318 = .ok (.iload 17, 2) := by decide +kernel
theorem d6_320 : decode prog_83_method_6_code 320 = .ok (.iadd, 1) := by decide +kernel
theorem d6_321 : decode prog_83_method_6_code 321 = .ok (.istore 15, 2) := by decide +kernel
theorem d6_323 : decode prog_83_method_6_code 323 = .ok (.iinc 16 1, 3) := by decide +kernel
theorem d6_326 : decode prog_83_method_6_code 326 = .ok (.goto (-34), 3) := by decide +kernel
theorem d6_245 : decode prog_83_method_6_code 245 = .ok (.iload 12, 2) := by decide +kernel
theorem d6_247 : decode prog_83_method_6_code 247 = .ok (.iload 9, 2) := by decide +kernel
theorem d6_249 : decode prog_83_method_6_code 249 = .ok (.imul, 1) := by decide +kernel
theorem d6_250 : decode prog_83_method_6_code 250 = .ok (.istore 13, 2) := by decide +kernel
theorem d6_252 : decode prog_83_method_6_code 252 = .ok (.iload 12, 2) := by decide +kernel
theorem d6_254 : decode prog_83_method_6_code 254 = .ok (.iload 10, 2) := by decide +kernel
theorem d6_256 : decode prog_83_method_6_code 256 = .ok (.imul, 1) := by decide +kernel
theorem d6_257 : decode prog_83_method_6_code 257 = .ok (.istore 14, 2) := by decide +kernel
theorem pn_6 : plainName "com/example/nodemata/nodemata/PairNumbers" = true := by first | (simp [plainName, overriddenIn]; done) | decide +kernel
theorem d5_0 : decode prog_83_method_4_code 0 = .ok (.iconst 0, 1) := by decide +kernel
theorem d5_1 : decode prog_83_method_4_code 1 = .ok (.istore_n 1, 1) := by decide +kernel
theorem d5_2 : decode prog_83_method_4_code 2 = .ok (.iload_n 1, 1) := by decide +kernel
theorem d5_3 : decode prog_83_method_4_code 3 = .ok (.aload_n 0, 1) := by decide +kernel
theorem d5_4 : decode prog_83_method_4_code 4 = .ok (.getfield 26, 3) := by decide +kernel
theorem d5_7 : decode prog_83_method_4_code 7 = .ok (.if_icmp .ge 16, 3) := by decide +kernel
theorem d5_10 : decode prog_83_method_4_code 10 = .ok (.aload_n 0, 1) := by decide +kernel
theorem d5_11 : decode prog_83_method_4_code 11 = .ok (.getfield 16, 3) := by decide +kernel
theorem d5_14 : decode prog_83_method_4_code 14 = .ok (.iload_n 1, 1) := by decide +kernel
theorem d5_15 : decode prog_83_method_4_code 15 = .ok (.iload_n 1, 1) := by decide +kernel
theorem d5_16 : decode prog_83_method_4_code 16 = .ok (.iastore, 1) := by decide +kernel
theorem d5_17 : decode prog_83_method_4_code 17 = .ok (.iinc 1 1, 3) := by decide +kernel
theorem d5_20 : decode prog_83_method_4_code 20 = .ok (.goto (-18), 3) := by decide +kernel
theorem d5_23 : decode prog_83_method_4_code 23 = .ok (.aload_n 0, 1) := by decide +kernel
theorem pd_5 : parseMethodDescriptor "()V" = some ⟨[], none⟩ := by decide +kernel
theorem d5_24 : decode prog_83_method_4_code 24 = .ok (.invokevirtual 45, 3) := by decide +kernel
theorem d5_27 : decode prog_83_method_4_code 27 = .ok (.iconst 0, 1) := by decide +kernel
theorem d5_28 : decode prog_83_method_4_code 28 = .ok (.istore_n 1, 1) := by decide +kernel
theorem d5_29 : decode prog_83_method_4_code 29 = .ok (.iconst 0, 1) := by decide +kernel
theorem d5_30 : decode prog_83_method_4_code 30 = .ok (.istore_n 2, 1) := by decide +kernel
theorem d5_31 : decode prog_83_method_4_code 31 = .ok (.iload_n 2, 1) := by decide +kernel
theorem d5_32 : decode prog_83_method_4_code 32 = .ok (.aload_n 0, 1) := by decide +kernel
theorem d5_33 : decode prog_83_method_4_code 33 = .ok (.getfield 26, 3) := by decide +kernel
theorem d5_36 : decode prog_83_method_4_code 36 = .ok (.if_icmp .ge 46, 3) := by decide +kernel
theorem d5_39 : decode prog_83_method_4_code 39 = .ok (.iload_n 2, 1) := by decide +kernel
theorem d5_40 : decode prog_83_method_4_code 40 = .ok (.ifCond .le 24, 3) := by decide +kernel
theorem d5_64 : decode prog_83_method_4_code 64 = .ok (.aload_n 0, 1) := by decide +kernel
theorem d5_65 : decode prog_83_method_4_code 65 = .ok (.getfield 23, 3) := by decide +kernel
theorem d5_68 : decode prog_83_method_4_code 68 = .ok (.aload_n 0, 1) := by decide +kernel
theorem d5_69 : decode prog_83_method_4_code 69 = .ok (.getfield 16, 3) := by decide +kernel
theorem d5_72 : decode prog_83_method_4_code 72 = .ok (.iload_n 2, 1) := by decide +kernel
theorem d5_73 : decode prog_83_method_4_code 73 = .ok (.iaload, 1) := by decide +kernel
theorem d5_74 : decode prog_83_method_4_code 74 = .ok (.iload_n 1, 1) := by decide +kernel
theorem d5_75 : decode prog_83_method_4_code 75 = .ok (.iastore, 1) := by decide +kernel
theorem d5_76 : decode prog_83_method_4_code 76 = .ok (.iinc 2 1, 3) := by decide +kernel
theorem d5_79 : decode prog_83_method_4_code 79 = .ok (.goto (-48), 3) := by decide +kernel
theorem d5_43 : decode prog_83_method_4_code 43 = .ok (.aload_n 0, 1) := by decide +kernel
theorem d5_44 : decode prog_83_method_4_code 44 = .ok (.getfield 7, 3) := by decide +kernel
theorem d5_47 : decode prog_83_method_4_code 47 = .ok (.iload_n 2, 1) := by decide +kernel
theorem d5_48 : decode prog_83_method_4_code 48 = .ok (.laload, 1) := by decide +kernel
theorem d5_49 : decode prog_83_method_4_code 49 = .ok (.aload_n 0, 1) := by decide +kernel
theorem d5_50 : decode prog_83_method_4_code 50 = .ok (.getfield 7, 3) := by decide +kernel
theorem d5_53 : decode prog_83_method_4_code 53 = .ok (.iload_n 2, 1) := by decide +kernel
theorem d5_54 : decode prog_83_method_4_code 54 = .ok (.iconst 1, 1) := by decide +kernel
theorem d5_55 : decode prog_83_method_4_code 55 = .ok (.isub, 1) := by decide +kernel
theorem d5_56 : decode prog_83_method_4_code 56 = .ok (.laload, 1) := by decide +kernel
theorem d5_57 : decode prog_83_method_4_code 57 = .ok (.lcmp, 1) := by decide +kernel
theorem d5_58 : decode prog_83_method_4_code 58 = .ok (.ifCond .eq 6, 3) := by decide +kernel
theorem d5_61 : decode prog_83_method_4_code 61 = .ok (.iinc 1 1, 3) := by decide +kernel
theorem d5_82 : decode prog_83_method_4_code 82 = .ok (.aload_n 0, 1) := by decide +kernel
theorem d5_83 : decode prog_83_method_4_code 83 = .ok (.getfield 26, 3) := by decide +kernel
theorem d5_86 : decode prog_83_method_4_code 86 = .ok (.ifCond .ne 7, 3) := by decide +kernel
theorem d5_93 : decode prog_83_method_4_code 93 = .ok (.iload_n 1, 1) := by decide +kernel
theorem d5_94 : decode prog_83_method_4_code 94 = .ok (.iconst 1, 1) := by decide +kernel
theorem d5_95 : decode prog_83_method_4_code 95 = .ok (.iadd, 1) := by decide +kernel
theorem d5_96 : decode prog_83_method_4_code 96 = .ok (.ireturn, 1) := by decide +kernel
theorem pn_5 : plainName "com/example/nodemata/nodemata/PairNumbers" = true := by first | (simp [plainName, overriddenIn]; done) | decide +kernel
theorem pd_6 : parseMethodDescriptor "(I)V" = some ⟨[.int], none⟩ := by decide +kernel
theorem pd_7 : parseMethodDescriptor "(III)V" = some ⟨[.int, .int, .int], none⟩ := by decide +kernel
theorem pd_8 : parseMethodDescriptor "()I" = some ⟨[], some .int⟩ := by decide +kernel
theorem pd_9 : parseMethodDescriptor "(IIIIII)I" = some ⟨[.int, .int, .int, .int, .int, .int], some .int⟩ := by decide +kernel
theorem pn_0 : plainName "com/example/nodemata/nodemata/PairNumbersSetPinLaw" = true := by first | (simp [plainName, overriddenIn]; done) | decide +kernel
section OwnArr
variable {p : Program} {l : Launch} {e : Env} {R : Room} {s : State} {m : MethodId} {args : Array Value} {below : List Frame} {meth : Method} {c : Code} {Z : State} {y : MethodName} {ret : Option FieldType} {code : ByteArray} {ml : Nat} {ws : List Addr} {T : State} {h : Heap} {cells slots : Nat} {C : Outcome → State → Prop} {a0 : Array Value}
theorem own_newarrayE (W : own_W p l e R s m args below meth c Z y ret code ml ws T h cells slots) {aty : ArrayType} {z : Int32} (N cap : Nat) (ad : String) {pc : Nat} (pc' : Nat) {L : Array Slot} {st : List Value} (hd : decode code pc = .ok (.newarray aty, 2)) (w : (Jvm.Cond.arrayClass (newarray.typeOf aty)).before a0 Z = true) (hz : z.toInt = (N : Int)) (hcap : N ≤ cap) (hb8 : cap * 8 ≤ 536870912) (hc : cells + 1 ≤ R.cells) (hl : slots + cap ≤ R.slots) (had : "[" ++ (newarray.typeOf aty).toString = ad) (hp : pc + 2 = pc') (k : ∀ T' h' a, own_W p l e R s m args below meth c Z y ret code ml ws T' h' (cells + 1) (slots + cap) → Ext h h' → a = h.size → s.heap.size ≤ a → own_A Z h' a (newarray.typeOf aty) N (fun _ => defaultValue (newarray.typeOf aty)) → Exa Z h' a ad → own_Go p e below C T' (mkF m pc' L (.ref a :: st))) : own_Go p e below C T (mkF m pc L (.int z :: st)) := by
  have hsz := own_le W
  obtain ⟨⟨hx, hby, hml, hown, hnm, hrt, hlk, hZ⟩, locs, X, eT, Nf⟩ := W
  subst hp
  have hcl := own_cl hz
  obtain ⟨T', h', cA, X', e', E', A', Y', st'⟩ := newPE X hx hZ w eT (g := mkF m pc L (.int z :: st)) rfl (hb hby hd) rfl (own_nn hz) (cap := cap) (by rw [hcl]; exact hcap) hb8 hc hl had
  refine own_st st' (k T' h' h.size ⟨⟨hx, hby, hml, hown, hnm, hrt, hlk, hZ⟩, locs, X', e', Nf⟩ E' rfl hsz ⟨_, A', by rw [sz_new, hcl], fun j hj => ?_⟩ Y')
  simp [newA, hcl, hj]
theorem own_clone (W : own_W p l e R s m args below meth c Z y ret code ml ws T h cells slots) {ad : String} {i : Nat} {a : Addr} {ty : FieldType} {n : Nat} {f : Nat → Value} (cap wt : Nat) {pc : Nat} (pc' : Nat) {L : Array Slot} {st : List Value} (hd : decode code pc = .ok (.invokevirtual i, 3)) (w1 : (Jvm.Cond.methodLink y.cls i ⟨ad, "clone", "()Ljava/lang/Object;"⟩).before a0 Z = true) (w2 : (Jvm.Cond.sameMethod ad "java/lang/Object" "clone" "()Ljava/lang/Object;").before a0 Z = true) (w3 : (Jvm.Cond.native ⟨"java/lang/Object", "clone", "()Ljava/lang/Object;"⟩).before a0 Z = true) (w4 : (Jvm.Cond.instanceMethod ⟨"java/lang/Object", "clone", "()Ljava/lang/Object;"⟩).before a0 Z = true) (w5 : (Jvm.Cond.selects ad ⟨ad, "clone", "()Ljava/lang/Object;"⟩ ⟨"java/lang/Object", "clone", "()Ljava/lang/Object;"⟩).before a0 Z = true) (w6 : (Jvm.Cond.castable ad "java/lang/Cloneable").before a0 Z = true) (F : own_A Z h a ty n f) (E : Exa Z h a ad) (hfit : ∀ j, j < n → fits ty (f j) = true) (hL : L.size = ml) (hwt : (st.map fun v => v.category).sum ≤ wt) (hf : 1 ≤ R.frames) (hlo : wt + 14 ≤ R.locals) (hcap : n ≤ cap) (hc : cells + 1 ≤ R.cells) (hsl : slots + cap ≤ R.slots) (hp : pc + 3 = pc') (k : ∀ T' h' b, own_W p l e R s m args below meth c Z y ret code ml ws T' h' (cells + 1) (slots + cap) → Ext h h' → b = h.size → s.heap.size ≤ b → own_A Z h' b ty n f → Exa Z h' b ad → own_Go p e below C T' (mkF m pc' L (.ref b :: st))) : own_Go p e below C T (mkF m pc L (.ref a :: st)) := by
  have hsz := own_le W
  obtain ⟨⟨hx, hby, hml, hown, hnm, hrt, hlk, hZ⟩, locs, X, eT, N⟩ := W
  subst hp
  obtain ⟨cl, A, r1, r2⟩ := F
  have FC : FitC Z cl := fitC_of A (fun i hi v hv => by
    rw [r1] at hi
    rw [r2 i hi] at hv
    cases hv
    exact hfit i hi)
  obtain ⟨T', h', X', e', E', A', Y', st'⟩ := cloneA X hx hZ hown w1 w2 w3 w4 w5 w6 eT A E FC (g := mkF m pc L (.ref a :: st)) rfl (by rw [hml]; exact hL) rfl (hb hby hd) hf (W := wt) (cap := cap) (by show 2 * 0 + _ ≤ _; omega) hlo (by rw [r1]; exact hcap) hc hsl
  exact own_st st' (k T' h' h.size ⟨⟨hx, hby, hml, hown, hnm, hrt, hlk, hZ⟩, locs, X', e', N⟩ E' rfl hsz ⟨_, A', r1, r2⟩ Y')
theorem own_checkcast (W : own_W p l e R s m args below meth c Z y ret code ml ws T h cells slots) {K0 : String} {i : Nat} {a : Addr} {pc : Nat} (pc' : Nat) {L : Array Slot} {st : List Value} (hd : decode code pc = .ok (.checkcast i, 3)) (w : (Jvm.Cond.classLink y.cls i K0).before a0 Z = true) (I : Ins Z h a K0 true) (hp : pc + 3 = pc') (k : ∀ T', own_W p l e R s m args below meth c Z y ret code ml ws T' h cells slots → own_Go p e below C T' (mkF m pc' L (.ref a :: st))) : own_Go p e below C T (mkF m pc L (.ref a :: st)) := by
  have hsz := own_le W
  obtain ⟨⟨hx, hby, hml, hown, hnm, hrt, hlk, hZ⟩, locs, X, eT, N⟩ := W
  subst hp
  obtain ⟨T', X', e', st'⟩ := castY X hx hZ hown w eT I (g := mkF m pc L (.ref a :: st)) rfl rfl (hb hby hd)
  exact own_st st' (k T' ⟨⟨hx, hby, hml, hown, hnm, hrt, hlk, hZ⟩, locs, X', e', N⟩)
theorem own_callP (W : own_W p l e R s m args below meth c Z y ret code ml ws T h cells slots) {C0 : String} {i : Nat} {yc yd : MethodName} {bytes : ByteArray} {maxL : Nat} {rt : Option FieldType} {rm : Room} {Q : Option Value → Heap → Prop} {ps : List FieldType} {rr : Option FieldType} {a : Addr} {wc' : List Addr} (A : List Value) (wt : Nat) {pc : Nat} (pc' : Nat) {L : Array Slot} {st : List Value} (hd : decode code pc = .ok (.invokevirtual i, 3)) (wl : (Jvm.Cond.methodLink y.cls i yc).before a0 Z = true) (ws' : (Jvm.Cond.instanceMethod yc).before a0 Z = true) (wp : (Jvm.Cond.privateMethod yc).before a0 Z = true) (wse : (Jvm.Cond.selects C0 yd yd).before a0 Z = true) (hcl : yd.cls = yc.cls) (wz : (Jvm.Cond.initialized yc.cls).before a0 Z = true) (wc : (Jvm.Cond.code yc bytes maxL rt).before a0 Z = true) (hy : yc.cls ≠ "java/lang/invoke/MethodHandle" ∧ yc.cls ≠ "java/lang/invoke/VarHandle") (E : Exa Z h a C0) (hM : own_M l Z [] yc bytes maxL rt rm wc' (.ref a :: A).toArray h Q) (hws : ∀ b ∈ wc', b ∈ ws ∨ s.heap.size ≤ b) (hL : L.size = ml) (hds : parseMethodDescriptor yc.desc = some ⟨ps, rr⟩) (hA : A.length = ps.length) (hwt : (st.map fun v => v.category).sum ≤ wt) (hf : rm.frames + 1 ≤ R.frames) (hlo : wt + (maxL + 11) + rm.locals ≤ R.locals) (hc : cells + rm.cells ≤ R.cells) (hs : slots + rm.slots ≤ R.slots) (hp : pc + 3 = pc') (k : ∀ T' h' v, own_W p l e R s m args below meth c Z y ret code ml ws T' h' (cells + rm.cells) (slots + rm.slots) → Keep h h' wc' → (rm.cells = 0 → wc' = [] → h' = h) → Q v h' → own_Go p e below C T' (mkF m pc' L (v.toList ++ st))) : own_Go p e below C T (mkF m pc L (A.reverse ++ .ref a :: st)) := by
  have hsz := own_le W
  obtain ⟨⟨hx, hby, hml, hown, hnm, hrt, hlk, hZ⟩, locs, X, eT, N⟩ := W
  subst hp
  obtain ⟨cell, hcell, hobj⟩ := E.cell
  have hcell' : T.heap[a]? = some cell := by rw [eT]; exact hcell
  have h1 : (Jvm.Cond.instanceMethod yc).before args s = true := mvT hZ ws'
  have h2 : (Jvm.Cond.code yc bytes maxL rt).before args s = true := mvT hZ wc
  have h3 : (Jvm.Cond.selects C0 yd yd).before args s = true := mvT hZ wse
  have hpriv := Cond.privateMethod_at (mvP hZ wp (args := #[]))
  obtain ⟨mk, methM, hnamed, hmethM, hstM, habM⟩ := Cond.instanceMethod_spec h1
  obtain ⟨methM', cM, hmethM', -, -, -, -, -, -, hsigM⟩ := Cond.code_spec hnamed h2
  cases hmethM.symm.trans hmethM'
  obtain ⟨c2, r2, m2, -, -, q3, -, kP, hkP, hkPi⟩ := Cond.selects_spec h3
  have hcc : m2.cls = mk.cls := by
    have z1 := findClass_of_methodNamed q3
    have z2 := findClass_of_methodNamed hnamed
    rw [hcl, z2] at z1
    exact (Option.some.inj z1).symm
  rw [hcc] at hkP
  have hsel : selectMethod e.platform s.vm cell.cls mk = .method mk := selectMethod_private hmethM (hpriv mk methM hnamed hmethM)
  obtain ⟨vm₁, X₁, hstep₁⟩ := X.invokevirtual hx hown (mvT hZ wl) hnamed hmethM hstM hkP hkPi hy (a := a) (cell := cell) hcell' hobj hsel hmethM habM hkP hkPi (g := mkF m pc L (A.reverse ++ .ref a :: st)) rfl (argsL := A) (rest := st) (lenOf hds hA _ hsigM) rfl (hb hby hd)
  obtain ⟨v, ⟨T', L', k', n'⟩, X', ⟨Lc', hQ', l', y', z'⟩, hsteps⟩ := backOf (W := wt) hM hZ wc wz hf hlo m meth c ⟨T.setVm vm₁, locs, cells, slots⟩ { mkF m pc L (A.reverse ++ .ref a :: st) with stack := st } (.invokevirtual i) mk (.ref a :: A).toArray X₁ rfl (by rw [hml]; exact hL) (hb hby hd) (by show 2 * 0 + (st.map fun v => v.category).sum ≤ wt; omega) (X₁.named hnamed) ⟨rfl, eT, hc, hs⟩
  dsimp only [Pt.U, Pt.locs, Pt.cells, Pt.slots] at X' l' y' z' hsteps hQ'
  subst l' y' z'
  exact own_tr ((hstep₁ _ fun acts => by rw [doInvoke_state]; exact Steps.refl _).trans hsteps) (k T' _ _ ⟨⟨hx, hby, hml, hown, hnm, hrt, hlk, hZ⟩, _, X', rfl, own_Fw_app N hQ'.1 hws hsz⟩ hQ'.2.1 hQ'.2.2.1 hQ'.2.2.2)
end OwnArr
section OwnMore
variable {p : Program} {l : Launch} {e : Env} {R : Room} {s : State} {m : MethodId} {args : Array Value} {below : List Frame} {meth : Method} {c : Code} {Z : State} {y : MethodName} {ret : Option FieldType} {code : ByteArray} {ml : Nat} {ws : List Addr} {T : State} {h : Heap} {cells slots : Nat} {C : Outcome → State → Prop} {a0 : Array Value}
theorem own_ldcwInt (W : own_W p l e R s m args below meth c Z y ret code ml ws T h cells slots) {i : Nat} {v : Int32} {pc : Nat} (pc' : Nat) {L : Array Slot} {st : List Value} (hd : decode code pc = .ok (.ldc_w i, 3)) (w : (Jvm.Cond.constant y.cls i v).before a0 Z = true) (hp : pc + 3 = pc') (k : own_Go p e below C T (mkF m pc' L (.int v :: st))) : own_Go p e below C T (mkF m pc L st) := by
  have hsz := own_le W
  obtain ⟨⟨hx, hby, hml, hown, hnm, hrt, hlk, hZ⟩, locs, X, eT, N⟩ := W
  subst hp
  have w' : (Jvm.Cond.constant y.cls i v).before args s = true := mvT hZ w
  obtain ⟨kk, cf, bytes, hk, hcf, hcp, hb9⟩ := Cond.constant_spec hown w'
  obtain ⟨k', hk', he⟩ := X.warmed.alike.2.2 _ _ hk
  refine own_st (fun t q => ?_) k
  jvm_step X.here [hx, (hb hby hd), ldc_w.wp_int (s := T) (f := mkF m pc L st) X.here.top hk' (by rw [he]; exact hcf) hcp, hb9]
  exact q
theorem own_dup_x2 (W : own_W p l e R s m args below meth c Z y ret code ml ws T h cells slots) {a : Addr} {z i : Int32} {pc : Nat} (pc' : Nat) {L : Array Slot} {st : List Value} (hd : decode code pc = .ok (.dup_x2, 1)) (hp : pc + 1 = pc') (k : own_Go p e below C T (mkF m pc' L (.int z :: .int i :: .ref a :: .int z :: st))) : own_Go p e below C T (mkF m pc L (.int z :: .int i :: .ref a :: st)) := by
  have hsz := own_le W
  obtain ⟨⟨hx, hby, hml, hown, hnm, hrt, hlk, hZ⟩, locs, X, eT, N⟩ := W
  subst hp
  refine own_st (fun t q => ?_) k
  show Steps p.tables e below (T.setTop { method := m, pc := pc, locals := L, stack := .int z :: .int i :: .ref a :: st, locked := none }) _
  jvm_step X.here [X.here.top, hx, (hb hby hd), Value.category]
  exact q
end OwnMore
theorem own_off (u : Int32) : ∃ k : Nat, ((u &&& (2147483647 : Int32)) % (5 : Int32)).toInt = (k : Int) ∧ k < 5 := by
  have h1 := c_mask u 2147483647 31 (by decide) (by decide)
  have h2 := (c_irem (u &&& 2147483647) 5 5 rfl).1
  have h3 : 0 ≤ (u &&& 2147483647).toInt := by rw [h1]; omega
  have h4 := h2 h3
  exact ⟨((u &&& 2147483647) % 5).toInt.toNat, by omega, by omega⟩
theorem own_ofN {u : Int32} {k : Nat} (h : u.toInt = (k : Int)) (hk : k < 2147483648) : u = Int32.ofNat k := by
  have h1 := (back32 (own_nn h)).1
  rw [own_cl h] at h1
  exact h1.symm
theorem own_inc {u : Int32} {k : Nat} (h : u.toInt = (k : Int)) (hk : k < 2000000000) : (u + (1 : Int32)).toInt = ((k + 1 : Nat) : Int) := by
  have h1 := c_iadd u 1
  have h2 := rng32 (u + 1)
  have h3 : (1 : Int32).toInt = 1 := rfl
  omega
theorem own_ltN {u v : Int32} {i j : Nat} (hu : u.toInt = (i : Int)) (hv : v.toInt = (j : Int)) : u < v ↔ i < j := by
  rw [Int32.lt_iff_toInt_lt]; omega
theorem own_lt0 {u : Int32} : u < 0 ↔ u.toInt < 0 := by
  rw [Int32.lt_iff_toInt_lt]; have : (0 : Int32).toInt = 0 := rfl
  rw [this]
theorem own_lt5 {n : Nat} (h : n < 5) : n = 0 ∨ n = 1 ∨ n = 2 ∨ n = 3 ∨ n = 4 := by omega
theorem own_lt4 {n : Nat} (h : n < 4) : n = 0 ∨ n = 1 ∨ n = 2 ∨ n = 3 := by omega
def own_g (x0 x1 x2 x3 : Int32) (j : Nat) : Int32 := if j = 0 then x0 else if j = 1 then x1 else if j = 2 then x2 else x3
theorem own_tn64 {u : Int64} {k : Nat} (h : u.toInt = (k : Int)) : u.toBitVec.toNat = k ∧ k < 9223372036854775808 := by
  have h1 : u.toBitVec.toInt = (k : Int) := h
  rw [BitVec.toInt_eq_toNat_cond] at h1
  have := u.toBitVec.isLt
  split at h1 <;> omega
theorem own_nt64 {u : Int64} {k : Nat} (h : u.toBitVec.toNat = k) (hk : k < 9223372036854775808) : u.toInt = (k : Int) := by
  show u.toBitVec.toInt = (k : Int)
  rw [BitVec.toInt_eq_toNat_cond, h]
  split
  · rfl
  · omega
theorem own_tn {u : Int32} {k : Nat} (h : u.toInt = (k : Int)) : u.toBitVec.toNat = k := by
  have h1 : u.toBitVec.toInt = (k : Int) := h
  rw [BitVec.toInt_eq_toNat_cond] at h1
  have := u.toBitVec.isLt
  split at h1 <;> omega
theorem own_lushrN {u : Int64} {v : Int32} {X k : Nat} (h : u.toInt = (X : Int)) (hv : v.toInt = (k : Int)) (hk : k < 64) : ((u.toUInt64 >>> (v &&& 0x3f).toInt64.toUInt64).toInt64).toInt = ((X / 2 ^ k : Nat) : Int) := by
  have h1 := own_tn64 h
  have hk2 : v.toBitVec.toNat % 64 = k := by rw [own_tn hv]; omega
  refine own_nt64 ?_ (Nat.lt_of_le_of_lt (Nat.div_le_self _ _) h1.2)
  show (u.toBitVec >>> ((v &&& 0x3f).toInt64.toBitVec % 64)).toNat = _
  rw [BitVec.ushiftRight_eq', BitVec.toNat_umod, (sm64 v k hk2).1, BitVec.toNat_ofNat, BitVec.toNat_ushiftRight, h1.1, Nat.shiftRight_eq_div_pow]
  show X / 2 ^ (k % 2 ^ 64 % 64) = _
  rw [show k % 2 ^ 64 % 64 = k by omega]
theorem own_lshlN {u : Int64} {v : Int32} {X k : Nat} (h : u.toInt = (X : Int)) (hv : v.toInt = (k : Int)) (hk : k < 64) (hb : X * 2 ^ k < 9223372036854775808) : (u <<< (v &&& 0x3f).toInt64).toInt = ((X * 2 ^ k : Nat) : Int) := by
  have hk2 : v.toBitVec.toNat % 64 = k := by rw [own_tn hv]; omega
  have h1 := c_lshl u v k hk2
  have h2 := rng64 (u <<< (v &&& 0x3f).toInt64)
  rw [h, ← Int.natCast_mul] at h1
  generalize X * 2 ^ k = Y at *
  omega
theorem own_lorN {u v : Int64} {X Y : Nat} (h : u.toInt = (X : Int)) (hv : v.toInt = (Y : Int)) : (u ||| v).toInt = ((X ||| Y : Nat) : Int) := by
  have h1 := own_tn64 h
  have h2 := own_tn64 hv
  refine own_nt64 ?_ (Nat.or_lt_two_pow (n := 63) h1.2 h2.2)
  show (u.toBitVec ||| v.toBitVec).toNat = _
  rw [BitVec.toNat_or, h1.1, h2.1]
theorem own_lowN {u : Int64} {X : Nat} (h : u.toInt = (X : Int)) : (u &&& (4294967295 : Int64)).toInt = ((X % 4294967296 : Nat) : Int) := by
  have h1 := own_tn64 h
  refine own_nt64 ?_ (by omega)
  show (u.toBitVec &&& 4294967295#64).toNat = _
  rw [BitVec.toNat_and, h1.1]
  show X &&& (2 ^ 32 - 1) = X % 2 ^ 32
  exact Nat.and_two_pow_sub_one_eq_mod X 32
theorem own_catN {u v : Int64} {X Y k : Nat} (h : u.toInt = ((X * 2 ^ k : Nat) : Int)) (hv : v.toInt = (Y : Int)) (hy : Y < 2 ^ k) : (u ||| v).toInt = ((X * 2 ^ k + Y : Nat) : Int) := by
  rw [own_lorN h hv]
  congr 1
  have h1 := Nat.shiftLeft_add_eq_or_of_lt hy X
  rw [Nat.shiftLeft_eq] at h1
  exact h1.symm
theorem own_le_or1 (a b : Nat) : a ≤ a ||| b := Nat.left_le_or
theorem own_le_or2 (a b : Nat) : b ≤ a ||| b := Nat.right_le_or
theorem own_ofN32 {n : Nat} (h : n < 2147483648) : (Int32.ofNat n).toInt = (n : Int) := Int32.toInt_ofNat_of_lt h
theorem own_ofNs (n : Nat) : Int32.ofNat n + (1 : Int32) = Int32.ofNat (n + 1) := (Int32.ofNat_add n 1).symm
theorem own_ofNa (n k : Nat) : Int32.ofNat n + Int32.ofNat k = Int32.ofNat (n + k) := (Int32.ofNat_add n k).symm
theorem own_addN {u v : Int32} {i j : Nat} (hu : u.toInt = (i : Int)) (hv : v.toInt = (j : Int)) (q : i + j < 2147483648) : (u + v).toInt = ((i + j : Nat) : Int) := by
  have h1 := c_iadd u v
  have h2 := rng32 (u + v)
  omega
theorem own_subN {u v : Int32} {i j : Nat} (hu : u.toInt = (i : Int)) (hv : v.toInt = (j : Int)) (q : j ≤ i) : (u - v).toInt = ((i - j : Nat) : Int) := by
  have h1 := c_isub u v
  have h2 := rng32 (u - v)
  have h3 := rng32 u
  omega
theorem own_mulN {u v : Int32} {i j : Nat} (hu : u.toInt = (i : Int)) (hv : v.toInt = (j : Int)) (q : i * j < 2147483648) : (u * v).toInt = ((i * j : Nat) : Int) := by
  have h1 := c_imul u v
  have h2 := rng32 (u * v)
  rw [hu, hv, ← Int.natCast_mul] at h1
  generalize i * j = Y at *
  omega
theorem own_divN {u v : Int32} {i j : Nat} (hu : u.toInt = (i : Int)) (hv : v.toInt = (j : Int)) : (u / v).toInt = ((i / j : Nat) : Int) := by
  have h1 := (c_idiv u v j hv (by intro q; rw [q] at hv; have : (-1 : Int32).toInt = -1 := rfl; omega)).1 (by omega)
  rw [h1, hu]
  exact (Int.natCast_ediv i j).symm
theorem own_ushrN {u v : Int32} {X k : Nat} (h : u.toInt = (X : Int)) (hv : v.toInt = (k : Int)) (h0 : 0 < k) (hk : k < 32) : ((u.toUInt32 >>> (v &&& 31).toUInt32).toInt32).toInt = ((X / 2 ^ k : Nat) : Int) := by
  have hk2 : v.toBitVec.toNat % 32 = k := by rw [own_tn hv]; omega
  have h2 := rng32 u
  rw [c_iushr u v k hk2 h0, h, show ((X : Int) % 4294967296) = ((X : Nat) : Int) by omega]
  exact (Int.natCast_ediv X (2 ^ k)).symm
theorem own_digN {q : Int64} {sh : Int32} {Q k : Nat} (hq : q.toInt = (Q : Int)) (hs : sh.toInt = (k : Int)) (hk : k < 64) {z : Int32} {w : Nat} (hz : (w = 1 ∧ z = 2) ∨ (w = 2 ∧ z = 4)) : (((q.toUInt64 >>> (sh &&& 0x3f).toInt64.toUInt64).toInt64).toInt32 &&& (z - (1 : Int32))).toInt = ((Q / 2 ^ k % 2 ^ w : Nat) : Int) := by
  have h1 := own_lushrN hq hs hk
  have h2 := c_l2i ((q.toUInt64 >>> (sh &&& 0x3f).toInt64.toUInt64).toInt64)
  rw [h1] at h2
  generalize ((q.toUInt64 >>> (sh &&& 0x3f).toInt64.toUInt64).toInt64).toInt32 = y at *
  generalize Q / 2 ^ k = Y at *
  rcases hz with ⟨rfl, rfl⟩ | ⟨rfl, rfl⟩
  · have h3 := c_mask y ((2 : Int32) - 1) 1 (by decide) (by decide)
    rw [h3]
    simp only [Nat.reducePow]
    omega
  · have h3 := c_mask y ((4 : Int32) - 1) 2 (by decide) (by decide)
    rw [h3]
    simp only [Nat.reducePow]
    omega
theorem own_nlz {o e X : Nat} (he : e ≤ 30) (hX : X = o / 2 ^ e) (h4 : X < 4) (ho : o < 2147483648) : o < 2 ^ (1 + e + X / 2) ∧ 1 + e + X / 2 ≤ 31 := by
  have hp : 0 < 2 ^ e := Nat.two_pow_pos e
  have h1 : o < (X + 1) * 2 ^ e := by
    rw [hX, Nat.add_mul, Nat.one_mul]
    have h5 := Nat.div_add_mod' o (2 ^ e)
    have h6 := Nat.mod_lt o hp
    omega
  have h2 : X * 2 ^ e ≤ o := by rw [hX]; exact Nat.div_mul_le_self o (2 ^ e)
  have hcase : X / 2 = 0 ∨ X / 2 = 1 := by omega
  rcases hcase with hc | hc
  · rw [hc]
    refine ⟨?_, by omega⟩
    have : (2 : Nat) ^ (1 + e + 0) = 2 * 2 ^ e := by rw [Nat.add_zero, Nat.pow_add, Nat.pow_one]
    rw [this]
    have : (X + 1) * 2 ^ e ≤ 2 * 2 ^ e := Nat.mul_le_mul_right _ (by omega)
    omega
  · rw [hc]
    have e2 : (2 : Nat) ^ (1 + e + 1) = 4 * 2 ^ e := by
      rw [show 1 + e + 1 = 2 + e by omega, Nat.pow_add]
    refine ⟨?_, ?_⟩
    · rw [e2]
      have : (X + 1) * 2 ^ e ≤ 4 * 2 ^ e := Nat.mul_le_mul_right _ (by omega)
      omega
    · rcases Nat.lt_or_ge e 30 with h | h
      · omega
      · have : e = 30 := by omega
        subst this
        have : 2 * 2 ^ 30 ≤ X * 2 ^ 30 := Nat.mul_le_mul_right _ (by omega)
        omega
def own_dg (w q d : Nat) : Nat := q / 2 ^ (d * w) % 2 ^ w
def own_i (a b : Nat) : Nat := if a < b then 1 else 0
def own_e (a b : Nat) : Nat := if a = b then 1 else 0
theorem own_ie (a b : Nat) : own_i a (b + 1) = own_i a b + own_e a b := by
  unfold own_i own_e
  by_cases h1 : a < b
  · rw [if_pos h1, if_pos (by omega), if_neg (by omega)]
  · by_cases h2 : a = b
    · rw [if_neg h1, if_pos (by omega), if_pos h2]
    · rw [if_neg h1, if_neg (by omega), if_neg h2]
theorem own_i0 (a : Nat) : own_i a 0 = 0 := if_neg (by omega)
theorem own_ixN {sz d d' v x : Nat} (hsz : sz = 2 ∨ sz = 4) (hv : v < sz) (hx : x < sz) (h : d' * sz + v = d * sz + x) : d' = d ∧ v = x := by
  rcases hsz with rfl | rfl <;> omega
def own_cnt (G : Nat → Nat) (n sz : Nat) (B : Nat → Nat → Nat) : Prop := ∀ d, d < n → ∀ v, v < sz → G (d * sz + v) = B d v
theorem own_cnt.step {G G1 : Nat → Nat} {n sz d : Nat} {B : Nat → Nat → Nat} {X : Nat → Nat} (hsz : sz = 2 ∨ sz = 4) (h : own_cnt G n sz (fun d' v => B d' v + own_e d' d' * (if d' < d then own_e (X d') v else 0))) (hX : X d < sz) (hd : d < n) (h1 : G1 (d * sz + X d) = G (d * sz + X d) + 1) (h2 : ∀ j, j ≠ d * sz + X d → G1 j = G j) :
    own_cnt G1 n sz (fun d' v => B d' v + own_e d' d' * (if d' < d + 1 then own_e (X d') v else 0)) := by
  intro d' hd' v hv
  have h3 := h d' hd' v hv
  have ee : own_e d' d' = 1 := if_pos rfl
  simp only [ee, Nat.one_mul] at h3 ⊢
  by_cases q : d' * sz + v = d * sz + X d
  · obtain ⟨rfl, rfl⟩ := own_ixN hsz hv hX q
    rw [h1, h3, if_neg (by omega), if_pos (by omega)]
    unfold own_e
    rw [if_pos rfl]
  · rw [h2 _ q, h3]
    by_cases q2 : d' < d
    · rw [if_pos q2, if_pos (by omega)]
    · rw [if_neg q2]
      by_cases q3 : d' < d + 1
      · obtain rfl : d' = d := by omega
        rw [if_pos q3]
        unfold own_e
        rw [if_neg (fun z => q (by rw [z]))]
      · rw [if_neg q3]
theorem own_cnt.fin {G : Nat → Nat} {n sz : Nat} {B : Nat → Nat → Nat} {X : Nat → Nat} (h : own_cnt G n sz (fun d' v => B d' v + own_e d' d' * (if d' < n then own_e (X d') v else 0))) : own_cnt G n sz (fun d' v => B d' v + own_e (X d') v) := by
  intro d hd v hv
  have h3 := h d hd v hv
  have ee : own_e d d = 1 := if_pos rfl
  simp only [ee, Nat.one_mul] at h3 ⊢
  rw [h3, if_pos hd]
theorem own_cnt.start {G : Nat → Nat} {n sz : Nat} {B : Nat → Nat → Nat} {X : Nat → Nat} (h : own_cnt G n sz B) : own_cnt G n sz (fun d' v => B d' v + own_e d' d' * (if d' < 0 then own_e (X d') v else 0)) := by
  intro d hd v hv
  have h3 := h d hd v hv
  simp only [Nat.not_lt_zero, if_false, Nat.mul_zero, Nat.add_zero]
  exact h3
def own_B3 (w : Nat) (q : Nat → Nat) : Nat → Nat → Nat := fun d v => own_e (own_dg w (q 0) d) v + own_e (own_dg w (q 1) d) v + own_e (own_dg w (q 2) d) v
def own_pm (s : Nat → Nat) : Prop := (s 0 = 0 ∧ s 1 = 1 ∧ s 2 = 2) ∨ (s 0 = 0 ∧ s 1 = 2 ∧ s 2 = 1) ∨ (s 0 = 1 ∧ s 1 = 0 ∧ s 2 = 2) ∨ (s 0 = 1 ∧ s 1 = 2 ∧ s 2 = 0) ∨ (s 0 = 2 ∧ s 1 = 0 ∧ s 2 = 1) ∨ (s 0 = 2 ∧ s 1 = 1 ∧ s 2 = 0)
theorem own_pm.lt {s : Nat → Nat} (h : own_pm s) : s 0 < 3 ∧ s 1 < 3 ∧ s 2 < 3 := by
  unfold own_pm at h
  omega
theorem own_B3p {w : Nat} {q s : Nat → Nat} (h : own_pm s) (d v : Nat) : own_B3 w q d v = own_e (own_dg w (q (s 0)) d) v + own_e (own_dg w (q (s 1)) d) v + own_e (own_dg w (q (s 2)) d) v := by
  unfold own_B3
  rcases h with ⟨e0, e1, e2⟩ | ⟨e0, e1, e2⟩ | ⟨e0, e1, e2⟩ | ⟨e0, e1, e2⟩ | ⟨e0, e1, e2⟩ | ⟨e0, e1, e2⟩ <;> rw [e0, e1, e2] <;> omega
theorem own_dglt (w q d : Nat) : own_dg w q d < 2 ^ w := Nat.mod_lt _ (Nat.two_pow_pos w)
theorem own_skip {x0 x1 x2 c : Nat} (h : c = own_e x0 x0 + own_e x1 x0 + own_e x2 x0) (h3 : 3 ≤ c) : x1 = x0 ∧ x2 = x0 := by
  unfold own_e at h
  rw [if_pos rfl] at h
  constructor
  · by_cases q : x1 = x0
    · exact q
    · rw [if_neg q] at h
      split at h <;> omega
  · by_cases q : x2 = x0
    · exact q
    · rw [if_neg q] at h
      split at h <;> omega
theorem own_mods (w q d : Nat) : q % 2 ^ ((d + 1) * w) = q % 2 ^ (d * w) + 2 ^ (d * w) * own_dg w q d := by
  rw [Nat.add_mul, Nat.one_mul, Nat.pow_add, Nat.mod_mul]
  rfl
theorem own_le_lt {m r r' x y : Nat} (hr : r < m) (h : x < y) : r + m * x ≤ r' + m * y := by
  have : m * (x + 1) ≤ m * y := Nat.mul_le_mul_left m h
  rw [Nat.mul_add, Nat.mul_one] at this
  omega
theorem own_le_le {m r r' x y : Nat} (hr : r < m) (hrr : r ≤ r') (h : ¬ y < x) : r + m * x ≤ r' + m * y := by
  rcases Nat.lt_or_ge x y with q | q
  · exact own_le_lt hr q
  · obtain rfl : x = y := by omega
    omega
/-- where the three go: x0 x1 x2 their digits, r0 r1 r2 their places -/
def own_pl (x0 x1 x2 r0 r1 r2 : Nat) : Prop := r0 = own_i x1 x0 + own_i x2 x0 ∧ r1 = own_i x0 (x1 + 1) + own_i x2 x1 ∧ r2 = own_i x0 (x2 + 1) + own_i x1 (x2 + 1)
theorem own_pl.cases {x0 x1 x2 r0 r1 r2 : Nat} (h : own_pl x0 x1 x2 r0 r1 r2) :
    (¬ x1 < x0 ∧ ¬ x2 < x0 ∧ ¬ x2 < x1 ∧ r0 = 0 ∧ r1 = 1 ∧ r2 = 2) ∨ (¬ x1 < x0 ∧ ¬ x2 < x0 ∧ x2 < x1 ∧ r0 = 0 ∧ r1 = 2 ∧ r2 = 1) ∨ (x1 < x0 ∧ ¬ x2 < x0 ∧ ¬ x2 < x1 ∧ r0 = 1 ∧ r1 = 0 ∧ r2 = 2) ∨ (x1 < x0 ∧ x2 < x0 ∧ ¬ x2 < x1 ∧ r0 = 2 ∧ r1 = 0 ∧ r2 = 1) ∨ (¬ x1 < x0 ∧ x2 < x0 ∧ x2 < x1 ∧ r0 = 1 ∧ r1 = 2 ∧ r2 = 0) ∨ (x1 < x0 ∧ x2 < x0 ∧ x2 < x1 ∧ r0 = 2 ∧ r1 = 1 ∧ r2 = 0) := by
  obtain ⟨h0, h1, h2⟩ := h
  unfold own_i at h0 h1 h2
  by_cases c1 : x1 < x0 <;> by_cases c2 : x2 < x0 <;> by_cases c3 : x2 < x1
  all_goals
    simp only [c1, c2, c3, if_true, if_false, Nat.lt_succ_iff] at h0 h1 h2
    repeat' split at h1
    repeat' split at h2
    all_goals omega
theorem own_pl.of {P : Nat → Nat} {sz x0 x1 x2 r0 r1 r2 off : Nat} {P1 P2 : Nat → Nat} (hP : ∀ v, v < sz → P (off + v) = own_i x0 v + own_i x1 v + own_i x2 v) (h0 : x0 < sz) (h1 : x1 < sz) (h2 : x2 < sz)
    (e0 : r0 = P (off + x0)) (a1 : P1 (off + x0) = r0 + 1) (b1 : ∀ j, j ≠ off + x0 → P1 j = P j) (e1 : r1 = P1 (off + x1)) (a2 : P2 (off + x1) = r1 + 1) (b2 : ∀ j, j ≠ off + x1 → P2 j = P1 j) (e2 : r2 = P2 (off + x2)) : own_pl x0 x1 x2 r0 r1 r2 := by
  have ii : ∀ a, own_i a a = 0 := fun a => if_neg (by omega)
  have q0 := hP x0 h0
  have q1 := hP x1 h1
  have q2 := hP x2 h2
  rw [ii] at q0 q1 q2
  have k0 : r0 = own_i x1 x0 + own_i x2 x0 := by omega
  have k1 : r1 = own_i x0 (x1 + 1) + own_i x2 x1 := by
    rw [own_ie]
    by_cases q : x0 = x1
    · have : own_e x0 x1 = 1 := if_pos q
      have : own_i x0 x1 = 0 := by rw [q]; exact ii _
      rw [← q] at e1
      rw [e1, a1, k0, q]
      rw [q] at *
      omega
    · have : own_e x0 x1 = 0 := if_neg q
      rw [e1, b1 _ (by omega), q1]
      omega
  refine ⟨k0, k1, ?_⟩
  rw [own_ie, own_ie]
  by_cases q : x1 = x2
  · have : own_e x1 x2 = 1 := if_pos q
    have : own_i x1 x2 = 0 := by rw [q]; exact ii _
    rw [own_ie] at k1
    rw [← q] at e2
    rw [e2, a2, k1]
    rw [q] at *
    omega
  · have : own_e x1 x2 = 0 := if_neg q
    rw [e2, b2 _ (by omega)]
    by_cases q' : x0 = x2
    · have : own_e x0 x2 = 1 := if_pos q'
      have : own_i x0 x2 = 0 := by rw [q']; exact ii _
      rw [← q', a1, k0]
      rw [q'] at *
      omega
    · have : own_e x0 x2 = 0 := if_neg q'
      rw [b1 _ (by omega), q2]
      omega
theorem own_pl.lt {x0 x1 x2 r0 r1 r2 : Nat} (h : own_pl x0 x1 x2 r0 r1 r2) : r0 < 3 ∧ r1 < 3 ∧ r2 < 3 := by
  rcases h.cases with h | h | h | h | h | h <;> omega
theorem own_pmt {s t : Nat → Nat} {x0 x1 x2 r0 r1 r2 : Nat} (hp : own_pm s) (hpl : own_pl x0 x1 x2 r0 r1 r2) (t0 : t r0 = s 0) (t1 : t r1 = s 1) (t2 : t r2 = s 2) : own_pm t := by
  rcases hpl.cases with ⟨-, -, -, rfl, rfl, rfl⟩ | ⟨-, -, -, rfl, rfl, rfl⟩ | ⟨-, -, -, rfl, rfl, rfl⟩ | ⟨-, -, -, rfl, rfl, rfl⟩ | ⟨-, -, -, rfl, rfl, rfl⟩ | ⟨-, -, -, rfl, rfl, rfl⟩
  all_goals
    rcases hp with ⟨e0, e1, e2⟩ | ⟨e0, e1, e2⟩ | ⟨e0, e1, e2⟩ | ⟨e0, e1, e2⟩ | ⟨e0, e1, e2⟩ | ⟨e0, e1, e2⟩ <;> simp [own_pm, t0, t1, t2, e0, e1, e2]
theorem own_ord3 {K s t : Nat → Nat} {x0 x1 x2 r0 r1 r2 : Nat} (hpl : own_pl x0 x1 x2 r0 r1 r2) (t0 : t r0 = s 0) (t1 : t r1 = s 1) (t2 : t r2 = s 2)
    (a : x1 < x0 → K (s 1) ≤ K (s 0)) (a' : ¬ x1 < x0 → K (s 0) ≤ K (s 1)) (b : x2 < x0 → K (s 2) ≤ K (s 0)) (b' : ¬ x2 < x0 → K (s 0) ≤ K (s 2)) (c : x2 < x1 → K (s 2) ≤ K (s 1)) (c' : ¬ x2 < x1 → K (s 1) ≤ K (s 2)) : K (t 0) ≤ K (t 1) ∧ K (t 1) ≤ K (t 2) := by
  rcases hpl.cases with ⟨c1, c2, c3, rfl, rfl, rfl⟩ | ⟨c1, c2, c3, rfl, rfl, rfl⟩ | ⟨c1, c2, c3, rfl, rfl, rfl⟩ | ⟨c1, c2, c3, rfl, rfl, rfl⟩ | ⟨c1, c2, c3, rfl, rfl, rfl⟩ | ⟨c1, c2, c3, rfl, rfl, rfl⟩
  · rw [t0, t1, t2]; exact ⟨a' c1, c' c3⟩
  · rw [t0, t1, t2]; exact ⟨b' c2, c c3⟩
  · rw [t0, t1, t2]; exact ⟨a c1, b' c2⟩
  · rw [t0, t1, t2]; exact ⟨c' c3, b c2⟩
  · rw [t0, t1, t2]; exact ⟨b c2, a' c1⟩
  · rw [t0, t1, t2]; exact ⟨c c3, a c1⟩
/-- one pass: the new order -/
theorem own_pass {w d : Nat} {q s t : Nat → Nat} (hp : own_pm s) (h01 : q (s 0) % 2 ^ (d * w) ≤ q (s 1) % 2 ^ (d * w)) (h12 : q (s 1) % 2 ^ (d * w) ≤ q (s 2) % 2 ^ (d * w)) {r0 r1 r2 : Nat}
    (hpl : own_pl (own_dg w (q (s 0)) d) (own_dg w (q (s 1)) d) (own_dg w (q (s 2)) d) r0 r1 r2) (t0 : t r0 = s 0) (t1 : t r1 = s 1) (t2 : t r2 = s 2) :
    own_pm t ∧ q (t 0) % 2 ^ ((d + 1) * w) ≤ q (t 1) % 2 ^ ((d + 1) * w) ∧ q (t 1) % 2 ^ ((d + 1) * w) ≤ q (t 2) % 2 ^ ((d + 1) * w) := by
  have l : ∀ a, q a % 2 ^ (d * w) < 2 ^ (d * w) := fun a => Nat.mod_lt _ (Nat.two_pow_pos _)
  refine ⟨own_pmt hp hpl t0 t1 t2, own_ord3 (K := fun a => q a % 2 ^ ((d + 1) * w)) hpl t0 t1 t2 ?_ ?_ ?_ ?_ ?_ ?_⟩ <;> intro c <;> simp only [own_mods]
  · exact own_le_lt (l _) c
  · exact own_le_le (l _) h01 c
  · exact own_le_lt (l _) c
  · exact own_le_le (l _) (Nat.le_trans h01 h12) c
  · exact own_le_lt (l _) c
  · exact own_le_le (l _) h12 c
/-- a pass left out: all digits alike -/
theorem own_passS {w d : Nat} {q s : Nat → Nat} (h01 : q (s 0) % 2 ^ (d * w) ≤ q (s 1) % 2 ^ (d * w)) (h12 : q (s 1) % 2 ^ (d * w) ≤ q (s 2) % 2 ^ (d * w)) (e1 : own_dg w (q (s 1)) d = own_dg w (q (s 0)) d) (e2 : own_dg w (q (s 2)) d = own_dg w (q (s 0)) d) :
    q (s 0) % 2 ^ ((d + 1) * w) ≤ q (s 1) % 2 ^ ((d + 1) * w) ∧ q (s 1) % 2 ^ ((d + 1) * w) ≤ q (s 2) % 2 ^ ((d + 1) * w) := by
  simp only [own_mods, e1, e2]
  omega
theorem own_pre4 {G G1 G2 G3 G4 : Nat → Nat} {off x0 x1 x2 : Nat} (hG : ∀ v, v < 4 → G (off + v) = own_e x0 v + own_e x1 v + own_e x2 v)
    (a1 : G1 off = 0) (b1 : ∀ j, j ≠ off → G1 j = G j) (a2 : G2 (off + 1) = 0 + G off) (b2 : ∀ j, j ≠ off + 1 → G2 j = G1 j) (a3 : G3 (off + 2) = 0 + G off + G1 (off + 1)) (b3 : ∀ j, j ≠ off + 2 → G3 j = G2 j) (a4 : G4 (off + 3) = 0 + G off + G1 (off + 1) + G2 (off + 2)) (b4 : ∀ j, j ≠ off + 3 → G4 j = G3 j) :
    (∀ v, v < 4 → G4 (off + v) = own_i x0 v + own_i x1 v + own_i x2 v) ∧ ∀ j, ¬ (off ≤ j ∧ j < off + 4) → G4 j = G j := by
  have g0 : G off = own_e x0 0 + own_e x1 0 + own_e x2 0 := hG 0 (by omega)
  have g1 := hG 1 (by omega)
  have g2 := hG 2 (by omega)
  have k1 := b1 (off + 1) (by omega)
  have k2 := b2 (off + 2) (by omega)
  have k3 := b1 (off + 2) (by omega)
  refine ⟨fun v hv => ?_, fun j hj => by rw [b4 j (by omega), b3 j (by omega), b2 j (by omega), b1 j (by omega)]⟩
  have i0 := own_ie x0 0
  have i1 := own_ie x0 1
  have i2 := own_ie x0 2
  have j0 := own_ie x1 0
  have j1 := own_ie x1 1
  have j2 := own_ie x1 2
  have m0 := own_ie x2 0
  have m1 := own_ie x2 1
  have m2 := own_ie x2 2
  simp only [own_i0, Nat.zero_add, Nat.reduceAdd] at i0 i1 i2 j0 j1 j2 m0 m1 m2
  obtain rfl | rfl | rfl | rfl : v = 0 ∨ v = 1 ∨ v = 2 ∨ v = 3 := by omega
  · rw [b4 _ (by omega), b3 _ (by omega), b2 _ (by omega), own_i0, own_i0, own_i0]; exact a1
  · rw [b4 _ (by omega), b3 _ (by omega), a2]; omega
  · rw [b4 _ (by omega), a3]; omega
  · rw [a4]; omega
theorem own_pre2 {G G1 G2 : Nat → Nat} {off x0 x1 x2 : Nat} (hG : ∀ v, v < 2 → G (off + v) = own_e x0 v + own_e x1 v + own_e x2 v)
    (a1 : G1 off = 0) (b1 : ∀ j, j ≠ off → G1 j = G j) (a2 : G2 (off + 1) = 0 + G off) (b2 : ∀ j, j ≠ off + 1 → G2 j = G1 j) :
    (∀ v, v < 2 → G2 (off + v) = own_i x0 v + own_i x1 v + own_i x2 v) ∧ ∀ j, ¬ (off ≤ j ∧ j < off + 2) → G2 j = G j := by
  have g0 : G off = own_e x0 0 + own_e x1 0 + own_e x2 0 := hG 0 (by omega)
  refine ⟨fun v hv => ?_, fun j hj => by rw [b2 j (by omega), b1 j (by omega)]⟩
  have i0 := own_ie x0 0
  have j0 := own_ie x1 0
  have m0 := own_ie x2 0
  simp only [own_i0, Nat.zero_add, Nat.reduceAdd] at i0 j0 m0
  obtain rfl | rfl : v = 0 ∨ v = 1 := by omega
  · rw [b2 _ (by omega), own_i0, own_i0, own_i0]; exact a1
  · rw [a2]; omega
/-- a later digit's counts are left alone -/
theorem own_later {G G' : Nat → Nat} {n sz d x : Nat} {B : Nat → Nat → Nat} (hsz : sz = 2 ∨ sz = 4) (h : ∀ d', d ≤ d' → d' < n → ∀ v, v < sz → G (d' * sz + v) = B d' v) (hG : ∀ j, ¬ (d * sz ≤ j ∧ j < d * sz + sz) → G' j = G j) : ∀ d', d + 1 ≤ d' → d' < n → ∀ v, v < sz → G' (d' * sz + v) = B d' v := by
  intro d' h1 h2 v hv
  rw [hG _ (by rcases hsz with rfl | rfl <;> omega)]
  exact h d' (by omega) h2 v hv
def own_rk (a b c : Nat) : Nat := own_i b a + own_i c a - (if b < a ∧ c < a ∧ b = c then 1 else 0)
def own_ds (a b c : Nat) : Nat := 1 + (if a = b then 0 else 1) + (if a = c then 0 else if b = c then 0 else 1)
def own_n (a b : Nat) : Nat := if a = b then 0 else 1
theorem own_fin0 {a b c e1 e2 : Nat} (h1 : a ≤ b) (h2 : b ≤ c) (q1 : e1 = own_n b a) (q2 : e2 = own_n c b) : own_rk a b c = 0 ∧ own_rk a c b = 0 ∧ own_rk b a c = e1 ∧ own_rk b c a = e1 ∧ own_rk c a b = e1 + e2 ∧ own_rk c b a = e1 + e2 ∧ own_ds a b c = e1 + e2 + 1 ∧ own_ds a c b = e1 + e2 + 1 ∧ own_ds b a c = e1 + e2 + 1 ∧ own_ds b c a = e1 + e2 + 1 ∧ own_ds c a b = e1 + e2 + 1 ∧ own_ds c b a = e1 + e2 + 1 := by
  unfold own_n at q1 q2
  by_cases k1 : b = a <;> by_cases k2 : c = b
  · subst k1 k2
    rw [if_pos rfl] at q1 q2
    subst q1 q2
    simp [own_rk, own_ds, own_i]
  · subst k1
    rw [if_pos rfl] at q1
    rw [if_neg k2] at q2
    subst q1 q2
    have k3 : b < c := by omega
    have k4 : ¬ c < b := by omega
    have k5 : ¬ b = c := by omega
    simp [own_rk, own_ds, own_i, k2, k3, k4, k5]
  · subst k2
    rw [if_pos rfl] at q2
    rw [if_neg k1] at q1
    subst q1 q2
    have k3 : a < c := by omega
    have k4 : ¬ c < a := by omega
    have k5 : ¬ a = c := by omega
    simp [own_rk, own_ds, own_i, k1, k3, k4, k5]
  · rw [if_neg k1] at q1
    rw [if_neg k2] at q2
    subst q1 q2
    have k3 : a < b := by omega
    have k4 : ¬ b < a := by omega
    have k5 : ¬ a = b := by omega
    have k6 : b < c := by omega
    have k7 : ¬ c < b := by omega
    have k8 : ¬ b = c := by omega
    have k9 : a < c := by omega
    have k10 : ¬ c < a := by omega
    have k11 : ¬ a = c := by omega
    have k12 : ¬ c = a := by omega
    simp [own_rk, own_ds, own_i, k1, k2, k3, k4, k5, k6, k7, k8, k9, k10, k11, k12]
theorem own_fin {s Q K N : Nat → Nat} {e1 e2 : Nat} (hp : own_pm s) (h01 : Q (s 0) ≤ Q (s 1)) (h12 : Q (s 1) ≤ Q (s 2)) (hQ : ∀ i j, i < 3 → j < 3 → (Q i ≤ Q j ↔ K i ≤ K j)) (q1 : e1 = own_n (Q (s 1)) (Q (s 0))) (q2 : e2 = own_n (Q (s 2)) (Q (s 1))) (n0 : N (s 0) = 0) (n1 : N (s 1) = e1) (n2 : N (s 2) = e1 + e2) :
    N 0 = own_rk (K 0) (K 1) (K 2) ∧ N 1 = own_rk (K 1) (K 0) (K 2) ∧ N 2 = own_rk (K 2) (K 0) (K 1) ∧ e1 + e2 + 1 = own_ds (K 0) (K 1) (K 2) := by
  obtain ⟨l0, l1, l2⟩ := hp.lt
  have k01 := (hQ _ _ l0 l1).mp h01
  have k12 := (hQ _ _ l1 l2).mp h12
  have ne : ∀ i j, i < 3 → j < 3 → own_n (Q i) (Q j) = own_n (K i) (K j) := fun i j hi hj => by
    unfold own_n
    have a := hQ i j hi hj
    have b := hQ j i hj hi
    by_cases q : K i = K j
    · rw [if_pos q, if_pos (by omega)]
    · rw [if_neg q, if_neg (by omega)]
  rw [ne _ _ l1 l0] at q1
  rw [ne _ _ l2 l1] at q2
  obtain ⟨f1, f2, f3, f4, f5, f6, f7, f8, f9, f10, f11, f12⟩ := own_fin0 k01 k12 q1 q2
  rcases hp with ⟨z0, z1, z2⟩ | ⟨z0, z1, z2⟩ | ⟨z0, z1, z2⟩ | ⟨z0, z1, z2⟩ | ⟨z0, z1, z2⟩ | ⟨z0, z1, z2⟩ <;> rw [z0] at n0 <;> rw [z1] at n1 <;> rw [z2] at n2 <;> simp only [z0, z1, z2] at f1 f2 f3 f4 f5 f6 f7 f8 f9 f10 f11 f12 <;> simp only [n0, n1, n2] <;> refine ⟨?_, ?_, ?_, ?_⟩ <;> first | exact f1.symm | exact f2.symm | exact f3.symm | exact f4.symm | exact f5.symm | exact f6.symm | exact f7.symm | exact f8.symm | exact f9.symm | exact f10.symm | exact f11.symm | exact f12.symm
theorem own_key {F S F' S' : Nat} (hS : S < 2147483648) (hS' : S' < 2147483648) (b1 : Nat) : (F * 4294967296 + S = F' * 4294967296 + S' ↔ F = F' ∧ S = S') ∧ (F * 4294967296 + S < F' * 4294967296 + S' ↔ F < F' ∨ (F = F' ∧ S < S')) := by omega
/-- q = F * 2^b + S is ordered as F * 2^32 + S -/
theorem own_qk {F S F' S' b : Nat} (hS : S < 2 ^ b) (hS' : S' < 2 ^ b) (h1 : S < 2147483648) (h1' : S' < 2147483648) : F * 2 ^ b + S ≤ F' * 2 ^ b + S' ↔ F * 4294967296 + S ≤ F' * 4294967296 + S' := by
  rcases Nat.lt_trichotomy F F' with h | h | h
  · have : (F + 1) * 2 ^ b ≤ F' * 2 ^ b := Nat.mul_le_mul_right _ h
    rw [Nat.add_mul, Nat.one_mul] at this
    constructor <;> intro _ <;> omega
  · subst h
    constructor <;> intro _ <;> omega
  · have : (F' + 1) * 2 ^ b ≤ F * 2 ^ b := Nat.mul_le_mul_right _ h
    rw [Nat.add_mul, Nat.one_mul] at this
    constructor <;> intro _ <;> omega
theorem own_plan {B n w : Nat} (h1 : 1 ≤ B) (h2 : B ≤ 62) (hn : n = (B + 2 - 1) / 2) (hw : w = (B + n - 1) / n) : (w = 1 ∨ w = 2) ∧ 1 ≤ n ∧ n ≤ 31 ∧ B ≤ n * w := by
  have hn1 : 1 ≤ n := by omega
  rcases Nat.lt_or_ge B 2 with h | h
  · obtain rfl : B = 1 := by omega
    obtain rfl : n = 1 := by omega
    subst hw
    decide
  · have : w = 2 := by
      rw [hw]
      apply Nat.div_eq_of_lt_le <;> omega
    subst this
    omega
theorem own_qlt {F S k1 k2 : Nat} (hF : F < 2 ^ k1) (hS : S < 2 ^ k2) : F * 2 ^ k2 + S < 2 ^ (k2 + k1) := by
  have : (F + 1) * 2 ^ k2 ≤ 2 ^ k1 * 2 ^ k2 := Nat.mul_le_mul_right _ hF
  rw [Nat.add_mul, Nat.one_mul, ← Nat.pow_add, Nat.add_comm k1] at this
  omega
theorem own_modB {q B m : Nat} (h : q < 2 ^ B) (hm : B ≤ m) : q % 2 ^ m = q := Nat.mod_eq_of_lt (Nat.lt_of_lt_of_le h (Nat.pow_le_pow_right (by omega) hm))
theorem own_expD {z : Int32} {a b c : Nat} (h : z.toInt = ((own_ds a b c : Nat) : Int)) : z = ((1 : Int32) + (if a = b then (0 : Int32) else (1 : Int32))) + (if a = c then (0 : Int32) else (if b = c then (0 : Int32) else (1 : Int32))) := by
  apply Int32.toInt_inj.mp
  rw [h]
  unfold own_ds
  split <;> split <;> (try split) <;> rfl
def own_updN (G : Nat → Nat) (k v : Nat) : Nat → Nat := fun j => if j = k then v else G j
theorem own_updNe (G : Nat → Nat) (k v : Nat) (j : Nat) : own_upd (fun j => .int (Int32.ofNat (G j))) k (.int (Int32.ofNat v)) j = .int (Int32.ofNat (own_updN G k v j)) := by
  unfold own_upd own_updN
  split <;> rfl
theorem own_hi32 {q : Int64} {F S : Nat} (h : q.toInt = ((F * 4294967296 + S : Nat) : Int)) (hS : S < 2147483648) : ((q.toUInt64 >>> ((32 : Int32) &&& 0x3f).toInt64.toUInt64).toInt64).toInt = (F : Int) := by
  have h1 := own_lushrN h (v := 32) (k := 32) rfl (by decide)
  rw [h1]
  simp only [Nat.reducePow]
  omega
theorem own_lo32 {q : Int64} {F S : Nat} (h : q.toInt = ((F * 4294967296 + S : Nat) : Int)) (hS : S < 2147483648) : (q &&& (4294967295 : Int64)).toInt = (S : Int) := by
  rw [own_lowN h]
  omega
theorem own_or3 {a b d : Int64} {A B D : Nat} (ha : a.toInt = (A : Int)) (hb : b.toInt = (B : Int)) (hd : d.toInt = (D : Int)) (lA : A < 2147483648) (lB : B < 2147483648) (lD : D < 2147483648) : ∃ O : Nat, ((((0 : Int64) ||| a) ||| b) ||| d).toInt = (O : Int) ∧ A ≤ O ∧ B ≤ O ∧ D ≤ O ∧ O < 2147483648 := by
  have h1 := own_lorN (own_lorN (own_lorN (u := 0) (X := 0) rfl ha) hb) hd
  refine ⟨_, h1, ?_, ?_, ?_, ?_⟩
  · exact Nat.le_trans (own_le_or2 0 A) (Nat.le_trans (own_le_or1 _ B) (own_le_or1 _ D))
  · exact Nat.le_trans (own_le_or2 _ B) (own_le_or1 _ D)
  · exact own_le_or2 _ D
  · exact Nat.or_lt_two_pow (n := 31) (Nat.or_lt_two_pow (n := 31) (Nat.or_lt_two_pow (n := 31) (by decide) lA) lB) lD
theorem own_pair {u v : Int32} {F S : Nat} (hu : u.toInt = (F : Int)) (hv : v.toInt = (S : Int)) (hF : F < 2147483648) (hS : S < 2147483648) : ((u.toInt64 <<< ((32 : Int32) &&& 0x3f).toInt64) ||| v.toInt64).toInt = ((F * 4294967296 + S : Nat) : Int) := by
  have h1 := own_lshlN (u := u.toInt64) (v := 32) (X := F) (k := 32) (by rw [c_i2l, hu]) rfl (by decide) (by simp only [Nat.reducePow]; omega)
  exact own_catN (k := 32) h1 (by rw [c_i2l, hv]) (by simp only [Nat.reducePow]; omega)
theorem own_qval {q : Int64} {sb : Int32} {F S k1 k2 : Nat} (h : q.toInt = ((F * 4294967296 + S : Nat) : Int)) (hS : S < 2147483648) (hsb : sb.toInt = (k2 : Int)) (hF1 : F < 2 ^ k1) (hS1 : S < 2 ^ k2) (hk : k1 ≤ 31) (hk2 : k2 ≤ 31) : ((((q.toUInt64 >>> ((32 : Int32) &&& 0x3f).toInt64.toUInt64).toInt64) <<< (sb &&& 0x3f).toInt64) ||| (q &&& (4294967295 : Int64))).toInt = ((F * 2 ^ k2 + S : Nat) : Int) := by
  refine own_catN (own_lshlN (own_hi32 h hS) hsb (by omega) ?_) (own_lo32 h hS) hS1
  have h1 : F * 2 ^ k2 ≤ 2 ^ k1 * 2 ^ k2 := Nat.mul_le_mul_right _ (Nat.le_of_lt hF1)
  rw [← Nat.pow_add] at h1
  have h2 : (2 : Nat) ^ (k1 + k2) ≤ 2 ^ 62 := Nat.pow_le_pow_right (by decide) (by omega)
  exact Nat.lt_of_le_of_lt (Nat.le_trans h1 h2) (by decide)
theorem own_nz32 {u : Int32} {n : Nat} (h : u.toInt = (n : Int)) (h1 : 1 ≤ n) : u ≠ 0 := by
  intro q
  rw [q] at h
  have : (0 : Int32).toInt = 0 := rfl
  omega
theorem own_lit32 {u : Int32} {n : Nat} (h : u.toInt = (n : Int)) (z : Int32) (hz : z.toInt = (n : Int)) : u = z := Int32.toInt_inj.mp (h.trans hz.symm)
def own_pick {α : Type} (r0 r1 : Nat) (a b d : α) (j : Nat) : α := if j = r0 then a else if j = r1 then b else d
theorem own_pick3 {x0 x1 x2 r0 r1 r2 : Nat} (h : own_pl x0 x1 x2 r0 r1 r2) {α : Type} (a b d : α) : own_pick r0 r1 a b d r0 = a ∧ own_pick r0 r1 a b d r1 = b ∧ own_pick r0 r1 a b d r2 = d := by
  unfold own_pick
  rcases h.cases with ⟨-, -, -, rfl, rfl, rfl⟩ | ⟨-, -, -, rfl, rfl, rfl⟩ | ⟨-, -, -, rfl, rfl, rfl⟩ | ⟨-, -, -, rfl, rfl, rfl⟩ | ⟨-, -, -, rfl, rfl, rfl⟩ | ⟨-, -, -, rfl, rfl, rfl⟩ <;> exact ⟨rfl, rfl, rfl⟩
theorem own_new3 {x0 x1 x2 r0 r1 r2 : Nat} (h : own_pl x0 x1 x2 r0 r1 r2) {α : Type} (f : Nat → Value) (k : α → Value) (a b d : α) : ∀ j, j < 3 → own_upd (own_upd (own_upd f r0 (k a)) r1 (k b)) r2 (k d) j = k (own_pick r0 r1 a b d j) := by
  intro j hj
  unfold own_pick own_upd
  rcases (by omega : j = 0 ∨ j = 1 ∨ j = 2) with rfl | rfl | rfl <;> rcases h.cases with ⟨-, -, -, rfl, rfl, rfl⟩ | ⟨-, -, -, rfl, rfl, rfl⟩ | ⟨-, -, -, rfl, rfl, rfl⟩ | ⟨-, -, -, rfl, rfl, rfl⟩ | ⟨-, -, -, rfl, rfl, rfl⟩ | ⟨-, -, -, rfl, rfl, rfl⟩ <;> rfl
theorem own_ltv {fa sa fb sb : Int32} {FA SA FB SB : Nat} (h1 : fa.toInt = (FA : Int)) (h2 : sa.toInt = (SA : Int)) (h3 : fb.toInt = (FB : Int)) (h4 : sb.toInt = (SB : Int)) (hA : SA < 2147483648) (hB : SB < 2147483648) : some (Value.int ((if fa < fb then (1 : Int32) else (if fa = fb then (if sa < sb then (1 : Int32) else (0 : Int32)) else (0 : Int32))) &&& 1)) = some (Value.int (if FA * 4294967296 + SA < FB * 4294967296 + SB then (1 : Int32) else 0)) := by
  have e : fa = fb ↔ FA = FB := ⟨fun q => by rw [q] at h1; omega, fun q => Int32.toInt_inj.mp (by rw [h1, h3, q])⟩
  have l1 := own_ltN h1 h3
  have l2 := own_ltN h2 h4
  by_cases c1 : FA < FB
  · rw [if_pos (l1.mpr c1), if_pos (by omega)]; rfl
  · rw [if_neg (fun q => c1 (l1.mp q))]
    by_cases c2 : FA = FB
    · rw [if_pos (e.mpr c2)]
      by_cases c3 : SA < SB
      · rw [if_pos (l2.mpr c3), if_pos (by omega)]; rfl
      · rw [if_neg (fun q => c3 (l2.mp q)), if_neg (by omega)]; rfl
    · rw [if_neg (fun q => c2 (e.mp q)), if_neg (by omega)]; rfl
theorem ef_m12 (m : MethodId) (x0 : Int32) (x1 : Int32) (x2 : Int32) (x3 : Int32) : entryFrame m #[(.int x0), (.int x1), (.int x2), (.int x3)] 4 = mkF m 0 #[.val (.int x0), .val (.int x1), .val (.int x2), .val (.int x3)] [] := by first | (simp [entryFrame, mkF, argsToLocals, Value.category]; done) | rfl
set_option maxRecDepth 65536 in
set_option maxHeartbeats 40000000 in
theorem own_m12 (l : Launch) (Z : State) (a0 : Array Value) (hw : ∀ d ∈ tables_1, d.before a0 Z = true) (wo : List Jvm.Cond) (h0 : Heap) (p1 : Int32) (p2 : Int32) (p3 : Int32) (p4 : Int32) (FA : Nat) (SA : Nat) (FB : Nat) (SB : Nat) (h1 : p1.toInt = (FA : Int)) (h2 : p2.toInt = (SA : Int)) (h3 : p3.toInt = (FB : Int)) (h4 : p4.toInt = (SB : Int)) (hSA : SA < 2147483648) (hSB : SB < 2147483648) :
    own_M l Z wo (⟨"com/example/nodemata/nodemata/PairNumbersSetPinLaw", "lt", "(IIII)Z"⟩ : MethodName) method_3_code 4 (some .boolean) ({ frames := 0, cells := 0, slots := 0, locals := 0 } : Room) [] #[(.int p1), (.int p2), (.int p3), (.int p4)] h0 (fun v h => v = some (.int (if FA * 4294967296 + SA < FB * 4294967296 + SB then (1 : Int32) else 0))) := by
  refine own_body (plainFor_of_name pn_12) (fun m => ef_m12 m p1 p2 p3 p4) ?_
  intro p e s m below meth c C hC T0 W0
  refine own_iloadN W0 1 d12_0 rfl rfl ?_
  refine own_iloadN W0 2 d12_1 rfl rfl ?_
  suffices J1 : own_Go p e below C T0 (mkF m 20 #[.val (.int p1), .val (.int p2), .val (.int p3), .val (.int p4)] [(.int (if p1 < p3 then (1 : Int32) else (if p1 = p3 then (if p2 < p4 then (1 : Int32) else (0 : Int32)) else (0 : Int32))))]) by
    by_cases c2 : p1 < p3
    · refine own_icmpY W0 15 d12_2 ((tlt c2).1) (by decide) (by decide) ?_
      refine own_iconst W0 (1 : Int32) 16 d12_15 rfl rfl ?_
      refine own_goto W0 20 d12_16 (by decide) (by decide) ?_
      first | (simp only [if_pos c2] at J1; exact J1) | (simp only [if_pos c2] at J1 ⊢; exact J1)
    · refine own_icmpN W0 5 d12_2 ((flt c2).1) rfl ?_
      refine own_iloadN W0 6 d12_5 rfl rfl ?_
      refine own_iloadN W0 7 d12_6 rfl rfl ?_
      by_cases c3 : p1 = p3
      · refine own_icmpN W0 10 d12_7 ((teq c3).2) rfl ?_
        refine own_iloadN W0 11 d12_10 rfl rfl ?_
        refine own_iloadN W0 12 d12_11 rfl rfl ?_
        by_cases c4 : p2 < p4
        · refine own_icmpN W0 15 d12_12 ((tlt c4).2.1) rfl ?_
          refine own_iconst W0 (1 : Int32) 16 d12_15 rfl rfl ?_
          refine own_goto W0 20 d12_16 (by decide) (by decide) ?_
          first | (simp only [if_neg c2, if_pos c3, if_pos c4] at J1; exact J1) | (simp only [if_neg c2, if_pos c3, if_pos c4] at J1 ⊢; exact J1)
        · refine own_icmpY W0 19 d12_12 ((flt c4).2.1) (by decide) (by decide) ?_
          refine own_iconst W0 (0 : Int32) 20 d12_19 rfl rfl ?_
          first | (simp only [if_neg c2, if_pos c3, if_neg c4] at J1; exact J1) | (simp only [if_neg c2, if_pos c3, if_neg c4] at J1 ⊢; exact J1)
      · refine own_icmpY W0 19 d12_7 ((feq c3).2) (by decide) (by decide) ?_
        refine own_iconst W0 (0 : Int32) 20 d12_19 rfl rfl ?_
        first | (simp only [if_neg c2, if_neg c3] at J1; exact J1) | (simp only [if_neg c2, if_neg c3] at J1 ⊢; exact J1)
  refine own_retZ (Q := fun v h => v = some (.int (if FA * 4294967296 + SA < FB * 4294967296 + SB then (1 : Int32) else 0))) W0 hC (by decide) (by decide) d12_20 ?_
  exact own_ltv (by assumption) (by assumption) (by assumption) (by assumption) hSA hSB
theorem own_inj32 {u v : Int32} {a b : Nat} (e : u = v) (h1 : u.toInt = (a : Int)) (h2 : v.toInt = (b : Int)) : a = b := by
  rw [e] at h1
  omega
theorem ef_m11 (m : MethodId) (x0 : Int32) (x1 : Int32) (x2 : Int32) (x3 : Int32) (x4 : Int32) (x5 : Int32) : entryFrame m #[(.int x0), (.int x1), (.int x2), (.int x3), (.int x4), (.int x5)] 9 = mkF m 0 #[.val (.int x0), .val (.int x1), .val (.int x2), .val (.int x3), .val (.int x4), .val (.int x5), .unset, .unset, .unset] [] := by first | (simp [entryFrame, mkF, argsToLocals, Value.category]; done) | rfl
set_option maxRecDepth 65536 in
set_option maxHeartbeats 40000000 in
theorem own_m11 (l : Launch) (Z : State) (a0 : Array Value) (hw : ∀ d ∈ tables_1, d.before a0 Z = true) (wo : List Jvm.Cond) (h0 : Heap) (p1 : Int32) (p2 : Int32) (p3 : Int32) (p4 : Int32) (p5 : Int32) (p6 : Int32) (FA : Nat) (SA : Nat) (FB : Nat) (SB : Nat) (FC : Nat) (SC : Nat) (g1 : p1.toInt = (FA : Int)) (g2 : p2.toInt = (SA : Int)) (g3 : p3.toInt = (FB : Int)) (g4 : p4.toInt = (SB : Int)) (g5 : p5.toInt = (FC : Int)) (g6 : p6.toInt = (SC : Int)) (hSA : SA < 2147483648) (hSB : SB < 2147483648) (hSC : SC < 2147483648) :
    own_M l Z wo (⟨"com/example/nodemata/nodemata/PairNumbersSetPinLaw", "rank", "(IIIIII)I"⟩ : MethodName) method_4_code 9 (some .int) ({ frames := 1, cells := 0, slots := 0, locals := 15 } : Room) [] #[(.int p1), (.int p2), (.int p3), (.int p4), (.int p5), (.int p6)] h0 (fun v h => ∃ r, v = some (.int r) ∧ r.toInt = ((own_rk (FA * 4294967296 + SA) (FB * 4294967296 + SB) (FC * 4294967296 + SC) : Nat) : Int)) := by
  refine own_body (plainFor_of_name pn_11) (fun m => ef_m11 m p1 p2 p3 p4 p5 p6) ?_
  intro p e s m below meth c C hC T0 W0
  refine own_iloadN W0 1 d11_0 rfl rfl ?_
  refine own_iloadN W0 2 d11_1 rfl rfl ?_
  refine own_iloadN W0 3 d11_2 rfl rfl ?_
  refine own_iloadN W0 4 d11_3 rfl rfl ?_
  refine own_callS W0 (A := [(.int p3), (.int p4), (.int p1), (.int p2)]) (wt := 0) (pc' := 7) (st := []) d11_4 (wd67 hw) (wd68 hw) (wd65 hw) (wd69 hw) (by decide) (own_m12 l Z a0 hw [] h0 p3 p4 p1 p2 FB SB FA SA g3 g4 g1 g2 hSB hSA) all0 rfl pd_0 rfl (Nat.le_of_eq rfl) (by decide) (by decide) (by decide) (by decide) rfl ?_
  rintro T1 h1 _ W1 K1 P1 rfl
  rw [P1 rfl rfl] at W1
  show own_Go p e below C T1 (mkF m 7 #[.val (.int p1), .val (.int p2), .val (.int p3), .val (.int p4), .val (.int p5), .val (.int p6), .unset, .unset, .unset] [(.int (if FB * 4294967296 + SB < FA * 4294967296 + SA then (1 : Int32) else 0))])
  by_cases cb : FB * 4294967296 + SB < FA * 4294967296 + SA
  · rw [show (if FB * 4294967296 + SB < FA * 4294967296 + SA then (1 : Int32) else 0) = (1 : Int32) from if_pos cb]
    refine own_istore W1 9 #[.val (.int p1), .val (.int p2), .val (.int p3), .val (.int p4), .val (.int p5), .val (.int p6), .val (.int (1 : Int32)), .unset, .unset] d11_7 rfl rfl ?_
    refine own_iload W1 11 d11_9 rfl rfl ?_
    refine own_iload W1 13 d11_11 rfl rfl ?_
    refine own_iloadN W1 14 d11_13 rfl rfl ?_
    refine own_iloadN W1 15 d11_14 rfl rfl ?_
    refine own_callS W1 (A := [(.int p5), (.int p6), (.int p1), (.int p2)]) (wt := 0) (pc' := 18) (st := []) d11_15 (wd67 hw) (wd68 hw) (wd65 hw) (wd69 hw) (by decide) (own_m12 l Z a0 hw [] h0 p5 p6 p1 p2 FC SC FA SA g5 g6 g1 g2 hSC hSA) all0 rfl pd_0 rfl (Nat.le_of_eq rfl) (by decide) (by decide) (by decide) (by decide) rfl ?_
    rintro T2 h2 _ W2 K2 P2 rfl
    rw [P2 rfl rfl] at W2
    show own_Go p e below C T2 (mkF m 18 #[.val (.int p1), .val (.int p2), .val (.int p3), .val (.int p4), .val (.int p5), .val (.int p6), .val (.int (1 : Int32)), .unset, .unset] [(.int (if FC * 4294967296 + SC < FA * 4294967296 + SA then (1 : Int32) else 0))])
    by_cases cc : FC * 4294967296 + SC < FA * 4294967296 + SA
    · rw [show (if FC * 4294967296 + SC < FA * 4294967296 + SA then (1 : Int32) else 0) = (1 : Int32) from if_pos cc]
      refine own_istore W2 20 #[.val (.int p1), .val (.int p2), .val (.int p3), .val (.int p4), .val (.int p5), .val (.int p6), .val (.int (1 : Int32)), .val (.int (1 : Int32)), .unset] d11_18 rfl rfl ?_
      refine own_iload W2 22 d11_20 rfl rfl ?_
      refine own_ifN W2 25 d11_22 ((if0 _ _).trans (feq ((by decide) : ¬ ((1 : Int32) = (0 : Int32)))).1) rfl ?_
      refine own_iconst W2 (1 : Int32) 26 d11_25 rfl rfl ?_
      refine own_goto W2 30 d11_26 (by decide) (by decide) ?_
      refine own_iload W2 32 d11_30 rfl rfl ?_
      refine own_ifN W2 35 d11_32 ((if0 _ _).trans (feq ((by decide) : ¬ ((1 : Int32) = (0 : Int32)))).1) rfl ?_
      refine own_iconst W2 (1 : Int32) 36 d11_35 rfl rfl ?_
      refine own_goto W2 40 d11_36 (by decide) (by decide) ?_
      refine own_iadd W2 41 d11_40 rfl ?_
      refine own_istore W2 43 #[.val (.int p1), .val (.int p2), .val (.int p3), .val (.int p4), .val (.int p5), .val (.int p6), .val (.int (1 : Int32)), .val (.int (1 : Int32)), .val (.int ((1 : Int32) + (1 : Int32)))] d11_41 rfl rfl ?_
      refine own_iload W2 45 d11_43 rfl rfl ?_
      refine own_ifN W2 48 d11_45 ((if0 _ _).trans (feq ((by decide) : ¬ ((1 : Int32) = (0 : Int32)))).1) rfl ?_
      refine own_iload W2 50 d11_48 rfl rfl ?_
      refine own_ifN W2 53 d11_50 ((if0 _ _).trans (feq ((by decide) : ¬ ((1 : Int32) = (0 : Int32)))).1) rfl ?_
      refine own_iloadN W2 54 d11_53 rfl rfl ?_
      refine own_iload W2 56 d11_54 rfl rfl ?_
      by_cases c3 : p3 = p5
      · refine own_icmpN W2 59 d11_56 ((teq c3).2) rfl ?_
        refine own_iloadN W2 60 d11_59 rfl rfl ?_
        refine own_iload W2 62 d11_60 rfl rfl ?_
        by_cases c4 : p4 = p6
        · refine own_icmpN W2 65 d11_62 ((teq c4).2) rfl ?_
          refine own_iload W2 67 d11_65 rfl rfl ?_
          refine own_iconst W2 (1 : Int32) 68 d11_67 rfl rfl ?_
          refine own_isub W2 69 d11_68 rfl ?_
          refine own_istore W2 71 #[.val (.int p1), .val (.int p2), .val (.int p3), .val (.int p4), .val (.int p5), .val (.int p6), .val (.int (1 : Int32)), .val (.int (1 : Int32)), .val (.int (((1 : Int32) + (1 : Int32)) - (1 : Int32)))] d11_69 rfl rfl ?_
          refine own_iload W2 73 d11_71 rfl rfl ?_
          refine own_retI (Q := fun v h => ∃ r, v = some (.int r) ∧ r.toInt = ((own_rk (FA * 4294967296 + SA) (FB * 4294967296 + SB) (FC * 4294967296 + SC) : Nat) : Int)) W2 hC (by decide) (by decide) d11_73 ?_
          exact ⟨_, rfl, by unfold own_rk own_i; rw [if_pos cb, if_pos cc, if_pos ⟨cb, cc, by rw [own_inj32 c3 g3 g5, own_inj32 c4 g4 g6]⟩]; rfl⟩
        · refine own_icmpY W2 71 d11_62 ((feq c4).2) (by decide) (by decide) ?_
          refine own_iload W2 73 d11_71 rfl rfl ?_
          refine own_retI (Q := fun v h => ∃ r, v = some (.int r) ∧ r.toInt = ((own_rk (FA * 4294967296 + SA) (FB * 4294967296 + SB) (FC * 4294967296 + SC) : Nat) : Int)) W2 hC (by decide) (by decide) d11_73 ?_
          exact ⟨_, rfl, by unfold own_rk own_i; rw [if_pos cb, if_pos cc, if_neg (fun q => c4 (own_lit32 (n := SB) g4 _ (by rw [g6]; omega)))]; rfl⟩
      · refine own_icmpY W2 71 d11_56 ((feq c3).2) (by decide) (by decide) ?_
        refine own_iload W2 73 d11_71 rfl rfl ?_
        refine own_retI (Q := fun v h => ∃ r, v = some (.int r) ∧ r.toInt = ((own_rk (FA * 4294967296 + SA) (FB * 4294967296 + SB) (FC * 4294967296 + SC) : Nat) : Int)) W2 hC (by decide) (by decide) d11_73 ?_
        exact ⟨_, rfl, by unfold own_rk own_i; rw [if_pos cb, if_pos cc, if_neg (fun q => c3 (own_lit32 (n := FB) g3 _ (by rw [g5]; omega)))]; rfl⟩
    · rw [show (if FC * 4294967296 + SC < FA * 4294967296 + SA then (1 : Int32) else 0) = (0 : Int32) from if_neg cc]
      refine own_istore W2 20 #[.val (.int p1), .val (.int p2), .val (.int p3), .val (.int p4), .val (.int p5), .val (.int p6), .val (.int (1 : Int32)), .val (.int (0 : Int32)), .unset] d11_18 rfl rfl ?_
      refine own_iload W2 22 d11_20 rfl rfl ?_
      refine own_ifN W2 25 d11_22 ((if0 _ _).trans (feq ((by decide) : ¬ ((1 : Int32) = (0 : Int32)))).1) rfl ?_
      refine own_iconst W2 (1 : Int32) 26 d11_25 rfl rfl ?_
      refine own_goto W2 30 d11_26 (by decide) (by decide) ?_
      refine own_iload W2 32 d11_30 rfl rfl ?_
      refine own_ifY W2 39 d11_32 ((if0 _ _).trans (teq ((by decide) : (0 : Int32) = (0 : Int32))).1) (by decide) (by decide) ?_
      refine own_iconst W2 (0 : Int32) 40 d11_39 rfl rfl ?_
      refine own_iadd W2 41 d11_40 rfl ?_
      refine own_istore W2 43 #[.val (.int p1), .val (.int p2), .val (.int p3), .val (.int p4), .val (.int p5), .val (.int p6), .val (.int (1 : Int32)), .val (.int (0 : Int32)), .val (.int ((1 : Int32) + (0 : Int32)))] d11_41 rfl rfl ?_
      refine own_iload W2 45 d11_43 rfl rfl ?_
      refine own_ifN W2 48 d11_45 ((if0 _ _).trans (feq ((by decide) : ¬ ((1 : Int32) = (0 : Int32)))).1) rfl ?_
      refine own_iload W2 50 d11_48 rfl rfl ?_
      refine own_ifY W2 71 d11_50 ((if0 _ _).trans (teq ((by decide) : (0 : Int32) = (0 : Int32))).1) (by decide) (by decide) ?_
      refine own_iload W2 73 d11_71 rfl rfl ?_
      refine own_retI (Q := fun v h => ∃ r, v = some (.int r) ∧ r.toInt = ((own_rk (FA * 4294967296 + SA) (FB * 4294967296 + SB) (FC * 4294967296 + SC) : Nat) : Int)) W2 hC (by decide) (by decide) d11_73 ?_
      exact ⟨_, rfl, by unfold own_rk own_i; rw [if_pos cb, if_neg cc, if_neg (fun q => cc q.2.1)]; rfl⟩
  · rw [show (if FB * 4294967296 + SB < FA * 4294967296 + SA then (1 : Int32) else 0) = (0 : Int32) from if_neg cb]
    refine own_istore W1 9 #[.val (.int p1), .val (.int p2), .val (.int p3), .val (.int p4), .val (.int p5), .val (.int p6), .val (.int (0 : Int32)), .unset, .unset] d11_7 rfl rfl ?_
    refine own_iload W1 11 d11_9 rfl rfl ?_
    refine own_iload W1 13 d11_11 rfl rfl ?_
    refine own_iloadN W1 14 d11_13 rfl rfl ?_
    refine own_iloadN W1 15 d11_14 rfl rfl ?_
    refine own_callS W1 (A := [(.int p5), (.int p6), (.int p1), (.int p2)]) (wt := 0) (pc' := 18) (st := []) d11_15 (wd67 hw) (wd68 hw) (wd65 hw) (wd69 hw) (by decide) (own_m12 l Z a0 hw [] h0 p5 p6 p1 p2 FC SC FA SA g5 g6 g1 g2 hSC hSA) all0 rfl pd_0 rfl (Nat.le_of_eq rfl) (by decide) (by decide) (by decide) (by decide) rfl ?_
    rintro T5 h5 _ W5 K5 P5 rfl
    rw [P5 rfl rfl] at W5
    show own_Go p e below C T5 (mkF m 18 #[.val (.int p1), .val (.int p2), .val (.int p3), .val (.int p4), .val (.int p5), .val (.int p6), .val (.int (0 : Int32)), .unset, .unset] [(.int (if FC * 4294967296 + SC < FA * 4294967296 + SA then (1 : Int32) else 0))])
    by_cases cc : FC * 4294967296 + SC < FA * 4294967296 + SA
    · rw [show (if FC * 4294967296 + SC < FA * 4294967296 + SA then (1 : Int32) else 0) = (1 : Int32) from if_pos cc]
      refine own_istore W5 20 #[.val (.int p1), .val (.int p2), .val (.int p3), .val (.int p4), .val (.int p5), .val (.int p6), .val (.int (0 : Int32)), .val (.int (1 : Int32)), .unset] d11_18 rfl rfl ?_
      refine own_iload W5 22 d11_20 rfl rfl ?_
      refine own_ifY W5 29 d11_22 ((if0 _ _).trans (teq ((by decide) : (0 : Int32) = (0 : Int32))).1) (by decide) (by decide) ?_
      refine own_iconst W5 (0 : Int32) 30 d11_29 rfl rfl ?_
      refine own_iload W5 32 d11_30 rfl rfl ?_
      refine own_ifN W5 35 d11_32 ((if0 _ _).trans (feq ((by decide) : ¬ ((1 : Int32) = (0 : Int32)))).1) rfl ?_
      refine own_iconst W5 (1 : Int32) 36 d11_35 rfl rfl ?_
      refine own_goto W5 40 d11_36 (by decide) (by decide) ?_
      refine own_iadd W5 41 d11_40 rfl ?_
      refine own_istore W5 43 #[.val (.int p1), .val (.int p2), .val (.int p3), .val (.int p4), .val (.int p5), .val (.int p6), .val (.int (0 : Int32)), .val (.int (1 : Int32)), .val (.int ((0 : Int32) + (1 : Int32)))] d11_41 rfl rfl ?_
      refine own_iload W5 45 d11_43 rfl rfl ?_
      refine own_ifY W5 71 d11_45 ((if0 _ _).trans (teq ((by decide) : (0 : Int32) = (0 : Int32))).1) (by decide) (by decide) ?_
      refine own_iload W5 73 d11_71 rfl rfl ?_
      refine own_retI (Q := fun v h => ∃ r, v = some (.int r) ∧ r.toInt = ((own_rk (FA * 4294967296 + SA) (FB * 4294967296 + SB) (FC * 4294967296 + SC) : Nat) : Int)) W5 hC (by decide) (by decide) d11_73 ?_
      exact ⟨_, rfl, by unfold own_rk own_i; rw [if_neg cb, if_pos cc, if_neg (fun q => cb q.1)]; rfl⟩
    · rw [show (if FC * 4294967296 + SC < FA * 4294967296 + SA then (1 : Int32) else 0) = (0 : Int32) from if_neg cc]
      refine own_istore W5 20 #[.val (.int p1), .val (.int p2), .val (.int p3), .val (.int p4), .val (.int p5), .val (.int p6), .val (.int (0 : Int32)), .val (.int (0 : Int32)), .unset] d11_18 rfl rfl ?_
      refine own_iload W5 22 d11_20 rfl rfl ?_
      refine own_ifY W5 29 d11_22 ((if0 _ _).trans (teq ((by decide) : (0 : Int32) = (0 : Int32))).1) (by decide) (by decide) ?_
      refine own_iconst W5 (0 : Int32) 30 d11_29 rfl rfl ?_
      refine own_iload W5 32 d11_30 rfl rfl ?_
      refine own_ifY W5 39 d11_32 ((if0 _ _).trans (teq ((by decide) : (0 : Int32) = (0 : Int32))).1) (by decide) (by decide) ?_
      refine own_iconst W5 (0 : Int32) 40 d11_39 rfl rfl ?_
      refine own_iadd W5 41 d11_40 rfl ?_
      refine own_istore W5 43 #[.val (.int p1), .val (.int p2), .val (.int p3), .val (.int p4), .val (.int p5), .val (.int p6), .val (.int (0 : Int32)), .val (.int (0 : Int32)), .val (.int ((0 : Int32) + (0 : Int32)))] d11_41 rfl rfl ?_
      refine own_iload W5 45 d11_43 rfl rfl ?_
      refine own_ifY W5 71 d11_45 ((if0 _ _).trans (teq ((by decide) : (0 : Int32) = (0 : Int32))).1) (by decide) (by decide) ?_
      refine own_iload W5 73 d11_71 rfl rfl ?_
      refine own_retI (Q := fun v h => ∃ r, v = some (.int r) ∧ r.toInt = ((own_rk (FA * 4294967296 + SA) (FB * 4294967296 + SB) (FC * 4294967296 + SC) : Nat) : Int)) W5 hC (by decide) (by decide) d11_73 ?_
      exact ⟨_, rfl, by unfold own_rk own_i; rw [if_neg cb, if_neg cc, if_neg (fun q => cb q.1)]; rfl⟩
theorem ef_m10 (m : MethodId) (x0 : Int64) (x1 : Int32) (x2 : Int32) : entryFrame m #[(.long x0), (.int x1), (.int x2)] 4 = mkF m 0 #[.val (.long x0), .second, .val (.int x1), .val (.int x2)] [] := by first | (simp [entryFrame, mkF, argsToLocals, Value.category]; done) | rfl
set_option maxRecDepth 65536 in
set_option maxHeartbeats 40000000 in
theorem own_m10 (l : Launch) (Z : State) (a0 : Array Value) (hw : ∀ d ∈ tables_1, d.before a0 Z = true) (wo : List Jvm.Cond) (h0 : Heap) (q1 : Int64) (p2 : Int32) (p3 : Int32) (Q : Nat) (k : Nat) (w : Nat) (hq : q1.toInt = (Q : Int)) (hs : p2.toInt = (k : Int)) (hk : k < 64) (hz : (w = 1 ∧ p3 = 2) ∨ (w = 2 ∧ p3 = 4)) :
    own_M l Z wo (⟨"com/example/nodemata/nodemata/PairNumbers", "digit", "(JII)I"⟩ : MethodName) prog_83_method_7_code 4 (some .int) ({ frames := 0, cells := 0, slots := 0, locals := 0 } : Room) [] #[(.long q1), (.int p2), (.int p3)] h0 (fun v h => ∃ r, v = some (.int r) ∧ r.toInt = ((Q / 2 ^ k % 2 ^ w : Nat) : Int)) := by
  refine own_body (plainFor_of_name pn_10) (fun m => ef_m10 m q1 p2 p3) ?_
  intro p e s m below meth c C hC T0 W0
  refine own_lloadN W0 1 d10_0 rfl rfl ?_
  refine own_iloadN W0 2 d10_1 rfl rfl ?_
  refine own_lushr W0 3 d10_2 rfl ?_
  refine own_l2i W0 4 d10_3 rfl ?_
  refine own_iloadN W0 5 d10_4 rfl rfl ?_
  refine own_iconst W0 (1 : Int32) 6 d10_5 rfl rfl ?_
  refine own_isub W0 7 d10_6 rfl ?_
  refine own_iand W0 8 d10_7 rfl ?_
  refine own_retI (Q := fun v h => ∃ r, v = some (.int r) ∧ r.toInt = ((Q / 2 ^ k % 2 ^ w : Nat) : Int)) W0 hC (by decide) (by decide) d10_8 ?_
  exact ⟨_, rfl, own_digN hq hs hk hz⟩
theorem ef_m9 (m : MethodId) (x0 : Int32) (x1 : Int32) : entryFrame m #[(.int x0), (.int x1)] 2 = mkF m 0 #[.val (.int x0), .val (.int x1)] [] := by first | (simp [entryFrame, mkF, argsToLocals, Value.category]; done) | rfl
set_option maxRecDepth 65536 in
set_option maxHeartbeats 40000000 in
theorem own_m9 (l : Launch) (Z : State) (a0 : Array Value) (hw : ∀ d ∈ tables_1, d.before a0 Z = true) (wo : List Jvm.Cond) (h0 : Heap) (p1 : Int32) (p2 : Int32) :
    own_M l Z wo (⟨"java/lang/Math", "min", "(II)I"⟩ : MethodName) jdk_29_method_69_code 2 (some .int) ({ frames := 0, cells := 0, slots := 0, locals := 0 } : Room) [] #[(.int p1), (.int p2)] h0 (fun v h => v = some (.int (if p2 < p1 then p2 else p1))) := by
  refine own_body (Jvm.Free.JP.mathPlain rfl (by decide +kernel)) (fun m => ef_m9 m p1 p2) ?_
  intro p e s m below meth c C hC T0 W0
  refine own_iloadN W0 1 d9_0 rfl rfl ?_
  refine own_iloadN W0 2 d9_1 rfl rfl ?_
  suffices J1 : own_Go p e below C T0 (mkF m 10 #[.val (.int p1), .val (.int p2)] [(.int (if p2 < p1 then p2 else p1))]) by
    by_cases c2 : p2 < p1
    · refine own_icmpY W0 9 d9_2 ((tlt c2).2.2.1) (by decide) (by decide) ?_
      refine own_iloadN W0 10 d9_9 rfl rfl ?_
      first | (simp only [if_pos c2] at J1; exact J1) | (simp only [if_pos c2] at J1 ⊢; exact J1)
    · refine own_icmpN W0 5 d9_2 ((flt c2).2.2.1) rfl ?_
      refine own_iloadN W0 6 d9_5 rfl rfl ?_
      refine own_goto W0 10 d9_6 (by decide) (by decide) ?_
      first | (simp only [if_neg c2] at J1; exact J1) | (simp only [if_neg c2] at J1 ⊢; exact J1)
  refine own_retI (Q := fun v h => v = some (.int (if p2 < p1 then p2 else p1))) W0 hC (by decide) (by decide) d9_10 ?_
  exact rfl
theorem own_st0 {ee : Nat} (h : ee ≤ 0) : (15 : Int32).toInt = ((31 - (ee + 16) : Nat) : Int) := by
  obtain rfl : ee = 0 := Nat.le_zero.mp h
  rfl
theorem own_addN' {u v : Int32} {i k : Nat} (hu : u.toInt = (i : Int)) (hv : v.toInt = -(k : Int)) (q : k ≤ i) : (u + v).toInt = ((i - k : Nat) : Int) := by
  have h1 := c_iadd u v
  have h2 := rng32 (u + v)
  have h3 := rng32 u
  omega
theorem ef_m8 (m : MethodId) (x0 : Int32) : entryFrame m #[(.int x0)] 2 = mkF m 0 #[.val (.int x0), .unset] [] := by first | (simp [entryFrame, mkF, argsToLocals, Value.category]; done) | rfl
set_option maxRecDepth 65536 in
set_option maxHeartbeats 40000000 in
theorem own_m8 (l : Launch) (Z : State) (a0 : Array Value) (hw : ∀ d ∈ tables_1, d.before a0 Z = true) (wo : List Jvm.Cond) (h0 : Heap) (p1 : Int32) (O : Nat) (ho : p1.toInt = (O : Int)) (hO : O < 2147483648) :
    own_M l Z wo (⟨"java/lang/Integer", "numberOfLeadingZeros", "(I)I"⟩ : MethodName) jdk_33_method_47_code 2 (some .int) ({ frames := 0, cells := 0, slots := 0, locals := 0 } : Room) [] #[(.int p1)] h0 (fun v h => ∃ r k, v = some (.int r) ∧ r.toInt = ((32 - k : Nat) : Int) ∧ O < 2 ^ k ∧ k ≤ 31) := by
  refine own_body (plainFor_of_name pn_8) (fun m => ef_m8 m p1) ?_
  intro p e s m below meth c C hC T0 W0
  refine own_iloadN W0 1 d8_0 rfl rfl ?_
  have h00 : (0 : Int32).toInt = ((0 : Nat) : Int) := rfl
  by_cases c1 : (0 : Int32) < p1
  · refine own_ifY W0 15 d8_1 ((if0 _ _).trans (tlt c1).2.2.1) (by decide) (by decide) ?_
    refine own_bipush W0 (31 : Int32) 17 d8_15 rfl rfl ?_
    refine own_istoreN W0 18 #[.val (.int p1), .val (.int (31 : Int32))] d8_17 rfl rfl ?_
    have J2 : ∀ (T2 : State) (x1 n1 : Int32), own_W p l e ({ frames := 0, cells := 0, slots := 0, locals := 0 } : Room) s m #[(.int p1)] below meth c Z (⟨"java/lang/Integer", "numberOfLeadingZeros", "(I)I"⟩ : MethodName) (some .int) jdk_33_method_47_code 2 [] T2 h0 (0) (0) → (∃ ee, ee ≤ 30 ∧ n1.toInt = ((31 - ee : Nat) : Int) ∧ x1.toInt = ((O / 2 ^ ee : Nat) : Int) ∧ O / 2 ^ ee < 4) → own_Go p e below C T2 (mkF m 73 #[.val (.int x1), .val (.int n1)] []) := by
      intro T2 x1 n1 W2 hP
      obtain ⟨ee, he, hn1, hx1, hl⟩ := hP
      refine own_iloadN W2 74 d8_73 rfl rfl ?_
      refine own_iloadN W2 75 d8_74 rfl rfl ?_
      refine own_iconst W2 (1 : Int32) 76 d8_75 rfl rfl ?_
      refine own_iushr W2 77 d8_76 rfl ?_
      refine own_isub W2 78 d8_77 rfl ?_
      refine own_retI (Q := fun v h => ∃ r k, v = some (.int r) ∧ r.toInt = ((32 - k : Nat) : Int) ∧ O < 2 ^ k ∧ k ≤ 31) W2 hC (by decide) (by decide) d8_78 ?_
      exact by
        have h1 := own_ushrN hx1 (v := 1) (k := 1) rfl (by decide) (by decide)
        have h2 := own_nlz he rfl hl hO
        have h3 : O / 2 ^ ee / 2 ≤ 31 - ee := by omega
        refine ⟨_, 1 + ee + O / 2 ^ ee / 2, rfl, ?_, h2.1, h2.2⟩
        rw [own_subN hn1 h1 h3]
        congr 1
        simp only [Nat.pow_one]
        omega
    have J3 : ∀ (T3 : State) (x1 n1 : Int32), own_W p l e ({ frames := 0, cells := 0, slots := 0, locals := 0 } : Room) s m #[(.int p1)] below meth c Z (⟨"java/lang/Integer", "numberOfLeadingZeros", "(I)I"⟩ : MethodName) (some .int) jdk_33_method_47_code 2 [] T3 h0 (0) (0) → (∃ ee, ee ≤ 28 ∧ n1.toInt = ((31 - ee : Nat) : Int) ∧ x1.toInt = ((O / 2 ^ ee : Nat) : Int) ∧ O / 2 ^ ee < 16) → own_Go p e below C T3 (mkF m 61 #[.val (.int x1), .val (.int n1)] []) := by
      intro T3 x1 n1 W3 hP
      obtain ⟨ee, he, hn1, hx1, hl⟩ := hP
      refine own_iloadN W3 62 d8_61 rfl rfl ?_
      refine own_iconst W3 (4 : Int32) 63 d8_62 rfl rfl ?_
      by_cases c4 : x1 < (4 : Int32)
      · refine own_icmpY W3 73 d8_63 ((tlt c4).1) (by decide) (by decide) ?_
        exact J2 _ _ _ W3 ⟨ee, by omega, hn1, hx1, by have h9 := c4; rw [own_ltN hx1 (j := 4) rfl] at h9; exact h9⟩
      · refine own_icmpN W3 66 d8_63 ((flt c4).1) rfl ?_
        refine own_iinc W3 (n1 + (-2 : Int32)) 69 #[.val (.int x1), .val (.int (n1 + (-2 : Int32)))] d8_66 rfl rfl rfl rfl ?_
        refine own_iloadN W3 70 d8_69 rfl rfl ?_
        refine own_iconst W3 (2 : Int32) 71 d8_70 rfl rfl ?_
        refine own_iushr W3 72 d8_71 rfl ?_
        refine own_istoreN W3 73 #[.val (.int ((x1.toUInt32 >>> ((2 : Int32) &&& 31).toUInt32).toInt32)), .val (.int (n1 + (-2 : Int32)))] d8_72 rfl rfl ?_
        exact J2 _ _ _ W3 ⟨ee + 2, by omega, by rw [own_addN' hn1 (k := 2) rfl (by omega)]; omega, by rw [own_ushrN hx1 (k := 2) rfl (by decide) (by decide), Nat.div_div_eq_div_mul, ← Nat.pow_add], by rw [Nat.pow_add, ← Nat.div_div_eq_div_mul]; simp only [Nat.reducePow]; omega⟩
    have J5 : ∀ (T5 : State) (x1 n1 : Int32), own_W p l e ({ frames := 0, cells := 0, slots := 0, locals := 0 } : Room) s m #[(.int p1)] below meth c Z (⟨"java/lang/Integer", "numberOfLeadingZeros", "(I)I"⟩ : MethodName) (some .int) jdk_33_method_47_code 2 [] T5 h0 (0) (0) → (∃ ee, ee ≤ 24 ∧ n1.toInt = ((31 - ee : Nat) : Int) ∧ x1.toInt = ((O / 2 ^ ee : Nat) : Int) ∧ O / 2 ^ ee < 256) → own_Go p e below C T5 (mkF m 48 #[.val (.int x1), .val (.int n1)] []) := by
      intro T5 x1 n1 W5 hP
      obtain ⟨ee, he, hn1, hx1, hl⟩ := hP
      refine own_iloadN W5 49 d8_48 rfl rfl ?_
      refine own_bipush W5 (16 : Int32) 51 d8_49 rfl rfl ?_
      by_cases c6 : x1 < (16 : Int32)
      · refine own_icmpY W5 61 d8_51 ((tlt c6).1) (by decide) (by decide) ?_
        exact J3 _ _ _ W5 ⟨ee, by omega, hn1, hx1, by have h9 := c6; rw [own_ltN hx1 (j := 16) rfl] at h9; exact h9⟩
      · refine own_icmpN W5 54 d8_51 ((flt c6).1) rfl ?_
        refine own_iinc W5 (n1 + (-4 : Int32)) 57 #[.val (.int x1), .val (.int (n1 + (-4 : Int32)))] d8_54 rfl rfl rfl rfl ?_
        refine own_iloadN W5 58 d8_57 rfl rfl ?_
        refine own_iconst W5 (4 : Int32) 59 d8_58 rfl rfl ?_
        refine own_iushr W5 60 d8_59 rfl ?_
        refine own_istoreN W5 61 #[.val (.int ((x1.toUInt32 >>> ((4 : Int32) &&& 31).toUInt32).toInt32)), .val (.int (n1 + (-4 : Int32)))] d8_60 rfl rfl ?_
        exact J3 _ _ _ W5 ⟨ee + 4, by omega, by rw [own_addN' hn1 (k := 4) rfl (by omega)]; omega, by rw [own_ushrN hx1 (k := 4) rfl (by decide) (by decide), Nat.div_div_eq_div_mul, ← Nat.pow_add], by rw [Nat.pow_add, ← Nat.div_div_eq_div_mul]; simp only [Nat.reducePow]; omega⟩
    have J7 : ∀ (T7 : State) (x1 n1 : Int32), own_W p l e ({ frames := 0, cells := 0, slots := 0, locals := 0 } : Room) s m #[(.int p1)] below meth c Z (⟨"java/lang/Integer", "numberOfLeadingZeros", "(I)I"⟩ : MethodName) (some .int) jdk_33_method_47_code 2 [] T7 h0 (0) (0) → (∃ ee, ee ≤ 16 ∧ n1.toInt = ((31 - ee : Nat) : Int) ∧ x1.toInt = ((O / 2 ^ ee : Nat) : Int) ∧ O / 2 ^ ee < 65536) → own_Go p e below C T7 (mkF m 33 #[.val (.int x1), .val (.int n1)] []) := by
      intro T7 x1 n1 W7 hP
      obtain ⟨ee, he, hn1, hx1, hl⟩ := hP
      refine own_iloadN W7 34 d8_33 rfl rfl ?_
      refine own_sipush W7 (256 : Int32) 37 d8_34 rfl rfl ?_
      by_cases c8 : x1 < (256 : Int32)
      · refine own_icmpY W7 48 d8_37 ((tlt c8).1) (by decide) (by decide) ?_
        exact J5 _ _ _ W7 ⟨ee, by omega, hn1, hx1, by have h9 := c8; rw [own_ltN hx1 (j := 256) rfl] at h9; exact h9⟩
      · refine own_icmpN W7 40 d8_37 ((flt c8).1) rfl ?_
        refine own_iinc W7 (n1 + (-8 : Int32)) 43 #[.val (.int x1), .val (.int (n1 + (-8 : Int32)))] d8_40 rfl rfl rfl rfl ?_
        refine own_iloadN W7 44 d8_43 rfl rfl ?_
        refine own_bipush W7 (8 : Int32) 46 d8_44 rfl rfl ?_
        refine own_iushr W7 47 d8_46 rfl ?_
        refine own_istoreN W7 48 #[.val (.int ((x1.toUInt32 >>> ((8 : Int32) &&& 31).toUInt32).toInt32)), .val (.int (n1 + (-8 : Int32)))] d8_47 rfl rfl ?_
        exact J5 _ _ _ W7 ⟨ee + 8, by omega, by rw [own_addN' hn1 (k := 8) rfl (by omega)]; omega, by rw [own_ushrN hx1 (k := 8) rfl (by decide) (by decide), Nat.div_div_eq_div_mul, ← Nat.pow_add], by rw [Nat.pow_add, ← Nat.div_div_eq_div_mul]; simp only [Nat.reducePow]; omega⟩
    have hP : ∃ ee, ee ≤ 0 ∧ (31 : Int32).toInt = ((31 - ee : Nat) : Int) ∧ p1.toInt = ((O / 2 ^ ee : Nat) : Int) ∧ O / 2 ^ ee < 2147483648 := ⟨0, Nat.le_refl _, rfl, by rw [Nat.pow_zero, Nat.div_one]; exact ho, by rw [Nat.pow_zero, Nat.div_one]; exact hO⟩
    obtain ⟨ee, he, hn1, hx1, hl⟩ := hP
    refine own_iloadN W0 19 d8_18 rfl rfl ?_
    refine own_ldcwInt W0 22 d8_19 (wd54 hw) rfl ?_
    by_cases c9 : p1 < (65536 : Int32)
    · refine own_icmpY W0 33 d8_22 ((tlt c9).1) (by decide) (by decide) ?_
      exact J7 _ _ _ W0 ⟨ee, by omega, hn1, hx1, by have h9 := c9; rw [own_ltN hx1 (j := 65536) rfl] at h9; exact h9⟩
    · refine own_icmpN W0 25 d8_22 ((flt c9).1) rfl ?_
      refine own_iinc W0 (15 : Int32) 28 #[.val (.int p1), .val (.int (15 : Int32))] d8_25 rfl rfl rfl rfl ?_
      refine own_iloadN W0 29 d8_28 rfl rfl ?_
      refine own_bipush W0 (16 : Int32) 31 d8_29 rfl rfl ?_
      refine own_iushr W0 32 d8_31 rfl ?_
      refine own_istoreN W0 33 #[.val (.int ((p1.toUInt32 >>> ((16 : Int32) &&& 31).toUInt32).toInt32)), .val (.int (15 : Int32))] d8_32 rfl rfl ?_
      exact J7 _ _ _ W0 ⟨ee + 16, by omega, own_st0 he, by rw [own_ushrN hx1 (k := 16) rfl (by decide) (by decide), Nat.div_div_eq_div_mul, ← Nat.pow_add], by rw [Nat.pow_add, ← Nat.div_div_eq_div_mul]; simp only [Nat.reducePow]; omega⟩
  · refine own_ifN W0 4 d8_1 ((if0 _ _).trans (flt c1).2.2.1) rfl ?_
    have h0 : O = 0 := by
      have h9 := c1
      rw [own_ltN h00 ho] at h9
      omega
    refine own_iloadN W0 5 d8_4 rfl rfl ?_
    refine own_ifN W0 8 d8_5 ((if0 _ _).trans (teq ((own_lit32 ho _ (by rw [h0]; rfl)) : p1 = (0 : Int32))).2) rfl ?_
    refine own_bipush W0 (32 : Int32) 10 d8_8 rfl rfl ?_
    refine own_goto W0 14 d8_10 (by decide) (by decide) ?_
    refine own_retI (Q := fun v h => ∃ r k, v = some (.int r) ∧ r.toInt = ((32 - k : Nat) : Int) ∧ O < 2 ^ k ∧ k ≤ 31) W0 hC (by decide) (by decide) d8_14 ?_
    exact ⟨_, 0, rfl, rfl, by omega, by omega⟩
theorem ef_m8c (m : MethodId) (x0 : Int32) : entryFrame m #[(.int x0)] 2 = mkF m 0 #[.val (.int x0), .unset] [] := by first | (simp [entryFrame, mkF, argsToLocals, Value.category]; done) | rfl
set_option maxRecDepth 65536 in
set_option maxHeartbeats 40000000 in
theorem own_m8c (l : Launch) (Z : State) (a0 : Array Value) (hw : ∀ d ∈ tables_1, d.before a0 Z = true) (wo : List Jvm.Cond) (h0 : Heap)  :
    own_M l Z wo (⟨"java/lang/Integer", "numberOfLeadingZeros", "(I)I"⟩ : MethodName) jdk_33_method_47_code 2 (some .int) ({ frames := 0, cells := 0, slots := 0, locals := 0 } : Room) [] #[(.int (3 : Int32))] h0 (fun v h => v = some (.int (30 : Int32))) := by
  refine own_body (plainFor_of_name pn_8) (fun m => ef_m8c m (3 : Int32)) ?_
  intro p e s m below meth c C hC T0 W0
  refine own_iloadN W0 1 d8_0 rfl rfl ?_
  refine own_ifY W0 15 d8_1 ((if0 _ _).trans (tlt ((by decide) : (0 : Int32) < (3 : Int32))).2.2.1) (by decide) (by decide) ?_
  refine own_bipush W0 (31 : Int32) 17 d8_15 rfl rfl ?_
  refine own_istoreN W0 18 #[.val (.int (3 : Int32)), .val (.int (31 : Int32))] d8_17 rfl rfl ?_
  refine own_iloadN W0 19 d8_18 rfl rfl ?_
  refine own_ldcwInt W0 22 d8_19 (wd54 hw) rfl ?_
  refine own_icmpY W0 33 d8_22 ((tlt ((by decide) : (3 : Int32) < (65536 : Int32))).1) (by decide) (by decide) ?_
  refine own_iloadN W0 34 d8_33 rfl rfl ?_
  refine own_sipush W0 (256 : Int32) 37 d8_34 rfl rfl ?_
  refine own_icmpY W0 48 d8_37 ((tlt ((by decide) : (3 : Int32) < (256 : Int32))).1) (by decide) (by decide) ?_
  refine own_iloadN W0 49 d8_48 rfl rfl ?_
  refine own_bipush W0 (16 : Int32) 51 d8_49 rfl rfl ?_
  refine own_icmpY W0 61 d8_51 ((tlt ((by decide) : (3 : Int32) < (16 : Int32))).1) (by decide) (by decide) ?_
  refine own_iloadN W0 62 d8_61 rfl rfl ?_
  refine own_iconst W0 (4 : Int32) 63 d8_62 rfl rfl ?_
  refine own_icmpY W0 73 d8_63 ((tlt ((by decide) : (3 : Int32) < (4 : Int32))).1) (by decide) (by decide) ?_
  refine own_iloadN W0 74 d8_73 rfl rfl ?_
  refine own_iloadN W0 75 d8_74 rfl rfl ?_
  refine own_iconst W0 (1 : Int32) 76 d8_75 rfl rfl ?_
  refine own_iushr W0 77 d8_76 rfl ?_
  refine own_isub W0 78 d8_77 rfl ?_
  refine own_retI (Q := fun v h => v = some (.int (30 : Int32))) W0 hC (by decide) (by decide) d8_78 ?_
  exact rfl
theorem own_l2iN {q : Int64} {O : Nat} (h : q.toInt = (O : Int)) (hO : O < 2147483648) : q.toInt32.toInt = (O : Int) := by
  have h1 := c_l2i q
  have h2 := rng32 q.toInt32
  omega
theorem own_hi0 {q : Int64} {O : Nat} (h : q.toInt = (O : Int)) (hO : O < 2147483648) : ((q.toUInt64 >>> ((32 : Int32) &&& 0x3f).toInt64.toUInt64).toInt64).toInt32.toInt = ((0 : Nat) : Int) := by
  have h1 := own_lushrN h (v := 32) (k := 32) rfl (by decide)
  have h2 : O / 2 ^ 32 = 0 := Nat.div_eq_of_lt (by simp only [Nat.reducePow]; omega)
  rw [h2] at h1
  exact own_l2iN h1 (by decide)
theorem ef_m7 (m : MethodId) (x0 : Int64) : entryFrame m #[(.long x0)] 3 = mkF m 0 #[.val (.long x0), .second, .unset] [] := by first | (simp [entryFrame, mkF, argsToLocals, Value.category]; done) | rfl
set_option maxRecDepth 65536 in
set_option maxHeartbeats 40000000 in
theorem own_m7 (l : Launch) (Z : State) (a0 : Array Value) (hw : ∀ d ∈ tables_1, d.before a0 Z = true) (wo : List Jvm.Cond) (h0 : Heap) (q1 : Int64) (O : Nat) (ho : q1.toInt = (O : Int)) (hO : O < 2147483648) :
    own_M l Z wo (⟨"java/lang/Long", "numberOfLeadingZeros", "(J)I"⟩ : MethodName) jdk_35_method_48_code 3 (some .int) ({ frames := 1, cells := 0, slots := 0, locals := 14 } : Room) [] #[(.long q1)] h0 (fun v h => ∃ r k, v = some (.int r) ∧ r.toInt = ((64 - k : Nat) : Int) ∧ O < 2 ^ k ∧ k ≤ 31) := by
  refine own_body (plainFor_of_name pn_7) (fun m => ef_m7 m q1) ?_
  intro p e s m below meth c C hC T0 W0
  refine own_lloadN W0 1 d7_0 rfl rfl ?_
  refine own_bipush W0 (32 : Int32) 3 d7_1 rfl rfl ?_
  refine own_lushr W0 4 d7_3 rfl ?_
  refine own_l2i W0 5 d7_4 rfl ?_
  refine own_istoreN W0 6 #[.val (.long q1), .second, .val (.int ((q1.toUInt64 >>> ((32 : Int32) &&& 0x3f).toInt64.toUInt64).toInt64).toInt32)] d7_5 rfl rfl ?_
  refine own_iloadN W0 7 d7_6 rfl rfl ?_
  refine own_ifN W0 10 d7_7 ((if0 _ _).trans (teq ((own_lit32 (own_hi0 ho hO) _ rfl) : ((q1.toUInt64 >>> ((32 : Int32) &&& 0x3f).toInt64.toUInt64).toInt64).toInt32 = (0 : Int32))).2) rfl ?_
  refine own_bipush W0 (32 : Int32) 12 d7_10 rfl rfl ?_
  refine own_lloadN W0 13 d7_12 rfl rfl ?_
  refine own_l2i W0 14 d7_13 rfl ?_
  refine own_callS W0 (A := [(.int q1.toInt32)]) (wt := 1) (pc' := 17) (st := [(.int (32 : Int32))]) d7_14 (wd50 hw) (wd51 hw) (wd52 hw) (wd53 hw) (by decide) (own_m8 l Z a0 hw [] h0 q1.toInt32 O (own_l2iN ho hO) hO) all0 rfl pd_1 rfl (Nat.le_of_eq rfl) (by decide) (by decide) (by decide) (by decide) rfl ?_
  rintro T1 h1 _ W1 K1 P1 ⟨r, k, rfl, hr, hk1, hk2⟩
  rw [P1 rfl rfl] at W1
  show own_Go p e below C T1 (mkF m 17 #[.val (.long q1), .second, .val (.int ((q1.toUInt64 >>> ((32 : Int32) &&& 0x3f).toInt64.toUInt64).toInt64).toInt32)] [(.int r), (.int (32 : Int32))])
  refine own_iadd W1 18 d7_17 rfl ?_
  refine own_goto W1 25 d7_18 (by decide) (by decide) ?_
  refine own_retI (Q := fun v h => ∃ r k, v = some (.int r) ∧ r.toInt = ((64 - k : Nat) : Int) ∧ O < 2 ^ k ∧ k ≤ 31) W1 hC (by decide) (by decide) d7_25 ?_
  exact ⟨_, k, rfl, by rw [own_addN (i := 32) rfl hr (by omega)]; congr 1; omega, hk1, hk2⟩
theorem ef_m13 (m : MethodId) (x0 : Addr) (x1 : Int32) : entryFrame m #[(.ref x0), (.int x1)] 2 = mkF m 0 #[.val (.ref x0), .val (.int x1)] [] := by first | (simp [entryFrame, mkF, argsToLocals, Value.category]; done) | rfl
set_option maxRecDepth 65536 in
set_option maxHeartbeats 40000000 in
theorem own_m13 (l : Launch) (Z : State) (a0 : Array Value) (hw : ∀ d ∈ tables_1, d.before a0 Z = true) (wo : List Jvm.Cond) (h0 : Heap) (a1 : Addr) (p2 : Int32) (nb : Addr) (ng : Nat → Int32) (k : Nat) (F_numbers_a1 : Fld Z h0 a1 "com/example/nodemata/nodemata/PairNumbers" "numbers" "[I" (.ref nb)) (V_nb : own_A Z h0 nb .int 3 (fun j => .int (ng j))) (hk : p2.toInt = (k : Int)) (hk3 : k < 3) :
    own_M l Z wo (⟨"com/example/nodemata/nodemata/PairNumbers", "numberOf", "(I)I"⟩ : MethodName) prog_83_method_5_code 2 (some .int) ({ frames := 0, cells := 0, slots := 0, locals := 0 } : Room) [] #[(.ref a1), (.int p2)] h0 (fun v h => v = some (.int (ng k))) := by
  refine own_body (plainFor_of_name pn_13) (fun m => ef_m13 m a1 p2) ?_
  intro p e s m below meth c C hC T0 W0
  refine own_aloadN W0 1 d13_0 rfl rfl rfl ?_
  refine own_getfield W0 4 d13_1 (wd20 hw) F_numbers_a1 rfl ?_
  intro T1 W1
  show own_Go p e below C T1 (mkF m 4 #[.val (.ref a1), .val (.int p2)] [(.ref nb)])
  refine own_iloadN W1 5 d13_4 rfl rfl ?_
  refine own_iaload W1 k (ng k) 6 d13_5 V_nb hk hk3 rfl rfl ?_
  refine own_retI (Q := fun v h => v = some (.int (ng k))) W1 hC (by decide) (by decide) d13_6 ?_
  exact rfl
theorem own_le_ {p : Program} {l : Launch} {e : Env} {R : Room} {s : State} {m : MethodId} {args : Array Value} {below : List Frame} {meth : Method} {c : Code} {Z : State} {y : MethodName} {ret : Option FieldType} {code : ByteArray} {ml : Nat} {ws : List Addr} {T : State} {h : Heap} (W : own_W p l e R s m args below meth c Z y ret code ml ws T h 0 0) {a : Addr} (q : s.heap.size ≤ a) : h.size ≤ a := by
  obtain ⟨-, locs, X, rfl, -⟩ := W
  have h1 := X.heapSize
  exact Nat.le_trans h1 q
theorem ef_m1 (m : MethodId) (x0 : Addr) (x1 : Int32) : entryFrame m #[(.ref x0), (.int x1)] 2 = mkF m 0 #[.val (.ref x0), .val (.int x1)] [] := by first | (simp [entryFrame, mkF, argsToLocals, Value.category]; done) | rfl
set_option maxRecDepth 65536 in
set_option maxHeartbeats 40000000 in
theorem own_m1 (l : Launch) (Z : State) (a0 : Array Value) (hw : ∀ d ∈ tables_1, d.before a0 Z = true) (wo : List Jvm.Cond) (h0 : Heap) (a1 : Addr) (X_a1 : Exa Z h0 a1 "com/example/nodemata/nodemata/PairNumbers") (F_pairs_a1 : Fld Z h0 a1 "com/example/nodemata/nodemata/PairNumbers" "pairs" "[J" .null) (F_sortedPairs_a1 : Fld Z h0 a1 "com/example/nodemata/nodemata/PairNumbers" "sortedPairs" "[J" .null) (F_indices_a1 : Fld Z h0 a1 "com/example/nodemata/nodemata/PairNumbers" "indices" "[I" .null) (F_sortedIndices_a1 : Fld Z h0 a1 "com/example/nodemata/nodemata/PairNumbers" "sortedIndices" "[I" .null) (F_numbers_a1 : Fld Z h0 a1 "com/example/nodemata/nodemata/PairNumbers" "numbers" "[I" .null) (F_count_a1 : Fld Z h0 a1 "com/example/nodemata/nodemata/PairNumbers" "count" "I" (.int (0 : Int32))) :
    own_M l Z wo (⟨"com/example/nodemata/nodemata/PairNumbers", "<init>", "(I)V"⟩ : MethodName) prog_83_method_1_code 2 none ({ frames := 1, cells := 5, slots := 15, locals := 12 } : Room) [a1] #[(.ref a1), (.int (3 : Int32))] h0 (fun v h => v = none ∧ (∃ pA pB xA xB nb, h0.size ≤ pA ∧ h0.size ≤ pB ∧ h0.size ≤ xA ∧ h0.size ≤ xB ∧ h0.size ≤ nb ∧ pA ≠ pB ∧ pA ≠ xA ∧ pA ≠ xB ∧ pA ≠ nb ∧ pB ≠ xA ∧ pB ≠ xB ∧ pB ≠ nb ∧ xA ≠ xB ∧ xA ≠ nb ∧ xB ≠ nb ∧ Fld Z h a1 "com/example/nodemata/nodemata/PairNumbers" "pairs" "[J" (.ref pA) ∧ Fld Z h a1 "com/example/nodemata/nodemata/PairNumbers" "sortedPairs" "[J" (.ref pB) ∧ Fld Z h a1 "com/example/nodemata/nodemata/PairNumbers" "indices" "[I" (.ref xA) ∧ Fld Z h a1 "com/example/nodemata/nodemata/PairNumbers" "sortedIndices" "[I" (.ref xB) ∧ Fld Z h a1 "com/example/nodemata/nodemata/PairNumbers" "numbers" "[I" (.ref nb) ∧ Fld Z h a1 "com/example/nodemata/nodemata/PairNumbers" "count" "I" (.int (0 : Int32)) ∧ own_A Z h pA .long 3 (fun _ => .long 0) ∧ own_A Z h pB .long 3 (fun _ => .long 0) ∧ own_A Z h xA .int 3 (fun _ => .int 0) ∧ own_A Z h xB .int 3 (fun _ => .int 0) ∧ own_A Z h nb .int 3 (fun _ => .int 0))) := by
  refine own_body (plainFor_of_name pn_1) (fun m => ef_m1 m a1 (3 : Int32)) ?_
  intro p e s m below meth c C hC T0 W0
  refine own_aloadN W0 1 d1_0 rfl rfl rfl ?_
  refine own_initO W0 0 4 d1_1 (wd7 hw) (wd8 hw) (wd9 hw) rfl (Nat.le_of_eq rfl) (by decide) (by decide) rfl ?_
  intro T1 W1
  show own_Go p e below C T1 (mkF m 4 #[.val (.ref a1), .val (.int (3 : Int32))] [])
  refine own_aloadN W1 5 d1_4 rfl rfl rfl ?_
  refine own_iloadN W1 6 d1_5 rfl rfl ?_
  refine own_newarray W1 3 3 8 d1_6 (wd10 hw) rfl (Nat.le_refl _) (by decide) (by decide) (by decide) rfl ?_
  intro T2 h2 pA W2 E2 g_pA o_pA V_pA
  have ne_a1_pA : a1 ≠ pA := by rw [g_pA]; exact Nat.ne_of_lt X_a1.lt
  have X_a1 := X_a1.ext E2
  have F_pairs_a1 := F_pairs_a1.ext E2
  have F_sortedPairs_a1 := F_sortedPairs_a1.ext E2
  have F_indices_a1 := F_indices_a1.ext E2
  have F_sortedIndices_a1 := F_sortedIndices_a1.ext E2
  have F_numbers_a1 := F_numbers_a1.ext E2
  have F_count_a1 := F_count_a1.ext E2
  show own_Go p e below C T2 (mkF m 8 #[.val (.ref a1), .val (.int (3 : Int32))] [(.ref pA), (.ref a1)])
  refine own_putfield W2 (.ref pA) 11 d1_8 (wd11 hw) F_pairs_a1 X_a1 (Or.inl (wd12 hw)) (wd2 hw) (Or.inl (List.mem_of_getElem? (i := 0) rfl)) (ty := (.array .long)) (by decide) rfl rfl rfl ?_
  intro T3 h3 W3 Wr3 F_pairs_a1
  have X_a1 := X_a1.wr Wr3
  have F_sortedPairs_a1 := F_sortedPairs_a1.other Wr3 (Or.inr (slot_ne (Or.inl (wd14 hw)) (Or.inl (wd12 hw)) (by decide) (t := (.array .long)) (t' := (.array .long)) (by decide) (by decide)))
  have F_indices_a1 := F_indices_a1.other Wr3 (Or.inr (slot_ne (Or.inl (wd17 hw)) (Or.inl (wd12 hw)) (by decide) (t := (.array .int)) (t' := (.array .long)) (by decide) (by decide)))
  have F_sortedIndices_a1 := F_sortedIndices_a1.other Wr3 (Or.inr (slot_ne (Or.inl (wd19 hw)) (Or.inl (wd12 hw)) (by decide) (t := (.array .int)) (t' := (.array .long)) (by decide) (by decide)))
  have F_numbers_a1 := F_numbers_a1.other Wr3 (Or.inr (slot_ne (Or.inr (wd21 hw)) (Or.inl (wd12 hw)) (by decide) (t := (.array .int)) (t' := (.array .long)) (by decide) (by decide)))
  have F_count_a1 := F_count_a1.other Wr3 (Or.inr (slot_ne (Or.inl (wd28 hw)) (Or.inl (wd12 hw)) (by decide) (t := .int) (t' := (.array .long)) (by decide) (by decide)))
  have V_pA := V_pA.other Wr3 (Ne.symm ne_a1_pA)
  show own_Go p e below C T3 (mkF m 11 #[.val (.ref a1), .val (.int (3 : Int32))] [])
  refine own_aloadN W3 12 d1_11 rfl rfl rfl ?_
  refine own_iloadN W3 13 d1_12 rfl rfl ?_
  refine own_newarray W3 3 3 15 d1_13 (wd10 hw) rfl (Nat.le_refl _) (by decide) (by decide) (by decide) rfl ?_
  intro T4 h4 pB W4 E4 g_pB o_pB V_pB
  have ne_a1_pB : a1 ≠ pB := by rw [g_pB]; exact Nat.ne_of_lt X_a1.lt
  have ne_pA_pB : pA ≠ pB := by rw [g_pB]; exact Nat.ne_of_lt V_pA.lt
  have X_a1 := X_a1.ext E4
  have F_pairs_a1 := F_pairs_a1.ext E4
  have F_sortedPairs_a1 := F_sortedPairs_a1.ext E4
  have F_indices_a1 := F_indices_a1.ext E4
  have F_sortedIndices_a1 := F_sortedIndices_a1.ext E4
  have F_numbers_a1 := F_numbers_a1.ext E4
  have F_count_a1 := F_count_a1.ext E4
  have V_pA := V_pA.ext E4
  show own_Go p e below C T4 (mkF m 15 #[.val (.ref a1), .val (.int (3 : Int32))] [(.ref pB), (.ref a1)])
  refine own_putfield W4 (.ref pB) 18 d1_15 (wd13 hw) F_sortedPairs_a1 X_a1 (Or.inl (wd14 hw)) (wd2 hw) (Or.inl (List.mem_of_getElem? (i := 0) rfl)) (ty := (.array .long)) (by decide) rfl rfl rfl ?_
  intro T5 h5 W5 Wr5 F_sortedPairs_a1
  have X_a1 := X_a1.wr Wr5
  have F_pairs_a1 := F_pairs_a1.other Wr5 (Or.inr (slot_ne (Or.inl (wd12 hw)) (Or.inl (wd14 hw)) (by decide) (t := (.array .long)) (t' := (.array .long)) (by decide) (by decide)))
  have F_indices_a1 := F_indices_a1.other Wr5 (Or.inr (slot_ne (Or.inl (wd17 hw)) (Or.inl (wd14 hw)) (by decide) (t := (.array .int)) (t' := (.array .long)) (by decide) (by decide)))
  have F_sortedIndices_a1 := F_sortedIndices_a1.other Wr5 (Or.inr (slot_ne (Or.inl (wd19 hw)) (Or.inl (wd14 hw)) (by decide) (t := (.array .int)) (t' := (.array .long)) (by decide) (by decide)))
  have F_numbers_a1 := F_numbers_a1.other Wr5 (Or.inr (slot_ne (Or.inr (wd21 hw)) (Or.inl (wd14 hw)) (by decide) (t := (.array .int)) (t' := (.array .long)) (by decide) (by decide)))
  have F_count_a1 := F_count_a1.other Wr5 (Or.inr (slot_ne (Or.inl (wd28 hw)) (Or.inl (wd14 hw)) (by decide) (t := .int) (t' := (.array .long)) (by decide) (by decide)))
  have V_pA := V_pA.other Wr5 (Ne.symm ne_a1_pA)
  have V_pB := V_pB.other Wr5 (Ne.symm ne_a1_pB)
  show own_Go p e below C T5 (mkF m 18 #[.val (.ref a1), .val (.int (3 : Int32))] [])
  refine own_aloadN W5 19 d1_18 rfl rfl rfl ?_
  refine own_iloadN W5 20 d1_19 rfl rfl ?_
  refine own_newarray W5 3 3 22 d1_20 (wd15 hw) rfl (Nat.le_refl _) (by decide) (by decide) (by decide) rfl ?_
  intro T6 h6 xA W6 E6 g_xA o_xA V_xA
  have ne_a1_xA : a1 ≠ xA := by rw [g_xA]; exact Nat.ne_of_lt X_a1.lt
  have ne_pA_xA : pA ≠ xA := by rw [g_xA]; exact Nat.ne_of_lt V_pA.lt
  have ne_pB_xA : pB ≠ xA := by rw [g_xA]; exact Nat.ne_of_lt V_pB.lt
  have X_a1 := X_a1.ext E6
  have F_pairs_a1 := F_pairs_a1.ext E6
  have F_sortedPairs_a1 := F_sortedPairs_a1.ext E6
  have F_indices_a1 := F_indices_a1.ext E6
  have F_sortedIndices_a1 := F_sortedIndices_a1.ext E6
  have F_numbers_a1 := F_numbers_a1.ext E6
  have F_count_a1 := F_count_a1.ext E6
  have V_pA := V_pA.ext E6
  have V_pB := V_pB.ext E6
  show own_Go p e below C T6 (mkF m 22 #[.val (.ref a1), .val (.int (3 : Int32))] [(.ref xA), (.ref a1)])
  refine own_putfield W6 (.ref xA) 25 d1_22 (wd16 hw) F_indices_a1 X_a1 (Or.inl (wd17 hw)) (wd2 hw) (Or.inl (List.mem_of_getElem? (i := 0) rfl)) (ty := (.array .int)) (by decide) rfl rfl rfl ?_
  intro T7 h7 W7 Wr7 F_indices_a1
  have X_a1 := X_a1.wr Wr7
  have F_pairs_a1 := F_pairs_a1.other Wr7 (Or.inr (slot_ne (Or.inl (wd12 hw)) (Or.inl (wd17 hw)) (by decide) (t := (.array .long)) (t' := (.array .int)) (by decide) (by decide)))
  have F_sortedPairs_a1 := F_sortedPairs_a1.other Wr7 (Or.inr (slot_ne (Or.inl (wd14 hw)) (Or.inl (wd17 hw)) (by decide) (t := (.array .long)) (t' := (.array .int)) (by decide) (by decide)))
  have F_sortedIndices_a1 := F_sortedIndices_a1.other Wr7 (Or.inr (slot_ne (Or.inl (wd19 hw)) (Or.inl (wd17 hw)) (by decide) (t := (.array .int)) (t' := (.array .int)) (by decide) (by decide)))
  have F_numbers_a1 := F_numbers_a1.other Wr7 (Or.inr (slot_ne (Or.inr (wd21 hw)) (Or.inl (wd17 hw)) (by decide) (t := (.array .int)) (t' := (.array .int)) (by decide) (by decide)))
  have F_count_a1 := F_count_a1.other Wr7 (Or.inr (slot_ne (Or.inl (wd28 hw)) (Or.inl (wd17 hw)) (by decide) (t := .int) (t' := (.array .int)) (by decide) (by decide)))
  have V_pA := V_pA.other Wr7 (Ne.symm ne_a1_pA)
  have V_pB := V_pB.other Wr7 (Ne.symm ne_a1_pB)
  have V_xA := V_xA.other Wr7 (Ne.symm ne_a1_xA)
  show own_Go p e below C T7 (mkF m 25 #[.val (.ref a1), .val (.int (3 : Int32))] [])
  refine own_aloadN W7 26 d1_25 rfl rfl rfl ?_
  refine own_iloadN W7 27 d1_26 rfl rfl ?_
  refine own_newarray W7 3 3 29 d1_27 (wd15 hw) rfl (Nat.le_refl _) (by decide) (by decide) (by decide) rfl ?_
  intro T8 h8 xB W8 E8 g_xB o_xB V_xB
  have ne_a1_xB : a1 ≠ xB := by rw [g_xB]; exact Nat.ne_of_lt X_a1.lt
  have ne_pA_xB : pA ≠ xB := by rw [g_xB]; exact Nat.ne_of_lt V_pA.lt
  have ne_pB_xB : pB ≠ xB := by rw [g_xB]; exact Nat.ne_of_lt V_pB.lt
  have ne_xA_xB : xA ≠ xB := by rw [g_xB]; exact Nat.ne_of_lt V_xA.lt
  have X_a1 := X_a1.ext E8
  have F_pairs_a1 := F_pairs_a1.ext E8
  have F_sortedPairs_a1 := F_sortedPairs_a1.ext E8
  have F_indices_a1 := F_indices_a1.ext E8
  have F_sortedIndices_a1 := F_sortedIndices_a1.ext E8
  have F_numbers_a1 := F_numbers_a1.ext E8
  have F_count_a1 := F_count_a1.ext E8
  have V_pA := V_pA.ext E8
  have V_pB := V_pB.ext E8
  have V_xA := V_xA.ext E8
  show own_Go p e below C T8 (mkF m 29 #[.val (.ref a1), .val (.int (3 : Int32))] [(.ref xB), (.ref a1)])
  refine own_putfield W8 (.ref xB) 32 d1_29 (wd18 hw) F_sortedIndices_a1 X_a1 (Or.inl (wd19 hw)) (wd2 hw) (Or.inl (List.mem_of_getElem? (i := 0) rfl)) (ty := (.array .int)) (by decide) rfl rfl rfl ?_
  intro T9 h9 W9 Wr9 F_sortedIndices_a1
  have X_a1 := X_a1.wr Wr9
  have F_pairs_a1 := F_pairs_a1.other Wr9 (Or.inr (slot_ne (Or.inl (wd12 hw)) (Or.inl (wd19 hw)) (by decide) (t := (.array .long)) (t' := (.array .int)) (by decide) (by decide)))
  have F_sortedPairs_a1 := F_sortedPairs_a1.other Wr9 (Or.inr (slot_ne (Or.inl (wd14 hw)) (Or.inl (wd19 hw)) (by decide) (t := (.array .long)) (t' := (.array .int)) (by decide) (by decide)))
  have F_indices_a1 := F_indices_a1.other Wr9 (Or.inr (slot_ne (Or.inl (wd17 hw)) (Or.inl (wd19 hw)) (by decide) (t := (.array .int)) (t' := (.array .int)) (by decide) (by decide)))
  have F_numbers_a1 := F_numbers_a1.other Wr9 (Or.inr (slot_ne (Or.inr (wd21 hw)) (Or.inl (wd19 hw)) (by decide) (t := (.array .int)) (t' := (.array .int)) (by decide) (by decide)))
  have F_count_a1 := F_count_a1.other Wr9 (Or.inr (slot_ne (Or.inl (wd28 hw)) (Or.inl (wd19 hw)) (by decide) (t := .int) (t' := (.array .int)) (by decide) (by decide)))
  have V_pA := V_pA.other Wr9 (Ne.symm ne_a1_pA)
  have V_pB := V_pB.other Wr9 (Ne.symm ne_a1_pB)
  have V_xA := V_xA.other Wr9 (Ne.symm ne_a1_xA)
  have V_xB := V_xB.other Wr9 (Ne.symm ne_a1_xB)
  show own_Go p e below C T9 (mkF m 32 #[.val (.ref a1), .val (.int (3 : Int32))] [])
  refine own_aloadN W9 33 d1_32 rfl rfl rfl ?_
  refine own_iloadN W9 34 d1_33 rfl rfl ?_
  refine own_newarray W9 3 3 36 d1_34 (wd15 hw) rfl (Nat.le_refl _) (by decide) (by decide) (by decide) rfl ?_
  intro T10 h10 nb W10 E10 g_nb o_nb V_nb
  have ne_a1_nb : a1 ≠ nb := by rw [g_nb]; exact Nat.ne_of_lt X_a1.lt
  have ne_pA_nb : pA ≠ nb := by rw [g_nb]; exact Nat.ne_of_lt V_pA.lt
  have ne_pB_nb : pB ≠ nb := by rw [g_nb]; exact Nat.ne_of_lt V_pB.lt
  have ne_xA_nb : xA ≠ nb := by rw [g_nb]; exact Nat.ne_of_lt V_xA.lt
  have ne_xB_nb : xB ≠ nb := by rw [g_nb]; exact Nat.ne_of_lt V_xB.lt
  have X_a1 := X_a1.ext E10
  have F_pairs_a1 := F_pairs_a1.ext E10
  have F_sortedPairs_a1 := F_sortedPairs_a1.ext E10
  have F_indices_a1 := F_indices_a1.ext E10
  have F_sortedIndices_a1 := F_sortedIndices_a1.ext E10
  have F_numbers_a1 := F_numbers_a1.ext E10
  have F_count_a1 := F_count_a1.ext E10
  have V_pA := V_pA.ext E10
  have V_pB := V_pB.ext E10
  have V_xA := V_xA.ext E10
  have V_xB := V_xB.ext E10
  show own_Go p e below C T10 (mkF m 36 #[.val (.ref a1), .val (.int (3 : Int32))] [(.ref nb), (.ref a1)])
  refine own_putfield W10 (.ref nb) 39 d1_36 (wd20 hw) F_numbers_a1 X_a1 (Or.inr ⟨(wd21 hw), rfl, rfl⟩) (wd2 hw) (Or.inl (List.mem_of_getElem? (i := 0) rfl)) (ty := (.array .int)) (by decide) rfl rfl rfl ?_
  intro T11 h11 W11 Wr11 F_numbers_a1
  have X_a1 := X_a1.wr Wr11
  have F_pairs_a1 := F_pairs_a1.other Wr11 (Or.inr (slot_ne (Or.inl (wd12 hw)) (Or.inr (wd21 hw)) (by decide) (t := (.array .long)) (t' := (.array .int)) (by decide) (by decide)))
  have F_sortedPairs_a1 := F_sortedPairs_a1.other Wr11 (Or.inr (slot_ne (Or.inl (wd14 hw)) (Or.inr (wd21 hw)) (by decide) (t := (.array .long)) (t' := (.array .int)) (by decide) (by decide)))
  have F_indices_a1 := F_indices_a1.other Wr11 (Or.inr (slot_ne (Or.inl (wd17 hw)) (Or.inr (wd21 hw)) (by decide) (t := (.array .int)) (t' := (.array .int)) (by decide) (by decide)))
  have F_sortedIndices_a1 := F_sortedIndices_a1.other Wr11 (Or.inr (slot_ne (Or.inl (wd19 hw)) (Or.inr (wd21 hw)) (by decide) (t := (.array .int)) (t' := (.array .int)) (by decide) (by decide)))
  have F_count_a1 := F_count_a1.other Wr11 (Or.inr (slot_ne (Or.inl (wd28 hw)) (Or.inr (wd21 hw)) (by decide) (t := .int) (t' := (.array .int)) (by decide) (by decide)))
  have V_pA := V_pA.other Wr11 (Ne.symm ne_a1_pA)
  have V_pB := V_pB.other Wr11 (Ne.symm ne_a1_pB)
  have V_xA := V_xA.other Wr11 (Ne.symm ne_a1_xA)
  have V_xB := V_xB.other Wr11 (Ne.symm ne_a1_xB)
  have V_nb := V_nb.other Wr11 (Ne.symm ne_a1_nb)
  show own_Go p e below C T11 (mkF m 39 #[.val (.ref a1), .val (.int (3 : Int32))] [])
  refine own_retV (Q := fun v h => v = none ∧ (∃ pA pB xA xB nb, h0.size ≤ pA ∧ h0.size ≤ pB ∧ h0.size ≤ xA ∧ h0.size ≤ xB ∧ h0.size ≤ nb ∧ pA ≠ pB ∧ pA ≠ xA ∧ pA ≠ xB ∧ pA ≠ nb ∧ pB ≠ xA ∧ pB ≠ xB ∧ pB ≠ nb ∧ xA ≠ xB ∧ xA ≠ nb ∧ xB ≠ nb ∧ Fld Z h a1 "com/example/nodemata/nodemata/PairNumbers" "pairs" "[J" (.ref pA) ∧ Fld Z h a1 "com/example/nodemata/nodemata/PairNumbers" "sortedPairs" "[J" (.ref pB) ∧ Fld Z h a1 "com/example/nodemata/nodemata/PairNumbers" "indices" "[I" (.ref xA) ∧ Fld Z h a1 "com/example/nodemata/nodemata/PairNumbers" "sortedIndices" "[I" (.ref xB) ∧ Fld Z h a1 "com/example/nodemata/nodemata/PairNumbers" "numbers" "[I" (.ref nb) ∧ Fld Z h a1 "com/example/nodemata/nodemata/PairNumbers" "count" "I" (.int (0 : Int32)) ∧ own_A Z h pA .long 3 (fun _ => .long 0) ∧ own_A Z h pB .long 3 (fun _ => .long 0) ∧ own_A Z h xA .int 3 (fun _ => .int 0) ∧ own_A Z h xB .int 3 (fun _ => .int 0) ∧ own_A Z h nb .int 3 (fun _ => .int 0))) W11 hC (by decide) (by decide) d1_39 ?_
  exact ⟨rfl, ⟨pA, pB, xA, xB, nb, own_le_ W0 o_pA, own_le_ W0 o_pB, own_le_ W0 o_xA, own_le_ W0 o_xB, own_le_ W0 o_nb, ne_pA_pB, ne_pA_xA, ne_pA_xB, ne_pA_nb, ne_pB_xA, ne_pB_xB, ne_pB_nb, ne_xA_xB, ne_xA_nb, ne_xB_nb, F_pairs_a1, F_sortedPairs_a1, F_indices_a1, F_sortedIndices_a1, F_numbers_a1, F_count_a1, V_pA, V_pB, V_xA, V_xB, V_nb⟩⟩
theorem ef_m3 (m : MethodId) (x0 : Addr) (x1 : Int32) : entryFrame m #[(.ref x0), (.int x1)] 2 = mkF m 0 #[.val (.ref x0), .val (.int x1)] [] := by first | (simp [entryFrame, mkF, argsToLocals, Value.category]; done) | rfl
set_option maxRecDepth 65536 in
set_option maxHeartbeats 40000000 in
theorem own_m3 (l : Launch) (Z : State) (a0 : Array Value) (hw : ∀ d ∈ tables_1, d.before a0 Z = true) (wo : List Jvm.Cond) (h0 : Heap) (a1 : Addr) (pA : Addr) (pB : Addr) (xA : Addr) (xB : Addr) (nb : Addr) (X_a1 : Exa Z h0 a1 "com/example/nodemata/nodemata/PairNumbers") (F_pairs_a1 : Fld Z h0 a1 "com/example/nodemata/nodemata/PairNumbers" "pairs" "[J" (.ref pA)) (F_sortedPairs_a1 : Fld Z h0 a1 "com/example/nodemata/nodemata/PairNumbers" "sortedPairs" "[J" (.ref pB)) (F_indices_a1 : Fld Z h0 a1 "com/example/nodemata/nodemata/PairNumbers" "indices" "[I" (.ref xA)) (F_sortedIndices_a1 : Fld Z h0 a1 "com/example/nodemata/nodemata/PairNumbers" "sortedIndices" "[I" (.ref xB)) (F_numbers_a1 : Fld Z h0 a1 "com/example/nodemata/nodemata/PairNumbers" "numbers" "[I" (.ref nb)) (F_count_a1 : Fld Z h0 a1 "com/example/nodemata/nodemata/PairNumbers" "count" "I" (.int (0 : Int32))) :
    own_M l Z wo (⟨"com/example/nodemata/nodemata/PairNumbers", "start", "(I)V"⟩ : MethodName) prog_83_method_2_code 2 none ({ frames := 0, cells := 0, slots := 0, locals := 0 } : Room) [a1] #[(.ref a1), (.int (3 : Int32))] h0 (fun v h => v = none ∧ (Fld Z h a1 "com/example/nodemata/nodemata/PairNumbers" "pairs" "[J" (.ref pA) ∧ Fld Z h a1 "com/example/nodemata/nodemata/PairNumbers" "sortedPairs" "[J" (.ref pB) ∧ Fld Z h a1 "com/example/nodemata/nodemata/PairNumbers" "indices" "[I" (.ref xA) ∧ Fld Z h a1 "com/example/nodemata/nodemata/PairNumbers" "sortedIndices" "[I" (.ref xB) ∧ Fld Z h a1 "com/example/nodemata/nodemata/PairNumbers" "numbers" "[I" (.ref nb) ∧ Fld Z h a1 "com/example/nodemata/nodemata/PairNumbers" "count" "I" (.int (3 : Int32)))) := by
  refine own_body (plainFor_of_name pn_3) (fun m => ef_m3 m a1 (3 : Int32)) ?_
  intro p e s m below meth c C hC T0 W0
  refine own_aloadN W0 1 d3_0 rfl rfl rfl ?_
  refine own_iloadN W0 2 d3_1 rfl rfl ?_
  refine own_putfield W0 (.int (3 : Int32)) 5 d3_2 (wd27 hw) F_count_a1 X_a1 (Or.inl (wd28 hw)) (wd2 hw) (Or.inl (List.mem_of_getElem? (i := 0) rfl)) (ty := .int) (by decide) rfl rfl rfl ?_
  intro T1 h1 W1 Wr1 F_count_a1
  have X_a1 := X_a1.wr Wr1
  have F_pairs_a1 := F_pairs_a1.other Wr1 (Or.inr (slot_ne (Or.inl (wd12 hw)) (Or.inl (wd28 hw)) (by decide) (t := (.array .long)) (t' := .int) (by decide) (by decide)))
  have F_sortedPairs_a1 := F_sortedPairs_a1.other Wr1 (Or.inr (slot_ne (Or.inl (wd14 hw)) (Or.inl (wd28 hw)) (by decide) (t := (.array .long)) (t' := .int) (by decide) (by decide)))
  have F_indices_a1 := F_indices_a1.other Wr1 (Or.inr (slot_ne (Or.inl (wd17 hw)) (Or.inl (wd28 hw)) (by decide) (t := (.array .int)) (t' := .int) (by decide) (by decide)))
  have F_sortedIndices_a1 := F_sortedIndices_a1.other Wr1 (Or.inr (slot_ne (Or.inl (wd19 hw)) (Or.inl (wd28 hw)) (by decide) (t := (.array .int)) (t' := .int) (by decide) (by decide)))
  have F_numbers_a1 := F_numbers_a1.other Wr1 (Or.inr (slot_ne (Or.inr (wd21 hw)) (Or.inl (wd28 hw)) (by decide) (t := (.array .int)) (t' := .int) (by decide) (by decide)))
  show own_Go p e below C T1 (mkF m 5 #[.val (.ref a1), .val (.int (3 : Int32))] [])
  refine own_retV (Q := fun v h => v = none ∧ (Fld Z h a1 "com/example/nodemata/nodemata/PairNumbers" "pairs" "[J" (.ref pA) ∧ Fld Z h a1 "com/example/nodemata/nodemata/PairNumbers" "sortedPairs" "[J" (.ref pB) ∧ Fld Z h a1 "com/example/nodemata/nodemata/PairNumbers" "indices" "[I" (.ref xA) ∧ Fld Z h a1 "com/example/nodemata/nodemata/PairNumbers" "sortedIndices" "[I" (.ref xB) ∧ Fld Z h a1 "com/example/nodemata/nodemata/PairNumbers" "numbers" "[I" (.ref nb) ∧ Fld Z h a1 "com/example/nodemata/nodemata/PairNumbers" "count" "I" (.int (3 : Int32)))) W1 hC (by decide) (by decide) d3_5 ?_
  exact ⟨rfl, ⟨F_pairs_a1, F_sortedPairs_a1, F_indices_a1, F_sortedIndices_a1, F_numbers_a1, F_count_a1⟩⟩
def own_upL (g : Nat → Int64) (k : Nat) (v : Int64) : Nat → Int64 := fun j => if j = k then v else g j
theorem own_upLe (g : Nat → Int64) (k : Nat) (v : Int64) (j : Nat) : own_upd (fun j => .long (g j)) k (.long v) j = .long (own_upL g k v j) := by
  unfold own_upd own_upL
  split <;> rfl
theorem ef_m4 (m : MethodId) (x0 : Addr) (x1 : Int32) (x2 : Int32) (x3 : Int32) : entryFrame m #[(.ref x0), (.int x1), (.int x2), (.int x3)] 4 = mkF m 0 #[.val (.ref x0), .val (.int x1), .val (.int x2), .val (.int x3)] [] := by first | (simp [entryFrame, mkF, argsToLocals, Value.category]; done) | rfl
set_option maxRecDepth 65536 in
set_option maxHeartbeats 40000000 in
theorem own_m4 (l : Launch) (Z : State) (a0 : Array Value) (hw : ∀ d ∈ tables_1, d.before a0 Z = true) (wo : List Jvm.Cond) (h0 : Heap) (a1 : Addr) (p2 : Int32) (p3 : Int32) (p4 : Int32) (pA : Addr) (pg : Nat → Int64) (k : Nat) (FF : Nat) (SS : Nat) (S_ad : Sta Z h0 "com/example/nodemata/nodemata/PairNumbers" "$assertionsDisabled" "Z" (.int (1 : Int32))) (F_pairs_a1 : Fld Z h0 a1 "com/example/nodemata/nodemata/PairNumbers" "pairs" "[J" (.ref pA)) (V_pA : own_A Z h0 pA .long 3 (fun j => .long (pg j))) (ne_a1_pA : a1 ≠ pA) (hk : p2.toInt = (k : Int)) (hk3 : k < 3) (hF : p3.toInt = (FF : Int)) (hS : p4.toInt = (SS : Int)) (hF1 : FF < 2147483648) (hS1 : SS < 2147483648) :
    own_M l Z wo (⟨"com/example/nodemata/nodemata/PairNumbers", "set", "(III)V"⟩ : MethodName) prog_83_method_3_code 4 none ({ frames := 0, cells := 0, slots := 0, locals := 0 } : Room) [pA] #[(.ref a1), (.int p2), (.int p3), (.int p4)] h0 (fun v h => v = none ∧ (∃ q : Int64, q.toInt = ((FF * 4294967296 + SS : Nat) : Int) ∧ own_A Z h pA .long 3 (fun j => .long (own_upL pg k q j)))) := by
  refine own_body (plainFor_of_name pn_4) (fun m => ef_m4 m a1 p2 p3 p4) ?_
  intro p e s m below meth c C hC T0 W0
  refine own_getstatic W0 3 d4_0 (wd34 hw) S_ad rfl ?_
  intro T1 W1
  show own_Go p e below C T1 (mkF m 3 #[.val (.ref a1), .val (.int p2), .val (.int p3), .val (.int p4)] [(.int (1 : Int32))])
  refine own_ifY W1 29 d4_3 ((if0 _ _).trans (feq ((by decide) : ¬ ((1 : Int32) = (0 : Int32)))).2) (by decide) (by decide) ?_
  refine own_aloadN W1 30 d4_29 rfl rfl rfl ?_
  refine own_getfield W1 33 d4_30 (wd11 hw) F_pairs_a1 rfl ?_
  intro T2 W2
  show own_Go p e below C T2 (mkF m 33 #[.val (.ref a1), .val (.int p2), .val (.int p3), .val (.int p4)] [(.ref pA)])
  refine own_iloadN W2 34 d4_33 rfl rfl ?_
  refine own_iloadN W2 35 d4_34 rfl rfl ?_
  refine own_i2l W2 36 d4_35 rfl ?_
  refine own_bipush W2 (32 : Int32) 38 d4_36 rfl rfl ?_
  refine own_lshl W2 39 d4_38 rfl ?_
  refine own_iloadN W2 40 d4_39 rfl rfl ?_
  refine own_i2l W2 41 d4_40 rfl ?_
  refine own_lor W2 42 d4_41 rfl ?_
  refine own_lastore W2 k 43 d4_42 V_pA (Or.inl (List.mem_of_getElem? (i := 0) rfl)) hk hk3 rfl ?_
  intro T3 h3 W3 Wr3 V_pA
  have S_ad := S_ad.wr Wr3
  have F_pairs_a1 := F_pairs_a1.other Wr3 (Or.inl ne_a1_pA)
  show own_Go p e below C T3 (mkF m 43 #[.val (.ref a1), .val (.int p2), .val (.int p3), .val (.int p4)] [])
  refine own_retV (Q := fun v h => v = none ∧ (∃ q : Int64, q.toInt = ((FF * 4294967296 + SS : Nat) : Int) ∧ own_A Z h pA .long 3 (fun j => .long (own_upL pg k q j)))) W3 hC (by decide) (by decide) d4_43 ?_
  exact ⟨rfl, ⟨_, own_pair hF hS hF1 hS1, V_pA.congr (fun j _ => own_upLe _ _ _ j)⟩⟩
def own_St (Z : State) (h : Heap) (a1 pa pb xa xb nb cs : Addr) (NN : Nat) (pf sf xf yf : Nat → Value) (G : Nat → Nat) : Prop := Exa Z h a1 "com/example/nodemata/nodemata/PairNumbers" ∧ Fld Z h a1 "com/example/nodemata/nodemata/PairNumbers" "pairs" "[J" (.ref pa) ∧ Fld Z h a1 "com/example/nodemata/nodemata/PairNumbers" "sortedPairs" "[J" (.ref pb) ∧ Fld Z h a1 "com/example/nodemata/nodemata/PairNumbers" "indices" "[I" (.ref xa) ∧ Fld Z h a1 "com/example/nodemata/nodemata/PairNumbers" "sortedIndices" "[I" (.ref xb) ∧ Fld Z h a1 "com/example/nodemata/nodemata/PairNumbers" "numbers" "[I" (.ref nb) ∧ Fld Z h a1 "com/example/nodemata/nodemata/PairNumbers" "count" "I" (.int (3 : Int32)) ∧ own_A Z h pa .long 3 pf ∧ own_A Z h pb .long 3 sf ∧ own_A Z h xa .int 3 xf ∧ own_A Z h xb .int 3 yf ∧ own_A Z h cs .int NN (fun j => .int (Int32.ofNat (G j)))
def own_NE (a1 pa pb xa xb cs : Addr) : Prop := a1 ≠ pa ∧ a1 ≠ pb ∧ a1 ≠ xa ∧ a1 ≠ xb ∧ a1 ≠ cs ∧ pa ≠ pb ∧ pa ≠ xa ∧ pa ≠ xb ∧ pa ≠ cs ∧ pb ≠ xa ∧ pb ≠ xb ∧ pb ≠ cs ∧ xa ≠ xb ∧ xa ≠ cs ∧ xb ≠ cs
def own_sw (pa pb xa xb pA pB xA xB : Addr) : Prop := (pa = pA ∧ pb = pB ∧ xa = xA ∧ xb = xB) ∨ (pa = pB ∧ pb = pA ∧ xa = xB ∧ xb = xA)
theorem own_NE.swap {a1 pa pb xa xb cs : Addr} (H : own_NE a1 pa pb xa xb cs) : own_NE a1 pb pa xb xa cs := by
  obtain ⟨n_a1_pa, n_a1_pb, n_a1_xa, n_a1_xb, n_a1_cs, n_pa_pb, n_pa_xa, n_pa_xb, n_pa_cs, n_pb_xa, n_pb_xb, n_pb_cs, n_xa_xb, n_xa_cs, n_xb_cs⟩ := H
  exact ⟨n_a1_pb, n_a1_pa, n_a1_xb, n_a1_xa, n_a1_cs, Ne.symm n_pa_pb, n_pb_xb, n_pb_xa, n_pb_cs, n_pa_xb, n_pa_xa, n_pa_cs, Ne.symm n_xa_xb, n_xb_cs, n_xa_cs⟩
theorem own_sw.swap {pa pb xa xb pA pB xA xB : Addr} (H : own_sw pa pb xa xb pA pB xA xB) : own_sw pb pa xb xa pA pB xA xB := by
  rcases H with ⟨h1, h2, h3, h4⟩ | ⟨h1, h2, h3, h4⟩
  · exact Or.inr ⟨h2, h1, h4, h3⟩
  · exact Or.inl ⟨h2, h1, h4, h3⟩
theorem own_sw.mem {pa pb xa xb pA pB xA xB : Addr} (H : own_sw pa pb xa xb pA pB xA xB) (a1 : Addr) : (pa ∈ [a1, pA, pB, xA, xB]) ∧ (pb ∈ [a1, pA, pB, xA, xB]) ∧ (xa ∈ [a1, pA, pB, xA, xB]) ∧ (xb ∈ [a1, pA, pB, xA, xB]) ∧ (pa = pA ∨ pa = pB) ∧ (xa = xA ∨ xa = xB) := by
  rcases H with ⟨h1, h2, h3, h4⟩ | ⟨h1, h2, h3, h4⟩ <;> rw [h1, h2, h3, h4] <;> simp
theorem own_szI {wn sn : Nat} {dw sz : Int32} (h : (wn = 1 ∧ dw = 1 ∧ sz = 2 ∧ sn = 2) ∨ (wn = 2 ∧ dw = 2 ∧ sz = 4 ∧ sn = 4)) : sz.toInt = (sn : Int) ∧ dw.toInt = (wn : Int) ∧ (sn = 2 ∨ sn = 4) ∧ sn = 2 ^ wn ∧ ((wn = 1 ∧ sz = 2) ∨ (wn = 2 ∧ sz = 4)) ∧ wn ≤ 2 ∧ 1 ≤ wn := by
  rcases h with ⟨rfl, rfl, rfl, rfl⟩ | ⟨rfl, rfl, rfl, rfl⟩
  · exact ⟨rfl, rfl, Or.inl rfl, rfl, Or.inl ⟨rfl, rfl⟩, by omega, by omega⟩
  · exact ⟨rfl, rfl, Or.inr rfl, rfl, Or.inr ⟨rfl, rfl⟩, by omega, by omega⟩
theorem own_szs {wn : Nat} {dw : Int32} (hd : dw.toInt = (wn : Int)) (h : wn = 1 ∨ wn = 2) : ∃ sn, let sz := ((1 : Int32) <<< (dw &&& 31)); (wn = 1 ∧ dw = 1 ∧ sz = 2 ∧ sn = 2) ∨ (wn = 2 ∧ dw = 2 ∧ sz = 4 ∧ sn = 4) := by
  rcases h with rfl | rfl
  · obtain rfl : dw = 1 := own_lit32 hd _ rfl
    exact ⟨2, Or.inl ⟨rfl, rfl, by decide, rfl⟩⟩
  · obtain rfl : dw = 2 := own_lit32 hd _ rfl
    exact ⟨4, Or.inr ⟨rfl, rfl, by decide, rfl⟩⟩
theorem own_szN {wn sn n : Nat} {dw sz : Int32} (h : (wn = 1 ∧ dw = 1 ∧ sz = 2 ∧ sn = 2) ∨ (wn = 2 ∧ dw = 2 ∧ sz = 4 ∧ sn = 4)) (hn : n ≤ 31) {d : Nat} (hd : d < n) : n * sn ≤ 124 ∧ d * wn < 64 ∧ d * sn + sn ≤ n * sn := by
  rcases h with ⟨rfl, rfl, rfl, rfl⟩ | ⟨rfl, rfl, rfl, rfl⟩ <;> omega
theorem own_szM {wn sn n : Nat} {dw sz : Int32} (h : (wn = 1 ∧ dw = 1 ∧ sz = 2 ∧ sn = 2) ∨ (wn = 2 ∧ dw = 2 ∧ sz = 4 ∧ sn = 4)) (hn : n ≤ 31) : n * sn ≤ 124 := by
  rcases h with ⟨rfl, rfl, rfl, rfl⟩ | ⟨rfl, rfl, rfl, rfl⟩ <;> omega
theorem ef_m6 (m : MethodId) (x0 : Addr) : entryFrame m #[(.ref x0)] 18 = mkF m 0 #[.val (.ref x0), .unset, .unset, .unset, .unset, .unset, .unset, .unset, .unset, .unset, .unset, .unset, .unset, .unset, .unset, .unset, .unset, .unset] [] := by first | (simp [entryFrame, mkF, argsToLocals, Value.category]; done) | rfl
set_option maxRecDepth 65536 in
set_option maxHeartbeats 40000000 in
theorem own_s2 (l : Launch) (Z : State) (a0 : Array Value) (hw : ∀ d ∈ tables_1, d.before a0 Z = true) (h0 : Heap) (a1 : Addr) (pA pB xA xB nb : Addr) (FF SS : Nat → Nat) (p : Program) (e : Env) (s : State) (m : MethodId) (below : List Frame) (meth : Method) (c : Code) (C : Outcome → State → Prop) (hC : ∀ v L u, own_Fw s [a1, pA, pB, xA, xB] L → (v = none ∧ (∃ (pa xa : Addr) (pg : Nat → Int64) (od Q : Nat → Nat), (pa = pA ∨ pa = pB) ∧ (xa = xA ∨ xa = xB) ∧ Fld Z u.heap a1 "com/example/nodemata/nodemata/PairNumbers" "pairs" "[J" (.ref pa) ∧ Fld Z u.heap a1 "com/example/nodemata/nodemata/PairNumbers" "indices" "[I" (.ref xa) ∧ Fld Z u.heap a1 "com/example/nodemata/nodemata/PairNumbers" "numbers" "[I" (.ref nb) ∧ Fld Z u.heap a1 "com/example/nodemata/nodemata/PairNumbers" "count" "I" (.int (3 : Int32)) ∧ own_A Z u.heap pa .long 3 (fun j => .long (pg j)) ∧ own_A Z u.heap xa .int 3 (fun j => .int (Int32.ofNat (od j))) ∧ own_pm od ∧ (∀ j, j < 3 → (pg j).toInt = ((Q (od j) : Nat) : Int)) ∧ Q (od 0) ≤ Q (od 1) ∧ Q (od 1) ≤ Q (od 2) ∧ (∀ i j, i < 3 → j < 3 → (Q i ≤ Q j ↔ FF i * 4294967296 + SS i ≤ FF j * 4294967296 + SS j)))) → FrameEnd s (.returned v) u L ({ frames := 2, cells := 1, slots := 124, locals := 29 } : Room).cells ({ frames := 2, cells := 1, slots := 124, locals := 29 } : Room).slots → C (.returned v) u) (T : State) (h : Heap) (cs : Addr) (pg2 : Nat → Int64) (sf yf : Nat → Value) (fo so : Int64) (sb bi ps dw sz : Int32) (n wn sn : Nat) (G3 : Nat → Nat) (Q : Nat → Nat) (qq2 : Int64) (v2 : Int32) (W : own_W p l e ({ frames := 2, cells := 1, slots := 124, locals := 29 } : Room) s m #[(.ref a1)] below meth c Z (⟨"com/example/nodemata/nodemata/PairNumbers", "sort", "()V"⟩ : MethodName) none prog_83_method_6_code 18 [a1, pA, pB, xA, xB] T h (0 + 0 + 0 + 0 + 0 + 1) (0 + 0 + 0 + 0 + 0 + 124)) (o_cs : s.heap.size ≤ cs) (hS1 : own_St Z h a1 pA pB xA xB nb cs (n * sn) (fun j => .long (pg2 j)) sf (fun j => .int (Int32.ofNat ((fun j => j) j))) yf G3) (hNE : own_NE a1 pA pB xA xB cs) (hsz : (wn = 1 ∧ dw = 1 ∧ sz = 2 ∧ sn = 2) ∨ (wn = 2 ∧ dw = 2 ∧ sz = 4 ∧ sn = 4)) (hps : ps.toInt = (n : Int)) (hn1 : 1 ≤ n) (hn2 : n ≤ 31) (hqs : ∀ j, j < 3 → (pg2 j).toInt = ((Q j : Nat) : Int)) (hcc : ∀ d', 0 ≤ d' → d' < n → ∀ v, v < sn → G3 (d' * sn + v) = own_B3 wn Q d' v) (hQl : ∀ i, i < 3 → Q i < 2 ^ (n * wn)) (hQK : ∀ i j, i < 3 → j < 3 → (Q i ≤ Q j ↔ FF i * 4294967296 + SS i ≤ FF j * 4294967296 + SS j)) :
    own_Go p e below C T (mkF m 238 #[.val (.ref a1), .val (.long fo), .second, .val (.long so), .second, .val (.int sb), .val (.int bi), .val (.int (2 : Int32)), .val (.int ps), .val (.int dw), .val (.int sz), .val (.ref cs), .val (.int (0 : Int32)), .val (.long qq2), .second, .val (.int v2), .unset, .unset] []) := by
  obtain ⟨hszI, hdwI, hs24, hsp, hwz, hw2, hw1⟩ := own_szI hsz
  have hNN := own_szM hsz hn2
  have loop : ∀ (f d : Nat) (pa pb xa xb : Addr) (u12 u15 : Int32) (s13 s14 s16 s17 : Slot) (pg : Nat → Int64) (sf yf : Nat → Value) (od G : Nat → Nat) (T : State) (h : Heap), own_W p l e ({ frames := 2, cells := 1, slots := 124, locals := 29 } : Room) s m #[(.ref a1)] below meth c Z (⟨"com/example/nodemata/nodemata/PairNumbers", "sort", "()V"⟩ : MethodName) none prog_83_method_6_code 18 [a1, pA, pB, xA, xB] T h (0 + 0 + 0 + 0 + 0 + 1) (0 + 0 + 0 + 0 + 0 + 124) → own_St Z h a1 pa pb xa xb nb cs (n * sn) (fun j => .long (pg j)) sf (fun j => .int (Int32.ofNat (od j))) yf G → own_NE a1 pa pb xa xb cs → own_sw pa pb xa xb pA pB xA xB → d + f = n → u12.toInt = (d : Int) → ((∃ z, s13 = .val (.long z) ∧ s14 = .second) ∨ (∃ y z, s13 = .val (.int y) ∧ s14 = .val (.int z))) → (s16 = .unset ∨ ∃ b, s16 = .val (.ref b)) → (s17 = .unset ∨ ∃ b, s17 = .val (.ref b)) → own_pm od → (∀ j, j < 3 → (pg j).toInt = ((Q (od j) : Nat) : Int)) → Q (od 0) % 2 ^ (d * wn) ≤ Q (od 1) % 2 ^ (d * wn) → Q (od 1) % 2 ^ (d * wn) ≤ Q (od 2) % 2 ^ (d * wn) → (∀ d', d ≤ d' → d' < n → ∀ v, v < sn → G (d' * sn + v) = own_B3 wn Q d' v) → own_Go p e below C T (mkF m 238 #[.val (.ref a1), .val (.long fo), .second, .val (.long so), .second, .val (.int sb), .val (.int bi), .val (.int (2 : Int32)), .val (.int ps), .val (.int dw), .val (.int sz), .val (.ref cs), .val (.int u12), s13, s14, .val (.int u15), s16, s17] []) := by
    intro f
    induction f with
    | zero =>
      intro d pa pb xa xb u12 u15 s13 s14 s16 s17 pg sf yf od G T h W HS hNE hsw hdn hu c13 c16 c17 hpm hpg h01 h12 hG
      have hlt : ¬ (u12 < ps) := by rw [own_ltN hu hps]; omega
      refine own_iload W 240 d6_238 rfl rfl ?_
      refine own_iload W 242 d6_240 rfl rfl ?_
      refine own_icmpY W 448 d6_242 ((flt (hlt : ¬ (u12 < ps))).2.1) (by decide) (by decide) ?_
      obtain rfl : d = n := by omega
      obtain ⟨X_a1, F_pairs_a1, F_sortedPairs_a1, F_indices_a1, F_sortedIndices_a1, F_numbers_a1, F_count_a1, V_pa, V_pb, V_xa, V_xb, V_cs⟩ := HS
      obtain ⟨-, -, -, -, hpa, hxa⟩ := hsw.mem a1
      obtain ⟨l0, l1, l2⟩ := hpm.lt
      rw [Nat.mod_eq_of_lt (hQl _ l0), Nat.mod_eq_of_lt (hQl _ l1)] at h01
      rw [Nat.mod_eq_of_lt (hQl _ l1), Nat.mod_eq_of_lt (hQl _ l2)] at h12
      refine own_retV (Q := fun v h => v = none ∧ (∃ (pa xa : Addr) (pg : Nat → Int64) (od Q : Nat → Nat), (pa = pA ∨ pa = pB) ∧ (xa = xA ∨ xa = xB) ∧ Fld Z h a1 "com/example/nodemata/nodemata/PairNumbers" "pairs" "[J" (.ref pa) ∧ Fld Z h a1 "com/example/nodemata/nodemata/PairNumbers" "indices" "[I" (.ref xa) ∧ Fld Z h a1 "com/example/nodemata/nodemata/PairNumbers" "numbers" "[I" (.ref nb) ∧ Fld Z h a1 "com/example/nodemata/nodemata/PairNumbers" "count" "I" (.int (3 : Int32)) ∧ own_A Z h pa .long 3 (fun j => .long (pg j)) ∧ own_A Z h xa .int 3 (fun j => .int (Int32.ofNat (od j))) ∧ own_pm od ∧ (∀ j, j < 3 → (pg j).toInt = ((Q (od j) : Nat) : Int)) ∧ Q (od 0) ≤ Q (od 1) ∧ Q (od 1) ≤ Q (od 2) ∧ (∀ i j, i < 3 → j < 3 → (Q i ≤ Q j ↔ FF i * 4294967296 + SS i ≤ FF j * 4294967296 + SS j)))) W hC (by decide) (by decide) d6_448 ?_
      exact ⟨rfl, ⟨pa, xa, pg, od, Q, hpa, hxa, F_pairs_a1, F_indices_a1, F_numbers_a1, F_count_a1, V_pa, V_xa, hpm, hpg, h01, h12, hQK⟩⟩
    | succ f ih =>
      intro d pa pb xa xb u12 u15 s13 s14 s16 s17 pg sf yf od G T h W HS hNE hsw hdn hu c13 c16 c17 hpm hpg h01 h12 hG
      have hdn' : d < n := by omega
      have hlt : u12 < ps := by rw [own_ltN hu hps]; omega
      have HS' := HS
      have hNE' := hNE
      obtain ⟨X_a1, F_pairs_a1, F_sortedPairs_a1, F_indices_a1, F_sortedIndices_a1, F_numbers_a1, F_count_a1, V_pa, V_pb, V_xa, V_xb, V_cs⟩ := HS
      obtain ⟨ne_a1_pa, ne_a1_pb, ne_a1_xa, ne_a1_xb, ne_a1_cs, ne_pa_pb, ne_pa_xa, ne_pa_xb, ne_pa_cs, ne_pb_xa, ne_pb_xb, ne_pb_cs, ne_xa_xb, ne_xa_cs, ne_xb_cs⟩ := hNE
      obtain ⟨m_pa, m_pb, m_xa, m_xb, -, -⟩ := hsw.mem a1
      obtain ⟨-, hdw64, hdN⟩ := own_szN hsz hn2 hdn'
      obtain ⟨x0, hx0⟩ : ∃ x, x = own_dg wn (Q (od 0)) d := ⟨_, rfl⟩
      have hxl0 : x0 < sn := by rw [hx0, hsp]; exact own_dglt _ _ _
      obtain ⟨x1, hx1⟩ : ∃ x, x = own_dg wn (Q (od 1)) d := ⟨_, rfl⟩
      have hxl1 : x1 < sn := by rw [hx1, hsp]; exact own_dglt _ _ _
      obtain ⟨x2, hx2⟩ : ∃ x, x = own_dg wn (Q (od 2)) d := ⟨_, rfl⟩
      have hxl2 : x2 < sn := by rw [hx2, hsp]; exact own_dglt _ _ _
      have hoff : (u12 * sz).toInt = ((d * sn : Nat) : Int) := own_mulN hu hszI (by omega)
      have hshf : (u12 * dw).toInt = ((d * wn : Nat) : Int) := own_mulN hu hdwI (by omega)
      have hGd : ∀ v, v < sn → G (d * sn + v) = own_e x0 v + own_e x1 v + own_e x2 v := fun v hv => by rw [hG d (Nat.le_refl _) hdn' v hv, own_B3p hpm, ← hx0, ← hx1, ← hx2]
      refine own_iload W 240 d6_238 rfl rfl ?_
      refine own_iload W 242 d6_240 rfl rfl ?_
      refine own_icmpN W 245 d6_242 ((tlt (hlt : u12 < ps)).2.1) rfl ?_
      have J2040 : ∀ (T2040 : State), own_W p l e ({ frames := 2, cells := 1, slots := 124, locals := 29 } : Room) s m #[(.ref a1)] below meth c Z (⟨"com/example/nodemata/nodemata/PairNumbers", "sort", "()V"⟩ : MethodName) none prog_83_method_6_code 18 [a1, pA, pB, xA, xB] T2040 h (0 + 0 + 0 + 0 + 0 + 1) (0 + 0 + 0 + 0 + 0 + 124) → own_Go p e below C T2040 (mkF m 259 #[.val (.ref a1), .val (.long fo), .second, .val (.long so), .second, .val (.int sb), .val (.int bi), .val (.int (2 : Int32)), .val (.int ps), .val (.int dw), .val (.int sz), .val (.ref cs), .val (.int u12), .val (.int (u12 * dw)), .val (.int (u12 * sz)), .val (.int u15), s16, s17] []) := by
        intro T2040  W2040 
        refine own_aload W2040 261 d6_259 rfl rfl rfl ?_
        refine own_iload W2040 263 d6_261 rfl rfl ?_
        refine own_aloadN W2040 264 d6_263 rfl rfl rfl ?_
        refine own_getfield W2040 267 d6_264 (wd11 hw) F_pairs_a1 rfl ?_
        intro T2041 W2041
        show own_Go p e below C T2041 (mkF m 267 #[.val (.ref a1), .val (.long fo), .second, .val (.long so), .second, .val (.int sb), .val (.int bi), .val (.int (2 : Int32)), .val (.int ps), .val (.int dw), .val (.int sz), .val (.ref cs), .val (.int u12), .val (.int (u12 * dw)), .val (.int (u12 * sz)), .val (.int u15), s16, s17] [(.ref pa), (.int (u12 * sz)), (.ref cs)])
        refine own_iconst W2041 (0 : Int32) 268 d6_267 rfl rfl ?_
        refine own_laload W2041 0 (pg 0) 269 d6_268 V_pa rfl (by decide) rfl rfl ?_
        refine own_iload W2041 271 d6_269 rfl rfl ?_
        refine own_iload W2041 273 d6_271 rfl rfl ?_
        refine own_callS W2041 (A := [(.long (pg 0)), (.int (u12 * dw)), (.int sz)]) (wt := 2) (pc' := 276) (st := [(.int (u12 * sz)), (.ref cs)]) d6_273 (wd60 hw) (wd61 hw) (wd3 hw) (wd62 hw) (by decide) (own_m10 l Z a0 hw [] h (pg 0) (u12 * dw) sz (Q (od 0)) (d * wn) wn (hpg 0 (by omega)) hshf hdw64 hwz) all0 rfl pd_4 rfl (Nat.le_of_eq rfl) (by decide) (by decide) (by decide) (by decide) rfl ?_
        rintro T2042 h2042 _ W2042 K2042 P2042 ⟨r0, rfl, hr0⟩
        rw [P2042 rfl rfl] at W2042
        show own_Go p e below C T2042 (mkF m 276 #[.val (.ref a1), .val (.long fo), .second, .val (.long so), .second, .val (.int sb), .val (.int bi), .val (.int (2 : Int32)), .val (.int ps), .val (.int dw), .val (.int sz), .val (.ref cs), .val (.int u12), .val (.int (u12 * dw)), .val (.int (u12 * sz)), .val (.int u15), s16, s17] [(.int r0), (.int (u12 * sz)), (.ref cs)])
        have hr0 : r0.toInt = ((x0 : Nat) : Int) := by rw [hr0, hx0]; rfl
        have hi0 : ((u12 * sz) + r0).toInt = ((d * sn + x0 : Nat) : Int) := own_addN hoff hr0 (by omega)
        refine own_iadd W2042 277 d6_276 rfl ?_
        refine own_iaload W2042 (d * sn + x0) (Int32.ofNat (G (d * sn + x0))) 278 d6_277 V_cs hi0 (by omega) rfl rfl ?_
        refine own_aloadN W2042 279 d6_278 rfl rfl rfl ?_
        refine own_getfield W2042 282 d6_279 (wd27 hw) F_count_a1 rfl ?_
        intro T2043 W2043
        show own_Go p e below C T2043 (mkF m 282 #[.val (.ref a1), .val (.long fo), .second, .val (.long so), .second, .val (.int sb), .val (.int bi), .val (.int (2 : Int32)), .val (.int ps), .val (.int dw), .val (.int sz), .val (.ref cs), .val (.int u12), .val (.int (u12 * dw)), .val (.int (u12 * sz)), .val (.int u15), s16, s17] [(.int (3 : Int32)), (.int (Int32.ofNat (G (d * sn + x0))))])
        have hg0 := hGd x0 hxl0
        have hg1 : G (d * sn + x0) < 4 := by
          rw [hg0]
          unfold own_e
          split <;> split <;> split <;> omega
        have hgl : (Int32.ofNat (G (d * sn + x0))) < (3 : Int32) ↔ G (d * sn + x0) < 3 := own_ltN (own_ofN32 (by omega)) (j := 3) rfl
        by_cases c2044 : (Int32.ofNat (G (d * sn + x0))) < (3 : Int32)
        · refine own_icmpN W2043 285 d6_282 ((tlt c2044).2.1) rfl ?_
          have J2045 : ∀ (T2045 : State) (h2045 : Heap) (G' : Nat → Nat) (u5 u6 u7 : Int32), own_W p l e ({ frames := 2, cells := 1, slots := 124, locals := 29 } : Room) s m #[(.ref a1)] below meth c Z (⟨"com/example/nodemata/nodemata/PairNumbers", "sort", "()V"⟩ : MethodName) none prog_83_method_6_code 18 [a1, pA, pB, xA, xB] T2045 h2045 (0 + 0 + 0 + 0 + 0 + 1 + 0) (0 + 0 + 0 + 0 + 0 + 124 + 0) → own_St Z h2045 a1 pa pb xa xb nb cs (n * sn) (fun j => .long (pg j)) sf (fun j => .int (Int32.ofNat (od j))) yf G' → (∀ v, v < sn → G' (d * sn + v) = own_i x0 v + own_i x1 v + own_i x2 v) → (∀ j, ¬ (d * sn ≤ j ∧ j < d * sn + sn) → G' j = G j) → own_Go p e below C T2045 (mkF m 329 #[.val (.ref a1), .val (.long fo), .second, .val (.long so), .second, .val (.int sb), .val (.int bi), .val (.int (2 : Int32)), .val (.int ps), .val (.int dw), .val (.int sz), .val (.ref cs), .val (.int u12), .val (.int (u12 * dw)), .val (.int (u12 * sz)), .val (.int u5), .val (.int u6), .val (.int u7)] []) := by
            intro T2045 h2045 G' u5 u6 u7 W2045 HS hpre hout
            obtain ⟨X_a1, F_pairs_a1, F_sortedPairs_a1, F_indices_a1, F_sortedIndices_a1, F_numbers_a1, F_count_a1, V_pa, V_pb, V_xa, V_xb, V_cs⟩ := HS
            obtain ⟨t0, ht0⟩ : ∃ t, t = G' (d * sn + x0) := ⟨_, rfl⟩
            obtain ⟨D0, hD0⟩ : ∃ D, D = own_updN G' (d * sn + x0) (t0 + 1) := ⟨_, rfl⟩
            obtain ⟨t1, ht1⟩ : ∃ t, t = D0 (d * sn + x1) := ⟨_, rfl⟩
            obtain ⟨D1, hD1⟩ : ∃ D, D = own_updN D0 (d * sn + x1) (t1 + 1) := ⟨_, rfl⟩
            obtain ⟨t2, ht2⟩ : ∃ t, t = D1 (d * sn + x2) := ⟨_, rfl⟩
            obtain ⟨D2, hD2⟩ : ∃ D, D = own_updN D1 (d * sn + x2) (t2 + 1) := ⟨_, rfl⟩
            have hpl : own_pl x0 x1 x2 t0 t1 t2 := own_pl.of hpre hxl0 hxl1 hxl2 ht0 (by rw [hD0]; exact if_pos rfl) (fun j hj => by rw [hD0]; exact if_neg hj) ht1 (by rw [hD1]; exact if_pos rfl) (fun j hj => by rw [hD1]; exact if_neg hj) ht2
            obtain ⟨lt0, lt1, lt2⟩ := hpl.lt
            refine own_iconst W2045 (0 : Int32) 330 d6_329 rfl rfl ?_
            refine own_istore W2045 332 #[.val (.ref a1), .val (.long fo), .second, .val (.long so), .second, .val (.int sb), .val (.int bi), .val (.int (2 : Int32)), .val (.int ps), .val (.int dw), .val (.int sz), .val (.ref cs), .val (.int u12), .val (.int (u12 * dw)), .val (.int (u12 * sz)), .val (.int u5), .val (.int (0 : Int32)), .val (.int u7)] d6_330 rfl rfl ?_
            refine own_iload W2045 334 d6_332 rfl rfl ?_
            refine own_aloadN W2045 335 d6_334 rfl rfl rfl ?_
            refine own_getfield W2045 338 d6_335 (wd27 hw) F_count_a1 rfl ?_
            intro T2046 W2046
            show own_Go p e below C T2046 (mkF m 338 #[.val (.ref a1), .val (.long fo), .second, .val (.long so), .second, .val (.int sb), .val (.int bi), .val (.int (2 : Int32)), .val (.int ps), .val (.int dw), .val (.int sz), .val (.ref cs), .val (.int u12), .val (.int (u12 * dw)), .val (.int (u12 * sz)), .val (.int u5), .val (.int (0 : Int32)), .val (.int u7)] [(.int (3 : Int32)), (.int (0 : Int32))])
            refine own_icmpN W2046 341 d6_338 ((tlt ((by decide) : (0 : Int32) < (3 : Int32))).2.1) rfl ?_
            refine own_aload W2046 343 d6_341 rfl rfl rfl ?_
            refine own_iload W2046 345 d6_343 rfl rfl ?_
            refine own_aloadN W2046 346 d6_345 rfl rfl rfl ?_
            refine own_getfield W2046 349 d6_346 (wd11 hw) F_pairs_a1 rfl ?_
            intro T2047 W2047
            show own_Go p e below C T2047 (mkF m 349 #[.val (.ref a1), .val (.long fo), .second, .val (.long so), .second, .val (.int sb), .val (.int bi), .val (.int (2 : Int32)), .val (.int ps), .val (.int dw), .val (.int sz), .val (.ref cs), .val (.int u12), .val (.int (u12 * dw)), .val (.int (u12 * sz)), .val (.int u5), .val (.int (0 : Int32)), .val (.int u7)] [(.ref pa), (.int (u12 * sz)), (.ref cs)])
            refine own_iload W2047 351 d6_349 rfl rfl ?_
            refine own_laload W2047 0 (pg 0) 352 d6_351 V_pa rfl (by decide) rfl rfl ?_
            refine own_iload W2047 354 d6_352 rfl rfl ?_
            refine own_iload W2047 356 d6_354 rfl rfl ?_
            refine own_callS W2047 (A := [(.long (pg 0)), (.int (u12 * dw)), (.int sz)]) (wt := 2) (pc' := 359) (st := [(.int (u12 * sz)), (.ref cs)]) d6_356 (wd60 hw) (wd61 hw) (wd3 hw) (wd62 hw) (by decide) (own_m10 l Z a0 hw [] h2045 (pg 0) (u12 * dw) sz (Q (od 0)) (d * wn) wn (hpg 0 (by omega)) hshf hdw64 hwz) all0 rfl pd_4 rfl (Nat.le_of_eq rfl) (by decide) (by decide) (by decide) (by decide) rfl ?_
            rintro T2048 h2048 _ W2048 K2048 P2048 ⟨r0, rfl, hr0⟩
            rw [P2048 rfl rfl] at W2048
            show own_Go p e below C T2048 (mkF m 359 #[.val (.ref a1), .val (.long fo), .second, .val (.long so), .second, .val (.int sb), .val (.int bi), .val (.int (2 : Int32)), .val (.int ps), .val (.int dw), .val (.int sz), .val (.ref cs), .val (.int u12), .val (.int (u12 * dw)), .val (.int (u12 * sz)), .val (.int u5), .val (.int (0 : Int32)), .val (.int u7)] [(.int r0), (.int (u12 * sz)), (.ref cs)])
            have hr0 : r0.toInt = ((x0 : Nat) : Int) := by rw [hr0, hx0]; rfl
            have hi0 : ((u12 * sz) + r0).toInt = ((d * sn + x0 : Nat) : Int) := own_addN hoff hr0 (by omega)
            refine own_iadd W2048 360 d6_359 rfl ?_
            refine own_dup2 W2048 361 d6_360 rfl ?_
            refine own_iaload W2048 (d * sn + x0) (Int32.ofNat t0) 362 d6_361 V_cs hi0 (by omega) (by rw [ht0]) rfl ?_
            refine own_dup_x2 W2048 363 d6_362 rfl ?_
            refine own_iconst W2048 (1 : Int32) 364 d6_363 rfl rfl ?_
            refine own_iadd W2048 365 d6_364 rfl ?_
            rw [show ((Int32.ofNat t0) + (1 : Int32)) = (Int32.ofNat (t0 + 1)) from own_ofNs _]
            refine own_iastore W2048 (d * sn + x0) 366 d6_365 V_cs (Or.inr o_cs) hi0 (by omega) rfl ?_
            intro T2049 h2049 W2049 Wr2049 V_cs
            have X_a1 := X_a1.wr Wr2049
            have F_pairs_a1 := F_pairs_a1.other Wr2049 (Or.inl ne_a1_cs)
            have F_sortedPairs_a1 := F_sortedPairs_a1.other Wr2049 (Or.inl ne_a1_cs)
            have F_indices_a1 := F_indices_a1.other Wr2049 (Or.inl ne_a1_cs)
            have F_sortedIndices_a1 := F_sortedIndices_a1.other Wr2049 (Or.inl ne_a1_cs)
            have F_numbers_a1 := F_numbers_a1.other Wr2049 (Or.inl ne_a1_cs)
            have F_count_a1 := F_count_a1.other Wr2049 (Or.inl ne_a1_cs)
            have V_pa := V_pa.other Wr2049 ne_pa_cs
            have V_pb := V_pb.other Wr2049 ne_pb_cs
            have V_xa := V_xa.other Wr2049 ne_xa_cs
            have V_xb := V_xb.other Wr2049 ne_xb_cs
            show own_Go p e below C T2049 (mkF m 366 #[.val (.ref a1), .val (.long fo), .second, .val (.long so), .second, .val (.int sb), .val (.int bi), .val (.int (2 : Int32)), .val (.int ps), .val (.int dw), .val (.int sz), .val (.ref cs), .val (.int u12), .val (.int (u12 * dw)), .val (.int (u12 * sz)), .val (.int u5), .val (.int (0 : Int32)), .val (.int u7)] [(.int (Int32.ofNat t0))])
            have V_cs := V_cs.congr (fun j _ => own_updNe _ _ _ j)
            rw [← hD0] at V_cs
            refine own_istore W2049 368 #[.val (.ref a1), .val (.long fo), .second, .val (.long so), .second, .val (.int sb), .val (.int bi), .val (.int (2 : Int32)), .val (.int ps), .val (.int dw), .val (.int sz), .val (.ref cs), .val (.int u12), .val (.int (u12 * dw)), .val (.int (u12 * sz)), .val (.int u5), .val (.int (0 : Int32)), .val (.int (Int32.ofNat t0))] d6_366 rfl rfl ?_
            refine own_aloadN W2049 369 d6_368 rfl rfl rfl ?_
            refine own_getfield W2049 372 d6_369 (wd13 hw) F_sortedPairs_a1 rfl ?_
            intro T2050 W2050
            show own_Go p e below C T2050 (mkF m 372 #[.val (.ref a1), .val (.long fo), .second, .val (.long so), .second, .val (.int sb), .val (.int bi), .val (.int (2 : Int32)), .val (.int ps), .val (.int dw), .val (.int sz), .val (.ref cs), .val (.int u12), .val (.int (u12 * dw)), .val (.int (u12 * sz)), .val (.int u5), .val (.int (0 : Int32)), .val (.int (Int32.ofNat t0))] [(.ref pb)])
            refine own_iload W2050 374 d6_372 rfl rfl ?_
            refine own_aloadN W2050 375 d6_374 rfl rfl rfl ?_
            refine own_getfield W2050 378 d6_375 (wd11 hw) F_pairs_a1 rfl ?_
            intro T2051 W2051
            show own_Go p e below C T2051 (mkF m 378 #[.val (.ref a1), .val (.long fo), .second, .val (.long so), .second, .val (.int sb), .val (.int bi), .val (.int (2 : Int32)), .val (.int ps), .val (.int dw), .val (.int sz), .val (.ref cs), .val (.int u12), .val (.int (u12 * dw)), .val (.int (u12 * sz)), .val (.int u5), .val (.int (0 : Int32)), .val (.int (Int32.ofNat t0))] [(.ref pa), (.int (Int32.ofNat t0)), (.ref pb)])
            refine own_iload W2051 380 d6_378 rfl rfl ?_
            refine own_laload W2051 0 (pg 0) 381 d6_380 V_pa rfl (by decide) rfl rfl ?_
            refine own_lastore W2051 t0 382 d6_381 V_pb (Or.inl m_pb) (own_ofN32 (by omega)) lt0 rfl ?_
            intro T2052 h2052 W2052 Wr2052 V_pb
            have X_a1 := X_a1.wr Wr2052
            have F_pairs_a1 := F_pairs_a1.other Wr2052 (Or.inl ne_a1_pb)
            have F_sortedPairs_a1 := F_sortedPairs_a1.other Wr2052 (Or.inl ne_a1_pb)
            have F_indices_a1 := F_indices_a1.other Wr2052 (Or.inl ne_a1_pb)
            have F_sortedIndices_a1 := F_sortedIndices_a1.other Wr2052 (Or.inl ne_a1_pb)
            have F_numbers_a1 := F_numbers_a1.other Wr2052 (Or.inl ne_a1_pb)
            have F_count_a1 := F_count_a1.other Wr2052 (Or.inl ne_a1_pb)
            have V_pa := V_pa.other Wr2052 ne_pa_pb
            have V_xa := V_xa.other Wr2052 (Ne.symm ne_pb_xa)
            have V_xb := V_xb.other Wr2052 (Ne.symm ne_pb_xb)
            have V_cs := V_cs.other Wr2052 (Ne.symm ne_pb_cs)
            show own_Go p e below C T2052 (mkF m 382 #[.val (.ref a1), .val (.long fo), .second, .val (.long so), .second, .val (.int sb), .val (.int bi), .val (.int (2 : Int32)), .val (.int ps), .val (.int dw), .val (.int sz), .val (.ref cs), .val (.int u12), .val (.int (u12 * dw)), .val (.int (u12 * sz)), .val (.int u5), .val (.int (0 : Int32)), .val (.int (Int32.ofNat t0))] [])
            refine own_aloadN W2052 383 d6_382 rfl rfl rfl ?_
            refine own_getfield W2052 386 d6_383 (wd18 hw) F_sortedIndices_a1 rfl ?_
            intro T2053 W2053
            show own_Go p e below C T2053 (mkF m 386 #[.val (.ref a1), .val (.long fo), .second, .val (.long so), .second, .val (.int sb), .val (.int bi), .val (.int (2 : Int32)), .val (.int ps), .val (.int dw), .val (.int sz), .val (.ref cs), .val (.int u12), .val (.int (u12 * dw)), .val (.int (u12 * sz)), .val (.int u5), .val (.int (0 : Int32)), .val (.int (Int32.ofNat t0))] [(.ref xb)])
            refine own_iload W2053 388 d6_386 rfl rfl ?_
            refine own_aloadN W2053 389 d6_388 rfl rfl rfl ?_
            refine own_getfield W2053 392 d6_389 (wd16 hw) F_indices_a1 rfl ?_
            intro T2054 W2054
            show own_Go p e below C T2054 (mkF m 392 #[.val (.ref a1), .val (.long fo), .second, .val (.long so), .second, .val (.int sb), .val (.int bi), .val (.int (2 : Int32)), .val (.int ps), .val (.int dw), .val (.int sz), .val (.ref cs), .val (.int u12), .val (.int (u12 * dw)), .val (.int (u12 * sz)), .val (.int u5), .val (.int (0 : Int32)), .val (.int (Int32.ofNat t0))] [(.ref xa), (.int (Int32.ofNat t0)), (.ref xb)])
            refine own_iload W2054 394 d6_392 rfl rfl ?_
            refine own_iaload W2054 0 (Int32.ofNat (od 0)) 395 d6_394 V_xa rfl (by decide) rfl rfl ?_
            refine own_iastore W2054 t0 396 d6_395 V_xb (Or.inl m_xb) (own_ofN32 (by omega)) lt0 rfl ?_
            intro T2055 h2055 W2055 Wr2055 V_xb
            have X_a1 := X_a1.wr Wr2055
            have F_pairs_a1 := F_pairs_a1.other Wr2055 (Or.inl ne_a1_xb)
            have F_sortedPairs_a1 := F_sortedPairs_a1.other Wr2055 (Or.inl ne_a1_xb)
            have F_indices_a1 := F_indices_a1.other Wr2055 (Or.inl ne_a1_xb)
            have F_sortedIndices_a1 := F_sortedIndices_a1.other Wr2055 (Or.inl ne_a1_xb)
            have F_numbers_a1 := F_numbers_a1.other Wr2055 (Or.inl ne_a1_xb)
            have F_count_a1 := F_count_a1.other Wr2055 (Or.inl ne_a1_xb)
            have V_pa := V_pa.other Wr2055 ne_pa_xb
            have V_pb := V_pb.other Wr2055 ne_pb_xb
            have V_xa := V_xa.other Wr2055 ne_xa_xb
            have V_cs := V_cs.other Wr2055 (Ne.symm ne_xb_cs)
            show own_Go p e below C T2055 (mkF m 396 #[.val (.ref a1), .val (.long fo), .second, .val (.long so), .second, .val (.int sb), .val (.int bi), .val (.int (2 : Int32)), .val (.int ps), .val (.int dw), .val (.int sz), .val (.ref cs), .val (.int u12), .val (.int (u12 * dw)), .val (.int (u12 * sz)), .val (.int u5), .val (.int (0 : Int32)), .val (.int (Int32.ofNat t0))] [])
            refine own_iinc W2055 (1 : Int32) 399 #[.val (.ref a1), .val (.long fo), .second, .val (.long so), .second, .val (.int sb), .val (.int bi), .val (.int (2 : Int32)), .val (.int ps), .val (.int dw), .val (.int sz), .val (.ref cs), .val (.int u12), .val (.int (u12 * dw)), .val (.int (u12 * sz)), .val (.int u5), .val (.int (1 : Int32)), .val (.int (Int32.ofNat t0))] d6_396 rfl rfl rfl rfl ?_
            refine own_goto W2055 332 d6_399 (by decide) (by decide) ?_
            refine own_iload W2055 334 d6_332 rfl rfl ?_
            refine own_aloadN W2055 335 d6_334 rfl rfl rfl ?_
            refine own_getfield W2055 338 d6_335 (wd27 hw) F_count_a1 rfl ?_
            intro T2056 W2056
            show own_Go p e below C T2056 (mkF m 338 #[.val (.ref a1), .val (.long fo), .second, .val (.long so), .second, .val (.int sb), .val (.int bi), .val (.int (2 : Int32)), .val (.int ps), .val (.int dw), .val (.int sz), .val (.ref cs), .val (.int u12), .val (.int (u12 * dw)), .val (.int (u12 * sz)), .val (.int u5), .val (.int (1 : Int32)), .val (.int (Int32.ofNat t0))] [(.int (3 : Int32)), (.int (1 : Int32))])
            refine own_icmpN W2056 341 d6_338 ((tlt ((by decide) : (1 : Int32) < (3 : Int32))).2.1) rfl ?_
            refine own_aload W2056 343 d6_341 rfl rfl rfl ?_
            refine own_iload W2056 345 d6_343 rfl rfl ?_
            refine own_aloadN W2056 346 d6_345 rfl rfl rfl ?_
            refine own_getfield W2056 349 d6_346 (wd11 hw) F_pairs_a1 rfl ?_
            intro T2057 W2057
            show own_Go p e below C T2057 (mkF m 349 #[.val (.ref a1), .val (.long fo), .second, .val (.long so), .second, .val (.int sb), .val (.int bi), .val (.int (2 : Int32)), .val (.int ps), .val (.int dw), .val (.int sz), .val (.ref cs), .val (.int u12), .val (.int (u12 * dw)), .val (.int (u12 * sz)), .val (.int u5), .val (.int (1 : Int32)), .val (.int (Int32.ofNat t0))] [(.ref pa), (.int (u12 * sz)), (.ref cs)])
            refine own_iload W2057 351 d6_349 rfl rfl ?_
            refine own_laload W2057 1 (pg 1) 352 d6_351 V_pa rfl (by decide) rfl rfl ?_
            refine own_iload W2057 354 d6_352 rfl rfl ?_
            refine own_iload W2057 356 d6_354 rfl rfl ?_
            refine own_callS W2057 (A := [(.long (pg 1)), (.int (u12 * dw)), (.int sz)]) (wt := 2) (pc' := 359) (st := [(.int (u12 * sz)), (.ref cs)]) d6_356 (wd60 hw) (wd61 hw) (wd3 hw) (wd62 hw) (by decide) (own_m10 l Z a0 hw [] h2055 (pg 1) (u12 * dw) sz (Q (od 1)) (d * wn) wn (hpg 1 (by omega)) hshf hdw64 hwz) all0 rfl pd_4 rfl (Nat.le_of_eq rfl) (by decide) (by decide) (by decide) (by decide) rfl ?_
            rintro T2058 h2058 _ W2058 K2058 P2058 ⟨r1, rfl, hr1⟩
            rw [P2058 rfl rfl] at W2058
            show own_Go p e below C T2058 (mkF m 359 #[.val (.ref a1), .val (.long fo), .second, .val (.long so), .second, .val (.int sb), .val (.int bi), .val (.int (2 : Int32)), .val (.int ps), .val (.int dw), .val (.int sz), .val (.ref cs), .val (.int u12), .val (.int (u12 * dw)), .val (.int (u12 * sz)), .val (.int u5), .val (.int (1 : Int32)), .val (.int (Int32.ofNat t0))] [(.int r1), (.int (u12 * sz)), (.ref cs)])
            have hr1 : r1.toInt = ((x1 : Nat) : Int) := by rw [hr1, hx1]; rfl
            have hi1 : ((u12 * sz) + r1).toInt = ((d * sn + x1 : Nat) : Int) := own_addN hoff hr1 (by omega)
            refine own_iadd W2058 360 d6_359 rfl ?_
            refine own_dup2 W2058 361 d6_360 rfl ?_
            refine own_iaload W2058 (d * sn + x1) (Int32.ofNat t1) 362 d6_361 V_cs hi1 (by omega) (by rw [ht1]) rfl ?_
            refine own_dup_x2 W2058 363 d6_362 rfl ?_
            refine own_iconst W2058 (1 : Int32) 364 d6_363 rfl rfl ?_
            refine own_iadd W2058 365 d6_364 rfl ?_
            rw [show ((Int32.ofNat t1) + (1 : Int32)) = (Int32.ofNat (t1 + 1)) from own_ofNs _]
            refine own_iastore W2058 (d * sn + x1) 366 d6_365 V_cs (Or.inr o_cs) hi1 (by omega) rfl ?_
            intro T2059 h2059 W2059 Wr2059 V_cs
            have X_a1 := X_a1.wr Wr2059
            have F_pairs_a1 := F_pairs_a1.other Wr2059 (Or.inl ne_a1_cs)
            have F_sortedPairs_a1 := F_sortedPairs_a1.other Wr2059 (Or.inl ne_a1_cs)
            have F_indices_a1 := F_indices_a1.other Wr2059 (Or.inl ne_a1_cs)
            have F_sortedIndices_a1 := F_sortedIndices_a1.other Wr2059 (Or.inl ne_a1_cs)
            have F_numbers_a1 := F_numbers_a1.other Wr2059 (Or.inl ne_a1_cs)
            have F_count_a1 := F_count_a1.other Wr2059 (Or.inl ne_a1_cs)
            have V_pa := V_pa.other Wr2059 ne_pa_cs
            have V_pb := V_pb.other Wr2059 ne_pb_cs
            have V_xa := V_xa.other Wr2059 ne_xa_cs
            have V_xb := V_xb.other Wr2059 ne_xb_cs
            show own_Go p e below C T2059 (mkF m 366 #[.val (.ref a1), .val (.long fo), .second, .val (.long so), .second, .val (.int sb), .val (.int bi), .val (.int (2 : Int32)), .val (.int ps), .val (.int dw), .val (.int sz), .val (.ref cs), .val (.int u12), .val (.int (u12 * dw)), .val (.int (u12 * sz)), .val (.int u5), .val (.int (1 : Int32)), .val (.int (Int32.ofNat t0))] [(.int (Int32.ofNat t1))])
            have V_cs := V_cs.congr (fun j _ => own_updNe _ _ _ j)
            rw [← hD1] at V_cs
            refine own_istore W2059 368 #[.val (.ref a1), .val (.long fo), .second, .val (.long so), .second, .val (.int sb), .val (.int bi), .val (.int (2 : Int32)), .val (.int ps), .val (.int dw), .val (.int sz), .val (.ref cs), .val (.int u12), .val (.int (u12 * dw)), .val (.int (u12 * sz)), .val (.int u5), .val (.int (1 : Int32)), .val (.int (Int32.ofNat t1))] d6_366 rfl rfl ?_
            refine own_aloadN W2059 369 d6_368 rfl rfl rfl ?_
            refine own_getfield W2059 372 d6_369 (wd13 hw) F_sortedPairs_a1 rfl ?_
            intro T2060 W2060
            show own_Go p e below C T2060 (mkF m 372 #[.val (.ref a1), .val (.long fo), .second, .val (.long so), .second, .val (.int sb), .val (.int bi), .val (.int (2 : Int32)), .val (.int ps), .val (.int dw), .val (.int sz), .val (.ref cs), .val (.int u12), .val (.int (u12 * dw)), .val (.int (u12 * sz)), .val (.int u5), .val (.int (1 : Int32)), .val (.int (Int32.ofNat t1))] [(.ref pb)])
            refine own_iload W2060 374 d6_372 rfl rfl ?_
            refine own_aloadN W2060 375 d6_374 rfl rfl rfl ?_
            refine own_getfield W2060 378 d6_375 (wd11 hw) F_pairs_a1 rfl ?_
            intro T2061 W2061
            show own_Go p e below C T2061 (mkF m 378 #[.val (.ref a1), .val (.long fo), .second, .val (.long so), .second, .val (.int sb), .val (.int bi), .val (.int (2 : Int32)), .val (.int ps), .val (.int dw), .val (.int sz), .val (.ref cs), .val (.int u12), .val (.int (u12 * dw)), .val (.int (u12 * sz)), .val (.int u5), .val (.int (1 : Int32)), .val (.int (Int32.ofNat t1))] [(.ref pa), (.int (Int32.ofNat t1)), (.ref pb)])
            refine own_iload W2061 380 d6_378 rfl rfl ?_
            refine own_laload W2061 1 (pg 1) 381 d6_380 V_pa rfl (by decide) rfl rfl ?_
            refine own_lastore W2061 t1 382 d6_381 V_pb (Or.inl m_pb) (own_ofN32 (by omega)) lt1 rfl ?_
            intro T2062 h2062 W2062 Wr2062 V_pb
            have X_a1 := X_a1.wr Wr2062
            have F_pairs_a1 := F_pairs_a1.other Wr2062 (Or.inl ne_a1_pb)
            have F_sortedPairs_a1 := F_sortedPairs_a1.other Wr2062 (Or.inl ne_a1_pb)
            have F_indices_a1 := F_indices_a1.other Wr2062 (Or.inl ne_a1_pb)
            have F_sortedIndices_a1 := F_sortedIndices_a1.other Wr2062 (Or.inl ne_a1_pb)
            have F_numbers_a1 := F_numbers_a1.other Wr2062 (Or.inl ne_a1_pb)
            have F_count_a1 := F_count_a1.other Wr2062 (Or.inl ne_a1_pb)
            have V_pa := V_pa.other Wr2062 ne_pa_pb
            have V_xa := V_xa.other Wr2062 (Ne.symm ne_pb_xa)
            have V_xb := V_xb.other Wr2062 (Ne.symm ne_pb_xb)
            have V_cs := V_cs.other Wr2062 (Ne.symm ne_pb_cs)
            show own_Go p e below C T2062 (mkF m 382 #[.val (.ref a1), .val (.long fo), .second, .val (.long so), .second, .val (.int sb), .val (.int bi), .val (.int (2 : Int32)), .val (.int ps), .val (.int dw), .val (.int sz), .val (.ref cs), .val (.int u12), .val (.int (u12 * dw)), .val (.int (u12 * sz)), .val (.int u5), .val (.int (1 : Int32)), .val (.int (Int32.ofNat t1))] [])
            refine own_aloadN W2062 383 d6_382 rfl rfl rfl ?_
            refine own_getfield W2062 386 d6_383 (wd18 hw) F_sortedIndices_a1 rfl ?_
            intro T2063 W2063
            show own_Go p e below C T2063 (mkF m 386 #[.val (.ref a1), .val (.long fo), .second, .val (.long so), .second, .val (.int sb), .val (.int bi), .val (.int (2 : Int32)), .val (.int ps), .val (.int dw), .val (.int sz), .val (.ref cs), .val (.int u12), .val (.int (u12 * dw)), .val (.int (u12 * sz)), .val (.int u5), .val (.int (1 : Int32)), .val (.int (Int32.ofNat t1))] [(.ref xb)])
            refine own_iload W2063 388 d6_386 rfl rfl ?_
            refine own_aloadN W2063 389 d6_388 rfl rfl rfl ?_
            refine own_getfield W2063 392 d6_389 (wd16 hw) F_indices_a1 rfl ?_
            intro T2064 W2064
            show own_Go p e below C T2064 (mkF m 392 #[.val (.ref a1), .val (.long fo), .second, .val (.long so), .second, .val (.int sb), .val (.int bi), .val (.int (2 : Int32)), .val (.int ps), .val (.int dw), .val (.int sz), .val (.ref cs), .val (.int u12), .val (.int (u12 * dw)), .val (.int (u12 * sz)), .val (.int u5), .val (.int (1 : Int32)), .val (.int (Int32.ofNat t1))] [(.ref xa), (.int (Int32.ofNat t1)), (.ref xb)])
            refine own_iload W2064 394 d6_392 rfl rfl ?_
            refine own_iaload W2064 1 (Int32.ofNat (od 1)) 395 d6_394 V_xa rfl (by decide) rfl rfl ?_
            refine own_iastore W2064 t1 396 d6_395 V_xb (Or.inl m_xb) (own_ofN32 (by omega)) lt1 rfl ?_
            intro T2065 h2065 W2065 Wr2065 V_xb
            have X_a1 := X_a1.wr Wr2065
            have F_pairs_a1 := F_pairs_a1.other Wr2065 (Or.inl ne_a1_xb)
            have F_sortedPairs_a1 := F_sortedPairs_a1.other Wr2065 (Or.inl ne_a1_xb)
            have F_indices_a1 := F_indices_a1.other Wr2065 (Or.inl ne_a1_xb)
            have F_sortedIndices_a1 := F_sortedIndices_a1.other Wr2065 (Or.inl ne_a1_xb)
            have F_numbers_a1 := F_numbers_a1.other Wr2065 (Or.inl ne_a1_xb)
            have F_count_a1 := F_count_a1.other Wr2065 (Or.inl ne_a1_xb)
            have V_pa := V_pa.other Wr2065 ne_pa_xb
            have V_pb := V_pb.other Wr2065 ne_pb_xb
            have V_xa := V_xa.other Wr2065 ne_xa_xb
            have V_cs := V_cs.other Wr2065 (Ne.symm ne_xb_cs)
            show own_Go p e below C T2065 (mkF m 396 #[.val (.ref a1), .val (.long fo), .second, .val (.long so), .second, .val (.int sb), .val (.int bi), .val (.int (2 : Int32)), .val (.int ps), .val (.int dw), .val (.int sz), .val (.ref cs), .val (.int u12), .val (.int (u12 * dw)), .val (.int (u12 * sz)), .val (.int u5), .val (.int (1 : Int32)), .val (.int (Int32.ofNat t1))] [])
            refine own_iinc W2065 (2 : Int32) 399 #[.val (.ref a1), .val (.long fo), .second, .val (.long so), .second, .val (.int sb), .val (.int bi), .val (.int (2 : Int32)), .val (.int ps), .val (.int dw), .val (.int sz), .val (.ref cs), .val (.int u12), .val (.int (u12 * dw)), .val (.int (u12 * sz)), .val (.int u5), .val (.int (2 : Int32)), .val (.int (Int32.ofNat t1))] d6_396 rfl rfl rfl rfl ?_
            refine own_goto W2065 332 d6_399 (by decide) (by decide) ?_
            refine own_iload W2065 334 d6_332 rfl rfl ?_
            refine own_aloadN W2065 335 d6_334 rfl rfl rfl ?_
            refine own_getfield W2065 338 d6_335 (wd27 hw) F_count_a1 rfl ?_
            intro T2066 W2066
            show own_Go p e below C T2066 (mkF m 338 #[.val (.ref a1), .val (.long fo), .second, .val (.long so), .second, .val (.int sb), .val (.int bi), .val (.int (2 : Int32)), .val (.int ps), .val (.int dw), .val (.int sz), .val (.ref cs), .val (.int u12), .val (.int (u12 * dw)), .val (.int (u12 * sz)), .val (.int u5), .val (.int (2 : Int32)), .val (.int (Int32.ofNat t1))] [(.int (3 : Int32)), (.int (2 : Int32))])
            refine own_icmpN W2066 341 d6_338 ((tlt ((by decide) : (2 : Int32) < (3 : Int32))).2.1) rfl ?_
            refine own_aload W2066 343 d6_341 rfl rfl rfl ?_
            refine own_iload W2066 345 d6_343 rfl rfl ?_
            refine own_aloadN W2066 346 d6_345 rfl rfl rfl ?_
            refine own_getfield W2066 349 d6_346 (wd11 hw) F_pairs_a1 rfl ?_
            intro T2067 W2067
            show own_Go p e below C T2067 (mkF m 349 #[.val (.ref a1), .val (.long fo), .second, .val (.long so), .second, .val (.int sb), .val (.int bi), .val (.int (2 : Int32)), .val (.int ps), .val (.int dw), .val (.int sz), .val (.ref cs), .val (.int u12), .val (.int (u12 * dw)), .val (.int (u12 * sz)), .val (.int u5), .val (.int (2 : Int32)), .val (.int (Int32.ofNat t1))] [(.ref pa), (.int (u12 * sz)), (.ref cs)])
            refine own_iload W2067 351 d6_349 rfl rfl ?_
            refine own_laload W2067 2 (pg 2) 352 d6_351 V_pa rfl (by decide) rfl rfl ?_
            refine own_iload W2067 354 d6_352 rfl rfl ?_
            refine own_iload W2067 356 d6_354 rfl rfl ?_
            refine own_callS W2067 (A := [(.long (pg 2)), (.int (u12 * dw)), (.int sz)]) (wt := 2) (pc' := 359) (st := [(.int (u12 * sz)), (.ref cs)]) d6_356 (wd60 hw) (wd61 hw) (wd3 hw) (wd62 hw) (by decide) (own_m10 l Z a0 hw [] h2065 (pg 2) (u12 * dw) sz (Q (od 2)) (d * wn) wn (hpg 2 (by omega)) hshf hdw64 hwz) all0 rfl pd_4 rfl (Nat.le_of_eq rfl) (by decide) (by decide) (by decide) (by decide) rfl ?_
            rintro T2068 h2068 _ W2068 K2068 P2068 ⟨r2, rfl, hr2⟩
            rw [P2068 rfl rfl] at W2068
            show own_Go p e below C T2068 (mkF m 359 #[.val (.ref a1), .val (.long fo), .second, .val (.long so), .second, .val (.int sb), .val (.int bi), .val (.int (2 : Int32)), .val (.int ps), .val (.int dw), .val (.int sz), .val (.ref cs), .val (.int u12), .val (.int (u12 * dw)), .val (.int (u12 * sz)), .val (.int u5), .val (.int (2 : Int32)), .val (.int (Int32.ofNat t1))] [(.int r2), (.int (u12 * sz)), (.ref cs)])
            have hr2 : r2.toInt = ((x2 : Nat) : Int) := by rw [hr2, hx2]; rfl
            have hi2 : ((u12 * sz) + r2).toInt = ((d * sn + x2 : Nat) : Int) := own_addN hoff hr2 (by omega)
            refine own_iadd W2068 360 d6_359 rfl ?_
            refine own_dup2 W2068 361 d6_360 rfl ?_
            refine own_iaload W2068 (d * sn + x2) (Int32.ofNat t2) 362 d6_361 V_cs hi2 (by omega) (by rw [ht2]) rfl ?_
            refine own_dup_x2 W2068 363 d6_362 rfl ?_
            refine own_iconst W2068 (1 : Int32) 364 d6_363 rfl rfl ?_
            refine own_iadd W2068 365 d6_364 rfl ?_
            rw [show ((Int32.ofNat t2) + (1 : Int32)) = (Int32.ofNat (t2 + 1)) from own_ofNs _]
            refine own_iastore W2068 (d * sn + x2) 366 d6_365 V_cs (Or.inr o_cs) hi2 (by omega) rfl ?_
            intro T2069 h2069 W2069 Wr2069 V_cs
            have X_a1 := X_a1.wr Wr2069
            have F_pairs_a1 := F_pairs_a1.other Wr2069 (Or.inl ne_a1_cs)
            have F_sortedPairs_a1 := F_sortedPairs_a1.other Wr2069 (Or.inl ne_a1_cs)
            have F_indices_a1 := F_indices_a1.other Wr2069 (Or.inl ne_a1_cs)
            have F_sortedIndices_a1 := F_sortedIndices_a1.other Wr2069 (Or.inl ne_a1_cs)
            have F_numbers_a1 := F_numbers_a1.other Wr2069 (Or.inl ne_a1_cs)
            have F_count_a1 := F_count_a1.other Wr2069 (Or.inl ne_a1_cs)
            have V_pa := V_pa.other Wr2069 ne_pa_cs
            have V_pb := V_pb.other Wr2069 ne_pb_cs
            have V_xa := V_xa.other Wr2069 ne_xa_cs
            have V_xb := V_xb.other Wr2069 ne_xb_cs
            show own_Go p e below C T2069 (mkF m 366 #[.val (.ref a1), .val (.long fo), .second, .val (.long so), .second, .val (.int sb), .val (.int bi), .val (.int (2 : Int32)), .val (.int ps), .val (.int dw), .val (.int sz), .val (.ref cs), .val (.int u12), .val (.int (u12 * dw)), .val (.int (u12 * sz)), .val (.int u5), .val (.int (2 : Int32)), .val (.int (Int32.ofNat t1))] [(.int (Int32.ofNat t2))])
            have V_cs := V_cs.congr (fun j _ => own_updNe _ _ _ j)
            rw [← hD2] at V_cs
            refine own_istore W2069 368 #[.val (.ref a1), .val (.long fo), .second, .val (.long so), .second, .val (.int sb), .val (.int bi), .val (.int (2 : Int32)), .val (.int ps), .val (.int dw), .val (.int sz), .val (.ref cs), .val (.int u12), .val (.int (u12 * dw)), .val (.int (u12 * sz)), .val (.int u5), .val (.int (2 : Int32)), .val (.int (Int32.ofNat t2))] d6_366 rfl rfl ?_
            refine own_aloadN W2069 369 d6_368 rfl rfl rfl ?_
            refine own_getfield W2069 372 d6_369 (wd13 hw) F_sortedPairs_a1 rfl ?_
            intro T2070 W2070
            show own_Go p e below C T2070 (mkF m 372 #[.val (.ref a1), .val (.long fo), .second, .val (.long so), .second, .val (.int sb), .val (.int bi), .val (.int (2 : Int32)), .val (.int ps), .val (.int dw), .val (.int sz), .val (.ref cs), .val (.int u12), .val (.int (u12 * dw)), .val (.int (u12 * sz)), .val (.int u5), .val (.int (2 : Int32)), .val (.int (Int32.ofNat t2))] [(.ref pb)])
            refine own_iload W2070 374 d6_372 rfl rfl ?_
            refine own_aloadN W2070 375 d6_374 rfl rfl rfl ?_
            refine own_getfield W2070 378 d6_375 (wd11 hw) F_pairs_a1 rfl ?_
            intro T2071 W2071
            show own_Go p e below C T2071 (mkF m 378 #[.val (.ref a1), .val (.long fo), .second, .val (.long so), .second, .val (.int sb), .val (.int bi), .val (.int (2 : Int32)), .val (.int ps), .val (.int dw), .val (.int sz), .val (.ref cs), .val (.int u12), .val (.int (u12 * dw)), .val (.int (u12 * sz)), .val (.int u5), .val (.int (2 : Int32)), .val (.int (Int32.ofNat t2))] [(.ref pa), (.int (Int32.ofNat t2)), (.ref pb)])
            refine own_iload W2071 380 d6_378 rfl rfl ?_
            refine own_laload W2071 2 (pg 2) 381 d6_380 V_pa rfl (by decide) rfl rfl ?_
            refine own_lastore W2071 t2 382 d6_381 V_pb (Or.inl m_pb) (own_ofN32 (by omega)) lt2 rfl ?_
            intro T2072 h2072 W2072 Wr2072 V_pb
            have X_a1 := X_a1.wr Wr2072
            have F_pairs_a1 := F_pairs_a1.other Wr2072 (Or.inl ne_a1_pb)
            have F_sortedPairs_a1 := F_sortedPairs_a1.other Wr2072 (Or.inl ne_a1_pb)
            have F_indices_a1 := F_indices_a1.other Wr2072 (Or.inl ne_a1_pb)
            have F_sortedIndices_a1 := F_sortedIndices_a1.other Wr2072 (Or.inl ne_a1_pb)
            have F_numbers_a1 := F_numbers_a1.other Wr2072 (Or.inl ne_a1_pb)
            have F_count_a1 := F_count_a1.other Wr2072 (Or.inl ne_a1_pb)
            have V_pa := V_pa.other Wr2072 ne_pa_pb
            have V_xa := V_xa.other Wr2072 (Ne.symm ne_pb_xa)
            have V_xb := V_xb.other Wr2072 (Ne.symm ne_pb_xb)
            have V_cs := V_cs.other Wr2072 (Ne.symm ne_pb_cs)
            show own_Go p e below C T2072 (mkF m 382 #[.val (.ref a1), .val (.long fo), .second, .val (.long so), .second, .val (.int sb), .val (.int bi), .val (.int (2 : Int32)), .val (.int ps), .val (.int dw), .val (.int sz), .val (.ref cs), .val (.int u12), .val (.int (u12 * dw)), .val (.int (u12 * sz)), .val (.int u5), .val (.int (2 : Int32)), .val (.int (Int32.ofNat t2))] [])
            refine own_aloadN W2072 383 d6_382 rfl rfl rfl ?_
            refine own_getfield W2072 386 d6_383 (wd18 hw) F_sortedIndices_a1 rfl ?_
            intro T2073 W2073
            show own_Go p e below C T2073 (mkF m 386 #[.val (.ref a1), .val (.long fo), .second, .val (.long so), .second, .val (.int sb), .val (.int bi), .val (.int (2 : Int32)), .val (.int ps), .val (.int dw), .val (.int sz), .val (.ref cs), .val (.int u12), .val (.int (u12 * dw)), .val (.int (u12 * sz)), .val (.int u5), .val (.int (2 : Int32)), .val (.int (Int32.ofNat t2))] [(.ref xb)])
            refine own_iload W2073 388 d6_386 rfl rfl ?_
            refine own_aloadN W2073 389 d6_388 rfl rfl rfl ?_
            refine own_getfield W2073 392 d6_389 (wd16 hw) F_indices_a1 rfl ?_
            intro T2074 W2074
            show own_Go p e below C T2074 (mkF m 392 #[.val (.ref a1), .val (.long fo), .second, .val (.long so), .second, .val (.int sb), .val (.int bi), .val (.int (2 : Int32)), .val (.int ps), .val (.int dw), .val (.int sz), .val (.ref cs), .val (.int u12), .val (.int (u12 * dw)), .val (.int (u12 * sz)), .val (.int u5), .val (.int (2 : Int32)), .val (.int (Int32.ofNat t2))] [(.ref xa), (.int (Int32.ofNat t2)), (.ref xb)])
            refine own_iload W2074 394 d6_392 rfl rfl ?_
            refine own_iaload W2074 2 (Int32.ofNat (od 2)) 395 d6_394 V_xa rfl (by decide) rfl rfl ?_
            refine own_iastore W2074 t2 396 d6_395 V_xb (Or.inl m_xb) (own_ofN32 (by omega)) lt2 rfl ?_
            intro T2075 h2075 W2075 Wr2075 V_xb
            have X_a1 := X_a1.wr Wr2075
            have F_pairs_a1 := F_pairs_a1.other Wr2075 (Or.inl ne_a1_xb)
            have F_sortedPairs_a1 := F_sortedPairs_a1.other Wr2075 (Or.inl ne_a1_xb)
            have F_indices_a1 := F_indices_a1.other Wr2075 (Or.inl ne_a1_xb)
            have F_sortedIndices_a1 := F_sortedIndices_a1.other Wr2075 (Or.inl ne_a1_xb)
            have F_numbers_a1 := F_numbers_a1.other Wr2075 (Or.inl ne_a1_xb)
            have F_count_a1 := F_count_a1.other Wr2075 (Or.inl ne_a1_xb)
            have V_pa := V_pa.other Wr2075 ne_pa_xb
            have V_pb := V_pb.other Wr2075 ne_pb_xb
            have V_xa := V_xa.other Wr2075 ne_xa_xb
            have V_cs := V_cs.other Wr2075 (Ne.symm ne_xb_cs)
            show own_Go p e below C T2075 (mkF m 396 #[.val (.ref a1), .val (.long fo), .second, .val (.long so), .second, .val (.int sb), .val (.int bi), .val (.int (2 : Int32)), .val (.int ps), .val (.int dw), .val (.int sz), .val (.ref cs), .val (.int u12), .val (.int (u12 * dw)), .val (.int (u12 * sz)), .val (.int u5), .val (.int (2 : Int32)), .val (.int (Int32.ofNat t2))] [])
            refine own_iinc W2075 (3 : Int32) 399 #[.val (.ref a1), .val (.long fo), .second, .val (.long so), .second, .val (.int sb), .val (.int bi), .val (.int (2 : Int32)), .val (.int ps), .val (.int dw), .val (.int sz), .val (.ref cs), .val (.int u12), .val (.int (u12 * dw)), .val (.int (u12 * sz)), .val (.int u5), .val (.int (3 : Int32)), .val (.int (Int32.ofNat t2))] d6_396 rfl rfl rfl rfl ?_
            refine own_goto W2075 332 d6_399 (by decide) (by decide) ?_
            refine own_iload W2075 334 d6_332 rfl rfl ?_
            refine own_aloadN W2075 335 d6_334 rfl rfl rfl ?_
            refine own_getfield W2075 338 d6_335 (wd27 hw) F_count_a1 rfl ?_
            intro T2076 W2076
            show own_Go p e below C T2076 (mkF m 338 #[.val (.ref a1), .val (.long fo), .second, .val (.long so), .second, .val (.int sb), .val (.int bi), .val (.int (2 : Int32)), .val (.int ps), .val (.int dw), .val (.int sz), .val (.ref cs), .val (.int u12), .val (.int (u12 * dw)), .val (.int (u12 * sz)), .val (.int u5), .val (.int (3 : Int32)), .val (.int (Int32.ofNat t2))] [(.int (3 : Int32)), (.int (3 : Int32))])
            refine own_icmpY W2076 402 d6_338 ((flt ((by decide) : ¬ ((3 : Int32) < (3 : Int32)))).2.1) (by decide) (by decide) ?_
            refine own_aloadN W2076 403 d6_402 rfl rfl rfl ?_
            refine own_getfield W2076 406 d6_403 (wd13 hw) F_sortedPairs_a1 rfl ?_
            intro T2077 W2077
            show own_Go p e below C T2077 (mkF m 406 #[.val (.ref a1), .val (.long fo), .second, .val (.long so), .second, .val (.int sb), .val (.int bi), .val (.int (2 : Int32)), .val (.int ps), .val (.int dw), .val (.int sz), .val (.ref cs), .val (.int u12), .val (.int (u12 * dw)), .val (.int (u12 * sz)), .val (.int u5), .val (.int (3 : Int32)), .val (.int (Int32.ofNat t2))] [(.ref pb)])
            refine own_astore W2077 408 #[.val (.ref a1), .val (.long fo), .second, .val (.long so), .second, .val (.int sb), .val (.int bi), .val (.int (2 : Int32)), .val (.int ps), .val (.int dw), .val (.int sz), .val (.ref cs), .val (.int u12), .val (.int (u12 * dw)), .val (.int (u12 * sz)), .val (.int u5), .val (.ref pb), .val (.int (Int32.ofNat t2))] d6_406 rfl rfl rfl ?_
            refine own_aloadN W2077 409 d6_408 rfl rfl rfl ?_
            refine own_aloadN W2077 410 d6_409 rfl rfl rfl ?_
            refine own_getfield W2077 413 d6_410 (wd11 hw) F_pairs_a1 rfl ?_
            intro T2078 W2078
            show own_Go p e below C T2078 (mkF m 413 #[.val (.ref a1), .val (.long fo), .second, .val (.long so), .second, .val (.int sb), .val (.int bi), .val (.int (2 : Int32)), .val (.int ps), .val (.int dw), .val (.int sz), .val (.ref cs), .val (.int u12), .val (.int (u12 * dw)), .val (.int (u12 * sz)), .val (.int u5), .val (.ref pb), .val (.int (Int32.ofNat t2))] [(.ref pa), (.ref a1)])
            refine own_putfield W2078 (.ref pa) 416 d6_413 (wd13 hw) F_sortedPairs_a1 X_a1 (Or.inl (wd14 hw)) (wd2 hw) (Or.inl (List.mem_of_getElem? (i := 0) rfl)) (ty := (.array .long)) (by decide) rfl rfl rfl ?_
            intro T2079 h2079 W2079 Wr2079 F_sortedPairs_a1
            have X_a1 := X_a1.wr Wr2079
            have F_pairs_a1 := F_pairs_a1.other Wr2079 (Or.inr (slot_ne (Or.inl (wd12 hw)) (Or.inl (wd14 hw)) (by decide) (t := (.array .long)) (t' := (.array .long)) (by decide) (by decide)))
            have F_indices_a1 := F_indices_a1.other Wr2079 (Or.inr (slot_ne (Or.inl (wd17 hw)) (Or.inl (wd14 hw)) (by decide) (t := (.array .int)) (t' := (.array .long)) (by decide) (by decide)))
            have F_sortedIndices_a1 := F_sortedIndices_a1.other Wr2079 (Or.inr (slot_ne (Or.inl (wd19 hw)) (Or.inl (wd14 hw)) (by decide) (t := (.array .int)) (t' := (.array .long)) (by decide) (by decide)))
            have F_numbers_a1 := F_numbers_a1.other Wr2079 (Or.inr (slot_ne (Or.inr (wd21 hw)) (Or.inl (wd14 hw)) (by decide) (t := (.array .int)) (t' := (.array .long)) (by decide) (by decide)))
            have F_count_a1 := F_count_a1.other Wr2079 (Or.inr (slot_ne (Or.inl (wd28 hw)) (Or.inl (wd14 hw)) (by decide) (t := .int) (t' := (.array .long)) (by decide) (by decide)))
            have V_pa := V_pa.other Wr2079 (Ne.symm ne_a1_pa)
            have V_pb := V_pb.other Wr2079 (Ne.symm ne_a1_pb)
            have V_xa := V_xa.other Wr2079 (Ne.symm ne_a1_xa)
            have V_xb := V_xb.other Wr2079 (Ne.symm ne_a1_xb)
            have V_cs := V_cs.other Wr2079 (Ne.symm ne_a1_cs)
            show own_Go p e below C T2079 (mkF m 416 #[.val (.ref a1), .val (.long fo), .second, .val (.long so), .second, .val (.int sb), .val (.int bi), .val (.int (2 : Int32)), .val (.int ps), .val (.int dw), .val (.int sz), .val (.ref cs), .val (.int u12), .val (.int (u12 * dw)), .val (.int (u12 * sz)), .val (.int u5), .val (.ref pb), .val (.int (Int32.ofNat t2))] [])
            refine own_aloadN W2079 417 d6_416 rfl rfl rfl ?_
            refine own_aload W2079 419 d6_417 rfl rfl rfl ?_
            refine own_putfield W2079 (.ref pb) 422 d6_419 (wd11 hw) F_pairs_a1 X_a1 (Or.inl (wd12 hw)) (wd2 hw) (Or.inl (List.mem_of_getElem? (i := 0) rfl)) (ty := (.array .long)) (by decide) rfl rfl rfl ?_
            intro T2080 h2080 W2080 Wr2080 F_pairs_a1
            have X_a1 := X_a1.wr Wr2080
            have F_sortedPairs_a1 := F_sortedPairs_a1.other Wr2080 (Or.inr (slot_ne (Or.inl (wd14 hw)) (Or.inl (wd12 hw)) (by decide) (t := (.array .long)) (t' := (.array .long)) (by decide) (by decide)))
            have F_indices_a1 := F_indices_a1.other Wr2080 (Or.inr (slot_ne (Or.inl (wd17 hw)) (Or.inl (wd12 hw)) (by decide) (t := (.array .int)) (t' := (.array .long)) (by decide) (by decide)))
            have F_sortedIndices_a1 := F_sortedIndices_a1.other Wr2080 (Or.inr (slot_ne (Or.inl (wd19 hw)) (Or.inl (wd12 hw)) (by decide) (t := (.array .int)) (t' := (.array .long)) (by decide) (by decide)))
            have F_numbers_a1 := F_numbers_a1.other Wr2080 (Or.inr (slot_ne (Or.inr (wd21 hw)) (Or.inl (wd12 hw)) (by decide) (t := (.array .int)) (t' := (.array .long)) (by decide) (by decide)))
            have F_count_a1 := F_count_a1.other Wr2080 (Or.inr (slot_ne (Or.inl (wd28 hw)) (Or.inl (wd12 hw)) (by decide) (t := .int) (t' := (.array .long)) (by decide) (by decide)))
            have V_pa := V_pa.other Wr2080 (Ne.symm ne_a1_pa)
            have V_pb := V_pb.other Wr2080 (Ne.symm ne_a1_pb)
            have V_xa := V_xa.other Wr2080 (Ne.symm ne_a1_xa)
            have V_xb := V_xb.other Wr2080 (Ne.symm ne_a1_xb)
            have V_cs := V_cs.other Wr2080 (Ne.symm ne_a1_cs)
            show own_Go p e below C T2080 (mkF m 422 #[.val (.ref a1), .val (.long fo), .second, .val (.long so), .second, .val (.int sb), .val (.int bi), .val (.int (2 : Int32)), .val (.int ps), .val (.int dw), .val (.int sz), .val (.ref cs), .val (.int u12), .val (.int (u12 * dw)), .val (.int (u12 * sz)), .val (.int u5), .val (.ref pb), .val (.int (Int32.ofNat t2))] [])
            refine own_aloadN W2080 423 d6_422 rfl rfl rfl ?_
            refine own_getfield W2080 426 d6_423 (wd18 hw) F_sortedIndices_a1 rfl ?_
            intro T2081 W2081
            show own_Go p e below C T2081 (mkF m 426 #[.val (.ref a1), .val (.long fo), .second, .val (.long so), .second, .val (.int sb), .val (.int bi), .val (.int (2 : Int32)), .val (.int ps), .val (.int dw), .val (.int sz), .val (.ref cs), .val (.int u12), .val (.int (u12 * dw)), .val (.int (u12 * sz)), .val (.int u5), .val (.ref pb), .val (.int (Int32.ofNat t2))] [(.ref xb)])
            refine own_astore W2081 428 #[.val (.ref a1), .val (.long fo), .second, .val (.long so), .second, .val (.int sb), .val (.int bi), .val (.int (2 : Int32)), .val (.int ps), .val (.int dw), .val (.int sz), .val (.ref cs), .val (.int u12), .val (.int (u12 * dw)), .val (.int (u12 * sz)), .val (.int u5), .val (.ref pb), .val (.ref xb)] d6_426 rfl rfl rfl ?_
            refine own_aloadN W2081 429 d6_428 rfl rfl rfl ?_
            refine own_aloadN W2081 430 d6_429 rfl rfl rfl ?_
            refine own_getfield W2081 433 d6_430 (wd16 hw) F_indices_a1 rfl ?_
            intro T2082 W2082
            show own_Go p e below C T2082 (mkF m 433 #[.val (.ref a1), .val (.long fo), .second, .val (.long so), .second, .val (.int sb), .val (.int bi), .val (.int (2 : Int32)), .val (.int ps), .val (.int dw), .val (.int sz), .val (.ref cs), .val (.int u12), .val (.int (u12 * dw)), .val (.int (u12 * sz)), .val (.int u5), .val (.ref pb), .val (.ref xb)] [(.ref xa), (.ref a1)])
            refine own_putfield W2082 (.ref xa) 436 d6_433 (wd18 hw) F_sortedIndices_a1 X_a1 (Or.inl (wd19 hw)) (wd2 hw) (Or.inl (List.mem_of_getElem? (i := 0) rfl)) (ty := (.array .int)) (by decide) rfl rfl rfl ?_
            intro T2083 h2083 W2083 Wr2083 F_sortedIndices_a1
            have X_a1 := X_a1.wr Wr2083
            have F_pairs_a1 := F_pairs_a1.other Wr2083 (Or.inr (slot_ne (Or.inl (wd12 hw)) (Or.inl (wd19 hw)) (by decide) (t := (.array .long)) (t' := (.array .int)) (by decide) (by decide)))
            have F_sortedPairs_a1 := F_sortedPairs_a1.other Wr2083 (Or.inr (slot_ne (Or.inl (wd14 hw)) (Or.inl (wd19 hw)) (by decide) (t := (.array .long)) (t' := (.array .int)) (by decide) (by decide)))
            have F_indices_a1 := F_indices_a1.other Wr2083 (Or.inr (slot_ne (Or.inl (wd17 hw)) (Or.inl (wd19 hw)) (by decide) (t := (.array .int)) (t' := (.array .int)) (by decide) (by decide)))
            have F_numbers_a1 := F_numbers_a1.other Wr2083 (Or.inr (slot_ne (Or.inr (wd21 hw)) (Or.inl (wd19 hw)) (by decide) (t := (.array .int)) (t' := (.array .int)) (by decide) (by decide)))
            have F_count_a1 := F_count_a1.other Wr2083 (Or.inr (slot_ne (Or.inl (wd28 hw)) (Or.inl (wd19 hw)) (by decide) (t := .int) (t' := (.array .int)) (by decide) (by decide)))
            have V_pa := V_pa.other Wr2083 (Ne.symm ne_a1_pa)
            have V_pb := V_pb.other Wr2083 (Ne.symm ne_a1_pb)
            have V_xa := V_xa.other Wr2083 (Ne.symm ne_a1_xa)
            have V_xb := V_xb.other Wr2083 (Ne.symm ne_a1_xb)
            have V_cs := V_cs.other Wr2083 (Ne.symm ne_a1_cs)
            show own_Go p e below C T2083 (mkF m 436 #[.val (.ref a1), .val (.long fo), .second, .val (.long so), .second, .val (.int sb), .val (.int bi), .val (.int (2 : Int32)), .val (.int ps), .val (.int dw), .val (.int sz), .val (.ref cs), .val (.int u12), .val (.int (u12 * dw)), .val (.int (u12 * sz)), .val (.int u5), .val (.ref pb), .val (.ref xb)] [])
            refine own_aloadN W2083 437 d6_436 rfl rfl rfl ?_
            refine own_aload W2083 439 d6_437 rfl rfl rfl ?_
            refine own_putfield W2083 (.ref xb) 442 d6_439 (wd16 hw) F_indices_a1 X_a1 (Or.inl (wd17 hw)) (wd2 hw) (Or.inl (List.mem_of_getElem? (i := 0) rfl)) (ty := (.array .int)) (by decide) rfl rfl rfl ?_
            intro T2084 h2084 W2084 Wr2084 F_indices_a1
            have X_a1 := X_a1.wr Wr2084
            have F_pairs_a1 := F_pairs_a1.other Wr2084 (Or.inr (slot_ne (Or.inl (wd12 hw)) (Or.inl (wd17 hw)) (by decide) (t := (.array .long)) (t' := (.array .int)) (by decide) (by decide)))
            have F_sortedPairs_a1 := F_sortedPairs_a1.other Wr2084 (Or.inr (slot_ne (Or.inl (wd14 hw)) (Or.inl (wd17 hw)) (by decide) (t := (.array .long)) (t' := (.array .int)) (by decide) (by decide)))
            have F_sortedIndices_a1 := F_sortedIndices_a1.other Wr2084 (Or.inr (slot_ne (Or.inl (wd19 hw)) (Or.inl (wd17 hw)) (by decide) (t := (.array .int)) (t' := (.array .int)) (by decide) (by decide)))
            have F_numbers_a1 := F_numbers_a1.other Wr2084 (Or.inr (slot_ne (Or.inr (wd21 hw)) (Or.inl (wd17 hw)) (by decide) (t := (.array .int)) (t' := (.array .int)) (by decide) (by decide)))
            have F_count_a1 := F_count_a1.other Wr2084 (Or.inr (slot_ne (Or.inl (wd28 hw)) (Or.inl (wd17 hw)) (by decide) (t := .int) (t' := (.array .int)) (by decide) (by decide)))
            have V_pa := V_pa.other Wr2084 (Ne.symm ne_a1_pa)
            have V_pb := V_pb.other Wr2084 (Ne.symm ne_a1_pb)
            have V_xa := V_xa.other Wr2084 (Ne.symm ne_a1_xa)
            have V_xb := V_xb.other Wr2084 (Ne.symm ne_a1_xb)
            have V_cs := V_cs.other Wr2084 (Ne.symm ne_a1_cs)
            show own_Go p e below C T2084 (mkF m 442 #[.val (.ref a1), .val (.long fo), .second, .val (.long so), .second, .val (.int sb), .val (.int bi), .val (.int (2 : Int32)), .val (.int ps), .val (.int dw), .val (.int sz), .val (.ref cs), .val (.int u12), .val (.int (u12 * dw)), .val (.int (u12 * sz)), .val (.int u5), .val (.ref pb), .val (.ref xb)] [])
            refine own_iinc W2084 (u12 + (1 : Int32)) 445 #[.val (.ref a1), .val (.long fo), .second, .val (.long so), .second, .val (.int sb), .val (.int bi), .val (.int (2 : Int32)), .val (.int ps), .val (.int dw), .val (.int sz), .val (.ref cs), .val (.int (u12 + (1 : Int32))), .val (.int (u12 * dw)), .val (.int (u12 * sz)), .val (.int u5), .val (.ref pb), .val (.ref xb)] d6_442 rfl rfl rfl rfl ?_
            refine own_goto W2084 238 d6_445 (by decide) (by decide) ?_
            rw [hx0, hx1, hx2] at hpl
            obtain ⟨y0, y1, y2⟩ := own_pick3 hpl (od 0) (od 1) (od 2)
            obtain ⟨hpm', k01, k12⟩ := own_pass hpm h01 h12 hpl y0 y1 y2
            obtain ⟨z0, z1, z2⟩ := own_pick3 hpl (pg 0) (pg 1) (pg 2)
            have hpg' : ∀ j, j < 3 → (own_pick t0 t1 (pg 0) (pg 1) (pg 2) j).toInt = ((Q (own_pick t0 t1 (od 0) (od 1) (od 2) j) : Nat) : Int) := fun j hj => by
              unfold own_pick
              split
              · exact hpg 0 (by omega)
              · split
                · exact hpg 1 (by omega)
                · exact hpg 2 (by omega)
            have hG' := own_later (x := 0) (G' := D2) hs24 hG (fun j hj => by rw [hD2, own_updN, if_neg (by omega), hD1, own_updN, if_neg (by omega), hD0, own_updN, if_neg (by omega)]; exact hout j hj)
            exact ih (d + 1) pb pa xb xa _ _ _ _ _ _ (own_pick t0 t1 (pg 0) (pg 1) (pg 2)) _ _ (own_pick t0 t1 (od 0) (od 1) (od 2)) D2 T2084 h2084 W2084 ⟨X_a1, F_pairs_a1, F_sortedPairs_a1, F_indices_a1, F_sortedIndices_a1, F_numbers_a1, F_count_a1, V_pb.congr (own_new3 hpl _ Value.long (pg 0) (pg 1) (pg 2)), V_pa, V_xb.congr (own_new3 hpl _ (fun j => Value.int (Int32.ofNat j)) (od 0) (od 1) (od 2)), V_xa, V_cs⟩ hNE'.swap hsw.swap (by omega) (own_inc hu (by omega)) (Or.inr ⟨_, _, rfl, rfl⟩) (Or.inr ⟨_, rfl⟩) (Or.inr ⟨_, rfl⟩) hpm' hpg' k01 k12 hG'
          rcases hsz with ⟨hw_, hd_, hz_, hs_⟩ | ⟨hw_, hd_, hz_, hs_⟩
          · refine own_iconst W2043 (0 : Int32) 286 d6_285 rfl rfl ?_
            rw [show (0 : Int32) = (Int32.ofNat 0) from rfl]
            refine own_istore W2043 288 #[.val (.ref a1), .val (.long fo), .second, .val (.long so), .second, .val (.int sb), .val (.int bi), .val (.int (2 : Int32)), .val (.int ps), .val (.int dw), .val (.int sz), .val (.ref cs), .val (.int u12), .val (.int (u12 * dw)), .val (.int (u12 * sz)), .val (.int (Int32.ofNat 0)), s16, s17] d6_286 rfl rfl ?_
            refine own_iload W2043 290 d6_288 rfl rfl ?_
            refine own_istore W2043 292 #[.val (.ref a1), .val (.long fo), .second, .val (.long so), .second, .val (.int sb), .val (.int bi), .val (.int (2 : Int32)), .val (.int ps), .val (.int dw), .val (.int sz), .val (.ref cs), .val (.int u12), .val (.int (u12 * dw)), .val (.int (u12 * sz)), .val (.int (Int32.ofNat 0)), .val (.int (u12 * sz)), s17] d6_290 (by rcases c16 with rfl | ⟨_, rfl⟩ <;> rfl) rfl ?_
            have hend : ((u12 * sz) + sz).toInt = ((d * sn + sn : Nat) : Int) := own_addN hoff hszI (by omega)
            refine own_iload W2043 294 d6_292 rfl rfl ?_
            refine own_iload W2043 296 d6_294 rfl rfl ?_
            refine own_iload W2043 298 d6_296 rfl rfl ?_
            refine own_iadd W2043 299 d6_298 rfl ?_
            refine own_icmpN W2043 302 d6_299 ((tlt (((own_ltN hoff hend).mpr (by omega)) : (u12 * sz) < ((u12 * sz) + sz))).2.1) rfl ?_
            refine own_aload W2043 304 d6_302 rfl rfl rfl ?_
            refine own_iload W2043 306 d6_304 rfl rfl ?_
            refine own_iaload W2043 (d * sn) (Int32.ofNat (G (d * sn))) 307 d6_306 V_cs hoff (by omega) rfl rfl ?_
            refine own_istore W2043 309 #[.val (.ref a1), .val (.long fo), .second, .val (.long so), .second, .val (.int sb), .val (.int bi), .val (.int (2 : Int32)), .val (.int ps), .val (.int dw), .val (.int sz), .val (.ref cs), .val (.int u12), .val (.int (u12 * dw)), .val (.int (u12 * sz)), .val (.int (Int32.ofNat 0)), .val (.int (u12 * sz)), .val (.int (Int32.ofNat (G (d * sn))))] d6_307 (by rcases c17 with rfl | ⟨_, rfl⟩ <;> rfl) rfl ?_
            refine own_aload W2043 311 d6_309 rfl rfl rfl ?_
            refine own_iload W2043 313 d6_311 rfl rfl ?_
            refine own_iload W2043 315 d6_313 rfl rfl ?_
            refine own_iastore W2043 (d * sn) 316 d6_315 V_cs (Or.inr o_cs) hoff (by omega) rfl ?_
            intro T2085 h2085 W2085 Wr2085 V_cs
            have X_a1 := X_a1.wr Wr2085
            have F_pairs_a1 := F_pairs_a1.other Wr2085 (Or.inl ne_a1_cs)
            have F_sortedPairs_a1 := F_sortedPairs_a1.other Wr2085 (Or.inl ne_a1_cs)
            have F_indices_a1 := F_indices_a1.other Wr2085 (Or.inl ne_a1_cs)
            have F_sortedIndices_a1 := F_sortedIndices_a1.other Wr2085 (Or.inl ne_a1_cs)
            have F_numbers_a1 := F_numbers_a1.other Wr2085 (Or.inl ne_a1_cs)
            have F_count_a1 := F_count_a1.other Wr2085 (Or.inl ne_a1_cs)
            have V_pa := V_pa.other Wr2085 ne_pa_cs
            have V_pb := V_pb.other Wr2085 ne_pb_cs
            have V_xa := V_xa.other Wr2085 ne_xa_cs
            have V_xb := V_xb.other Wr2085 ne_xb_cs
            show own_Go p e below C T2085 (mkF m 316 #[.val (.ref a1), .val (.long fo), .second, .val (.long so), .second, .val (.int sb), .val (.int bi), .val (.int (2 : Int32)), .val (.int ps), .val (.int dw), .val (.int sz), .val (.ref cs), .val (.int u12), .val (.int (u12 * dw)), .val (.int (u12 * sz)), .val (.int (Int32.ofNat 0)), .val (.int (u12 * sz)), .val (.int (Int32.ofNat (G (d * sn))))] [])
            have V_cs := V_cs.congr (fun j _ => own_updNe _ _ _ j)
            obtain ⟨P0, hP0⟩ : ∃ P, P = own_updN G (d * sn) (0) := ⟨_, rfl⟩
            rw [← hP0] at V_cs
            refine own_iload W2085 318 d6_316 rfl rfl ?_
            refine own_iload W2085 320 d6_318 rfl rfl ?_
            refine own_iadd W2085 321 d6_320 rfl ?_
            rw [show ((Int32.ofNat 0) + (Int32.ofNat (G (d * sn)))) = (Int32.ofNat (0 + G (d * sn))) from own_ofNa _ _]
            refine own_istore W2085 323 #[.val (.ref a1), .val (.long fo), .second, .val (.long so), .second, .val (.int sb), .val (.int bi), .val (.int (2 : Int32)), .val (.int ps), .val (.int dw), .val (.int sz), .val (.ref cs), .val (.int u12), .val (.int (u12 * dw)), .val (.int (u12 * sz)), .val (.int (Int32.ofNat (0 + G (d * sn)))), .val (.int (u12 * sz)), .val (.int (Int32.ofNat (G (d * sn))))] d6_321 rfl rfl ?_
            refine own_iinc W2085 ((u12 * sz) + (1 : Int32)) 326 #[.val (.ref a1), .val (.long fo), .second, .val (.long so), .second, .val (.int sb), .val (.int bi), .val (.int (2 : Int32)), .val (.int ps), .val (.int dw), .val (.int sz), .val (.ref cs), .val (.int u12), .val (.int (u12 * dw)), .val (.int (u12 * sz)), .val (.int (Int32.ofNat (0 + G (d * sn)))), .val (.int ((u12 * sz) + (1 : Int32))), .val (.int (Int32.ofNat (G (d * sn))))] d6_323 rfl rfl rfl rfl ?_
            refine own_goto W2085 292 d6_326 (by decide) (by decide) ?_
            have hc0 := own_inc hoff (by omega)
            refine own_iload W2085 294 d6_292 rfl rfl ?_
            refine own_iload W2085 296 d6_294 rfl rfl ?_
            refine own_iload W2085 298 d6_296 rfl rfl ?_
            refine own_iadd W2085 299 d6_298 rfl ?_
            refine own_icmpN W2085 302 d6_299 ((tlt (((own_ltN hc0 hend).mpr (by omega)) : ((u12 * sz) + (1 : Int32)) < ((u12 * sz) + sz))).2.1) rfl ?_
            refine own_aload W2085 304 d6_302 rfl rfl rfl ?_
            refine own_iload W2085 306 d6_304 rfl rfl ?_
            refine own_iaload W2085 (d * sn + 1) (Int32.ofNat (P0 (d * sn + 1))) 307 d6_306 V_cs hc0 (by omega) rfl rfl ?_
            refine own_istore W2085 309 #[.val (.ref a1), .val (.long fo), .second, .val (.long so), .second, .val (.int sb), .val (.int bi), .val (.int (2 : Int32)), .val (.int ps), .val (.int dw), .val (.int sz), .val (.ref cs), .val (.int u12), .val (.int (u12 * dw)), .val (.int (u12 * sz)), .val (.int (Int32.ofNat (0 + G (d * sn)))), .val (.int ((u12 * sz) + (1 : Int32))), .val (.int (Int32.ofNat (P0 (d * sn + 1))))] d6_307 rfl rfl ?_
            refine own_aload W2085 311 d6_309 rfl rfl rfl ?_
            refine own_iload W2085 313 d6_311 rfl rfl ?_
            refine own_iload W2085 315 d6_313 rfl rfl ?_
            refine own_iastore W2085 (d * sn + 1) 316 d6_315 V_cs (Or.inr o_cs) hc0 (by omega) rfl ?_
            intro T2086 h2086 W2086 Wr2086 V_cs
            have X_a1 := X_a1.wr Wr2086
            have F_pairs_a1 := F_pairs_a1.other Wr2086 (Or.inl ne_a1_cs)
            have F_sortedPairs_a1 := F_sortedPairs_a1.other Wr2086 (Or.inl ne_a1_cs)
            have F_indices_a1 := F_indices_a1.other Wr2086 (Or.inl ne_a1_cs)
            have F_sortedIndices_a1 := F_sortedIndices_a1.other Wr2086 (Or.inl ne_a1_cs)
            have F_numbers_a1 := F_numbers_a1.other Wr2086 (Or.inl ne_a1_cs)
            have F_count_a1 := F_count_a1.other Wr2086 (Or.inl ne_a1_cs)
            have V_pa := V_pa.other Wr2086 ne_pa_cs
            have V_pb := V_pb.other Wr2086 ne_pb_cs
            have V_xa := V_xa.other Wr2086 ne_xa_cs
            have V_xb := V_xb.other Wr2086 ne_xb_cs
            show own_Go p e below C T2086 (mkF m 316 #[.val (.ref a1), .val (.long fo), .second, .val (.long so), .second, .val (.int sb), .val (.int bi), .val (.int (2 : Int32)), .val (.int ps), .val (.int dw), .val (.int sz), .val (.ref cs), .val (.int u12), .val (.int (u12 * dw)), .val (.int (u12 * sz)), .val (.int (Int32.ofNat (0 + G (d * sn)))), .val (.int ((u12 * sz) + (1 : Int32))), .val (.int (Int32.ofNat (P0 (d * sn + 1))))] [])
            have V_cs := V_cs.congr (fun j _ => own_updNe _ _ _ j)
            obtain ⟨P1, hP1⟩ : ∃ P, P = own_updN P0 (d * sn + 1) (0 + G (d * sn)) := ⟨_, rfl⟩
            rw [← hP1] at V_cs
            refine own_iload W2086 318 d6_316 rfl rfl ?_
            refine own_iload W2086 320 d6_318 rfl rfl ?_
            refine own_iadd W2086 321 d6_320 rfl ?_
            rw [show ((Int32.ofNat (0 + G (d * sn))) + (Int32.ofNat (P0 (d * sn + 1)))) = (Int32.ofNat (0 + G (d * sn) + P0 (d * sn + 1))) from own_ofNa _ _]
            refine own_istore W2086 323 #[.val (.ref a1), .val (.long fo), .second, .val (.long so), .second, .val (.int sb), .val (.int bi), .val (.int (2 : Int32)), .val (.int ps), .val (.int dw), .val (.int sz), .val (.ref cs), .val (.int u12), .val (.int (u12 * dw)), .val (.int (u12 * sz)), .val (.int (Int32.ofNat (0 + G (d * sn) + P0 (d * sn + 1)))), .val (.int ((u12 * sz) + (1 : Int32))), .val (.int (Int32.ofNat (P0 (d * sn + 1))))] d6_321 rfl rfl ?_
            refine own_iinc W2086 (((u12 * sz) + (1 : Int32)) + (1 : Int32)) 326 #[.val (.ref a1), .val (.long fo), .second, .val (.long so), .second, .val (.int sb), .val (.int bi), .val (.int (2 : Int32)), .val (.int ps), .val (.int dw), .val (.int sz), .val (.ref cs), .val (.int u12), .val (.int (u12 * dw)), .val (.int (u12 * sz)), .val (.int (Int32.ofNat (0 + G (d * sn) + P0 (d * sn + 1)))), .val (.int (((u12 * sz) + (1 : Int32)) + (1 : Int32))), .val (.int (Int32.ofNat (P0 (d * sn + 1))))] d6_323 rfl rfl rfl rfl ?_
            refine own_goto W2086 292 d6_326 (by decide) (by decide) ?_
            have hc1 := own_inc hc0 (by omega)
            refine own_iload W2086 294 d6_292 rfl rfl ?_
            refine own_iload W2086 296 d6_294 rfl rfl ?_
            refine own_iload W2086 298 d6_296 rfl rfl ?_
            refine own_iadd W2086 299 d6_298 rfl ?_
            refine own_icmpY W2086 329 d6_299 ((flt ((mt (own_ltN hc1 hend).mp (by omega)) : ¬ ((((u12 * sz) + (1 : Int32)) + (1 : Int32)) < ((u12 * sz) + sz)))).2.1) (by decide) (by decide) ?_
            have hpp := own_pre2 (G := G) (G1 := P0) (G2 := P1) (off := d * sn) (x0 := x0) (x1 := x1) (x2 := x2) (fun v hv => hGd v (by omega)) (by rw [hP0]; exact if_pos rfl) (fun j hj => by rw [hP0]; exact if_neg hj) (by rw [hP1]; exact if_pos rfl) (fun j hj => by rw [hP1]; exact if_neg hj)
            exact J2045 T2086 h2086 P1 _ _ _ W2086 ⟨X_a1, F_pairs_a1, F_sortedPairs_a1, F_indices_a1, F_sortedIndices_a1, F_numbers_a1, F_count_a1, V_pa, V_pb, V_xa, V_xb, V_cs⟩ (fun v hv => hpp.1 v (by omega)) (fun j hj => hpp.2 j (by omega))
          · refine own_iconst W2043 (0 : Int32) 286 d6_285 rfl rfl ?_
            rw [show (0 : Int32) = (Int32.ofNat 0) from rfl]
            refine own_istore W2043 288 #[.val (.ref a1), .val (.long fo), .second, .val (.long so), .second, .val (.int sb), .val (.int bi), .val (.int (2 : Int32)), .val (.int ps), .val (.int dw), .val (.int sz), .val (.ref cs), .val (.int u12), .val (.int (u12 * dw)), .val (.int (u12 * sz)), .val (.int (Int32.ofNat 0)), s16, s17] d6_286 rfl rfl ?_
            refine own_iload W2043 290 d6_288 rfl rfl ?_
            refine own_istore W2043 292 #[.val (.ref a1), .val (.long fo), .second, .val (.long so), .second, .val (.int sb), .val (.int bi), .val (.int (2 : Int32)), .val (.int ps), .val (.int dw), .val (.int sz), .val (.ref cs), .val (.int u12), .val (.int (u12 * dw)), .val (.int (u12 * sz)), .val (.int (Int32.ofNat 0)), .val (.int (u12 * sz)), s17] d6_290 (by rcases c16 with rfl | ⟨_, rfl⟩ <;> rfl) rfl ?_
            have hend : ((u12 * sz) + sz).toInt = ((d * sn + sn : Nat) : Int) := own_addN hoff hszI (by omega)
            refine own_iload W2043 294 d6_292 rfl rfl ?_
            refine own_iload W2043 296 d6_294 rfl rfl ?_
            refine own_iload W2043 298 d6_296 rfl rfl ?_
            refine own_iadd W2043 299 d6_298 rfl ?_
            refine own_icmpN W2043 302 d6_299 ((tlt (((own_ltN hoff hend).mpr (by omega)) : (u12 * sz) < ((u12 * sz) + sz))).2.1) rfl ?_
            refine own_aload W2043 304 d6_302 rfl rfl rfl ?_
            refine own_iload W2043 306 d6_304 rfl rfl ?_
            refine own_iaload W2043 (d * sn) (Int32.ofNat (G (d * sn))) 307 d6_306 V_cs hoff (by omega) rfl rfl ?_
            refine own_istore W2043 309 #[.val (.ref a1), .val (.long fo), .second, .val (.long so), .second, .val (.int sb), .val (.int bi), .val (.int (2 : Int32)), .val (.int ps), .val (.int dw), .val (.int sz), .val (.ref cs), .val (.int u12), .val (.int (u12 * dw)), .val (.int (u12 * sz)), .val (.int (Int32.ofNat 0)), .val (.int (u12 * sz)), .val (.int (Int32.ofNat (G (d * sn))))] d6_307 (by rcases c17 with rfl | ⟨_, rfl⟩ <;> rfl) rfl ?_
            refine own_aload W2043 311 d6_309 rfl rfl rfl ?_
            refine own_iload W2043 313 d6_311 rfl rfl ?_
            refine own_iload W2043 315 d6_313 rfl rfl ?_
            refine own_iastore W2043 (d * sn) 316 d6_315 V_cs (Or.inr o_cs) hoff (by omega) rfl ?_
            intro T2087 h2087 W2087 Wr2087 V_cs
            have X_a1 := X_a1.wr Wr2087
            have F_pairs_a1 := F_pairs_a1.other Wr2087 (Or.inl ne_a1_cs)
            have F_sortedPairs_a1 := F_sortedPairs_a1.other Wr2087 (Or.inl ne_a1_cs)
            have F_indices_a1 := F_indices_a1.other Wr2087 (Or.inl ne_a1_cs)
            have F_sortedIndices_a1 := F_sortedIndices_a1.other Wr2087 (Or.inl ne_a1_cs)
            have F_numbers_a1 := F_numbers_a1.other Wr2087 (Or.inl ne_a1_cs)
            have F_count_a1 := F_count_a1.other Wr2087 (Or.inl ne_a1_cs)
            have V_pa := V_pa.other Wr2087 ne_pa_cs
            have V_pb := V_pb.other Wr2087 ne_pb_cs
            have V_xa := V_xa.other Wr2087 ne_xa_cs
            have V_xb := V_xb.other Wr2087 ne_xb_cs
            show own_Go p e below C T2087 (mkF m 316 #[.val (.ref a1), .val (.long fo), .second, .val (.long so), .second, .val (.int sb), .val (.int bi), .val (.int (2 : Int32)), .val (.int ps), .val (.int dw), .val (.int sz), .val (.ref cs), .val (.int u12), .val (.int (u12 * dw)), .val (.int (u12 * sz)), .val (.int (Int32.ofNat 0)), .val (.int (u12 * sz)), .val (.int (Int32.ofNat (G (d * sn))))] [])
            have V_cs := V_cs.congr (fun j _ => own_updNe _ _ _ j)
            obtain ⟨P0, hP0⟩ : ∃ P, P = own_updN G (d * sn) (0) := ⟨_, rfl⟩
            rw [← hP0] at V_cs
            refine own_iload W2087 318 d6_316 rfl rfl ?_
            refine own_iload W2087 320 d6_318 rfl rfl ?_
            refine own_iadd W2087 321 d6_320 rfl ?_
            rw [show ((Int32.ofNat 0) + (Int32.ofNat (G (d * sn)))) = (Int32.ofNat (0 + G (d * sn))) from own_ofNa _ _]
            refine own_istore W2087 323 #[.val (.ref a1), .val (.long fo), .second, .val (.long so), .second, .val (.int sb), .val (.int bi), .val (.int (2 : Int32)), .val (.int ps), .val (.int dw), .val (.int sz), .val (.ref cs), .val (.int u12), .val (.int (u12 * dw)), .val (.int (u12 * sz)), .val (.int (Int32.ofNat (0 + G (d * sn)))), .val (.int (u12 * sz)), .val (.int (Int32.ofNat (G (d * sn))))] d6_321 rfl rfl ?_
            refine own_iinc W2087 ((u12 * sz) + (1 : Int32)) 326 #[.val (.ref a1), .val (.long fo), .second, .val (.long so), .second, .val (.int sb), .val (.int bi), .val (.int (2 : Int32)), .val (.int ps), .val (.int dw), .val (.int sz), .val (.ref cs), .val (.int u12), .val (.int (u12 * dw)), .val (.int (u12 * sz)), .val (.int (Int32.ofNat (0 + G (d * sn)))), .val (.int ((u12 * sz) + (1 : Int32))), .val (.int (Int32.ofNat (G (d * sn))))] d6_323 rfl rfl rfl rfl ?_
            refine own_goto W2087 292 d6_326 (by decide) (by decide) ?_
            have hc0 := own_inc hoff (by omega)
            refine own_iload W2087 294 d6_292 rfl rfl ?_
            refine own_iload W2087 296 d6_294 rfl rfl ?_
            refine own_iload W2087 298 d6_296 rfl rfl ?_
            refine own_iadd W2087 299 d6_298 rfl ?_
            refine own_icmpN W2087 302 d6_299 ((tlt (((own_ltN hc0 hend).mpr (by omega)) : ((u12 * sz) + (1 : Int32)) < ((u12 * sz) + sz))).2.1) rfl ?_
            refine own_aload W2087 304 d6_302 rfl rfl rfl ?_
            refine own_iload W2087 306 d6_304 rfl rfl ?_
            refine own_iaload W2087 (d * sn + 1) (Int32.ofNat (P0 (d * sn + 1))) 307 d6_306 V_cs hc0 (by omega) rfl rfl ?_
            refine own_istore W2087 309 #[.val (.ref a1), .val (.long fo), .second, .val (.long so), .second, .val (.int sb), .val (.int bi), .val (.int (2 : Int32)), .val (.int ps), .val (.int dw), .val (.int sz), .val (.ref cs), .val (.int u12), .val (.int (u12 * dw)), .val (.int (u12 * sz)), .val (.int (Int32.ofNat (0 + G (d * sn)))), .val (.int ((u12 * sz) + (1 : Int32))), .val (.int (Int32.ofNat (P0 (d * sn + 1))))] d6_307 rfl rfl ?_
            refine own_aload W2087 311 d6_309 rfl rfl rfl ?_
            refine own_iload W2087 313 d6_311 rfl rfl ?_
            refine own_iload W2087 315 d6_313 rfl rfl ?_
            refine own_iastore W2087 (d * sn + 1) 316 d6_315 V_cs (Or.inr o_cs) hc0 (by omega) rfl ?_
            intro T2088 h2088 W2088 Wr2088 V_cs
            have X_a1 := X_a1.wr Wr2088
            have F_pairs_a1 := F_pairs_a1.other Wr2088 (Or.inl ne_a1_cs)
            have F_sortedPairs_a1 := F_sortedPairs_a1.other Wr2088 (Or.inl ne_a1_cs)
            have F_indices_a1 := F_indices_a1.other Wr2088 (Or.inl ne_a1_cs)
            have F_sortedIndices_a1 := F_sortedIndices_a1.other Wr2088 (Or.inl ne_a1_cs)
            have F_numbers_a1 := F_numbers_a1.other Wr2088 (Or.inl ne_a1_cs)
            have F_count_a1 := F_count_a1.other Wr2088 (Or.inl ne_a1_cs)
            have V_pa := V_pa.other Wr2088 ne_pa_cs
            have V_pb := V_pb.other Wr2088 ne_pb_cs
            have V_xa := V_xa.other Wr2088 ne_xa_cs
            have V_xb := V_xb.other Wr2088 ne_xb_cs
            show own_Go p e below C T2088 (mkF m 316 #[.val (.ref a1), .val (.long fo), .second, .val (.long so), .second, .val (.int sb), .val (.int bi), .val (.int (2 : Int32)), .val (.int ps), .val (.int dw), .val (.int sz), .val (.ref cs), .val (.int u12), .val (.int (u12 * dw)), .val (.int (u12 * sz)), .val (.int (Int32.ofNat (0 + G (d * sn)))), .val (.int ((u12 * sz) + (1 : Int32))), .val (.int (Int32.ofNat (P0 (d * sn + 1))))] [])
            have V_cs := V_cs.congr (fun j _ => own_updNe _ _ _ j)
            obtain ⟨P1, hP1⟩ : ∃ P, P = own_updN P0 (d * sn + 1) (0 + G (d * sn)) := ⟨_, rfl⟩
            rw [← hP1] at V_cs
            refine own_iload W2088 318 d6_316 rfl rfl ?_
            refine own_iload W2088 320 d6_318 rfl rfl ?_
            refine own_iadd W2088 321 d6_320 rfl ?_
            rw [show ((Int32.ofNat (0 + G (d * sn))) + (Int32.ofNat (P0 (d * sn + 1)))) = (Int32.ofNat (0 + G (d * sn) + P0 (d * sn + 1))) from own_ofNa _ _]
            refine own_istore W2088 323 #[.val (.ref a1), .val (.long fo), .second, .val (.long so), .second, .val (.int sb), .val (.int bi), .val (.int (2 : Int32)), .val (.int ps), .val (.int dw), .val (.int sz), .val (.ref cs), .val (.int u12), .val (.int (u12 * dw)), .val (.int (u12 * sz)), .val (.int (Int32.ofNat (0 + G (d * sn) + P0 (d * sn + 1)))), .val (.int ((u12 * sz) + (1 : Int32))), .val (.int (Int32.ofNat (P0 (d * sn + 1))))] d6_321 rfl rfl ?_
            refine own_iinc W2088 (((u12 * sz) + (1 : Int32)) + (1 : Int32)) 326 #[.val (.ref a1), .val (.long fo), .second, .val (.long so), .second, .val (.int sb), .val (.int bi), .val (.int (2 : Int32)), .val (.int ps), .val (.int dw), .val (.int sz), .val (.ref cs), .val (.int u12), .val (.int (u12 * dw)), .val (.int (u12 * sz)), .val (.int (Int32.ofNat (0 + G (d * sn) + P0 (d * sn + 1)))), .val (.int (((u12 * sz) + (1 : Int32)) + (1 : Int32))), .val (.int (Int32.ofNat (P0 (d * sn + 1))))] d6_323 rfl rfl rfl rfl ?_
            refine own_goto W2088 292 d6_326 (by decide) (by decide) ?_
            have hc1 := own_inc hc0 (by omega)
            refine own_iload W2088 294 d6_292 rfl rfl ?_
            refine own_iload W2088 296 d6_294 rfl rfl ?_
            refine own_iload W2088 298 d6_296 rfl rfl ?_
            refine own_iadd W2088 299 d6_298 rfl ?_
            refine own_icmpN W2088 302 d6_299 ((tlt (((own_ltN hc1 hend).mpr (by omega)) : (((u12 * sz) + (1 : Int32)) + (1 : Int32)) < ((u12 * sz) + sz))).2.1) rfl ?_
            refine own_aload W2088 304 d6_302 rfl rfl rfl ?_
            refine own_iload W2088 306 d6_304 rfl rfl ?_
            refine own_iaload W2088 (d * sn + 2) (Int32.ofNat (P1 (d * sn + 2))) 307 d6_306 V_cs hc1 (by omega) rfl rfl ?_
            refine own_istore W2088 309 #[.val (.ref a1), .val (.long fo), .second, .val (.long so), .second, .val (.int sb), .val (.int bi), .val (.int (2 : Int32)), .val (.int ps), .val (.int dw), .val (.int sz), .val (.ref cs), .val (.int u12), .val (.int (u12 * dw)), .val (.int (u12 * sz)), .val (.int (Int32.ofNat (0 + G (d * sn) + P0 (d * sn + 1)))), .val (.int (((u12 * sz) + (1 : Int32)) + (1 : Int32))), .val (.int (Int32.ofNat (P1 (d * sn + 2))))] d6_307 rfl rfl ?_
            refine own_aload W2088 311 d6_309 rfl rfl rfl ?_
            refine own_iload W2088 313 d6_311 rfl rfl ?_
            refine own_iload W2088 315 d6_313 rfl rfl ?_
            refine own_iastore W2088 (d * sn + 2) 316 d6_315 V_cs (Or.inr o_cs) hc1 (by omega) rfl ?_
            intro T2089 h2089 W2089 Wr2089 V_cs
            have X_a1 := X_a1.wr Wr2089
            have F_pairs_a1 := F_pairs_a1.other Wr2089 (Or.inl ne_a1_cs)
            have F_sortedPairs_a1 := F_sortedPairs_a1.other Wr2089 (Or.inl ne_a1_cs)
            have F_indices_a1 := F_indices_a1.other Wr2089 (Or.inl ne_a1_cs)
            have F_sortedIndices_a1 := F_sortedIndices_a1.other Wr2089 (Or.inl ne_a1_cs)
            have F_numbers_a1 := F_numbers_a1.other Wr2089 (Or.inl ne_a1_cs)
            have F_count_a1 := F_count_a1.other Wr2089 (Or.inl ne_a1_cs)
            have V_pa := V_pa.other Wr2089 ne_pa_cs
            have V_pb := V_pb.other Wr2089 ne_pb_cs
            have V_xa := V_xa.other Wr2089 ne_xa_cs
            have V_xb := V_xb.other Wr2089 ne_xb_cs
            show own_Go p e below C T2089 (mkF m 316 #[.val (.ref a1), .val (.long fo), .second, .val (.long so), .second, .val (.int sb), .val (.int bi), .val (.int (2 : Int32)), .val (.int ps), .val (.int dw), .val (.int sz), .val (.ref cs), .val (.int u12), .val (.int (u12 * dw)), .val (.int (u12 * sz)), .val (.int (Int32.ofNat (0 + G (d * sn) + P0 (d * sn + 1)))), .val (.int (((u12 * sz) + (1 : Int32)) + (1 : Int32))), .val (.int (Int32.ofNat (P1 (d * sn + 2))))] [])
            have V_cs := V_cs.congr (fun j _ => own_updNe _ _ _ j)
            obtain ⟨P2, hP2⟩ : ∃ P, P = own_updN P1 (d * sn + 2) (0 + G (d * sn) + P0 (d * sn + 1)) := ⟨_, rfl⟩
            rw [← hP2] at V_cs
            refine own_iload W2089 318 d6_316 rfl rfl ?_
            refine own_iload W2089 320 d6_318 rfl rfl ?_
            refine own_iadd W2089 321 d6_320 rfl ?_
            rw [show ((Int32.ofNat (0 + G (d * sn) + P0 (d * sn + 1))) + (Int32.ofNat (P1 (d * sn + 2)))) = (Int32.ofNat (0 + G (d * sn) + P0 (d * sn + 1) + P1 (d * sn + 2))) from own_ofNa _ _]
            refine own_istore W2089 323 #[.val (.ref a1), .val (.long fo), .second, .val (.long so), .second, .val (.int sb), .val (.int bi), .val (.int (2 : Int32)), .val (.int ps), .val (.int dw), .val (.int sz), .val (.ref cs), .val (.int u12), .val (.int (u12 * dw)), .val (.int (u12 * sz)), .val (.int (Int32.ofNat (0 + G (d * sn) + P0 (d * sn + 1) + P1 (d * sn + 2)))), .val (.int (((u12 * sz) + (1 : Int32)) + (1 : Int32))), .val (.int (Int32.ofNat (P1 (d * sn + 2))))] d6_321 rfl rfl ?_
            refine own_iinc W2089 ((((u12 * sz) + (1 : Int32)) + (1 : Int32)) + (1 : Int32)) 326 #[.val (.ref a1), .val (.long fo), .second, .val (.long so), .second, .val (.int sb), .val (.int bi), .val (.int (2 : Int32)), .val (.int ps), .val (.int dw), .val (.int sz), .val (.ref cs), .val (.int u12), .val (.int (u12 * dw)), .val (.int (u12 * sz)), .val (.int (Int32.ofNat (0 + G (d * sn) + P0 (d * sn + 1) + P1 (d * sn + 2)))), .val (.int ((((u12 * sz) + (1 : Int32)) + (1 : Int32)) + (1 : Int32))), .val (.int (Int32.ofNat (P1 (d * sn + 2))))] d6_323 rfl rfl rfl rfl ?_
            refine own_goto W2089 292 d6_326 (by decide) (by decide) ?_
            have hc2 := own_inc hc1 (by omega)
            refine own_iload W2089 294 d6_292 rfl rfl ?_
            refine own_iload W2089 296 d6_294 rfl rfl ?_
            refine own_iload W2089 298 d6_296 rfl rfl ?_
            refine own_iadd W2089 299 d6_298 rfl ?_
            refine own_icmpN W2089 302 d6_299 ((tlt (((own_ltN hc2 hend).mpr (by omega)) : ((((u12 * sz) + (1 : Int32)) + (1 : Int32)) + (1 : Int32)) < ((u12 * sz) + sz))).2.1) rfl ?_
            refine own_aload W2089 304 d6_302 rfl rfl rfl ?_
            refine own_iload W2089 306 d6_304 rfl rfl ?_
            refine own_iaload W2089 (d * sn + 3) (Int32.ofNat (P2 (d * sn + 3))) 307 d6_306 V_cs hc2 (by omega) rfl rfl ?_
            refine own_istore W2089 309 #[.val (.ref a1), .val (.long fo), .second, .val (.long so), .second, .val (.int sb), .val (.int bi), .val (.int (2 : Int32)), .val (.int ps), .val (.int dw), .val (.int sz), .val (.ref cs), .val (.int u12), .val (.int (u12 * dw)), .val (.int (u12 * sz)), .val (.int (Int32.ofNat (0 + G (d * sn) + P0 (d * sn + 1) + P1 (d * sn + 2)))), .val (.int ((((u12 * sz) + (1 : Int32)) + (1 : Int32)) + (1 : Int32))), .val (.int (Int32.ofNat (P2 (d * sn + 3))))] d6_307 rfl rfl ?_
            refine own_aload W2089 311 d6_309 rfl rfl rfl ?_
            refine own_iload W2089 313 d6_311 rfl rfl ?_
            refine own_iload W2089 315 d6_313 rfl rfl ?_
            refine own_iastore W2089 (d * sn + 3) 316 d6_315 V_cs (Or.inr o_cs) hc2 (by omega) rfl ?_
            intro T2090 h2090 W2090 Wr2090 V_cs
            have X_a1 := X_a1.wr Wr2090
            have F_pairs_a1 := F_pairs_a1.other Wr2090 (Or.inl ne_a1_cs)
            have F_sortedPairs_a1 := F_sortedPairs_a1.other Wr2090 (Or.inl ne_a1_cs)
            have F_indices_a1 := F_indices_a1.other Wr2090 (Or.inl ne_a1_cs)
            have F_sortedIndices_a1 := F_sortedIndices_a1.other Wr2090 (Or.inl ne_a1_cs)
            have F_numbers_a1 := F_numbers_a1.other Wr2090 (Or.inl ne_a1_cs)
            have F_count_a1 := F_count_a1.other Wr2090 (Or.inl ne_a1_cs)
            have V_pa := V_pa.other Wr2090 ne_pa_cs
            have V_pb := V_pb.other Wr2090 ne_pb_cs
            have V_xa := V_xa.other Wr2090 ne_xa_cs
            have V_xb := V_xb.other Wr2090 ne_xb_cs
            show own_Go p e below C T2090 (mkF m 316 #[.val (.ref a1), .val (.long fo), .second, .val (.long so), .second, .val (.int sb), .val (.int bi), .val (.int (2 : Int32)), .val (.int ps), .val (.int dw), .val (.int sz), .val (.ref cs), .val (.int u12), .val (.int (u12 * dw)), .val (.int (u12 * sz)), .val (.int (Int32.ofNat (0 + G (d * sn) + P0 (d * sn + 1) + P1 (d * sn + 2)))), .val (.int ((((u12 * sz) + (1 : Int32)) + (1 : Int32)) + (1 : Int32))), .val (.int (Int32.ofNat (P2 (d * sn + 3))))] [])
            have V_cs := V_cs.congr (fun j _ => own_updNe _ _ _ j)
            obtain ⟨P3, hP3⟩ : ∃ P, P = own_updN P2 (d * sn + 3) (0 + G (d * sn) + P0 (d * sn + 1) + P1 (d * sn + 2)) := ⟨_, rfl⟩
            rw [← hP3] at V_cs
            refine own_iload W2090 318 d6_316 rfl rfl ?_
            refine own_iload W2090 320 d6_318 rfl rfl ?_
            refine own_iadd W2090 321 d6_320 rfl ?_
            rw [show ((Int32.ofNat (0 + G (d * sn) + P0 (d * sn + 1) + P1 (d * sn + 2))) + (Int32.ofNat (P2 (d * sn + 3)))) = (Int32.ofNat (0 + G (d * sn) + P0 (d * sn + 1) + P1 (d * sn + 2) + P2 (d * sn + 3))) from own_ofNa _ _]
            refine own_istore W2090 323 #[.val (.ref a1), .val (.long fo), .second, .val (.long so), .second, .val (.int sb), .val (.int bi), .val (.int (2 : Int32)), .val (.int ps), .val (.int dw), .val (.int sz), .val (.ref cs), .val (.int u12), .val (.int (u12 * dw)), .val (.int (u12 * sz)), .val (.int (Int32.ofNat (0 + G (d * sn) + P0 (d * sn + 1) + P1 (d * sn + 2) + P2 (d * sn + 3)))), .val (.int ((((u12 * sz) + (1 : Int32)) + (1 : Int32)) + (1 : Int32))), .val (.int (Int32.ofNat (P2 (d * sn + 3))))] d6_321 rfl rfl ?_
            refine own_iinc W2090 (((((u12 * sz) + (1 : Int32)) + (1 : Int32)) + (1 : Int32)) + (1 : Int32)) 326 #[.val (.ref a1), .val (.long fo), .second, .val (.long so), .second, .val (.int sb), .val (.int bi), .val (.int (2 : Int32)), .val (.int ps), .val (.int dw), .val (.int sz), .val (.ref cs), .val (.int u12), .val (.int (u12 * dw)), .val (.int (u12 * sz)), .val (.int (Int32.ofNat (0 + G (d * sn) + P0 (d * sn + 1) + P1 (d * sn + 2) + P2 (d * sn + 3)))), .val (.int (((((u12 * sz) + (1 : Int32)) + (1 : Int32)) + (1 : Int32)) + (1 : Int32))), .val (.int (Int32.ofNat (P2 (d * sn + 3))))] d6_323 rfl rfl rfl rfl ?_
            refine own_goto W2090 292 d6_326 (by decide) (by decide) ?_
            have hc3 := own_inc hc2 (by omega)
            refine own_iload W2090 294 d6_292 rfl rfl ?_
            refine own_iload W2090 296 d6_294 rfl rfl ?_
            refine own_iload W2090 298 d6_296 rfl rfl ?_
            refine own_iadd W2090 299 d6_298 rfl ?_
            refine own_icmpY W2090 329 d6_299 ((flt ((mt (own_ltN hc3 hend).mp (by omega)) : ¬ ((((((u12 * sz) + (1 : Int32)) + (1 : Int32)) + (1 : Int32)) + (1 : Int32)) < ((u12 * sz) + sz)))).2.1) (by decide) (by decide) ?_
            have hpp := own_pre4 (G := G) (G1 := P0) (G2 := P1) (G3 := P2) (G4 := P3) (off := d * sn) (x0 := x0) (x1 := x1) (x2 := x2) (fun v hv => hGd v (by omega)) (by rw [hP0]; exact if_pos rfl) (fun j hj => by rw [hP0]; exact if_neg hj) (by rw [hP1]; exact if_pos rfl) (fun j hj => by rw [hP1]; exact if_neg hj) (by rw [hP2]; exact if_pos rfl) (fun j hj => by rw [hP2]; exact if_neg hj) (by rw [hP3]; exact if_pos rfl) (fun j hj => by rw [hP3]; exact if_neg hj)
            exact J2045 T2090 h2090 P3 _ _ _ W2090 ⟨X_a1, F_pairs_a1, F_sortedPairs_a1, F_indices_a1, F_sortedIndices_a1, F_numbers_a1, F_count_a1, V_pa, V_pb, V_xa, V_xb, V_cs⟩ (fun v hv => hpp.1 v (by omega)) (fun j hj => hpp.2 j (by omega))
        · refine own_icmpY W2043 442 d6_282 ((flt c2044).2.1) (by decide) (by decide) ?_
          obtain ⟨e1, e2⟩ := own_skip hg0 (by have h9 := mt hgl.mpr c2044; omega)
          rw [hx1, hx0] at e1
          rw [hx2, hx0] at e2
          obtain ⟨k01, k12⟩ := own_passS h01 h12 e1 e2
          refine own_iinc W2043 (u12 + (1 : Int32)) 445 #[.val (.ref a1), .val (.long fo), .second, .val (.long so), .second, .val (.int sb), .val (.int bi), .val (.int (2 : Int32)), .val (.int ps), .val (.int dw), .val (.int sz), .val (.ref cs), .val (.int (u12 + (1 : Int32))), .val (.int (u12 * dw)), .val (.int (u12 * sz)), .val (.int u15), s16, s17] d6_442 rfl rfl rfl rfl ?_
          refine own_goto W2043 238 d6_445 (by decide) (by decide) ?_
          exact ih (d + 1) pa pb xa xb _ u15 _ _ s16 s17 pg sf yf od G T2043 h W2043 ⟨X_a1, F_pairs_a1, F_sortedPairs_a1, F_indices_a1, F_sortedIndices_a1, F_numbers_a1, F_count_a1, V_pa, V_pb, V_xa, V_xb, V_cs⟩ hNE' hsw (by omega) (own_inc hu (by omega)) (Or.inr ⟨_, _, rfl, rfl⟩) c16 c17 hpm hpg k01 k12 (fun d' h1 => hG d' (by omega))
      rcases c13 with ⟨zz, rfl, rfl⟩ | ⟨yy, zz, rfl, rfl⟩
      · refine own_iload W 247 d6_245 rfl rfl ?_
        refine own_iload W 249 d6_247 rfl rfl ?_
        refine own_imul W 250 d6_249 rfl ?_
        refine own_istore W 252 #[.val (.ref a1), .val (.long fo), .second, .val (.long so), .second, .val (.int sb), .val (.int bi), .val (.int (2 : Int32)), .val (.int ps), .val (.int dw), .val (.int sz), .val (.ref cs), .val (.int u12), .val (.int (u12 * dw)), .unset, .val (.int u15), s16, s17] d6_250 rfl rfl ?_
        refine own_iload W 254 d6_252 rfl rfl ?_
        refine own_iload W 256 d6_254 rfl rfl ?_
        refine own_imul W 257 d6_256 rfl ?_
        refine own_istore W 259 #[.val (.ref a1), .val (.long fo), .second, .val (.long so), .second, .val (.int sb), .val (.int bi), .val (.int (2 : Int32)), .val (.int ps), .val (.int dw), .val (.int sz), .val (.ref cs), .val (.int u12), .val (.int (u12 * dw)), .val (.int (u12 * sz)), .val (.int u15), s16, s17] d6_257 rfl rfl ?_
        exact J2040 _ W
      · refine own_iload W 247 d6_245 rfl rfl ?_
        refine own_iload W 249 d6_247 rfl rfl ?_
        refine own_imul W 250 d6_249 rfl ?_
        refine own_istore W 252 #[.val (.ref a1), .val (.long fo), .second, .val (.long so), .second, .val (.int sb), .val (.int bi), .val (.int (2 : Int32)), .val (.int ps), .val (.int dw), .val (.int sz), .val (.ref cs), .val (.int u12), .val (.int (u12 * dw)), .val (.int zz), .val (.int u15), s16, s17] d6_250 rfl rfl ?_
        refine own_iload W 254 d6_252 rfl rfl ?_
        refine own_iload W 256 d6_254 rfl rfl ?_
        refine own_imul W 257 d6_256 rfl ?_
        refine own_istore W 259 #[.val (.ref a1), .val (.long fo), .second, .val (.long so), .second, .val (.int sb), .val (.int bi), .val (.int (2 : Int32)), .val (.int ps), .val (.int dw), .val (.int sz), .val (.ref cs), .val (.int u12), .val (.int (u12 * dw)), .val (.int (u12 * sz)), .val (.int u15), s16, s17] d6_257 rfl rfl ?_
        exact J2040 _ W
  exact loop n 0 pA pB xA xB _ v2 _ _ .unset .unset pg2 sf yf (fun j => j) G3 T h W hS1 hNE (Or.inl ⟨rfl, rfl, rfl, rfl⟩) (by omega) rfl (Or.inl ⟨_, rfl, rfl⟩) (Or.inl rfl) (Or.inl rfl) (Or.inl ⟨rfl, rfl, rfl⟩) hqs (by simp only [Nat.zero_mul, Nat.pow_zero, Nat.mod_one]; exact Nat.le_refl _) (by simp only [Nat.zero_mul, Nat.pow_zero, Nat.mod_one]; exact Nat.le_refl _) hcc
set_option maxRecDepth 65536 in
set_option maxHeartbeats 40000000 in
theorem own_s1 (l : Launch) (Z : State) (a0 : Array Value) (hw : ∀ d ∈ tables_1, d.before a0 Z = true) (h0 : Heap) (a1 : Addr) (pA pB xA xB nb : Addr) (FF SS : Nat → Nat) (p : Program) (e : Env) (s : State) (m : MethodId) (below : List Frame) (meth : Method) (c : Code) (C : Outcome → State → Prop) (hC : ∀ v L u, own_Fw s [a1, pA, pB, xA, xB] L → (v = none ∧ (∃ (pa xa : Addr) (pg : Nat → Int64) (od Q : Nat → Nat), (pa = pA ∨ pa = pB) ∧ (xa = xA ∨ xa = xB) ∧ Fld Z u.heap a1 "com/example/nodemata/nodemata/PairNumbers" "pairs" "[J" (.ref pa) ∧ Fld Z u.heap a1 "com/example/nodemata/nodemata/PairNumbers" "indices" "[I" (.ref xa) ∧ Fld Z u.heap a1 "com/example/nodemata/nodemata/PairNumbers" "numbers" "[I" (.ref nb) ∧ Fld Z u.heap a1 "com/example/nodemata/nodemata/PairNumbers" "count" "I" (.int (3 : Int32)) ∧ own_A Z u.heap pa .long 3 (fun j => .long (pg j)) ∧ own_A Z u.heap xa .int 3 (fun j => .int (Int32.ofNat (od j))) ∧ own_pm od ∧ (∀ j, j < 3 → (pg j).toInt = ((Q (od j) : Nat) : Int)) ∧ Q (od 0) ≤ Q (od 1) ∧ Q (od 1) ≤ Q (od 2) ∧ (∀ i j, i < 3 → j < 3 → (Q i ≤ Q j ↔ FF i * 4294967296 + SS i ≤ FF j * 4294967296 + SS j)))) → FrameEnd s (.returned v) u L ({ frames := 2, cells := 1, slots := 124, locals := 29 } : Room).cells ({ frames := 2, cells := 1, slots := 124, locals := 29 } : Room).slots → C (.returned v) u) (T : State) (h : Heap) (cs : Addr) (pg : Nat → Int64) (sf yf : Nat → Value) (fo so : Int64) (sb bi ps dw sz : Int32) (k1 k2 n wn sn : Nat) (G0 : Nat → Nat) (W : own_W p l e ({ frames := 2, cells := 1, slots := 124, locals := 29 } : Room) s m #[(.ref a1)] below meth c Z (⟨"com/example/nodemata/nodemata/PairNumbers", "sort", "()V"⟩ : MethodName) none prog_83_method_6_code 18 [a1, pA, pB, xA, xB] T h (0 + 0 + 0 + 0 + 0 + 1) (0 + 0 + 0 + 0 + 0 + 124)) (o_cs : s.heap.size ≤ cs) (hG0 : ∀ j, G0 j = 0) (hS0 : own_St Z h a1 pA pB xA xB nb cs (n * sn) (fun j => .long (pg j)) sf (fun j => .int (Int32.ofNat j)) yf G0) (hNE : own_NE a1 pA pB xA xB cs) (hsz : (wn = 1 ∧ dw = 1 ∧ sz = 2 ∧ sn = 2) ∨ (wn = 2 ∧ dw = 2 ∧ sz = 4 ∧ sn = 4)) (hps : ps.toInt = (n : Int)) (hn1 : 1 ≤ n) (hn2 : n ≤ 31) (hBw : k2 + k1 ≤ n * wn) (hsb : sb.toInt = (k2 : Int)) (fl : ∀ j, j < 3 → FF j < 2 ^ k1 ∧ SS j < 2 ^ k2) (hk1b : k1 ≤ 31) (hk2b : k2 ≤ 31) (hpg : ∀ j, j < 3 → (pg j).toInt = ((FF j * 4294967296 + SS j : Nat) : Int)) (hS : ∀ j, j < 3 → SS j < 2147483648) :
    own_Go p e below C T (mkF m 140 #[.val (.ref a1), .val (.long fo), .second, .val (.long so), .second, .val (.int sb), .val (.int bi), .val (.int (2 : Int32)), .val (.int ps), .val (.int dw), .val (.int sz), .val (.ref cs), .unset, .unset, .unset, .unset, .unset, .unset] []) := by
  obtain ⟨hszI, hdwI, hs24, hsp, hwz, hw2, hw1⟩ := own_szI hsz
  have hNN := own_szM hsz hn2
  have cnt : ∀ (f d : Nat) (u12 u15 : Int32) (qq : Int64) (Qn : Nat) (B : Nat → Nat → Nat) (G : Nat → Nat) (pf : Nat → Value) (T : State) (h : Heap), own_W p l e ({ frames := 2, cells := 1, slots := 124, locals := 29 } : Room) s m #[(.ref a1)] below meth c Z (⟨"com/example/nodemata/nodemata/PairNumbers", "sort", "()V"⟩ : MethodName) none prog_83_method_6_code 18 [a1, pA, pB, xA, xB] T h (0 + 0 + 0 + 0 + 0 + 1) (0 + 0 + 0 + 0 + 0 + 124) → own_St Z h a1 pA pB xA xB nb cs (n * sn) pf sf (fun j => .int (Int32.ofNat j)) yf G → d + f = n → u15.toInt = (d : Int) → qq.toInt = (Qn : Int) → own_cnt G n sn (fun d' v => B d' v + own_e d' d' * (if d' < d then own_e (own_dg wn Qn d') v else 0)) → (∀ (T : State) (h : Heap) (G : Nat → Nat) (u15 : Int32), own_W p l e ({ frames := 2, cells := 1, slots := 124, locals := 29 } : Room) s m #[(.ref a1)] below meth c Z (⟨"com/example/nodemata/nodemata/PairNumbers", "sort", "()V"⟩ : MethodName) none prog_83_method_6_code 18 [a1, pA, pB, xA, xB] T h (0 + 0 + 0 + 0 + 0 + 1) (0 + 0 + 0 + 0 + 0 + 124) → own_St Z h a1 pA pB xA xB nb cs (n * sn) pf sf (fun j => .int (Int32.ofNat j)) yf G → own_cnt G n sn (fun d' v => B d' v + own_e (own_dg wn Qn d') v) → own_Go p e below C T (mkF m 229 #[.val (.ref a1), .val (.long fo), .second, .val (.long so), .second, .val (.int sb), .val (.int bi), .val (.int (2 : Int32)), .val (.int ps), .val (.int dw), .val (.int sz), .val (.ref cs), .val (.int u12), .val (.long qq), .second, .val (.int u15), .unset, .unset] [])) → own_Go p e below C T (mkF m 191 #[.val (.ref a1), .val (.long fo), .second, .val (.long so), .second, .val (.int sb), .val (.int bi), .val (.int (2 : Int32)), .val (.int ps), .val (.int dw), .val (.int sz), .val (.ref cs), .val (.int u12), .val (.long qq), .second, .val (.int u15), .unset, .unset] []) := by
    intro f
    induction f with
    | zero =>
      intro d u12 u15 qq Qn B G pf T h W HS hdn hu hq hc k
      have hlt : ¬ (u15 < ps) := by rw [own_ltN hu hps]; omega
      refine own_iload W 193 d6_191 rfl rfl ?_
      refine own_iload W 195 d6_193 rfl rfl ?_
      refine own_icmpY W 229 d6_195 ((flt (hlt : ¬ (u15 < ps))).2.1) (by decide) (by decide) ?_
      obtain rfl : d = n := by omega
      exact k T h G u15 W HS hc.fin
    | succ f ih =>
      intro d u12 u15 qq Qn B G pf T h W HS hdn hu hq hc k
      have hdn' : d < n := by omega
      have hlt : u15 < ps := by rw [own_ltN hu hps]; omega
      obtain ⟨X_a1, F_pairs_a1, F_sortedPairs_a1, F_indices_a1, F_sortedIndices_a1, F_numbers_a1, F_count_a1, V_pA, V_pB, V_xA, V_xB, V_cs⟩ := HS
      obtain ⟨ne_a1_pA, ne_a1_pB, ne_a1_xA, ne_a1_xB, ne_a1_cs, ne_pA_pB, ne_pA_xA, ne_pA_xB, ne_pA_cs, ne_pB_xA, ne_pB_xB, ne_pB_cs, ne_xA_xB, ne_xA_cs, ne_xB_cs⟩ := hNE
      obtain ⟨-, hdw64, hdN⟩ := own_szN hsz hn2 hdn'
      refine own_iload W 193 d6_191 rfl rfl ?_
      refine own_iload W 195 d6_193 rfl rfl ?_
      refine own_icmpN W 198 d6_195 ((tlt (hlt : u15 < ps)).2.1) rfl ?_
      refine own_aload W 200 d6_198 rfl rfl rfl ?_
      refine own_iload W 202 d6_200 rfl rfl ?_
      refine own_iload W 204 d6_202 rfl rfl ?_
      refine own_imul W 205 d6_204 rfl ?_
      refine own_lload W 207 d6_205 rfl rfl ?_
      refine own_iload W 209 d6_207 rfl rfl ?_
      refine own_iload W 211 d6_209 rfl rfl ?_
      refine own_imul W 212 d6_211 rfl ?_
      refine own_iload W 214 d6_212 rfl rfl ?_
      refine own_callS W (A := [(.long qq), (.int (u15 * dw)), (.int sz)]) (wt := 2) (pc' := 217) (st := [(.int (u15 * sz)), (.ref cs)]) d6_214 (wd60 hw) (wd61 hw) (wd3 hw) (wd62 hw) (by decide) (own_m10 l Z a0 hw [] h qq (u15 * dw) sz Qn (d * wn) wn hq (own_mulN hu hdwI (by omega)) hdw64 hwz) all0 rfl pd_4 rfl (Nat.le_of_eq rfl) (by decide) (by decide) (by decide) (by decide) rfl ?_
      rintro T1019 h1019 _ W1019 K1019 P1019 ⟨r, rfl, hr⟩
      rw [P1019 rfl rfl] at W1019
      show own_Go p e below C T1019 (mkF m 217 #[.val (.ref a1), .val (.long fo), .second, .val (.long so), .second, .val (.int sb), .val (.int bi), .val (.int (2 : Int32)), .val (.int ps), .val (.int dw), .val (.int sz), .val (.ref cs), .val (.int u12), .val (.long qq), .second, .val (.int u15), .unset, .unset] [(.int r), (.int (u15 * sz)), (.ref cs)])
      have hr : r.toInt = ((own_dg wn Qn d : Nat) : Int) := hr
      have hx : own_dg wn Qn d < sn := by rw [hsp]; exact own_dglt _ _ _
      have hix : ((u15 * sz) + r).toInt = ((d * sn + own_dg wn Qn d : Nat) : Int) := own_addN (own_mulN hu hszI (by omega)) hr (by omega)
      refine own_iadd W1019 218 d6_217 rfl ?_
      refine own_dup2 W1019 219 d6_218 rfl ?_
      refine own_iaload W1019 (d * sn + own_dg wn Qn d) (Int32.ofNat (G (d * sn + own_dg wn Qn d))) 220 d6_219 V_cs hix (by omega) rfl rfl ?_
      refine own_iconst W1019 (1 : Int32) 221 d6_220 rfl rfl ?_
      refine own_iadd W1019 222 d6_221 rfl ?_
      rw [show ((Int32.ofNat (G (d * sn + own_dg wn Qn d))) + (1 : Int32)) = (Int32.ofNat (G (d * sn + own_dg wn Qn d) + 1)) from own_ofNs _]
      refine own_iastore W1019 (d * sn + own_dg wn Qn d) 223 d6_222 V_cs (Or.inr o_cs) hix (by omega) rfl ?_
      intro T1020 h1020 W1020 Wr1020 V_cs
      have X_a1 := X_a1.wr Wr1020
      have F_pairs_a1 := F_pairs_a1.other Wr1020 (Or.inl ne_a1_cs)
      have F_sortedPairs_a1 := F_sortedPairs_a1.other Wr1020 (Or.inl ne_a1_cs)
      have F_indices_a1 := F_indices_a1.other Wr1020 (Or.inl ne_a1_cs)
      have F_sortedIndices_a1 := F_sortedIndices_a1.other Wr1020 (Or.inl ne_a1_cs)
      have F_numbers_a1 := F_numbers_a1.other Wr1020 (Or.inl ne_a1_cs)
      have F_count_a1 := F_count_a1.other Wr1020 (Or.inl ne_a1_cs)
      have V_pA := V_pA.other Wr1020 ne_pA_cs
      have V_pB := V_pB.other Wr1020 ne_pB_cs
      have V_xA := V_xA.other Wr1020 ne_xA_cs
      have V_xB := V_xB.other Wr1020 ne_xB_cs
      show own_Go p e below C T1020 (mkF m 223 #[.val (.ref a1), .val (.long fo), .second, .val (.long so), .second, .val (.int sb), .val (.int bi), .val (.int (2 : Int32)), .val (.int ps), .val (.int dw), .val (.int sz), .val (.ref cs), .val (.int u12), .val (.long qq), .second, .val (.int u15), .unset, .unset] [])
      refine own_iinc W1020 (u15 + (1 : Int32)) 226 #[.val (.ref a1), .val (.long fo), .second, .val (.long so), .second, .val (.int sb), .val (.int bi), .val (.int (2 : Int32)), .val (.int ps), .val (.int dw), .val (.int sz), .val (.ref cs), .val (.int u12), .val (.long qq), .second, .val (.int (u15 + (1 : Int32))), .unset, .unset] d6_223 rfl rfl rfl rfl ?_
      refine own_goto W1020 191 d6_226 (by decide) (by decide) ?_
      exact ih (d + 1) u12 _ qq Qn B _ pf T1020 h1020 W1020 ⟨X_a1, F_pairs_a1, F_sortedPairs_a1, F_indices_a1, F_sortedIndices_a1, F_numbers_a1, F_count_a1, V_pA, V_pB, V_xA, V_xB, V_cs.congr (fun j _ => own_updNe _ _ _ j)⟩ (by omega) (own_inc hu (by omega)) hq (hc.step hs24 hx hdn' (if_pos rfl) (fun j hj => if_neg hj)) k
  obtain ⟨X_a1, F_pairs_a1, F_sortedPairs_a1, F_indices_a1, F_sortedIndices_a1, F_numbers_a1, F_count_a1, V_pA, V_pB, V_xA, V_xB, V_cs⟩ := hS0
  have hNE2 := hNE
  obtain ⟨ne_a1_pA, ne_a1_pB, ne_a1_xA, ne_a1_xB, ne_a1_cs, ne_pA_pB, ne_pA_xA, ne_pA_xB, ne_pA_cs, ne_pB_xA, ne_pB_xB, ne_pB_cs, ne_xA_xB, ne_xA_cs, ne_xB_cs⟩ := hNE2
  have hc0 : own_cnt G0 n sn (fun _ _ => 0) := fun d _ v _ => hG0 _
  refine own_iconst W (0 : Int32) 141 d6_140 rfl rfl ?_
  refine own_istore W 143 #[.val (.ref a1), .val (.long fo), .second, .val (.long so), .second, .val (.int sb), .val (.int bi), .val (.int (2 : Int32)), .val (.int ps), .val (.int dw), .val (.int sz), .val (.ref cs), .val (.int (0 : Int32)), .unset, .unset, .unset, .unset, .unset] d6_141 rfl rfl ?_
  refine own_iload W 145 d6_143 rfl rfl ?_
  refine own_aloadN W 146 d6_145 rfl rfl rfl ?_
  refine own_getfield W 149 d6_146 (wd27 hw) F_count_a1 rfl ?_
  intro T1021 W1021
  show own_Go p e below C T1021 (mkF m 149 #[.val (.ref a1), .val (.long fo), .second, .val (.long so), .second, .val (.int sb), .val (.int bi), .val (.int (2 : Int32)), .val (.int ps), .val (.int dw), .val (.int sz), .val (.ref cs), .val (.int (0 : Int32)), .unset, .unset, .unset, .unset, .unset] [(.int (3 : Int32)), (.int (0 : Int32))])
  refine own_icmpN W1021 152 d6_149 ((tlt ((by decide) : (0 : Int32) < (3 : Int32))).2.1) rfl ?_
  refine own_aloadN W1021 153 d6_152 rfl rfl rfl ?_
  refine own_getfield W1021 156 d6_153 (wd11 hw) F_pairs_a1 rfl ?_
  intro T1022 W1022
  show own_Go p e below C T1022 (mkF m 156 #[.val (.ref a1), .val (.long fo), .second, .val (.long so), .second, .val (.int sb), .val (.int bi), .val (.int (2 : Int32)), .val (.int ps), .val (.int dw), .val (.int sz), .val (.ref cs), .val (.int (0 : Int32)), .unset, .unset, .unset, .unset, .unset] [(.ref pA)])
  refine own_iload W1022 158 d6_156 rfl rfl ?_
  refine own_laload W1022 0 (pg 0) 159 d6_158 V_pA rfl (by decide) rfl rfl ?_
  refine own_bipush W1022 (32 : Int32) 161 d6_159 rfl rfl ?_
  refine own_lushr W1022 162 d6_161 rfl ?_
  refine own_iload W1022 164 d6_162 rfl rfl ?_
  refine own_lshl W1022 165 d6_164 rfl ?_
  refine own_aloadN W1022 166 d6_165 rfl rfl rfl ?_
  refine own_getfield W1022 169 d6_166 (wd11 hw) F_pairs_a1 rfl ?_
  intro T1023 W1023
  show own_Go p e below C T1023 (mkF m 169 #[.val (.ref a1), .val (.long fo), .second, .val (.long so), .second, .val (.int sb), .val (.int bi), .val (.int (2 : Int32)), .val (.int ps), .val (.int dw), .val (.int sz), .val (.ref cs), .val (.int (0 : Int32)), .unset, .unset, .unset, .unset, .unset] [(.ref pA), (.long ((((pg 0).toUInt64 >>> ((32 : Int32) &&& 0x3f).toInt64.toUInt64).toInt64) <<< (sb &&& 0x3f).toInt64))])
  refine own_iload W1023 171 d6_169 rfl rfl ?_
  refine own_laload W1023 0 (pg 0) 172 d6_171 V_pA rfl (by decide) rfl rfl ?_
  refine own_ldc2Long W1023 175 d6_172 (wd45 hw) rfl ?_
  refine own_land W1023 176 d6_175 rfl ?_
  refine own_lor W1023 177 d6_176 rfl ?_
  have hq0 := own_qval (hpg 0 (by omega)) (hS 0 (by omega)) hsb (fl 0 (by omega)).1 (fl 0 (by omega)).2 hk1b hk2b
  generalize h_qq0 : (((((pg 0).toUInt64 >>> ((32 : Int32) &&& 0x3f).toInt64.toUInt64).toInt64) <<< (sb &&& 0x3f).toInt64) ||| ((pg 0) &&& (4294967295 : Int64))) = qq0 at hq0 ⊢
  show own_Go p e below C T1023 (mkF m 177 #[.val (.ref a1), .val (.long fo), .second, .val (.long so), .second, .val (.int sb), .val (.int bi), .val (.int (2 : Int32)), .val (.int ps), .val (.int dw), .val (.int sz), .val (.ref cs), .val (.int (0 : Int32)), .unset, .unset, .unset, .unset, .unset] [(.long qq0)])
  refine own_lstore W1023 179 #[.val (.ref a1), .val (.long fo), .second, .val (.long so), .second, .val (.int sb), .val (.int bi), .val (.int (2 : Int32)), .val (.int ps), .val (.int dw), .val (.int sz), .val (.ref cs), .val (.int (0 : Int32)), .val (.long qq0), .second, .unset, .unset, .unset] d6_177 rfl rfl ?_
  refine own_aloadN W1023 180 d6_179 rfl rfl rfl ?_
  refine own_getfield W1023 183 d6_180 (wd11 hw) F_pairs_a1 rfl ?_
  intro T1024 W1024
  show own_Go p e below C T1024 (mkF m 183 #[.val (.ref a1), .val (.long fo), .second, .val (.long so), .second, .val (.int sb), .val (.int bi), .val (.int (2 : Int32)), .val (.int ps), .val (.int dw), .val (.int sz), .val (.ref cs), .val (.int (0 : Int32)), .val (.long qq0), .second, .unset, .unset, .unset] [(.ref pA)])
  refine own_iload W1024 185 d6_183 rfl rfl ?_
  refine own_lload W1024 187 d6_185 rfl rfl ?_
  refine own_lastore W1024 0 188 d6_187 V_pA (Or.inl (List.mem_of_getElem? (i := 1) rfl)) rfl (by decide) rfl ?_
  intro T1025 h1025 W1025 Wr1025 V_pA
  have X_a1 := X_a1.wr Wr1025
  have F_pairs_a1 := F_pairs_a1.other Wr1025 (Or.inl ne_a1_pA)
  have F_sortedPairs_a1 := F_sortedPairs_a1.other Wr1025 (Or.inl ne_a1_pA)
  have F_indices_a1 := F_indices_a1.other Wr1025 (Or.inl ne_a1_pA)
  have F_sortedIndices_a1 := F_sortedIndices_a1.other Wr1025 (Or.inl ne_a1_pA)
  have F_numbers_a1 := F_numbers_a1.other Wr1025 (Or.inl ne_a1_pA)
  have F_count_a1 := F_count_a1.other Wr1025 (Or.inl ne_a1_pA)
  have V_pB := V_pB.other Wr1025 (Ne.symm ne_pA_pB)
  have V_xA := V_xA.other Wr1025 (Ne.symm ne_pA_xA)
  have V_xB := V_xB.other Wr1025 (Ne.symm ne_pA_xB)
  have V_cs := V_cs.other Wr1025 (Ne.symm ne_pA_cs)
  show own_Go p e below C T1025 (mkF m 188 #[.val (.ref a1), .val (.long fo), .second, .val (.long so), .second, .val (.int sb), .val (.int bi), .val (.int (2 : Int32)), .val (.int ps), .val (.int dw), .val (.int sz), .val (.ref cs), .val (.int (0 : Int32)), .val (.long qq0), .second, .unset, .unset, .unset] [])
  refine own_iconst W1025 (0 : Int32) 189 d6_188 rfl rfl ?_
  refine own_istore W1025 191 #[.val (.ref a1), .val (.long fo), .second, .val (.long so), .second, .val (.int sb), .val (.int bi), .val (.int (2 : Int32)), .val (.int ps), .val (.int dw), .val (.int sz), .val (.ref cs), .val (.int (0 : Int32)), .val (.long qq0), .second, .val (.int (0 : Int32)), .unset, .unset] d6_189 rfl rfl ?_
  refine cnt n 0 _ _ qq0 _ (fun _ _ => 0) G0 (own_upd (fun j => .long (pg j)) 0 (.long qq0)) T1025 h1025 W1025 ⟨X_a1, F_pairs_a1, F_sortedPairs_a1, F_indices_a1, F_sortedIndices_a1, F_numbers_a1, F_count_a1, V_pA, V_pB, V_xA, V_xB, V_cs⟩ (by omega) rfl hq0 (hc0.start) ?_
  intro T1026 h1026 G1 v0 W1026 HS hc1
  obtain ⟨X_a1, F_pairs_a1, F_sortedPairs_a1, F_indices_a1, F_sortedIndices_a1, F_numbers_a1, F_count_a1, V_pA, V_pB, V_xA, V_xB, V_cs⟩ := HS
  show own_Go p e below C T1026 (mkF m 229 #[.val (.ref a1), .val (.long fo), .second, .val (.long so), .second, .val (.int sb), .val (.int bi), .val (.int (2 : Int32)), .val (.int ps), .val (.int dw), .val (.int sz), .val (.ref cs), .val (.int (0 : Int32)), .val (.long qq0), .second, .val (.int v0), .unset, .unset] [])
  refine own_iinc W1026 (1 : Int32) 232 #[.val (.ref a1), .val (.long fo), .second, .val (.long so), .second, .val (.int sb), .val (.int bi), .val (.int (2 : Int32)), .val (.int ps), .val (.int dw), .val (.int sz), .val (.ref cs), .val (.int (1 : Int32)), .val (.long qq0), .second, .val (.int v0), .unset, .unset] d6_229 rfl rfl rfl rfl ?_
  refine own_goto W1026 143 d6_232 (by decide) (by decide) ?_
  refine own_iload W1026 145 d6_143 rfl rfl ?_
  refine own_aloadN W1026 146 d6_145 rfl rfl rfl ?_
  refine own_getfield W1026 149 d6_146 (wd27 hw) F_count_a1 rfl ?_
  intro T1027 W1027
  show own_Go p e below C T1027 (mkF m 149 #[.val (.ref a1), .val (.long fo), .second, .val (.long so), .second, .val (.int sb), .val (.int bi), .val (.int (2 : Int32)), .val (.int ps), .val (.int dw), .val (.int sz), .val (.ref cs), .val (.int (1 : Int32)), .val (.long qq0), .second, .val (.int v0), .unset, .unset] [(.int (3 : Int32)), (.int (1 : Int32))])
  refine own_icmpN W1027 152 d6_149 ((tlt ((by decide) : (1 : Int32) < (3 : Int32))).2.1) rfl ?_
  refine own_aloadN W1027 153 d6_152 rfl rfl rfl ?_
  refine own_getfield W1027 156 d6_153 (wd11 hw) F_pairs_a1 rfl ?_
  intro T1028 W1028
  show own_Go p e below C T1028 (mkF m 156 #[.val (.ref a1), .val (.long fo), .second, .val (.long so), .second, .val (.int sb), .val (.int bi), .val (.int (2 : Int32)), .val (.int ps), .val (.int dw), .val (.int sz), .val (.ref cs), .val (.int (1 : Int32)), .val (.long qq0), .second, .val (.int v0), .unset, .unset] [(.ref pA)])
  refine own_iload W1028 158 d6_156 rfl rfl ?_
  refine own_laload W1028 1 (pg 1) 159 d6_158 V_pA rfl (by decide) rfl rfl ?_
  refine own_bipush W1028 (32 : Int32) 161 d6_159 rfl rfl ?_
  refine own_lushr W1028 162 d6_161 rfl ?_
  refine own_iload W1028 164 d6_162 rfl rfl ?_
  refine own_lshl W1028 165 d6_164 rfl ?_
  refine own_aloadN W1028 166 d6_165 rfl rfl rfl ?_
  refine own_getfield W1028 169 d6_166 (wd11 hw) F_pairs_a1 rfl ?_
  intro T1029 W1029
  show own_Go p e below C T1029 (mkF m 169 #[.val (.ref a1), .val (.long fo), .second, .val (.long so), .second, .val (.int sb), .val (.int bi), .val (.int (2 : Int32)), .val (.int ps), .val (.int dw), .val (.int sz), .val (.ref cs), .val (.int (1 : Int32)), .val (.long qq0), .second, .val (.int v0), .unset, .unset] [(.ref pA), (.long ((((pg 1).toUInt64 >>> ((32 : Int32) &&& 0x3f).toInt64.toUInt64).toInt64) <<< (sb &&& 0x3f).toInt64))])
  refine own_iload W1029 171 d6_169 rfl rfl ?_
  refine own_laload W1029 1 (pg 1) 172 d6_171 V_pA rfl (by decide) rfl rfl ?_
  refine own_ldc2Long W1029 175 d6_172 (wd45 hw) rfl ?_
  refine own_land W1029 176 d6_175 rfl ?_
  refine own_lor W1029 177 d6_176 rfl ?_
  have hq1 := own_qval (hpg 1 (by omega)) (hS 1 (by omega)) hsb (fl 1 (by omega)).1 (fl 1 (by omega)).2 hk1b hk2b
  generalize h_qq1 : (((((pg 1).toUInt64 >>> ((32 : Int32) &&& 0x3f).toInt64.toUInt64).toInt64) <<< (sb &&& 0x3f).toInt64) ||| ((pg 1) &&& (4294967295 : Int64))) = qq1 at hq1 ⊢
  show own_Go p e below C T1029 (mkF m 177 #[.val (.ref a1), .val (.long fo), .second, .val (.long so), .second, .val (.int sb), .val (.int bi), .val (.int (2 : Int32)), .val (.int ps), .val (.int dw), .val (.int sz), .val (.ref cs), .val (.int (1 : Int32)), .val (.long qq0), .second, .val (.int v0), .unset, .unset] [(.long qq1)])
  refine own_lstore W1029 179 #[.val (.ref a1), .val (.long fo), .second, .val (.long so), .second, .val (.int sb), .val (.int bi), .val (.int (2 : Int32)), .val (.int ps), .val (.int dw), .val (.int sz), .val (.ref cs), .val (.int (1 : Int32)), .val (.long qq1), .second, .val (.int v0), .unset, .unset] d6_177 rfl rfl ?_
  refine own_aloadN W1029 180 d6_179 rfl rfl rfl ?_
  refine own_getfield W1029 183 d6_180 (wd11 hw) F_pairs_a1 rfl ?_
  intro T1030 W1030
  show own_Go p e below C T1030 (mkF m 183 #[.val (.ref a1), .val (.long fo), .second, .val (.long so), .second, .val (.int sb), .val (.int bi), .val (.int (2 : Int32)), .val (.int ps), .val (.int dw), .val (.int sz), .val (.ref cs), .val (.int (1 : Int32)), .val (.long qq1), .second, .val (.int v0), .unset, .unset] [(.ref pA)])
  refine own_iload W1030 185 d6_183 rfl rfl ?_
  refine own_lload W1030 187 d6_185 rfl rfl ?_
  refine own_lastore W1030 1 188 d6_187 V_pA (Or.inl (List.mem_of_getElem? (i := 1) rfl)) rfl (by decide) rfl ?_
  intro T1031 h1031 W1031 Wr1031 V_pA
  have X_a1 := X_a1.wr Wr1031
  have F_pairs_a1 := F_pairs_a1.other Wr1031 (Or.inl ne_a1_pA)
  have F_sortedPairs_a1 := F_sortedPairs_a1.other Wr1031 (Or.inl ne_a1_pA)
  have F_indices_a1 := F_indices_a1.other Wr1031 (Or.inl ne_a1_pA)
  have F_sortedIndices_a1 := F_sortedIndices_a1.other Wr1031 (Or.inl ne_a1_pA)
  have F_numbers_a1 := F_numbers_a1.other Wr1031 (Or.inl ne_a1_pA)
  have F_count_a1 := F_count_a1.other Wr1031 (Or.inl ne_a1_pA)
  have V_pB := V_pB.other Wr1031 (Ne.symm ne_pA_pB)
  have V_xA := V_xA.other Wr1031 (Ne.symm ne_pA_xA)
  have V_xB := V_xB.other Wr1031 (Ne.symm ne_pA_xB)
  have V_cs := V_cs.other Wr1031 (Ne.symm ne_pA_cs)
  show own_Go p e below C T1031 (mkF m 188 #[.val (.ref a1), .val (.long fo), .second, .val (.long so), .second, .val (.int sb), .val (.int bi), .val (.int (2 : Int32)), .val (.int ps), .val (.int dw), .val (.int sz), .val (.ref cs), .val (.int (1 : Int32)), .val (.long qq1), .second, .val (.int v0), .unset, .unset] [])
  refine own_iconst W1031 (0 : Int32) 189 d6_188 rfl rfl ?_
  refine own_istore W1031 191 #[.val (.ref a1), .val (.long fo), .second, .val (.long so), .second, .val (.int sb), .val (.int bi), .val (.int (2 : Int32)), .val (.int ps), .val (.int dw), .val (.int sz), .val (.ref cs), .val (.int (1 : Int32)), .val (.long qq1), .second, .val (.int (0 : Int32)), .unset, .unset] d6_189 rfl rfl ?_
  refine cnt n 0 _ _ qq1 _ (fun d' v => (fun _ _ => 0) d' v + own_e (own_dg wn (FF 0 * 2 ^ k2 + SS 0) d') v) G1 (own_upd (own_upd (fun j => .long (pg j)) 0 (.long qq0)) 1 (.long qq1)) T1031 h1031 W1031 ⟨X_a1, F_pairs_a1, F_sortedPairs_a1, F_indices_a1, F_sortedIndices_a1, F_numbers_a1, F_count_a1, V_pA, V_pB, V_xA, V_xB, V_cs⟩ (by omega) rfl hq1 (hc1.start) ?_
  intro T1032 h1032 G2 v1 W1032 HS hc2
  obtain ⟨X_a1, F_pairs_a1, F_sortedPairs_a1, F_indices_a1, F_sortedIndices_a1, F_numbers_a1, F_count_a1, V_pA, V_pB, V_xA, V_xB, V_cs⟩ := HS
  show own_Go p e below C T1032 (mkF m 229 #[.val (.ref a1), .val (.long fo), .second, .val (.long so), .second, .val (.int sb), .val (.int bi), .val (.int (2 : Int32)), .val (.int ps), .val (.int dw), .val (.int sz), .val (.ref cs), .val (.int (1 : Int32)), .val (.long qq1), .second, .val (.int v1), .unset, .unset] [])
  refine own_iinc W1032 (2 : Int32) 232 #[.val (.ref a1), .val (.long fo), .second, .val (.long so), .second, .val (.int sb), .val (.int bi), .val (.int (2 : Int32)), .val (.int ps), .val (.int dw), .val (.int sz), .val (.ref cs), .val (.int (2 : Int32)), .val (.long qq1), .second, .val (.int v1), .unset, .unset] d6_229 rfl rfl rfl rfl ?_
  refine own_goto W1032 143 d6_232 (by decide) (by decide) ?_
  refine own_iload W1032 145 d6_143 rfl rfl ?_
  refine own_aloadN W1032 146 d6_145 rfl rfl rfl ?_
  refine own_getfield W1032 149 d6_146 (wd27 hw) F_count_a1 rfl ?_
  intro T1033 W1033
  show own_Go p e below C T1033 (mkF m 149 #[.val (.ref a1), .val (.long fo), .second, .val (.long so), .second, .val (.int sb), .val (.int bi), .val (.int (2 : Int32)), .val (.int ps), .val (.int dw), .val (.int sz), .val (.ref cs), .val (.int (2 : Int32)), .val (.long qq1), .second, .val (.int v1), .unset, .unset] [(.int (3 : Int32)), (.int (2 : Int32))])
  refine own_icmpN W1033 152 d6_149 ((tlt ((by decide) : (2 : Int32) < (3 : Int32))).2.1) rfl ?_
  refine own_aloadN W1033 153 d6_152 rfl rfl rfl ?_
  refine own_getfield W1033 156 d6_153 (wd11 hw) F_pairs_a1 rfl ?_
  intro T1034 W1034
  show own_Go p e below C T1034 (mkF m 156 #[.val (.ref a1), .val (.long fo), .second, .val (.long so), .second, .val (.int sb), .val (.int bi), .val (.int (2 : Int32)), .val (.int ps), .val (.int dw), .val (.int sz), .val (.ref cs), .val (.int (2 : Int32)), .val (.long qq1), .second, .val (.int v1), .unset, .unset] [(.ref pA)])
  refine own_iload W1034 158 d6_156 rfl rfl ?_
  refine own_laload W1034 2 (pg 2) 159 d6_158 V_pA rfl (by decide) rfl rfl ?_
  refine own_bipush W1034 (32 : Int32) 161 d6_159 rfl rfl ?_
  refine own_lushr W1034 162 d6_161 rfl ?_
  refine own_iload W1034 164 d6_162 rfl rfl ?_
  refine own_lshl W1034 165 d6_164 rfl ?_
  refine own_aloadN W1034 166 d6_165 rfl rfl rfl ?_
  refine own_getfield W1034 169 d6_166 (wd11 hw) F_pairs_a1 rfl ?_
  intro T1035 W1035
  show own_Go p e below C T1035 (mkF m 169 #[.val (.ref a1), .val (.long fo), .second, .val (.long so), .second, .val (.int sb), .val (.int bi), .val (.int (2 : Int32)), .val (.int ps), .val (.int dw), .val (.int sz), .val (.ref cs), .val (.int (2 : Int32)), .val (.long qq1), .second, .val (.int v1), .unset, .unset] [(.ref pA), (.long ((((pg 2).toUInt64 >>> ((32 : Int32) &&& 0x3f).toInt64.toUInt64).toInt64) <<< (sb &&& 0x3f).toInt64))])
  refine own_iload W1035 171 d6_169 rfl rfl ?_
  refine own_laload W1035 2 (pg 2) 172 d6_171 V_pA rfl (by decide) rfl rfl ?_
  refine own_ldc2Long W1035 175 d6_172 (wd45 hw) rfl ?_
  refine own_land W1035 176 d6_175 rfl ?_
  refine own_lor W1035 177 d6_176 rfl ?_
  have hq2 := own_qval (hpg 2 (by omega)) (hS 2 (by omega)) hsb (fl 2 (by omega)).1 (fl 2 (by omega)).2 hk1b hk2b
  generalize h_qq2 : (((((pg 2).toUInt64 >>> ((32 : Int32) &&& 0x3f).toInt64.toUInt64).toInt64) <<< (sb &&& 0x3f).toInt64) ||| ((pg 2) &&& (4294967295 : Int64))) = qq2 at hq2 ⊢
  show own_Go p e below C T1035 (mkF m 177 #[.val (.ref a1), .val (.long fo), .second, .val (.long so), .second, .val (.int sb), .val (.int bi), .val (.int (2 : Int32)), .val (.int ps), .val (.int dw), .val (.int sz), .val (.ref cs), .val (.int (2 : Int32)), .val (.long qq1), .second, .val (.int v1), .unset, .unset] [(.long qq2)])
  refine own_lstore W1035 179 #[.val (.ref a1), .val (.long fo), .second, .val (.long so), .second, .val (.int sb), .val (.int bi), .val (.int (2 : Int32)), .val (.int ps), .val (.int dw), .val (.int sz), .val (.ref cs), .val (.int (2 : Int32)), .val (.long qq2), .second, .val (.int v1), .unset, .unset] d6_177 rfl rfl ?_
  refine own_aloadN W1035 180 d6_179 rfl rfl rfl ?_
  refine own_getfield W1035 183 d6_180 (wd11 hw) F_pairs_a1 rfl ?_
  intro T1036 W1036
  show own_Go p e below C T1036 (mkF m 183 #[.val (.ref a1), .val (.long fo), .second, .val (.long so), .second, .val (.int sb), .val (.int bi), .val (.int (2 : Int32)), .val (.int ps), .val (.int dw), .val (.int sz), .val (.ref cs), .val (.int (2 : Int32)), .val (.long qq2), .second, .val (.int v1), .unset, .unset] [(.ref pA)])
  refine own_iload W1036 185 d6_183 rfl rfl ?_
  refine own_lload W1036 187 d6_185 rfl rfl ?_
  refine own_lastore W1036 2 188 d6_187 V_pA (Or.inl (List.mem_of_getElem? (i := 1) rfl)) rfl (by decide) rfl ?_
  intro T1037 h1037 W1037 Wr1037 V_pA
  have X_a1 := X_a1.wr Wr1037
  have F_pairs_a1 := F_pairs_a1.other Wr1037 (Or.inl ne_a1_pA)
  have F_sortedPairs_a1 := F_sortedPairs_a1.other Wr1037 (Or.inl ne_a1_pA)
  have F_indices_a1 := F_indices_a1.other Wr1037 (Or.inl ne_a1_pA)
  have F_sortedIndices_a1 := F_sortedIndices_a1.other Wr1037 (Or.inl ne_a1_pA)
  have F_numbers_a1 := F_numbers_a1.other Wr1037 (Or.inl ne_a1_pA)
  have F_count_a1 := F_count_a1.other Wr1037 (Or.inl ne_a1_pA)
  have V_pB := V_pB.other Wr1037 (Ne.symm ne_pA_pB)
  have V_xA := V_xA.other Wr1037 (Ne.symm ne_pA_xA)
  have V_xB := V_xB.other Wr1037 (Ne.symm ne_pA_xB)
  have V_cs := V_cs.other Wr1037 (Ne.symm ne_pA_cs)
  show own_Go p e below C T1037 (mkF m 188 #[.val (.ref a1), .val (.long fo), .second, .val (.long so), .second, .val (.int sb), .val (.int bi), .val (.int (2 : Int32)), .val (.int ps), .val (.int dw), .val (.int sz), .val (.ref cs), .val (.int (2 : Int32)), .val (.long qq2), .second, .val (.int v1), .unset, .unset] [])
  refine own_iconst W1037 (0 : Int32) 189 d6_188 rfl rfl ?_
  refine own_istore W1037 191 #[.val (.ref a1), .val (.long fo), .second, .val (.long so), .second, .val (.int sb), .val (.int bi), .val (.int (2 : Int32)), .val (.int ps), .val (.int dw), .val (.int sz), .val (.ref cs), .val (.int (2 : Int32)), .val (.long qq2), .second, .val (.int (0 : Int32)), .unset, .unset] d6_189 rfl rfl ?_
  refine cnt n 0 _ _ qq2 _ (fun d' v => (fun d' v => (fun _ _ => 0) d' v + own_e (own_dg wn (FF 0 * 2 ^ k2 + SS 0) d') v) d' v + own_e (own_dg wn (FF 1 * 2 ^ k2 + SS 1) d') v) G2 (own_upd (own_upd (own_upd (fun j => .long (pg j)) 0 (.long qq0)) 1 (.long qq1)) 2 (.long qq2)) T1037 h1037 W1037 ⟨X_a1, F_pairs_a1, F_sortedPairs_a1, F_indices_a1, F_sortedIndices_a1, F_numbers_a1, F_count_a1, V_pA, V_pB, V_xA, V_xB, V_cs⟩ (by omega) rfl hq2 (hc2.start) ?_
  intro T1038 h1038 G3 v2 W1038 HS hc3
  obtain ⟨X_a1, F_pairs_a1, F_sortedPairs_a1, F_indices_a1, F_sortedIndices_a1, F_numbers_a1, F_count_a1, V_pA, V_pB, V_xA, V_xB, V_cs⟩ := HS
  show own_Go p e below C T1038 (mkF m 229 #[.val (.ref a1), .val (.long fo), .second, .val (.long so), .second, .val (.int sb), .val (.int bi), .val (.int (2 : Int32)), .val (.int ps), .val (.int dw), .val (.int sz), .val (.ref cs), .val (.int (2 : Int32)), .val (.long qq2), .second, .val (.int v2), .unset, .unset] [])
  refine own_iinc W1038 (3 : Int32) 232 #[.val (.ref a1), .val (.long fo), .second, .val (.long so), .second, .val (.int sb), .val (.int bi), .val (.int (2 : Int32)), .val (.int ps), .val (.int dw), .val (.int sz), .val (.ref cs), .val (.int (3 : Int32)), .val (.long qq2), .second, .val (.int v2), .unset, .unset] d6_229 rfl rfl rfl rfl ?_
  refine own_goto W1038 143 d6_232 (by decide) (by decide) ?_
  refine own_iload W1038 145 d6_143 rfl rfl ?_
  refine own_aloadN W1038 146 d6_145 rfl rfl rfl ?_
  refine own_getfield W1038 149 d6_146 (wd27 hw) F_count_a1 rfl ?_
  intro T1039 W1039
  show own_Go p e below C T1039 (mkF m 149 #[.val (.ref a1), .val (.long fo), .second, .val (.long so), .second, .val (.int sb), .val (.int bi), .val (.int (2 : Int32)), .val (.int ps), .val (.int dw), .val (.int sz), .val (.ref cs), .val (.int (3 : Int32)), .val (.long qq2), .second, .val (.int v2), .unset, .unset] [(.int (3 : Int32)), (.int (3 : Int32))])
  refine own_icmpY W1039 235 d6_149 ((flt ((by decide) : ¬ ((3 : Int32) < (3 : Int32)))).2.1) (by decide) (by decide) ?_
  refine own_iconst W1039 (0 : Int32) 236 d6_235 rfl rfl ?_
  refine own_istore W1039 238 #[.val (.ref a1), .val (.long fo), .second, .val (.long so), .second, .val (.int sb), .val (.int bi), .val (.int (2 : Int32)), .val (.int ps), .val (.int dw), .val (.int sz), .val (.ref cs), .val (.int (0 : Int32)), .val (.long qq2), .second, .val (.int v2), .unset, .unset] d6_236 rfl rfl ?_
  have V_pA : own_A Z h1038 pA .long 3 (fun j => .long ((fun j => if j = 0 then qq0 else if j = 1 then qq1 else qq2) j)) := V_pA.congr (fun j hj => by rcases (by omega : j = 0 ∨ j = 1 ∨ j = 2) with rfl | rfl | rfl <;> rfl)
  have hS1 : own_St Z h1038 a1 pA pB xA xB nb cs (n * sn) (fun j => .long ((fun j => if j = 0 then qq0 else if j = 1 then qq1 else qq2) j)) sf (fun j => .int (Int32.ofNat ((fun j => j) j))) yf G3 := ⟨X_a1, F_pairs_a1, F_sortedPairs_a1, F_indices_a1, F_sortedIndices_a1, F_numbers_a1, F_count_a1, V_pA, V_pB, V_xA, V_xB, V_cs⟩
  obtain ⟨Q, hQ⟩ : ∃ Q : Nat → Nat, Q = fun i => FF i * 2 ^ k2 + SS i := ⟨_, rfl⟩
  have hqs : ∀ j, j < 3 → ((fun j => if j = 0 then qq0 else if j = 1 then qq1 else qq2) j : Int64).toInt = ((Q j : Nat) : Int) := fun j hj => by
    rw [hQ]
    rcases (by omega : j = 0 ∨ j = 1 ∨ j = 2) with rfl | rfl | rfl
    · exact hq0
    · exact hq1
    · exact hq2
  have hcc : ∀ d', 0 ≤ d' → d' < n → ∀ v, v < sn → G3 (d' * sn + v) = own_B3 wn Q d' v := fun d' _ hd' v hv => by
    rw [hc3 d' hd' v hv, hQ]
    simp only [own_B3, Nat.zero_add]
  have hQl : ∀ i, i < 3 → Q i < 2 ^ (n * wn) := fun i hi => by
    rw [hQ]
    exact Nat.lt_of_lt_of_le (own_qlt (fl i hi).1 (fl i hi).2) (Nat.pow_le_pow_right (by decide) hBw)
  have hQK : ∀ i j, i < 3 → j < 3 → (Q i ≤ Q j ↔ FF i * 4294967296 + SS i ≤ FF j * 4294967296 + SS j) := fun i j hi hj => by
    rw [hQ]
    exact own_qk (fl i hi).2 (fl j hj).2 (hS i hi) (hS j hj)
  generalize (fun j => if j = 0 then qq0 else if j = 1 then qq1 else qq2 : Nat → Int64) = pg2 at hS1 hqs
  exact own_s2 l Z a0 hw h0 a1 pA pB xA xB nb FF SS p e s m below meth c C hC T1039 h1038 cs pg2 sf yf fo so sb bi ps dw sz n wn sn G3 Q qq2 v2 W1039 o_cs hS1 hNE hsz hps hn1 hn2 hqs hcc hQl hQK
set_option maxRecDepth 65536 in
set_option maxHeartbeats 40000000 in
theorem own_m6 (l : Launch) (Z : State) (a0 : Array Value) (hw : ∀ d ∈ tables_1, d.before a0 Z = true) (wo : List Jvm.Cond) (h0 : Heap) (a1 : Addr) (pA : Addr) (pB : Addr) (xA : Addr) (xB : Addr) (nb : Addr) (FF : Nat → Nat) (SS : Nat → Nat) (pg : Nat → Int64) (sf : Nat → Value) (yf : Nat → Value) (X_a1 : Exa Z h0 a1 "com/example/nodemata/nodemata/PairNumbers") (F_pairs_a1 : Fld Z h0 a1 "com/example/nodemata/nodemata/PairNumbers" "pairs" "[J" (.ref pA)) (F_sortedPairs_a1 : Fld Z h0 a1 "com/example/nodemata/nodemata/PairNumbers" "sortedPairs" "[J" (.ref pB)) (F_indices_a1 : Fld Z h0 a1 "com/example/nodemata/nodemata/PairNumbers" "indices" "[I" (.ref xA)) (F_sortedIndices_a1 : Fld Z h0 a1 "com/example/nodemata/nodemata/PairNumbers" "sortedIndices" "[I" (.ref xB)) (F_numbers_a1 : Fld Z h0 a1 "com/example/nodemata/nodemata/PairNumbers" "numbers" "[I" (.ref nb)) (F_count_a1 : Fld Z h0 a1 "com/example/nodemata/nodemata/PairNumbers" "count" "I" (.int (3 : Int32))) (V_pA : own_A Z h0 pA .long 3 (fun j => .long (pg j))) (V_pB : own_A Z h0 pB .long 3 sf) (V_xA : own_A Z h0 xA .int 3 (fun j => .int (Int32.ofNat j))) (V_xB : own_A Z h0 xB .int 3 yf) (ne_a1_pA : a1 ≠ pA) (ne_a1_pB : a1 ≠ pB) (ne_a1_xA : a1 ≠ xA) (ne_a1_xB : a1 ≠ xB) (ne_pA_pB : pA ≠ pB) (ne_pA_xA : pA ≠ xA) (ne_pA_xB : pA ≠ xB) (ne_pB_xA : pB ≠ xA) (ne_pB_xB : pB ≠ xB) (ne_xA_xB : xA ≠ xB) (hpg : ∀ j, j < 3 → (pg j).toInt = ((FF j * 4294967296 + SS j : Nat) : Int)) (hF : ∀ j, j < 3 → FF j < 2147483648) (hS : ∀ j, j < 3 → SS j < 2147483648) :
    own_M l Z wo (⟨"com/example/nodemata/nodemata/PairNumbers", "sort", "()V"⟩ : MethodName) prog_83_method_6_code 18 none ({ frames := 2, cells := 1, slots := 124, locals := 29 } : Room) [a1, pA, pB, xA, xB] #[(.ref a1)] h0 (fun v h => v = none ∧ (∃ (pa xa : Addr) (pg : Nat → Int64) (od Q : Nat → Nat), (pa = pA ∨ pa = pB) ∧ (xa = xA ∨ xa = xB) ∧ Fld Z h a1 "com/example/nodemata/nodemata/PairNumbers" "pairs" "[J" (.ref pa) ∧ Fld Z h a1 "com/example/nodemata/nodemata/PairNumbers" "indices" "[I" (.ref xa) ∧ Fld Z h a1 "com/example/nodemata/nodemata/PairNumbers" "numbers" "[I" (.ref nb) ∧ Fld Z h a1 "com/example/nodemata/nodemata/PairNumbers" "count" "I" (.int (3 : Int32)) ∧ own_A Z h pa .long 3 (fun j => .long (pg j)) ∧ own_A Z h xa .int 3 (fun j => .int (Int32.ofNat (od j))) ∧ own_pm od ∧ (∀ j, j < 3 → (pg j).toInt = ((Q (od j) : Nat) : Int)) ∧ Q (od 0) ≤ Q (od 1) ∧ Q (od 1) ≤ Q (od 2) ∧ (∀ i j, i < 3 → j < 3 → (Q i ≤ Q j ↔ FF i * 4294967296 + SS i ≤ FF j * 4294967296 + SS j)))) := by
  refine own_body (plainFor_of_name pn_6) (fun m => ef_m6 m a1) ?_
  intro p e s m below meth c C hC T0 W0
  refine own_lconst W0 (0 : Int64) 1 d6_0 rfl rfl ?_
  refine own_lstoreN W0 2 #[.val (.ref a1), .val (.long (0 : Int64)), .second, .unset, .unset, .unset, .unset, .unset, .unset, .unset, .unset, .unset, .unset, .unset, .unset, .unset, .unset, .unset] d6_1 rfl rfl ?_
  refine own_lconst W0 (0 : Int64) 3 d6_2 rfl rfl ?_
  refine own_lstoreN W0 4 #[.val (.ref a1), .val (.long (0 : Int64)), .second, .val (.long (0 : Int64)), .second, .unset, .unset, .unset, .unset, .unset, .unset, .unset, .unset, .unset, .unset, .unset, .unset, .unset] d6_3 rfl rfl ?_
  refine own_iconst W0 (0 : Int32) 5 d6_4 rfl rfl ?_
  refine own_istore W0 7 #[.val (.ref a1), .val (.long (0 : Int64)), .second, .val (.long (0 : Int64)), .second, .val (.int (0 : Int32)), .unset, .unset, .unset, .unset, .unset, .unset, .unset, .unset, .unset, .unset, .unset, .unset] d6_5 rfl rfl ?_
  refine own_iload W0 9 d6_7 rfl rfl ?_
  refine own_aloadN W0 10 d6_9 rfl rfl rfl ?_
  refine own_getfield W0 13 d6_10 (wd27 hw) F_count_a1 rfl ?_
  intro T1 W1
  show own_Go p e below C T1 (mkF m 13 #[.val (.ref a1), .val (.long (0 : Int64)), .second, .val (.long (0 : Int64)), .second, .val (.int (0 : Int32)), .unset, .unset, .unset, .unset, .unset, .unset, .unset, .unset, .unset, .unset, .unset, .unset] [(.int (3 : Int32)), (.int (0 : Int32))])
  refine own_icmpN W1 16 d6_13 ((tlt ((by decide) : (0 : Int32) < (3 : Int32))).2.1) rfl ?_
  refine own_lloadN W1 17 d6_16 rfl rfl ?_
  refine own_aloadN W1 18 d6_17 rfl rfl rfl ?_
  refine own_getfield W1 21 d6_18 (wd11 hw) F_pairs_a1 rfl ?_
  intro T2 W2
  show own_Go p e below C T2 (mkF m 21 #[.val (.ref a1), .val (.long (0 : Int64)), .second, .val (.long (0 : Int64)), .second, .val (.int (0 : Int32)), .unset, .unset, .unset, .unset, .unset, .unset, .unset, .unset, .unset, .unset, .unset, .unset] [(.ref pA), (.long (0 : Int64))])
  refine own_iload W2 23 d6_21 rfl rfl ?_
  refine own_laload W2 0 (pg 0) 24 d6_23 V_pA rfl (by decide) rfl rfl ?_
  refine own_bipush W2 (32 : Int32) 26 d6_24 rfl rfl ?_
  refine own_lushr W2 27 d6_26 rfl ?_
  refine own_lor W2 28 d6_27 rfl ?_
  refine own_lstoreN W2 29 #[.val (.ref a1), .val (.long ((0 : Int64) ||| (((pg 0).toUInt64 >>> ((32 : Int32) &&& 0x3f).toInt64.toUInt64).toInt64))), .second, .val (.long (0 : Int64)), .second, .val (.int (0 : Int32)), .unset, .unset, .unset, .unset, .unset, .unset, .unset, .unset, .unset, .unset, .unset, .unset] d6_28 rfl rfl ?_
  refine own_lloadN W2 30 d6_29 rfl rfl ?_
  refine own_aloadN W2 31 d6_30 rfl rfl rfl ?_
  refine own_getfield W2 34 d6_31 (wd11 hw) F_pairs_a1 rfl ?_
  intro T3 W3
  show own_Go p e below C T3 (mkF m 34 #[.val (.ref a1), .val (.long ((0 : Int64) ||| (((pg 0).toUInt64 >>> ((32 : Int32) &&& 0x3f).toInt64.toUInt64).toInt64))), .second, .val (.long (0 : Int64)), .second, .val (.int (0 : Int32)), .unset, .unset, .unset, .unset, .unset, .unset, .unset, .unset, .unset, .unset, .unset, .unset] [(.ref pA), (.long (0 : Int64))])
  refine own_iload W3 36 d6_34 rfl rfl ?_
  refine own_laload W3 0 (pg 0) 37 d6_36 V_pA rfl (by decide) rfl rfl ?_
  refine own_ldc2Long W3 40 d6_37 (wd45 hw) rfl ?_
  refine own_land W3 41 d6_40 rfl ?_
  refine own_lor W3 42 d6_41 rfl ?_
  refine own_lstoreN W3 43 #[.val (.ref a1), .val (.long ((0 : Int64) ||| (((pg 0).toUInt64 >>> ((32 : Int32) &&& 0x3f).toInt64.toUInt64).toInt64))), .second, .val (.long ((0 : Int64) ||| ((pg 0) &&& (4294967295 : Int64)))), .second, .val (.int (0 : Int32)), .unset, .unset, .unset, .unset, .unset, .unset, .unset, .unset, .unset, .unset, .unset, .unset] d6_42 rfl rfl ?_
  refine own_iinc W3 (1 : Int32) 46 #[.val (.ref a1), .val (.long ((0 : Int64) ||| (((pg 0).toUInt64 >>> ((32 : Int32) &&& 0x3f).toInt64.toUInt64).toInt64))), .second, .val (.long ((0 : Int64) ||| ((pg 0) &&& (4294967295 : Int64)))), .second, .val (.int (1 : Int32)), .unset, .unset, .unset, .unset, .unset, .unset, .unset, .unset, .unset, .unset, .unset, .unset] d6_43 rfl rfl rfl rfl ?_
  refine own_goto W3 7 d6_46 (by decide) (by decide) ?_
  refine own_iload W3 9 d6_7 rfl rfl ?_
  refine own_aloadN W3 10 d6_9 rfl rfl rfl ?_
  refine own_getfield W3 13 d6_10 (wd27 hw) F_count_a1 rfl ?_
  intro T4 W4
  show own_Go p e below C T4 (mkF m 13 #[.val (.ref a1), .val (.long ((0 : Int64) ||| (((pg 0).toUInt64 >>> ((32 : Int32) &&& 0x3f).toInt64.toUInt64).toInt64))), .second, .val (.long ((0 : Int64) ||| ((pg 0) &&& (4294967295 : Int64)))), .second, .val (.int (1 : Int32)), .unset, .unset, .unset, .unset, .unset, .unset, .unset, .unset, .unset, .unset, .unset, .unset] [(.int (3 : Int32)), (.int (1 : Int32))])
  refine own_icmpN W4 16 d6_13 ((tlt ((by decide) : (1 : Int32) < (3 : Int32))).2.1) rfl ?_
  refine own_lloadN W4 17 d6_16 rfl rfl ?_
  refine own_aloadN W4 18 d6_17 rfl rfl rfl ?_
  refine own_getfield W4 21 d6_18 (wd11 hw) F_pairs_a1 rfl ?_
  intro T5 W5
  show own_Go p e below C T5 (mkF m 21 #[.val (.ref a1), .val (.long ((0 : Int64) ||| (((pg 0).toUInt64 >>> ((32 : Int32) &&& 0x3f).toInt64.toUInt64).toInt64))), .second, .val (.long ((0 : Int64) ||| ((pg 0) &&& (4294967295 : Int64)))), .second, .val (.int (1 : Int32)), .unset, .unset, .unset, .unset, .unset, .unset, .unset, .unset, .unset, .unset, .unset, .unset] [(.ref pA), (.long ((0 : Int64) ||| (((pg 0).toUInt64 >>> ((32 : Int32) &&& 0x3f).toInt64.toUInt64).toInt64)))])
  refine own_iload W5 23 d6_21 rfl rfl ?_
  refine own_laload W5 1 (pg 1) 24 d6_23 V_pA rfl (by decide) rfl rfl ?_
  refine own_bipush W5 (32 : Int32) 26 d6_24 rfl rfl ?_
  refine own_lushr W5 27 d6_26 rfl ?_
  refine own_lor W5 28 d6_27 rfl ?_
  refine own_lstoreN W5 29 #[.val (.ref a1), .val (.long (((0 : Int64) ||| (((pg 0).toUInt64 >>> ((32 : Int32) &&& 0x3f).toInt64.toUInt64).toInt64)) ||| (((pg 1).toUInt64 >>> ((32 : Int32) &&& 0x3f).toInt64.toUInt64).toInt64))), .second, .val (.long ((0 : Int64) ||| ((pg 0) &&& (4294967295 : Int64)))), .second, .val (.int (1 : Int32)), .unset, .unset, .unset, .unset, .unset, .unset, .unset, .unset, .unset, .unset, .unset, .unset] d6_28 rfl rfl ?_
  refine own_lloadN W5 30 d6_29 rfl rfl ?_
  refine own_aloadN W5 31 d6_30 rfl rfl rfl ?_
  refine own_getfield W5 34 d6_31 (wd11 hw) F_pairs_a1 rfl ?_
  intro T6 W6
  show own_Go p e below C T6 (mkF m 34 #[.val (.ref a1), .val (.long (((0 : Int64) ||| (((pg 0).toUInt64 >>> ((32 : Int32) &&& 0x3f).toInt64.toUInt64).toInt64)) ||| (((pg 1).toUInt64 >>> ((32 : Int32) &&& 0x3f).toInt64.toUInt64).toInt64))), .second, .val (.long ((0 : Int64) ||| ((pg 0) &&& (4294967295 : Int64)))), .second, .val (.int (1 : Int32)), .unset, .unset, .unset, .unset, .unset, .unset, .unset, .unset, .unset, .unset, .unset, .unset] [(.ref pA), (.long ((0 : Int64) ||| ((pg 0) &&& (4294967295 : Int64))))])
  refine own_iload W6 36 d6_34 rfl rfl ?_
  refine own_laload W6 1 (pg 1) 37 d6_36 V_pA rfl (by decide) rfl rfl ?_
  refine own_ldc2Long W6 40 d6_37 (wd45 hw) rfl ?_
  refine own_land W6 41 d6_40 rfl ?_
  refine own_lor W6 42 d6_41 rfl ?_
  refine own_lstoreN W6 43 #[.val (.ref a1), .val (.long (((0 : Int64) ||| (((pg 0).toUInt64 >>> ((32 : Int32) &&& 0x3f).toInt64.toUInt64).toInt64)) ||| (((pg 1).toUInt64 >>> ((32 : Int32) &&& 0x3f).toInt64.toUInt64).toInt64))), .second, .val (.long (((0 : Int64) ||| ((pg 0) &&& (4294967295 : Int64))) ||| ((pg 1) &&& (4294967295 : Int64)))), .second, .val (.int (1 : Int32)), .unset, .unset, .unset, .unset, .unset, .unset, .unset, .unset, .unset, .unset, .unset, .unset] d6_42 rfl rfl ?_
  refine own_iinc W6 (2 : Int32) 46 #[.val (.ref a1), .val (.long (((0 : Int64) ||| (((pg 0).toUInt64 >>> ((32 : Int32) &&& 0x3f).toInt64.toUInt64).toInt64)) ||| (((pg 1).toUInt64 >>> ((32 : Int32) &&& 0x3f).toInt64.toUInt64).toInt64))), .second, .val (.long (((0 : Int64) ||| ((pg 0) &&& (4294967295 : Int64))) ||| ((pg 1) &&& (4294967295 : Int64)))), .second, .val (.int (2 : Int32)), .unset, .unset, .unset, .unset, .unset, .unset, .unset, .unset, .unset, .unset, .unset, .unset] d6_43 rfl rfl rfl rfl ?_
  refine own_goto W6 7 d6_46 (by decide) (by decide) ?_
  refine own_iload W6 9 d6_7 rfl rfl ?_
  refine own_aloadN W6 10 d6_9 rfl rfl rfl ?_
  refine own_getfield W6 13 d6_10 (wd27 hw) F_count_a1 rfl ?_
  intro T7 W7
  show own_Go p e below C T7 (mkF m 13 #[.val (.ref a1), .val (.long (((0 : Int64) ||| (((pg 0).toUInt64 >>> ((32 : Int32) &&& 0x3f).toInt64.toUInt64).toInt64)) ||| (((pg 1).toUInt64 >>> ((32 : Int32) &&& 0x3f).toInt64.toUInt64).toInt64))), .second, .val (.long (((0 : Int64) ||| ((pg 0) &&& (4294967295 : Int64))) ||| ((pg 1) &&& (4294967295 : Int64)))), .second, .val (.int (2 : Int32)), .unset, .unset, .unset, .unset, .unset, .unset, .unset, .unset, .unset, .unset, .unset, .unset] [(.int (3 : Int32)), (.int (2 : Int32))])
  refine own_icmpN W7 16 d6_13 ((tlt ((by decide) : (2 : Int32) < (3 : Int32))).2.1) rfl ?_
  refine own_lloadN W7 17 d6_16 rfl rfl ?_
  refine own_aloadN W7 18 d6_17 rfl rfl rfl ?_
  refine own_getfield W7 21 d6_18 (wd11 hw) F_pairs_a1 rfl ?_
  intro T8 W8
  show own_Go p e below C T8 (mkF m 21 #[.val (.ref a1), .val (.long (((0 : Int64) ||| (((pg 0).toUInt64 >>> ((32 : Int32) &&& 0x3f).toInt64.toUInt64).toInt64)) ||| (((pg 1).toUInt64 >>> ((32 : Int32) &&& 0x3f).toInt64.toUInt64).toInt64))), .second, .val (.long (((0 : Int64) ||| ((pg 0) &&& (4294967295 : Int64))) ||| ((pg 1) &&& (4294967295 : Int64)))), .second, .val (.int (2 : Int32)), .unset, .unset, .unset, .unset, .unset, .unset, .unset, .unset, .unset, .unset, .unset, .unset] [(.ref pA), (.long (((0 : Int64) ||| (((pg 0).toUInt64 >>> ((32 : Int32) &&& 0x3f).toInt64.toUInt64).toInt64)) ||| (((pg 1).toUInt64 >>> ((32 : Int32) &&& 0x3f).toInt64.toUInt64).toInt64)))])
  refine own_iload W8 23 d6_21 rfl rfl ?_
  refine own_laload W8 2 (pg 2) 24 d6_23 V_pA rfl (by decide) rfl rfl ?_
  refine own_bipush W8 (32 : Int32) 26 d6_24 rfl rfl ?_
  refine own_lushr W8 27 d6_26 rfl ?_
  refine own_lor W8 28 d6_27 rfl ?_
  refine own_lstoreN W8 29 #[.val (.ref a1), .val (.long ((((0 : Int64) ||| (((pg 0).toUInt64 >>> ((32 : Int32) &&& 0x3f).toInt64.toUInt64).toInt64)) ||| (((pg 1).toUInt64 >>> ((32 : Int32) &&& 0x3f).toInt64.toUInt64).toInt64)) ||| (((pg 2).toUInt64 >>> ((32 : Int32) &&& 0x3f).toInt64.toUInt64).toInt64))), .second, .val (.long (((0 : Int64) ||| ((pg 0) &&& (4294967295 : Int64))) ||| ((pg 1) &&& (4294967295 : Int64)))), .second, .val (.int (2 : Int32)), .unset, .unset, .unset, .unset, .unset, .unset, .unset, .unset, .unset, .unset, .unset, .unset] d6_28 rfl rfl ?_
  refine own_lloadN W8 30 d6_29 rfl rfl ?_
  refine own_aloadN W8 31 d6_30 rfl rfl rfl ?_
  refine own_getfield W8 34 d6_31 (wd11 hw) F_pairs_a1 rfl ?_
  intro T9 W9
  show own_Go p e below C T9 (mkF m 34 #[.val (.ref a1), .val (.long ((((0 : Int64) ||| (((pg 0).toUInt64 >>> ((32 : Int32) &&& 0x3f).toInt64.toUInt64).toInt64)) ||| (((pg 1).toUInt64 >>> ((32 : Int32) &&& 0x3f).toInt64.toUInt64).toInt64)) ||| (((pg 2).toUInt64 >>> ((32 : Int32) &&& 0x3f).toInt64.toUInt64).toInt64))), .second, .val (.long (((0 : Int64) ||| ((pg 0) &&& (4294967295 : Int64))) ||| ((pg 1) &&& (4294967295 : Int64)))), .second, .val (.int (2 : Int32)), .unset, .unset, .unset, .unset, .unset, .unset, .unset, .unset, .unset, .unset, .unset, .unset] [(.ref pA), (.long (((0 : Int64) ||| ((pg 0) &&& (4294967295 : Int64))) ||| ((pg 1) &&& (4294967295 : Int64))))])
  refine own_iload W9 36 d6_34 rfl rfl ?_
  refine own_laload W9 2 (pg 2) 37 d6_36 V_pA rfl (by decide) rfl rfl ?_
  refine own_ldc2Long W9 40 d6_37 (wd45 hw) rfl ?_
  refine own_land W9 41 d6_40 rfl ?_
  refine own_lor W9 42 d6_41 rfl ?_
  refine own_lstoreN W9 43 #[.val (.ref a1), .val (.long ((((0 : Int64) ||| (((pg 0).toUInt64 >>> ((32 : Int32) &&& 0x3f).toInt64.toUInt64).toInt64)) ||| (((pg 1).toUInt64 >>> ((32 : Int32) &&& 0x3f).toInt64.toUInt64).toInt64)) ||| (((pg 2).toUInt64 >>> ((32 : Int32) &&& 0x3f).toInt64.toUInt64).toInt64))), .second, .val (.long ((((0 : Int64) ||| ((pg 0) &&& (4294967295 : Int64))) ||| ((pg 1) &&& (4294967295 : Int64))) ||| ((pg 2) &&& (4294967295 : Int64)))), .second, .val (.int (2 : Int32)), .unset, .unset, .unset, .unset, .unset, .unset, .unset, .unset, .unset, .unset, .unset, .unset] d6_42 rfl rfl ?_
  refine own_iinc W9 (3 : Int32) 46 #[.val (.ref a1), .val (.long ((((0 : Int64) ||| (((pg 0).toUInt64 >>> ((32 : Int32) &&& 0x3f).toInt64.toUInt64).toInt64)) ||| (((pg 1).toUInt64 >>> ((32 : Int32) &&& 0x3f).toInt64.toUInt64).toInt64)) ||| (((pg 2).toUInt64 >>> ((32 : Int32) &&& 0x3f).toInt64.toUInt64).toInt64))), .second, .val (.long ((((0 : Int64) ||| ((pg 0) &&& (4294967295 : Int64))) ||| ((pg 1) &&& (4294967295 : Int64))) ||| ((pg 2) &&& (4294967295 : Int64)))), .second, .val (.int (3 : Int32)), .unset, .unset, .unset, .unset, .unset, .unset, .unset, .unset, .unset, .unset, .unset, .unset] d6_43 rfl rfl rfl rfl ?_
  refine own_goto W9 7 d6_46 (by decide) (by decide) ?_
  refine own_iload W9 9 d6_7 rfl rfl ?_
  refine own_aloadN W9 10 d6_9 rfl rfl rfl ?_
  refine own_getfield W9 13 d6_10 (wd27 hw) F_count_a1 rfl ?_
  intro T10 W10
  show own_Go p e below C T10 (mkF m 13 #[.val (.ref a1), .val (.long ((((0 : Int64) ||| (((pg 0).toUInt64 >>> ((32 : Int32) &&& 0x3f).toInt64.toUInt64).toInt64)) ||| (((pg 1).toUInt64 >>> ((32 : Int32) &&& 0x3f).toInt64.toUInt64).toInt64)) ||| (((pg 2).toUInt64 >>> ((32 : Int32) &&& 0x3f).toInt64.toUInt64).toInt64))), .second, .val (.long ((((0 : Int64) ||| ((pg 0) &&& (4294967295 : Int64))) ||| ((pg 1) &&& (4294967295 : Int64))) ||| ((pg 2) &&& (4294967295 : Int64)))), .second, .val (.int (3 : Int32)), .unset, .unset, .unset, .unset, .unset, .unset, .unset, .unset, .unset, .unset, .unset, .unset] [(.int (3 : Int32)), (.int (3 : Int32))])
  refine own_icmpY W10 49 d6_13 ((flt ((by decide) : ¬ ((3 : Int32) < (3 : Int32)))).2.1) (by decide) (by decide) ?_
  obtain ⟨fO, hfo, hf0, hf1, hf2, hf3⟩ := own_or3 (own_hi32 (hpg 0 (by omega)) (hS 0 (by omega))) (own_hi32 (hpg 1 (by omega)) (hS 1 (by omega))) (own_hi32 (hpg 2 (by omega)) (hS 2 (by omega))) (hF 0 (by omega)) (hF 1 (by omega)) (hF 2 (by omega))
  obtain ⟨sO, hso, hs0, hs1, hs2, hs3⟩ := own_or3 (own_lo32 (hpg 0 (by omega)) (hS 0 (by omega))) (own_lo32 (hpg 1 (by omega)) (hS 1 (by omega))) (own_lo32 (hpg 2 (by omega)) (hS 2 (by omega))) (hS 0 (by omega)) (hS 1 (by omega)) (hS 2 (by omega))
  generalize h_fo : ((((0 : Int64) ||| (((pg 0).toUInt64 >>> ((32 : Int32) &&& 0x3f).toInt64.toUInt64).toInt64)) ||| (((pg 1).toUInt64 >>> ((32 : Int32) &&& 0x3f).toInt64.toUInt64).toInt64)) ||| (((pg 2).toUInt64 >>> ((32 : Int32) &&& 0x3f).toInt64.toUInt64).toInt64)) = fo at hfo ⊢
  show own_Go p e below C T10 (mkF m 49 #[.val (.ref a1), .val (.long fo), .second, .val (.long ((((0 : Int64) ||| ((pg 0) &&& (4294967295 : Int64))) ||| ((pg 1) &&& (4294967295 : Int64))) ||| ((pg 2) &&& (4294967295 : Int64)))), .second, .val (.int (3 : Int32)), .unset, .unset, .unset, .unset, .unset, .unset, .unset, .unset, .unset, .unset, .unset, .unset] [])
  generalize h_so : ((((0 : Int64) ||| ((pg 0) &&& (4294967295 : Int64))) ||| ((pg 1) &&& (4294967295 : Int64))) ||| ((pg 2) &&& (4294967295 : Int64))) = so at hso ⊢
  show own_Go p e below C T10 (mkF m 49 #[.val (.ref a1), .val (.long fo), .second, .val (.long so), .second, .val (.int (3 : Int32)), .unset, .unset, .unset, .unset, .unset, .unset, .unset, .unset, .unset, .unset, .unset, .unset] [])
  refine own_bipush W10 (64 : Int32) 51 d6_49 rfl rfl ?_
  refine own_lloadN W10 52 d6_51 rfl rfl ?_
  refine own_callS W10 (A := [(.long so)]) (wt := 1) (pc' := 55) (st := [(.int (64 : Int32))]) d6_52 (wd46 hw) (wd47 hw) (wd48 hw) (wd49 hw) (by decide) (own_m7 l Z a0 hw [] h0 so sO hso hs3) all0 rfl pd_2 rfl (Nat.le_of_eq rfl) (by decide) (by decide) (by decide) (by decide) rfl ?_
  rintro T11 h11 _ W11 K11 P11 ⟨r1, k2, rfl, hr1, hk2a, hk2b⟩
  rw [P11 rfl rfl] at W11
  show own_Go p e below C T11 (mkF m 55 #[.val (.ref a1), .val (.long fo), .second, .val (.long so), .second, .val (.int (3 : Int32)), .unset, .unset, .unset, .unset, .unset, .unset, .unset, .unset, .unset, .unset, .unset, .unset] [(.int r1), (.int (64 : Int32))])
  refine own_isub W11 56 d6_55 rfl ?_
  have hsb : ((64 : Int32) - r1).toInt = (k2 : Int) := by
    rw [own_subN (i := 64) rfl hr1 (by omega)]
    congr 1
    omega
  generalize h_sb : ((64 : Int32) - r1) = sb at hsb ⊢
  show own_Go p e below C T11 (mkF m 56 #[.val (.ref a1), .val (.long fo), .second, .val (.long so), .second, .val (.int (3 : Int32)), .unset, .unset, .unset, .unset, .unset, .unset, .unset, .unset, .unset, .unset, .unset, .unset] [(.int sb)])
  refine own_istore W11 58 #[.val (.ref a1), .val (.long fo), .second, .val (.long so), .second, .val (.int sb), .unset, .unset, .unset, .unset, .unset, .unset, .unset, .unset, .unset, .unset, .unset, .unset] d6_56 rfl rfl ?_
  refine own_iload W11 60 d6_58 rfl rfl ?_
  refine own_bipush W11 (64 : Int32) 62 d6_60 rfl rfl ?_
  refine own_iadd W11 63 d6_62 rfl ?_
  refine own_lloadN W11 64 d6_63 rfl rfl ?_
  refine own_callS W11 (A := [(.long fo)]) (wt := 1) (pc' := 67) (st := [(.int (sb + (64 : Int32)))]) d6_64 (wd46 hw) (wd47 hw) (wd48 hw) (wd49 hw) (by decide) (own_m7 l Z a0 hw [] h0 fo fO hfo hf3) all0 rfl pd_2 rfl (Nat.le_of_eq rfl) (by decide) (by decide) (by decide) (by decide) rfl ?_
  rintro T12 h12 _ W12 K12 P12 ⟨r2, k1, rfl, hr2, hk1a, hk1b⟩
  rw [P12 rfl rfl] at W12
  show own_Go p e below C T12 (mkF m 67 #[.val (.ref a1), .val (.long fo), .second, .val (.long so), .second, .val (.int sb), .unset, .unset, .unset, .unset, .unset, .unset, .unset, .unset, .unset, .unset, .unset, .unset] [(.int r2), (.int (sb + (64 : Int32)))])
  refine own_isub W12 68 d6_67 rfl ?_
  have hbi : ((sb + (64 : Int32)) - r2).toInt = ((k2 + k1 : Nat) : Int) := by
    rw [own_subN (own_addN hsb (j := 64) rfl (by omega)) hr2 (by omega)]
    congr 1
    omega
  generalize h_bi : ((sb + (64 : Int32)) - r2) = bi at hbi ⊢
  show own_Go p e below C T12 (mkF m 68 #[.val (.ref a1), .val (.long fo), .second, .val (.long so), .second, .val (.int sb), .unset, .unset, .unset, .unset, .unset, .unset, .unset, .unset, .unset, .unset, .unset, .unset] [(.int bi)])
  refine own_istore W12 70 #[.val (.ref a1), .val (.long fo), .second, .val (.long so), .second, .val (.int sb), .val (.int bi), .unset, .unset, .unset, .unset, .unset, .unset, .unset, .unset, .unset, .unset, .unset] d6_68 rfl rfl ?_
  refine own_iload W12 72 d6_70 rfl rfl ?_
  by_cases c13 : bi = (0 : Int32)
  · refine own_ifY W12 83 d6_72 ((if0 _ _).trans (teq c13).1) (by decide) (by decide) ?_
    have hb0 : k2 + k1 = 0 := own_inj32 c13 hbi rfl
    obtain rfl : k2 = 0 := by omega
    obtain rfl : k1 = 0 := by omega
    have z1 : fO = 0 := by omega
    have z2 : sO = 0 := by omega
    have fz : ∀ j, j < 3 → FF j * 4294967296 + SS j = 0 := fun j hj => by
      rcases (by omega : j = 0 ∨ j = 1 ∨ j = 2) with rfl | rfl | rfl <;> omega
    refine own_retV (Q := fun v h => v = none ∧ (∃ (pa xa : Addr) (pg : Nat → Int64) (od Q : Nat → Nat), (pa = pA ∨ pa = pB) ∧ (xa = xA ∨ xa = xB) ∧ Fld Z h a1 "com/example/nodemata/nodemata/PairNumbers" "pairs" "[J" (.ref pa) ∧ Fld Z h a1 "com/example/nodemata/nodemata/PairNumbers" "indices" "[I" (.ref xa) ∧ Fld Z h a1 "com/example/nodemata/nodemata/PairNumbers" "numbers" "[I" (.ref nb) ∧ Fld Z h a1 "com/example/nodemata/nodemata/PairNumbers" "count" "I" (.int (3 : Int32)) ∧ own_A Z h pa .long 3 (fun j => .long (pg j)) ∧ own_A Z h xa .int 3 (fun j => .int (Int32.ofNat (od j))) ∧ own_pm od ∧ (∀ j, j < 3 → (pg j).toInt = ((Q (od j) : Nat) : Int)) ∧ Q (od 0) ≤ Q (od 1) ∧ Q (od 1) ≤ Q (od 2) ∧ (∀ i j, i < 3 → j < 3 → (Q i ≤ Q j ↔ FF i * 4294967296 + SS i ≤ FF j * 4294967296 + SS j)))) W12 hC (by decide) (by decide) d6_83 ?_
    exact ⟨rfl, ⟨pA, xA, pg, fun j => j, fun i => FF i * 4294967296 + SS i, Or.inl rfl, Or.inl rfl, F_pairs_a1, F_indices_a1, F_numbers_a1, F_count_a1, V_pA, V_xA, Or.inl ⟨rfl, rfl, rfl⟩, hpg, Nat.le_of_eq ((fz 0 (by omega)).trans (fz 1 (by omega)).symm), Nat.le_of_eq ((fz 1 (by omega)).trans (fz 2 (by omega)).symm), fun i j _ _ => Iff.rfl⟩⟩
  · refine own_ifN W12 75 d6_72 ((if0 _ _).trans (feq c13).1) rfl ?_
    have hb1 : 1 ≤ k2 + k1 := by
      have h9 := c13
      by_cases q : k2 + k1 = 0
      · exact absurd (own_lit32 hbi _ (by rw [q]; rfl)) h9
      · omega
    refine own_aloadN W12 76 d6_75 rfl rfl rfl ?_
    refine own_getfield W12 79 d6_76 (wd27 hw) F_count_a1 rfl ?_
    intro T14 W14
    show own_Go p e below C T14 (mkF m 79 #[.val (.ref a1), .val (.long fo), .second, .val (.long so), .second, .val (.int sb), .val (.int bi), .unset, .unset, .unset, .unset, .unset, .unset, .unset, .unset, .unset, .unset, .unset] [(.int (3 : Int32))])
    refine own_iconst W14 (2 : Int32) 80 d6_79 rfl rfl ?_
    refine own_icmpY W14 84 d6_80 ((flt ((by decide) : ¬ ((3 : Int32) < (2 : Int32)))).2.1) (by decide) (by decide) ?_
    refine own_bipush W14 (11 : Int32) 86 d6_84 rfl rfl ?_
    refine own_bipush W14 (32 : Int32) 88 d6_86 rfl rfl ?_
    refine own_aloadN W14 89 d6_88 rfl rfl rfl ?_
    refine own_getfield W14 92 d6_89 (wd27 hw) F_count_a1 rfl ?_
    intro T15 W15
    show own_Go p e below C T15 (mkF m 92 #[.val (.ref a1), .val (.long fo), .second, .val (.long so), .second, .val (.int sb), .val (.int bi), .unset, .unset, .unset, .unset, .unset, .unset, .unset, .unset, .unset, .unset, .unset] [(.int (3 : Int32)), (.int (32 : Int32)), (.int (11 : Int32))])
    refine own_callS W15 (A := [(.int (3 : Int32))]) (wt := 2) (pc' := 95) (st := [(.int (32 : Int32)), (.int (11 : Int32))]) d6_92 (wd55 hw) (wd51 hw) (wd52 hw) (wd53 hw) (by decide) (own_m8c l Z a0 hw [] h0) all0 rfl pd_1 rfl (Nat.le_of_eq rfl) (by decide) (by decide) (by decide) (by decide) rfl ?_
    rintro T16 h16 _ W16 K16 P16 rfl
    rw [P16 rfl rfl] at W16
    show own_Go p e below C T16 (mkF m 95 #[.val (.ref a1), .val (.long fo), .second, .val (.long so), .second, .val (.int sb), .val (.int bi), .unset, .unset, .unset, .unset, .unset, .unset, .unset, .unset, .unset, .unset, .unset] [(.int (30 : Int32)), (.int (32 : Int32)), (.int (11 : Int32))])
    refine own_isub W16 96 d6_95 rfl ?_
    rw [show ((32 : Int32) - (30 : Int32)) = (2 : Int32) from rfl]
    refine own_callS W16 (A := [(.int (11 : Int32)), (.int (2 : Int32))]) (wt := 0) (pc' := 99) (st := []) d6_96 (wd56 hw) (wd57 hw) (wd58 hw) (wd59 hw) (by decide) (own_m9 l Z a0 hw [] h0 (11 : Int32) (2 : Int32)) all0 rfl pd_3 rfl (Nat.le_of_eq rfl) (by decide) (by decide) (by decide) (by decide) rfl ?_
    rintro T17 h17 _ W17 K17 P17 rfl
    rw [P17 rfl rfl] at W17
    show own_Go p e below C T17 (mkF m 99 #[.val (.ref a1), .val (.long fo), .second, .val (.long so), .second, .val (.int sb), .val (.int bi), .unset, .unset, .unset, .unset, .unset, .unset, .unset, .unset, .unset, .unset, .unset] [(.int (if (2 : Int32) < (11 : Int32) then (2 : Int32) else (11 : Int32)))])
    rw [show (if (2 : Int32) < (11 : Int32) then (2 : Int32) else (11 : Int32)) = (2 : Int32) from (by decide)]
    refine own_istore W17 101 #[.val (.ref a1), .val (.long fo), .second, .val (.long so), .second, .val (.int sb), .val (.int bi), .val (.int (2 : Int32)), .unset, .unset, .unset, .unset, .unset, .unset, .unset, .unset, .unset, .unset] d6_99 rfl rfl ?_
    refine own_iload W17 103 d6_101 rfl rfl ?_
    refine own_iload W17 105 d6_103 rfl rfl ?_
    refine own_iadd W17 106 d6_105 rfl ?_
    refine own_iconst W17 (1 : Int32) 107 d6_106 rfl rfl ?_
    refine own_isub W17 108 d6_107 rfl ?_
    refine own_iload W17 110 d6_108 rfl rfl ?_
    refine own_idiv W17 111 d6_110 (by decide) rfl ?_
    obtain ⟨n, hn⟩ : ∃ n, n = (k2 + k1 + 2 - 1) / 2 := ⟨_, rfl⟩
    have hps : (((bi + (2 : Int32)) - (1 : Int32)) / (2 : Int32)).toInt = (n : Int) := by
      rw [hn]
      exact own_divN (own_subN (own_addN hbi (j := 2) rfl (by omega)) (j := 1) rfl (by omega)) (j := 2) rfl
    generalize h_ps : (((bi + (2 : Int32)) - (1 : Int32)) / (2 : Int32)) = ps at hps ⊢
    show own_Go p e below C T17 (mkF m 111 #[.val (.ref a1), .val (.long fo), .second, .val (.long so), .second, .val (.int sb), .val (.int bi), .val (.int (2 : Int32)), .unset, .unset, .unset, .unset, .unset, .unset, .unset, .unset, .unset, .unset] [(.int ps)])
    refine own_istore W17 113 #[.val (.ref a1), .val (.long fo), .second, .val (.long so), .second, .val (.int sb), .val (.int bi), .val (.int (2 : Int32)), .val (.int ps), .unset, .unset, .unset, .unset, .unset, .unset, .unset, .unset, .unset] d6_111 rfl rfl ?_
    refine own_iload W17 115 d6_113 rfl rfl ?_
    refine own_iload W17 117 d6_115 rfl rfl ?_
    refine own_iadd W17 118 d6_117 rfl ?_
    refine own_iconst W17 (1 : Int32) 119 d6_118 rfl rfl ?_
    refine own_isub W17 120 d6_119 rfl ?_
    refine own_iload W17 122 d6_120 rfl rfl ?_
    refine own_idiv W17 123 d6_122 (own_nz32 hps (by omega)) rfl ?_
    obtain ⟨wn, hwn⟩ : ∃ wn, wn = (k2 + k1 + n - 1) / n := ⟨_, rfl⟩
    obtain ⟨hw12, hn1, hn2, hBw⟩ := own_plan hb1 (by omega) hn hwn
    have hdw : (((bi + ps) - (1 : Int32)) / ps).toInt = (wn : Int) := by
      rw [hwn]
      exact own_divN (own_subN (own_addN hbi hps (by omega)) (j := 1) rfl (by omega)) hps
    generalize h_dw : (((bi + ps) - (1 : Int32)) / ps) = dw at hdw ⊢
    show own_Go p e below C T17 (mkF m 123 #[.val (.ref a1), .val (.long fo), .second, .val (.long so), .second, .val (.int sb), .val (.int bi), .val (.int (2 : Int32)), .val (.int ps), .unset, .unset, .unset, .unset, .unset, .unset, .unset, .unset, .unset] [(.int dw)])
    refine own_istore W17 125 #[.val (.ref a1), .val (.long fo), .second, .val (.long so), .second, .val (.int sb), .val (.int bi), .val (.int (2 : Int32)), .val (.int ps), .val (.int dw), .unset, .unset, .unset, .unset, .unset, .unset, .unset, .unset] d6_123 rfl rfl ?_
    refine own_iconst W17 (1 : Int32) 126 d6_125 rfl rfl ?_
    refine own_iload W17 128 d6_126 rfl rfl ?_
    refine own_ishl W17 129 d6_128 rfl ?_
    obtain ⟨sn, hsz⟩ := own_szs hdw hw12
    generalize h_sz : ((1 : Int32) <<< (dw &&& 31)) = sz at hsz ⊢
    show own_Go p e below C T17 (mkF m 129 #[.val (.ref a1), .val (.long fo), .second, .val (.long so), .second, .val (.int sb), .val (.int bi), .val (.int (2 : Int32)), .val (.int ps), .val (.int dw), .unset, .unset, .unset, .unset, .unset, .unset, .unset, .unset] [(.int sz)])
    have hsz : (wn = 1 ∧ dw = 1 ∧ sz = 2 ∧ sn = 2) ∨ (wn = 2 ∧ dw = 2 ∧ sz = 4 ∧ sn = 4) := hsz
    obtain ⟨hszI, -, hs24, hsp, hwz, -, -⟩ := own_szI hsz
    have hNN := own_szM hsz hn2
    refine own_istore W17 131 #[.val (.ref a1), .val (.long fo), .second, .val (.long so), .second, .val (.int sb), .val (.int bi), .val (.int (2 : Int32)), .val (.int ps), .val (.int dw), .val (.int sz), .unset, .unset, .unset, .unset, .unset, .unset, .unset] d6_129 rfl rfl ?_
    refine own_iload W17 133 d6_131 rfl rfl ?_
    refine own_iload W17 135 d6_133 rfl rfl ?_
    refine own_imul W17 136 d6_135 rfl ?_
    refine own_newarray W17 (n * sn) 124 138 d6_136 (wd15 hw) (own_mulN hps hszI (by omega)) hNN (by decide) (by decide) (by decide) rfl ?_
    intro T18 h18 cs W18 E18 g_cs o_cs V_cs
    have ne_a1_cs : a1 ≠ cs := by rw [g_cs]; exact Nat.ne_of_lt X_a1.lt
    have ne_pA_cs : pA ≠ cs := by rw [g_cs]; exact Nat.ne_of_lt V_pA.lt
    have ne_pB_cs : pB ≠ cs := by rw [g_cs]; exact Nat.ne_of_lt V_pB.lt
    have ne_xA_cs : xA ≠ cs := by rw [g_cs]; exact Nat.ne_of_lt V_xA.lt
    have ne_xB_cs : xB ≠ cs := by rw [g_cs]; exact Nat.ne_of_lt V_xB.lt
    have X_a1 := X_a1.ext E18
    have F_pairs_a1 := F_pairs_a1.ext E18
    have F_sortedPairs_a1 := F_sortedPairs_a1.ext E18
    have F_indices_a1 := F_indices_a1.ext E18
    have F_sortedIndices_a1 := F_sortedIndices_a1.ext E18
    have F_numbers_a1 := F_numbers_a1.ext E18
    have F_count_a1 := F_count_a1.ext E18
    have V_pA := V_pA.ext E18
    have V_pB := V_pB.ext E18
    have V_xA := V_xA.ext E18
    have V_xB := V_xB.ext E18
    show own_Go p e below C T18 (mkF m 138 #[.val (.ref a1), .val (.long fo), .second, .val (.long so), .second, .val (.int sb), .val (.int bi), .val (.int (2 : Int32)), .val (.int ps), .val (.int dw), .val (.int sz), .unset, .unset, .unset, .unset, .unset, .unset, .unset] [(.ref cs)])
    obtain ⟨G0, hG0, V_cs⟩ : ∃ G0 : Nat → Nat, (∀ j, G0 j = 0) ∧ own_A Z h18 cs .int (n * sn) (fun j => .int (Int32.ofNat (G0 j))) := ⟨fun _ => 0, fun _ => rfl, V_cs.congr (fun _ _ => rfl)⟩
    have hS0 : own_St Z h18 a1 pA pB xA xB nb cs (n * sn) (fun j => .long (pg j)) sf (fun j => .int (Int32.ofNat j)) yf G0 := ⟨X_a1, F_pairs_a1, F_sortedPairs_a1, F_indices_a1, F_sortedIndices_a1, F_numbers_a1, F_count_a1, V_pA, V_pB, V_xA, V_xB, V_cs⟩
    have hNE : own_NE a1 pA pB xA xB cs := ⟨ne_a1_pA, ne_a1_pB, ne_a1_xA, ne_a1_xB, ne_a1_cs, ne_pA_pB, ne_pA_xA, ne_pA_xB, ne_pA_cs, ne_pB_xA, ne_pB_xB, ne_pB_cs, ne_xA_xB, ne_xA_cs, ne_xB_cs⟩
    have fl : ∀ j, j < 3 → FF j < 2 ^ k1 ∧ SS j < 2 ^ k2 := fun j hj => by
      rcases (by omega : j = 0 ∨ j = 1 ∨ j = 2) with rfl | rfl | rfl <;> exact ⟨by omega, by omega⟩
    refine own_astore W18 140 #[.val (.ref a1), .val (.long fo), .second, .val (.long so), .second, .val (.int sb), .val (.int bi), .val (.int (2 : Int32)), .val (.int ps), .val (.int dw), .val (.int sz), .val (.ref cs), .unset, .unset, .unset, .unset, .unset, .unset] d6_138 rfl rfl rfl ?_
    exact own_s1 l Z a0 hw h0 a1 pA pB xA xB nb FF SS p e s m below meth c C hC T18 h18 cs pg sf yf fo so sb bi ps dw sz k1 k2 n wn sn G0 W18 o_cs hG0 hS0 hNE hsz hps hn1 hn2 hBw hsb fl hk1b hk2b hpg hS
theorem own_nev {a b : Int64} {A B : Nat} (ha : a.toInt = (A : Int)) (hb : b.toInt = (B : Int)) : (if a = b then (0 : Int32) else (1 : Int32)).toInt = ((own_n A B : Nat) : Int) := by
  unfold own_n
  by_cases q : A = B
  · rw [if_pos (Int64.toInt_inj.mp (by rw [ha, hb, q])), if_pos q]; rfl
  · rw [if_neg (fun z => q (by rw [z] at ha; omega)), if_neg q]; rfl
theorem own_nev2 {a b : Int64} {A B N : Nat} {e1 : Int32} (ha : a.toInt = (A : Int)) (hb : b.toInt = (B : Int)) (he : e1.toInt = (N : Int)) (hN : N < 100) : (if a = b then e1 else (e1 + (1 : Int32))).toInt = ((N + own_n A B : Nat) : Int) := by
  unfold own_n
  by_cases q : A = B
  · rw [if_pos (Int64.toInt_inj.mp (by rw [ha, hb, q])), if_pos q]; exact he
  · rw [if_neg (fun z => q (by rw [z] at ha; omega)), if_neg q]
    exact own_inc he (by omega)
theorem own_nb3 {od : Nat → Nat} (hp : own_pm od) (f : Nat → Value) (a b d : Int32) : ∀ j, j < 3 → own_upd (own_upd (own_upd f (od 0) (.int a)) (od 1) (.int b)) (od 2) (.int d) j = .int (own_pick (od 0) (od 1) a b d j) := by
  intro j hj
  unfold own_pick own_upd
  rcases hp with ⟨e0, e1, e2⟩ | ⟨e0, e1, e2⟩ | ⟨e0, e1, e2⟩ | ⟨e0, e1, e2⟩ | ⟨e0, e1, e2⟩ | ⟨e0, e1, e2⟩ <;> rw [e0, e1, e2] <;> rcases (by omega : j = 0 ∨ j = 1 ∨ j = 2) with rfl | rfl | rfl <;> rfl
theorem own_nbN {od : Nat → Nat} (hp : own_pm od) {α : Type} (a b d : α) : own_pick (od 0) (od 1) a b d (od 0) = a ∧ own_pick (od 0) (od 1) a b d (od 1) = b ∧ own_pick (od 0) (od 1) a b d (od 2) = d := by
  unfold own_pick
  rcases hp with ⟨e0, e1, e2⟩ | ⟨e0, e1, e2⟩ | ⟨e0, e1, e2⟩ | ⟨e0, e1, e2⟩ | ⟨e0, e1, e2⟩ | ⟨e0, e1, e2⟩ <;> rw [e0, e1, e2] <;> exact ⟨rfl, rfl, rfl⟩
theorem own_n1 (a b : Nat) : own_n a b ≤ 1 := by unfold own_n; split <;> omega
theorem ef_m5 (m : MethodId) (x0 : Addr) : entryFrame m #[(.ref x0)] 3 = mkF m 0 #[.val (.ref x0), .unset, .unset] [] := by first | (simp [entryFrame, mkF, argsToLocals, Value.category]; done) | rfl
set_option maxRecDepth 65536 in
set_option maxHeartbeats 40000000 in
theorem own_m5 (l : Launch) (Z : State) (a0 : Array Value) (hw : ∀ d ∈ tables_1, d.before a0 Z = true) (wo : List Jvm.Cond) (h0 : Heap) (a1 : Addr) (pA : Addr) (pB : Addr) (xA : Addr) (xB : Addr) (nb : Addr) (FF : Nat → Nat) (SS : Nat → Nat) (pg : Nat → Int64) (sf : Nat → Value) (xf : Nat → Value) (yf : Nat → Value) (nf : Nat → Value) (X_a1 : Exa Z h0 a1 "com/example/nodemata/nodemata/PairNumbers") (F_pairs_a1 : Fld Z h0 a1 "com/example/nodemata/nodemata/PairNumbers" "pairs" "[J" (.ref pA)) (F_sortedPairs_a1 : Fld Z h0 a1 "com/example/nodemata/nodemata/PairNumbers" "sortedPairs" "[J" (.ref pB)) (F_indices_a1 : Fld Z h0 a1 "com/example/nodemata/nodemata/PairNumbers" "indices" "[I" (.ref xA)) (F_sortedIndices_a1 : Fld Z h0 a1 "com/example/nodemata/nodemata/PairNumbers" "sortedIndices" "[I" (.ref xB)) (F_numbers_a1 : Fld Z h0 a1 "com/example/nodemata/nodemata/PairNumbers" "numbers" "[I" (.ref nb)) (F_count_a1 : Fld Z h0 a1 "com/example/nodemata/nodemata/PairNumbers" "count" "I" (.int (3 : Int32))) (V_pA : own_A Z h0 pA .long 3 (fun j => .long (pg j))) (V_pB : own_A Z h0 pB .long 3 sf) (V_xA : own_A Z h0 xA .int 3 xf) (V_xB : own_A Z h0 xB .int 3 yf) (V_nb : own_A Z h0 nb .int 3 nf) (ne_a1_pA : a1 ≠ pA) (ne_a1_pB : a1 ≠ pB) (ne_a1_xA : a1 ≠ xA) (ne_a1_xB : a1 ≠ xB) (ne_a1_nb : a1 ≠ nb) (ne_pA_pB : pA ≠ pB) (ne_pA_xA : pA ≠ xA) (ne_pA_xB : pA ≠ xB) (ne_pA_nb : pA ≠ nb) (ne_pB_xA : pB ≠ xA) (ne_pB_xB : pB ≠ xB) (ne_pB_nb : pB ≠ nb) (ne_xA_xB : xA ≠ xB) (ne_xA_nb : xA ≠ nb) (ne_xB_nb : xB ≠ nb) (hpg : ∀ j, j < 3 → (pg j).toInt = ((FF j * 4294967296 + SS j : Nat) : Int)) (hF : ∀ j, j < 3 → FF j < 2147483648) (hS : ∀ j, j < 3 → SS j < 2147483648) :
    own_M l Z wo (⟨"com/example/nodemata/nodemata/PairNumbers", "number", "()I"⟩ : MethodName) prog_83_method_4_code 3 (some .int) ({ frames := 3, cells := 1, slots := 124, locals := 58 } : Room) [a1, pA, pB, xA, xB, nb] #[(.ref a1)] h0 (fun v h => ∃ (dd : Int32) (ng : Nat → Int32), v = some (.int dd) ∧ dd.toInt = ((own_ds (FF 0 * 4294967296 + SS 0) (FF 1 * 4294967296 + SS 1) (FF 2 * 4294967296 + SS 2) : Nat) : Int) ∧ Fld Z h a1 "com/example/nodemata/nodemata/PairNumbers" "numbers" "[I" (.ref nb) ∧ own_A Z h nb .int 3 (fun j => .int (ng j)) ∧ (ng 0).toInt = ((own_rk (FF 0 * 4294967296 + SS 0) (FF 1 * 4294967296 + SS 1) (FF 2 * 4294967296 + SS 2) : Nat) : Int) ∧ (ng 1).toInt = ((own_rk (FF 1 * 4294967296 + SS 1) (FF 0 * 4294967296 + SS 0) (FF 2 * 4294967296 + SS 2) : Nat) : Int) ∧ (ng 2).toInt = ((own_rk (FF 2 * 4294967296 + SS 2) (FF 0 * 4294967296 + SS 0) (FF 1 * 4294967296 + SS 1) : Nat) : Int)) := by
  refine own_body (plainFor_of_name pn_5) (fun m => ef_m5 m a1) ?_
  intro p e s m below meth c C hC T0 W0
  refine own_iconst W0 (0 : Int32) 1 d5_0 rfl rfl ?_
  refine own_istoreN W0 2 #[.val (.ref a1), .val (.int (0 : Int32)), .unset] d5_1 rfl rfl ?_
  refine own_iloadN W0 3 d5_2 rfl rfl ?_
  refine own_aloadN W0 4 d5_3 rfl rfl rfl ?_
  refine own_getfield W0 7 d5_4 (wd27 hw) F_count_a1 rfl ?_
  intro T1 W1
  show own_Go p e below C T1 (mkF m 7 #[.val (.ref a1), .val (.int (0 : Int32)), .unset] [(.int (3 : Int32)), (.int (0 : Int32))])
  refine own_icmpN W1 10 d5_7 ((tlt ((by decide) : (0 : Int32) < (3 : Int32))).2.1) rfl ?_
  refine own_aloadN W1 11 d5_10 rfl rfl rfl ?_
  refine own_getfield W1 14 d5_11 (wd16 hw) F_indices_a1 rfl ?_
  intro T2 W2
  show own_Go p e below C T2 (mkF m 14 #[.val (.ref a1), .val (.int (0 : Int32)), .unset] [(.ref xA)])
  refine own_iloadN W2 15 d5_14 rfl rfl ?_
  refine own_iloadN W2 16 d5_15 rfl rfl ?_
  refine own_iastore W2 0 17 d5_16 V_xA (Or.inl (List.mem_of_getElem? (i := 3) rfl)) rfl (by decide) rfl ?_
  intro T3 h3 W3 Wr3 V_xA
  have X_a1 := X_a1.wr Wr3
  have F_pairs_a1 := F_pairs_a1.other Wr3 (Or.inl ne_a1_xA)
  have F_sortedPairs_a1 := F_sortedPairs_a1.other Wr3 (Or.inl ne_a1_xA)
  have F_indices_a1 := F_indices_a1.other Wr3 (Or.inl ne_a1_xA)
  have F_sortedIndices_a1 := F_sortedIndices_a1.other Wr3 (Or.inl ne_a1_xA)
  have F_numbers_a1 := F_numbers_a1.other Wr3 (Or.inl ne_a1_xA)
  have F_count_a1 := F_count_a1.other Wr3 (Or.inl ne_a1_xA)
  have V_pA := V_pA.other Wr3 ne_pA_xA
  have V_pB := V_pB.other Wr3 ne_pB_xA
  have V_xB := V_xB.other Wr3 (Ne.symm ne_xA_xB)
  have V_nb := V_nb.other Wr3 (Ne.symm ne_xA_nb)
  show own_Go p e below C T3 (mkF m 17 #[.val (.ref a1), .val (.int (0 : Int32)), .unset] [])
  refine own_iinc W3 (1 : Int32) 20 #[.val (.ref a1), .val (.int (1 : Int32)), .unset] d5_17 rfl rfl rfl rfl ?_
  refine own_goto W3 2 d5_20 (by decide) (by decide) ?_
  refine own_iloadN W3 3 d5_2 rfl rfl ?_
  refine own_aloadN W3 4 d5_3 rfl rfl rfl ?_
  refine own_getfield W3 7 d5_4 (wd27 hw) F_count_a1 rfl ?_
  intro T4 W4
  show own_Go p e below C T4 (mkF m 7 #[.val (.ref a1), .val (.int (1 : Int32)), .unset] [(.int (3 : Int32)), (.int (1 : Int32))])
  refine own_icmpN W4 10 d5_7 ((tlt ((by decide) : (1 : Int32) < (3 : Int32))).2.1) rfl ?_
  refine own_aloadN W4 11 d5_10 rfl rfl rfl ?_
  refine own_getfield W4 14 d5_11 (wd16 hw) F_indices_a1 rfl ?_
  intro T5 W5
  show own_Go p e below C T5 (mkF m 14 #[.val (.ref a1), .val (.int (1 : Int32)), .unset] [(.ref xA)])
  refine own_iloadN W5 15 d5_14 rfl rfl ?_
  refine own_iloadN W5 16 d5_15 rfl rfl ?_
  refine own_iastore W5 1 17 d5_16 V_xA (Or.inl (List.mem_of_getElem? (i := 3) rfl)) rfl (by decide) rfl ?_
  intro T6 h6 W6 Wr6 V_xA
  have X_a1 := X_a1.wr Wr6
  have F_pairs_a1 := F_pairs_a1.other Wr6 (Or.inl ne_a1_xA)
  have F_sortedPairs_a1 := F_sortedPairs_a1.other Wr6 (Or.inl ne_a1_xA)
  have F_indices_a1 := F_indices_a1.other Wr6 (Or.inl ne_a1_xA)
  have F_sortedIndices_a1 := F_sortedIndices_a1.other Wr6 (Or.inl ne_a1_xA)
  have F_numbers_a1 := F_numbers_a1.other Wr6 (Or.inl ne_a1_xA)
  have F_count_a1 := F_count_a1.other Wr6 (Or.inl ne_a1_xA)
  have V_pA := V_pA.other Wr6 ne_pA_xA
  have V_pB := V_pB.other Wr6 ne_pB_xA
  have V_xB := V_xB.other Wr6 (Ne.symm ne_xA_xB)
  have V_nb := V_nb.other Wr6 (Ne.symm ne_xA_nb)
  show own_Go p e below C T6 (mkF m 17 #[.val (.ref a1), .val (.int (1 : Int32)), .unset] [])
  refine own_iinc W6 (2 : Int32) 20 #[.val (.ref a1), .val (.int (2 : Int32)), .unset] d5_17 rfl rfl rfl rfl ?_
  refine own_goto W6 2 d5_20 (by decide) (by decide) ?_
  refine own_iloadN W6 3 d5_2 rfl rfl ?_
  refine own_aloadN W6 4 d5_3 rfl rfl rfl ?_
  refine own_getfield W6 7 d5_4 (wd27 hw) F_count_a1 rfl ?_
  intro T7 W7
  show own_Go p e below C T7 (mkF m 7 #[.val (.ref a1), .val (.int (2 : Int32)), .unset] [(.int (3 : Int32)), (.int (2 : Int32))])
  refine own_icmpN W7 10 d5_7 ((tlt ((by decide) : (2 : Int32) < (3 : Int32))).2.1) rfl ?_
  refine own_aloadN W7 11 d5_10 rfl rfl rfl ?_
  refine own_getfield W7 14 d5_11 (wd16 hw) F_indices_a1 rfl ?_
  intro T8 W8
  show own_Go p e below C T8 (mkF m 14 #[.val (.ref a1), .val (.int (2 : Int32)), .unset] [(.ref xA)])
  refine own_iloadN W8 15 d5_14 rfl rfl ?_
  refine own_iloadN W8 16 d5_15 rfl rfl ?_
  refine own_iastore W8 2 17 d5_16 V_xA (Or.inl (List.mem_of_getElem? (i := 3) rfl)) rfl (by decide) rfl ?_
  intro T9 h9 W9 Wr9 V_xA
  have X_a1 := X_a1.wr Wr9
  have F_pairs_a1 := F_pairs_a1.other Wr9 (Or.inl ne_a1_xA)
  have F_sortedPairs_a1 := F_sortedPairs_a1.other Wr9 (Or.inl ne_a1_xA)
  have F_indices_a1 := F_indices_a1.other Wr9 (Or.inl ne_a1_xA)
  have F_sortedIndices_a1 := F_sortedIndices_a1.other Wr9 (Or.inl ne_a1_xA)
  have F_numbers_a1 := F_numbers_a1.other Wr9 (Or.inl ne_a1_xA)
  have F_count_a1 := F_count_a1.other Wr9 (Or.inl ne_a1_xA)
  have V_pA := V_pA.other Wr9 ne_pA_xA
  have V_pB := V_pB.other Wr9 ne_pB_xA
  have V_xB := V_xB.other Wr9 (Ne.symm ne_xA_xB)
  have V_nb := V_nb.other Wr9 (Ne.symm ne_xA_nb)
  show own_Go p e below C T9 (mkF m 17 #[.val (.ref a1), .val (.int (2 : Int32)), .unset] [])
  refine own_iinc W9 (3 : Int32) 20 #[.val (.ref a1), .val (.int (3 : Int32)), .unset] d5_17 rfl rfl rfl rfl ?_
  refine own_goto W9 2 d5_20 (by decide) (by decide) ?_
  refine own_iloadN W9 3 d5_2 rfl rfl ?_
  refine own_aloadN W9 4 d5_3 rfl rfl rfl ?_
  refine own_getfield W9 7 d5_4 (wd27 hw) F_count_a1 rfl ?_
  intro T10 W10
  show own_Go p e below C T10 (mkF m 7 #[.val (.ref a1), .val (.int (3 : Int32)), .unset] [(.int (3 : Int32)), (.int (3 : Int32))])
  refine own_icmpY W10 23 d5_7 ((flt ((by decide) : ¬ ((3 : Int32) < (3 : Int32)))).2.1) (by decide) (by decide) ?_
  refine own_aloadN W10 24 d5_23 rfl rfl rfl ?_
  have V_xA : own_A Z h9 xA .int 3 (fun j => .int (Int32.ofNat j)) := V_xA.congr (fun j hj => by rcases (by omega : j = 0 ∨ j = 1 ∨ j = 2) with rfl | rfl | rfl <;> rfl)
  refine own_callP W10 (A := []) (wt := 0) (pc' := 27) (st := []) d5_24 (wd41 hw) (wd42 hw) (wd43 hw) (wd25 hw) rfl (wd3 hw) (wd44 hw) (by decide) X_a1 (own_m6 l Z a0 hw [] h9 a1 pA pB xA xB nb FF SS pg sf yf X_a1 F_pairs_a1 F_sortedPairs_a1 F_indices_a1 F_sortedIndices_a1 F_numbers_a1 F_count_a1 V_pA V_pB V_xA V_xB ne_a1_pA ne_a1_pB ne_a1_xA ne_a1_xB ne_pA_pB ne_pA_xA ne_pA_xB ne_pB_xA ne_pB_xB ne_xA_xB hpg hF hS) (allS (Or.inl (List.mem_of_getElem? (i := 0) rfl)) (allS (Or.inl (List.mem_of_getElem? (i := 1) rfl)) (allS (Or.inl (List.mem_of_getElem? (i := 2) rfl)) (allS (Or.inl (List.mem_of_getElem? (i := 3) rfl)) (allS (Or.inl (List.mem_of_getElem? (i := 4) rfl)) all0))))) rfl pd_5 rfl (Nat.le_of_eq rfl) (by decide) (by decide) (by decide) (by decide) rfl ?_
  rintro T11 h11 _ W11 K11 P11 ⟨rfl, ⟨pa, xa, pg1, od, Q, hpa, hxa, F_pairs_a1, F_indices_a1, F_numbers_a1, F_count_a1, V_pa, V_xa, hpm, hpg1, h01, h12, hQK⟩⟩
  have X_a1 := X_a1.keep K11
  have V_nb := V_nb.keep K11 (ninS (Ne.symm ne_a1_nb) (ninS (Ne.symm ne_pA_nb) (ninS (Ne.symm ne_pB_nb) (ninS (Ne.symm ne_xA_nb) (ninS (Ne.symm ne_xB_nb) nin0)))))
  show own_Go p e below C T11 (mkF m 27 #[.val (.ref a1), .val (.int (3 : Int32)), .unset] [])
  have ne_pa_nb : pa ≠ nb := by rcases hpa with q | q <;> rw [q] <;> assumption
  have ne_xa_nb : xa ≠ nb := by rcases hxa with q | q <;> rw [q] <;> assumption
  obtain ⟨l0, l1, l2⟩ := hpm.lt
  refine own_iconst W11 (0 : Int32) 28 d5_27 rfl rfl ?_
  refine own_istoreN W11 29 #[.val (.ref a1), .val (.int (0 : Int32)), .unset] d5_28 rfl rfl ?_
  refine own_iconst W11 (0 : Int32) 30 d5_29 rfl rfl ?_
  refine own_istoreN W11 31 #[.val (.ref a1), .val (.int (0 : Int32)), .val (.int (0 : Int32))] d5_30 rfl rfl ?_
  refine own_iloadN W11 32 d5_31 rfl rfl ?_
  refine own_aloadN W11 33 d5_32 rfl rfl rfl ?_
  refine own_getfield W11 36 d5_33 (wd27 hw) F_count_a1 rfl ?_
  intro T12 W12
  show own_Go p e below C T12 (mkF m 36 #[.val (.ref a1), .val (.int (0 : Int32)), .val (.int (0 : Int32))] [(.int (3 : Int32)), (.int (0 : Int32))])
  refine own_icmpN W12 39 d5_36 ((tlt ((by decide) : (0 : Int32) < (3 : Int32))).2.1) rfl ?_
  refine own_iloadN W12 40 d5_39 rfl rfl ?_
  refine own_ifY W12 64 d5_40 ((if0 _ _).trans (flt ((by decide) : ¬ ((0 : Int32) < (0 : Int32)))).2.2.2) (by decide) (by decide) ?_
  refine own_aloadN W12 65 d5_64 rfl rfl rfl ?_
  refine own_getfield W12 68 d5_65 (wd20 hw) F_numbers_a1 rfl ?_
  intro T13 W13
  show own_Go p e below C T13 (mkF m 68 #[.val (.ref a1), .val (.int (0 : Int32)), .val (.int (0 : Int32))] [(.ref nb)])
  refine own_aloadN W13 69 d5_68 rfl rfl rfl ?_
  refine own_getfield W13 72 d5_69 (wd16 hw) F_indices_a1 rfl ?_
  intro T14 W14
  show own_Go p e below C T14 (mkF m 72 #[.val (.ref a1), .val (.int (0 : Int32)), .val (.int (0 : Int32))] [(.ref xa), (.ref nb)])
  refine own_iloadN W14 73 d5_72 rfl rfl ?_
  refine own_iaload W14 0 (Int32.ofNat (od 0)) 74 d5_73 V_xa rfl (by decide) rfl rfl ?_
  refine own_iloadN W14 75 d5_74 rfl rfl ?_
  refine own_iastore W14 (od 0) 76 d5_75 V_nb (Or.inl (List.mem_of_getElem? (i := 5) rfl)) (own_ofN32 (by omega)) l0 rfl ?_
  intro T15 h15 W15 Wr15 V_nb
  have X_a1 := X_a1.wr Wr15
  have F_pairs_a1 := F_pairs_a1.other Wr15 (Or.inl ne_a1_nb)
  have F_indices_a1 := F_indices_a1.other Wr15 (Or.inl ne_a1_nb)
  have F_numbers_a1 := F_numbers_a1.other Wr15 (Or.inl ne_a1_nb)
  have F_count_a1 := F_count_a1.other Wr15 (Or.inl ne_a1_nb)
  have V_pa := V_pa.other Wr15 ne_pa_nb
  have V_xa := V_xa.other Wr15 ne_xa_nb
  show own_Go p e below C T15 (mkF m 76 #[.val (.ref a1), .val (.int (0 : Int32)), .val (.int (0 : Int32))] [])
  refine own_iinc W15 (1 : Int32) 79 #[.val (.ref a1), .val (.int (0 : Int32)), .val (.int (1 : Int32))] d5_76 rfl rfl rfl rfl ?_
  refine own_goto W15 31 d5_79 (by decide) (by decide) ?_
  refine own_iloadN W15 32 d5_31 rfl rfl ?_
  refine own_aloadN W15 33 d5_32 rfl rfl rfl ?_
  refine own_getfield W15 36 d5_33 (wd27 hw) F_count_a1 rfl ?_
  intro T16 W16
  show own_Go p e below C T16 (mkF m 36 #[.val (.ref a1), .val (.int (0 : Int32)), .val (.int (1 : Int32))] [(.int (3 : Int32)), (.int (1 : Int32))])
  refine own_icmpN W16 39 d5_36 ((tlt ((by decide) : (1 : Int32) < (3 : Int32))).2.1) rfl ?_
  refine own_iloadN W16 40 d5_39 rfl rfl ?_
  refine own_ifN W16 43 d5_40 ((if0 _ _).trans (tlt ((by decide) : (0 : Int32) < (1 : Int32))).2.2.2) rfl ?_
  refine own_aloadN W16 44 d5_43 rfl rfl rfl ?_
  refine own_getfield W16 47 d5_44 (wd11 hw) F_pairs_a1 rfl ?_
  intro T17 W17
  show own_Go p e below C T17 (mkF m 47 #[.val (.ref a1), .val (.int (0 : Int32)), .val (.int (1 : Int32))] [(.ref pa)])
  refine own_iloadN W17 48 d5_47 rfl rfl ?_
  refine own_laload W17 1 (pg1 1) 49 d5_48 V_pa rfl (by decide) rfl rfl ?_
  refine own_aloadN W17 50 d5_49 rfl rfl rfl ?_
  refine own_getfield W17 53 d5_50 (wd11 hw) F_pairs_a1 rfl ?_
  intro T18 W18
  show own_Go p e below C T18 (mkF m 53 #[.val (.ref a1), .val (.int (0 : Int32)), .val (.int (1 : Int32))] [(.ref pa), (.long (pg1 1))])
  refine own_iloadN W18 54 d5_53 rfl rfl ?_
  refine own_iconst W18 (1 : Int32) 55 d5_54 rfl rfl ?_
  refine own_isub W18 56 d5_55 rfl ?_
  rw [show ((1 : Int32) - (1 : Int32)) = (0 : Int32) from rfl]
  refine own_laload W18 0 (pg1 0) 57 d5_56 V_pa rfl (by decide) rfl rfl ?_
  refine own_lcmp W18 58 d5_57 rfl ?_
  suffices J19 : own_Go p e below C T18 (mkF m 64 #[.val (.ref a1), .val (.int (if (pg1 1) = (pg1 0) then (0 : Int32) else (1 : Int32))), .val (.int (1 : Int32))] []) by
    by_cases c20 : (pg1 1) = (pg1 0)
    · refine own_ifY W18 64 d5_58 ((if0 _ _).trans (teq ((lw_eq (pg1 1) (pg1 0)).mpr c20)).1) (by decide) (by decide) ?_
      first | (simp only [if_pos c20] at J19; exact J19) | (simp only [if_pos c20] at J19 ⊢; exact J19)
    · refine own_ifN W18 61 d5_58 ((if0 _ _).trans (feq (mt (lw_eq (pg1 1) (pg1 0)).mp c20)).1) rfl ?_
      refine own_iinc W18 (1 : Int32) 64 #[.val (.ref a1), .val (.int (1 : Int32)), .val (.int (1 : Int32))] d5_61 rfl rfl rfl rfl ?_
      first | (simp only [if_neg c20] at J19; exact J19) | (simp only [if_neg c20] at J19 ⊢; exact J19)
  have he1 := own_nev (hpg1 1 (by omega)) (hpg1 0 (by omega))
  have hm1 := own_n1 (Q (od 1)) (Q (od 0))
  generalize h_e1 : (if (pg1 1) = (pg1 0) then (0 : Int32) else (1 : Int32)) = e1 at he1 ⊢
  show own_Go p e below C T18 (mkF m 64 #[.val (.ref a1), .val (.int e1), .val (.int (1 : Int32))] [])
  refine own_aloadN W18 65 d5_64 rfl rfl rfl ?_
  refine own_getfield W18 68 d5_65 (wd20 hw) F_numbers_a1 rfl ?_
  intro T21 W21
  show own_Go p e below C T21 (mkF m 68 #[.val (.ref a1), .val (.int e1), .val (.int (1 : Int32))] [(.ref nb)])
  refine own_aloadN W21 69 d5_68 rfl rfl rfl ?_
  refine own_getfield W21 72 d5_69 (wd16 hw) F_indices_a1 rfl ?_
  intro T22 W22
  show own_Go p e below C T22 (mkF m 72 #[.val (.ref a1), .val (.int e1), .val (.int (1 : Int32))] [(.ref xa), (.ref nb)])
  refine own_iloadN W22 73 d5_72 rfl rfl ?_
  refine own_iaload W22 1 (Int32.ofNat (od 1)) 74 d5_73 V_xa rfl (by decide) rfl rfl ?_
  refine own_iloadN W22 75 d5_74 rfl rfl ?_
  refine own_iastore W22 (od 1) 76 d5_75 V_nb (Or.inl (List.mem_of_getElem? (i := 5) rfl)) (own_ofN32 (by omega)) l1 rfl ?_
  intro T23 h23 W23 Wr23 V_nb
  have X_a1 := X_a1.wr Wr23
  have F_pairs_a1 := F_pairs_a1.other Wr23 (Or.inl ne_a1_nb)
  have F_indices_a1 := F_indices_a1.other Wr23 (Or.inl ne_a1_nb)
  have F_numbers_a1 := F_numbers_a1.other Wr23 (Or.inl ne_a1_nb)
  have F_count_a1 := F_count_a1.other Wr23 (Or.inl ne_a1_nb)
  have V_pa := V_pa.other Wr23 ne_pa_nb
  have V_xa := V_xa.other Wr23 ne_xa_nb
  show own_Go p e below C T23 (mkF m 76 #[.val (.ref a1), .val (.int e1), .val (.int (1 : Int32))] [])
  refine own_iinc W23 (2 : Int32) 79 #[.val (.ref a1), .val (.int e1), .val (.int (2 : Int32))] d5_76 rfl rfl rfl rfl ?_
  refine own_goto W23 31 d5_79 (by decide) (by decide) ?_
  refine own_iloadN W23 32 d5_31 rfl rfl ?_
  refine own_aloadN W23 33 d5_32 rfl rfl rfl ?_
  refine own_getfield W23 36 d5_33 (wd27 hw) F_count_a1 rfl ?_
  intro T24 W24
  show own_Go p e below C T24 (mkF m 36 #[.val (.ref a1), .val (.int e1), .val (.int (2 : Int32))] [(.int (3 : Int32)), (.int (2 : Int32))])
  refine own_icmpN W24 39 d5_36 ((tlt ((by decide) : (2 : Int32) < (3 : Int32))).2.1) rfl ?_
  refine own_iloadN W24 40 d5_39 rfl rfl ?_
  refine own_ifN W24 43 d5_40 ((if0 _ _).trans (tlt ((by decide) : (0 : Int32) < (2 : Int32))).2.2.2) rfl ?_
  refine own_aloadN W24 44 d5_43 rfl rfl rfl ?_
  refine own_getfield W24 47 d5_44 (wd11 hw) F_pairs_a1 rfl ?_
  intro T25 W25
  show own_Go p e below C T25 (mkF m 47 #[.val (.ref a1), .val (.int e1), .val (.int (2 : Int32))] [(.ref pa)])
  refine own_iloadN W25 48 d5_47 rfl rfl ?_
  refine own_laload W25 2 (pg1 2) 49 d5_48 V_pa rfl (by decide) rfl rfl ?_
  refine own_aloadN W25 50 d5_49 rfl rfl rfl ?_
  refine own_getfield W25 53 d5_50 (wd11 hw) F_pairs_a1 rfl ?_
  intro T26 W26
  show own_Go p e below C T26 (mkF m 53 #[.val (.ref a1), .val (.int e1), .val (.int (2 : Int32))] [(.ref pa), (.long (pg1 2))])
  refine own_iloadN W26 54 d5_53 rfl rfl ?_
  refine own_iconst W26 (1 : Int32) 55 d5_54 rfl rfl ?_
  refine own_isub W26 56 d5_55 rfl ?_
  rw [show ((2 : Int32) - (1 : Int32)) = (1 : Int32) from rfl]
  refine own_laload W26 1 (pg1 1) 57 d5_56 V_pa rfl (by decide) rfl rfl ?_
  refine own_lcmp W26 58 d5_57 rfl ?_
  suffices J27 : own_Go p e below C T26 (mkF m 64 #[.val (.ref a1), .val (.int (if (pg1 2) = (pg1 1) then e1 else (e1 + (1 : Int32)))), .val (.int (2 : Int32))] []) by
    by_cases c28 : (pg1 2) = (pg1 1)
    · refine own_ifY W26 64 d5_58 ((if0 _ _).trans (teq ((lw_eq (pg1 2) (pg1 1)).mpr c28)).1) (by decide) (by decide) ?_
      first | (simp only [if_pos c28] at J27; exact J27) | (simp only [if_pos c28] at J27 ⊢; exact J27)
    · refine own_ifN W26 61 d5_58 ((if0 _ _).trans (feq (mt (lw_eq (pg1 2) (pg1 1)).mp c28)).1) rfl ?_
      refine own_iinc W26 (e1 + (1 : Int32)) 64 #[.val (.ref a1), .val (.int (e1 + (1 : Int32))), .val (.int (2 : Int32))] d5_61 rfl rfl rfl rfl ?_
      first | (simp only [if_neg c28] at J27; exact J27) | (simp only [if_neg c28] at J27 ⊢; exact J27)
  have he2 := own_nev2 (hpg1 2 (by omega)) (hpg1 1 (by omega)) he1 (by omega)
  have hm2 := own_n1 (Q (od 2)) (Q (od 1))
  generalize h_e2 : (if (pg1 2) = (pg1 1) then e1 else (e1 + (1 : Int32))) = e2 at he2 ⊢
  show own_Go p e below C T26 (mkF m 64 #[.val (.ref a1), .val (.int e2), .val (.int (2 : Int32))] [])
  refine own_aloadN W26 65 d5_64 rfl rfl rfl ?_
  refine own_getfield W26 68 d5_65 (wd20 hw) F_numbers_a1 rfl ?_
  intro T29 W29
  show own_Go p e below C T29 (mkF m 68 #[.val (.ref a1), .val (.int e2), .val (.int (2 : Int32))] [(.ref nb)])
  refine own_aloadN W29 69 d5_68 rfl rfl rfl ?_
  refine own_getfield W29 72 d5_69 (wd16 hw) F_indices_a1 rfl ?_
  intro T30 W30
  show own_Go p e below C T30 (mkF m 72 #[.val (.ref a1), .val (.int e2), .val (.int (2 : Int32))] [(.ref xa), (.ref nb)])
  refine own_iloadN W30 73 d5_72 rfl rfl ?_
  refine own_iaload W30 2 (Int32.ofNat (od 2)) 74 d5_73 V_xa rfl (by decide) rfl rfl ?_
  refine own_iloadN W30 75 d5_74 rfl rfl ?_
  refine own_iastore W30 (od 2) 76 d5_75 V_nb (Or.inl (List.mem_of_getElem? (i := 5) rfl)) (own_ofN32 (by omega)) l2 rfl ?_
  intro T31 h31 W31 Wr31 V_nb
  have X_a1 := X_a1.wr Wr31
  have F_pairs_a1 := F_pairs_a1.other Wr31 (Or.inl ne_a1_nb)
  have F_indices_a1 := F_indices_a1.other Wr31 (Or.inl ne_a1_nb)
  have F_numbers_a1 := F_numbers_a1.other Wr31 (Or.inl ne_a1_nb)
  have F_count_a1 := F_count_a1.other Wr31 (Or.inl ne_a1_nb)
  have V_pa := V_pa.other Wr31 ne_pa_nb
  have V_xa := V_xa.other Wr31 ne_xa_nb
  show own_Go p e below C T31 (mkF m 76 #[.val (.ref a1), .val (.int e2), .val (.int (2 : Int32))] [])
  refine own_iinc W31 (3 : Int32) 79 #[.val (.ref a1), .val (.int e2), .val (.int (3 : Int32))] d5_76 rfl rfl rfl rfl ?_
  refine own_goto W31 31 d5_79 (by decide) (by decide) ?_
  refine own_iloadN W31 32 d5_31 rfl rfl ?_
  refine own_aloadN W31 33 d5_32 rfl rfl rfl ?_
  refine own_getfield W31 36 d5_33 (wd27 hw) F_count_a1 rfl ?_
  intro T32 W32
  show own_Go p e below C T32 (mkF m 36 #[.val (.ref a1), .val (.int e2), .val (.int (3 : Int32))] [(.int (3 : Int32)), (.int (3 : Int32))])
  refine own_icmpY W32 82 d5_36 ((flt ((by decide) : ¬ ((3 : Int32) < (3 : Int32)))).2.1) (by decide) (by decide) ?_
  refine own_aloadN W32 83 d5_82 rfl rfl rfl ?_
  refine own_getfield W32 86 d5_83 (wd27 hw) F_count_a1 rfl ?_
  intro T33 W33
  show own_Go p e below C T33 (mkF m 86 #[.val (.ref a1), .val (.int e2), .val (.int (3 : Int32))] [(.int (3 : Int32))])
  refine own_ifY W33 93 d5_86 ((if0 _ _).trans (feq ((by decide) : ¬ ((3 : Int32) = (0 : Int32)))).2) (by decide) (by decide) ?_
  refine own_iloadN W33 94 d5_93 rfl rfl ?_
  refine own_iconst W33 (1 : Int32) 95 d5_94 rfl rfl ?_
  refine own_iadd W33 96 d5_95 rfl ?_
  obtain ⟨n0, n1, n2⟩ := own_nbN hpm (0 : Nat) (own_n (Q (od 1)) (Q (od 0))) (own_n (Q (od 1)) (Q (od 0)) + own_n (Q (od 2)) (Q (od 1)))
  obtain ⟨g0, g1, g2, g3⟩ := own_fin (K := fun i => FF i * 4294967296 + SS i) hpm h01 h12 hQK rfl rfl n0 n1 n2
  have hN : ∀ j, (own_pick (od 0) (od 1) (0 : Int32) e1 e2 j).toInt = ((own_pick (od 0) (od 1) 0 (own_n (Q (od 1)) (Q (od 0))) (own_n (Q (od 1)) (Q (od 0)) + own_n (Q (od 2)) (Q (od 1))) j : Nat) : Int) := fun j => by
    unfold own_pick
    split
    · rfl
    · split
      · exact he1
      · exact he2
  refine own_retI (Q := fun v h => ∃ (dd : Int32) (ng : Nat → Int32), v = some (.int dd) ∧ dd.toInt = ((own_ds (FF 0 * 4294967296 + SS 0) (FF 1 * 4294967296 + SS 1) (FF 2 * 4294967296 + SS 2) : Nat) : Int) ∧ Fld Z h a1 "com/example/nodemata/nodemata/PairNumbers" "numbers" "[I" (.ref nb) ∧ own_A Z h nb .int 3 (fun j => .int (ng j)) ∧ (ng 0).toInt = ((own_rk (FF 0 * 4294967296 + SS 0) (FF 1 * 4294967296 + SS 1) (FF 2 * 4294967296 + SS 2) : Nat) : Int) ∧ (ng 1).toInt = ((own_rk (FF 1 * 4294967296 + SS 1) (FF 0 * 4294967296 + SS 0) (FF 2 * 4294967296 + SS 2) : Nat) : Int) ∧ (ng 2).toInt = ((own_rk (FF 2 * 4294967296 + SS 2) (FF 0 * 4294967296 + SS 0) (FF 1 * 4294967296 + SS 1) : Nat) : Int)) W33 hC (by decide) (by decide) d5_96 ?_
  exact ⟨_, own_pick (od 0) (od 1) (0 : Int32) e1 e2, rfl, by rw [own_inc he2 (by omega), g3], F_numbers_a1, V_nb.congr (own_nb3 hpm _ _ _ _), by rw [hN, g0], by rw [hN, g1], by rw [hN, g2]⟩
theorem own_m31 (u : Int32) : ∃ k : Nat, (u &&& (2147483647 : Int32)).toInt = (k : Int) ∧ k < 2147483648 := by
  have h1 := c_mask u 2147483647 31 (by decide) (by decide)
  simp only [Nat.reducePow] at h1
  exact ⟨(u &&& (2147483647 : Int32)).toInt.toNat, by omega, by omega⟩
theorem own_eqv {fa sa fb sb : Int32} {FA SA FB SB : Nat} (h1 : fa.toInt = (FA : Int)) (h2 : sa.toInt = (SA : Int)) (h3 : fb.toInt = (FB : Int)) (h4 : sb.toInt = (SB : Int)) (hA : SA < 2147483648) (hB : SB < 2147483648) : (if fa = fb then (if sa = sb then (1 : Int32) else (0 : Int32)) else (0 : Int32)) = (if (FA * 4294967296 + SA) = (FB * 4294967296 + SB) then (1 : Int32) else (0 : Int32)) := by
  have e1 : fa = fb ↔ FA = FB := ⟨fun q => own_inj32 q h1 h3, fun q => Int32.toInt_inj.mp (by rw [h1, h3, q])⟩
  have e2 : sa = sb ↔ SA = SB := ⟨fun q => own_inj32 q h2 h4, fun q => Int32.toInt_inj.mp (by rw [h2, h4, q])⟩
  by_cases c1 : FA = FB
  · rw [if_pos (e1.mpr c1)]
    by_cases c2 : SA = SB
    · rw [if_pos (e2.mpr c2), if_pos (by omega)]
    · rw [if_neg (fun q => c2 (e2.mp q)), if_neg (by omega)]
  · rw [if_neg (fun q => c1 (e1.mp q)), if_neg (by omega)]
theorem own_staK0 {Z : State} {h h' : Heap} {O n d : String} {v : Value} (F : Sta Z h O n d v) (K : Keep h h' []) : Sta Z h' O n d v := by
  obtain ⟨cf, i, k, f, st, cell, h1, h2, h3, h4, h5, r⟩ := F
  exact ⟨cf, i, k, f, st, cell, h1, h2, h3, h4, K.2.1 _ _ h5 nin0, r⟩
section OwnWK
variable {p : Program} {l : Launch} {e : Env} {R : Room} {s : State} {m : MethodId} {args : Array Value} {below : List Frame} {meth : Method} {c : Code} {Z : State} {y : MethodName} {ret : Option FieldType} {code : ByteArray} {ml : Nat} {ws : List Addr} {T : State} {h : Heap} {cells slots : Nat} {C : Outcome → State → Prop} {a0 : Array Value}
theorem own_WK (W : own_W p l e R s m args below meth c Z y ret code ml ws T h cells slots) : Keep s.heap h ws := by
  obtain ⟨-, locs, X, rfl, N⟩ := W
  exact own_keep X.same N
theorem own_W0 (W : own_W p l e R s m args below meth c Z y ret code ml [] T h 0 0) : h = s.heap := by
  have K := own_WK W
  obtain ⟨-, locs, X, rfl, N⟩ := W
  exact own_same0 X.same K
end OwnWK
theorem ef_m0 (m : MethodId) (x0 : Int32) (x1 : Int32) (x2 : Int32) (x3 : Int32) (x4 : Int32) (x5 : Int32) : entryFrame m #[(.int x0), (.int x1), (.int x2), (.int x3), (.int x4), (.int x5)] maxLocals = mkF m 0 #[.val (.int x0), .val (.int x1), .val (.int x2), .val (.int x3), .val (.int x4), .val (.int x5), .unset, .unset, .unset, .unset, .unset, .unset, .unset, .unset, .unset, .unset, .unset, .unset, .unset, .unset, .unset] [] := by first | (simp [entryFrame, mkF, argsToLocals, Value.category, maxLocals]; done) | rfl
set_option maxRecDepth 65536 in
set_option maxHeartbeats 40000000 in
theorem own_m0 (l : Launch) (Z : State) (a0 : Array Value) (hw : ∀ d ∈ tables_1, d.before a0 Z = true) (wo : List Jvm.Cond) (h0 : Heap) (p1 : Int32) (p2 : Int32) (p3 : Int32) (p4 : Int32) (p5 : Int32) (p6 : Int32) (S_ad : Sta Z h0 "com/example/nodemata/nodemata/PairNumbers" "$assertionsDisabled" "Z" (.int (1 : Int32))) :
    own_M l Z wo x code maxLocals ret room_1 [] #[(.int p1), (.int p2), (.int p3), (.int p4), (.int p5), (.int p6)] h0 (fun v h => v = some (.int (1 : Int32))) := by
  refine own_body (plainFor_of_name pn_0) (fun m => ef_m0 m p1 p2 p3 p4 p5 p6) ?_
  intro p e s m below meth c C hC T0 W0
  have S0 : Sta Z s.heap "com/example/nodemata/nodemata/PairNumbers" "$assertionsDisabled" "Z" (.int (1 : Int32)) := by rw [← own_W0 W0]; exact S_ad
  refine own_iloadN W0 1 at_0 rfl rfl ?_
  refine own_ldcInt W0 3 at_1 (wd0 hw) rfl ?_
  refine own_iand W0 4 at_3 rfl ?_
  refine own_istore W0 6 #[.val (.int p1), .val (.int p2), .val (.int p3), .val (.int p4), .val (.int p5), .val (.int p6), .val (.int (p1 &&& (2147483647 : Int32))), .unset, .unset, .unset, .unset, .unset, .unset, .unset, .unset, .unset, .unset, .unset, .unset, .unset, .unset] at_4 rfl rfl ?_
  refine own_iloadN W0 7 at_6 rfl rfl ?_
  refine own_ldcInt W0 9 at_7 (wd0 hw) rfl ?_
  refine own_iand W0 10 at_9 rfl ?_
  refine own_istore W0 12 #[.val (.int p1), .val (.int p2), .val (.int p3), .val (.int p4), .val (.int p5), .val (.int p6), .val (.int (p1 &&& (2147483647 : Int32))), .val (.int (p2 &&& (2147483647 : Int32))), .unset, .unset, .unset, .unset, .unset, .unset, .unset, .unset, .unset, .unset, .unset, .unset, .unset] at_10 rfl rfl ?_
  refine own_iloadN W0 13 at_12 rfl rfl ?_
  refine own_ldcInt W0 15 at_13 (wd0 hw) rfl ?_
  refine own_iand W0 16 at_15 rfl ?_
  refine own_istore W0 18 #[.val (.int p1), .val (.int p2), .val (.int p3), .val (.int p4), .val (.int p5), .val (.int p6), .val (.int (p1 &&& (2147483647 : Int32))), .val (.int (p2 &&& (2147483647 : Int32))), .val (.int (p3 &&& (2147483647 : Int32))), .unset, .unset, .unset, .unset, .unset, .unset, .unset, .unset, .unset, .unset, .unset, .unset] at_16 rfl rfl ?_
  refine own_iloadN W0 19 at_18 rfl rfl ?_
  refine own_ldcInt W0 21 at_19 (wd0 hw) rfl ?_
  refine own_iand W0 22 at_21 rfl ?_
  refine own_istore W0 24 #[.val (.int p1), .val (.int p2), .val (.int p3), .val (.int p4), .val (.int p5), .val (.int p6), .val (.int (p1 &&& (2147483647 : Int32))), .val (.int (p2 &&& (2147483647 : Int32))), .val (.int (p3 &&& (2147483647 : Int32))), .val (.int (p4 &&& (2147483647 : Int32))), .unset, .unset, .unset, .unset, .unset, .unset, .unset, .unset, .unset, .unset, .unset] at_22 rfl rfl ?_
  refine own_iload W0 26 at_24 rfl rfl ?_
  refine own_ldcInt W0 28 at_26 (wd0 hw) rfl ?_
  refine own_iand W0 29 at_28 rfl ?_
  refine own_istore W0 31 #[.val (.int p1), .val (.int p2), .val (.int p3), .val (.int p4), .val (.int p5), .val (.int p6), .val (.int (p1 &&& (2147483647 : Int32))), .val (.int (p2 &&& (2147483647 : Int32))), .val (.int (p3 &&& (2147483647 : Int32))), .val (.int (p4 &&& (2147483647 : Int32))), .val (.int (p5 &&& (2147483647 : Int32))), .unset, .unset, .unset, .unset, .unset, .unset, .unset, .unset, .unset, .unset] at_29 rfl rfl ?_
  refine own_iload W0 33 at_31 rfl rfl ?_
  refine own_ldcInt W0 35 at_33 (wd0 hw) rfl ?_
  refine own_iand W0 36 at_35 rfl ?_
  refine own_istore W0 38 #[.val (.int p1), .val (.int p2), .val (.int p3), .val (.int p4), .val (.int p5), .val (.int p6), .val (.int (p1 &&& (2147483647 : Int32))), .val (.int (p2 &&& (2147483647 : Int32))), .val (.int (p3 &&& (2147483647 : Int32))), .val (.int (p4 &&& (2147483647 : Int32))), .val (.int (p5 &&& (2147483647 : Int32))), .val (.int (p6 &&& (2147483647 : Int32))), .unset, .unset, .unset, .unset, .unset, .unset, .unset, .unset, .unset] at_36 rfl rfl ?_
  obtain ⟨F0n, hF0n, lF0n⟩ := own_m31 p1
  generalize h_vF0n : (p1 &&& (2147483647 : Int32)) = vF0n at hF0n ⊢
  show own_Go p e below C T0 (mkF m 38 #[.val (.int p1), .val (.int p2), .val (.int p3), .val (.int p4), .val (.int p5), .val (.int p6), .val (.int vF0n), .val (.int (p2 &&& (2147483647 : Int32))), .val (.int (p3 &&& (2147483647 : Int32))), .val (.int (p4 &&& (2147483647 : Int32))), .val (.int (p5 &&& (2147483647 : Int32))), .val (.int (p6 &&& (2147483647 : Int32))), .unset, .unset, .unset, .unset, .unset, .unset, .unset, .unset, .unset] [])
  obtain ⟨S0n, hS0n, lS0n⟩ := own_m31 p2
  generalize h_vS0n : (p2 &&& (2147483647 : Int32)) = vS0n at hS0n ⊢
  show own_Go p e below C T0 (mkF m 38 #[.val (.int p1), .val (.int p2), .val (.int p3), .val (.int p4), .val (.int p5), .val (.int p6), .val (.int vF0n), .val (.int vS0n), .val (.int (p3 &&& (2147483647 : Int32))), .val (.int (p4 &&& (2147483647 : Int32))), .val (.int (p5 &&& (2147483647 : Int32))), .val (.int (p6 &&& (2147483647 : Int32))), .unset, .unset, .unset, .unset, .unset, .unset, .unset, .unset, .unset] [])
  obtain ⟨F1n, hF1n, lF1n⟩ := own_m31 p3
  generalize h_vF1n : (p3 &&& (2147483647 : Int32)) = vF1n at hF1n ⊢
  show own_Go p e below C T0 (mkF m 38 #[.val (.int p1), .val (.int p2), .val (.int p3), .val (.int p4), .val (.int p5), .val (.int p6), .val (.int vF0n), .val (.int vS0n), .val (.int vF1n), .val (.int (p4 &&& (2147483647 : Int32))), .val (.int (p5 &&& (2147483647 : Int32))), .val (.int (p6 &&& (2147483647 : Int32))), .unset, .unset, .unset, .unset, .unset, .unset, .unset, .unset, .unset] [])
  obtain ⟨S1n, hS1n, lS1n⟩ := own_m31 p4
  generalize h_vS1n : (p4 &&& (2147483647 : Int32)) = vS1n at hS1n ⊢
  show own_Go p e below C T0 (mkF m 38 #[.val (.int p1), .val (.int p2), .val (.int p3), .val (.int p4), .val (.int p5), .val (.int p6), .val (.int vF0n), .val (.int vS0n), .val (.int vF1n), .val (.int vS1n), .val (.int (p5 &&& (2147483647 : Int32))), .val (.int (p6 &&& (2147483647 : Int32))), .unset, .unset, .unset, .unset, .unset, .unset, .unset, .unset, .unset] [])
  obtain ⟨F2n, hF2n, lF2n⟩ := own_m31 p5
  generalize h_vF2n : (p5 &&& (2147483647 : Int32)) = vF2n at hF2n ⊢
  show own_Go p e below C T0 (mkF m 38 #[.val (.int p1), .val (.int p2), .val (.int p3), .val (.int p4), .val (.int p5), .val (.int p6), .val (.int vF0n), .val (.int vS0n), .val (.int vF1n), .val (.int vS1n), .val (.int vF2n), .val (.int (p6 &&& (2147483647 : Int32))), .unset, .unset, .unset, .unset, .unset, .unset, .unset, .unset, .unset] [])
  obtain ⟨S2n, hS2n, lS2n⟩ := own_m31 p6
  generalize h_vS2n : (p6 &&& (2147483647 : Int32)) = vS2n at hS2n ⊢
  show own_Go p e below C T0 (mkF m 38 #[.val (.int p1), .val (.int p2), .val (.int p3), .val (.int p4), .val (.int p5), .val (.int p6), .val (.int vF0n), .val (.int vS0n), .val (.int vF1n), .val (.int vS1n), .val (.int vF2n), .val (.int vS2n), .unset, .unset, .unset, .unset, .unset, .unset, .unset, .unset, .unset] [])
  refine own_new W0 41 at_38 (wd1 hw) (wd2 hw) (wd3 hw) (by decide) (by decide) rfl ?_
  intro T1 h1 a1 W1 E1 g_a1 o_a1 X_a1 D_a1
  have F_pairs_a1 : Fld Z h1 a1 "com/example/nodemata/nodemata/PairNumbers" "pairs" "[J" .null := D_a1 (Or.inl (wd12 hw)) (ty := (.array .long)) (by decide)
  have F_sortedPairs_a1 : Fld Z h1 a1 "com/example/nodemata/nodemata/PairNumbers" "sortedPairs" "[J" .null := D_a1 (Or.inl (wd14 hw)) (ty := (.array .long)) (by decide)
  have F_indices_a1 : Fld Z h1 a1 "com/example/nodemata/nodemata/PairNumbers" "indices" "[I" .null := D_a1 (Or.inl (wd17 hw)) (ty := (.array .int)) (by decide)
  have F_sortedIndices_a1 : Fld Z h1 a1 "com/example/nodemata/nodemata/PairNumbers" "sortedIndices" "[I" .null := D_a1 (Or.inl (wd19 hw)) (ty := (.array .int)) (by decide)
  have F_numbers_a1 : Fld Z h1 a1 "com/example/nodemata/nodemata/PairNumbers" "numbers" "[I" .null := D_a1 (Or.inr (wd21 hw)) (ty := (.array .int)) (by decide)
  have F_count_a1 : Fld Z h1 a1 "com/example/nodemata/nodemata/PairNumbers" "count" "I" (.int (0 : Int32)) := D_a1 (Or.inl (wd28 hw)) (ty := .int) (by decide)
  show own_Go p e below C T1 (mkF m 41 #[.val (.int p1), .val (.int p2), .val (.int p3), .val (.int p4), .val (.int p5), .val (.int p6), .val (.int vF0n), .val (.int vS0n), .val (.int vF1n), .val (.int vS1n), .val (.int vF2n), .val (.int vS2n), .unset, .unset, .unset, .unset, .unset, .unset, .unset, .unset, .unset] [(.ref a1)])
  refine own_dup W1 42 at_41 rfl rfl ?_
  refine own_iconst W1 (3 : Int32) 43 at_42 rfl rfl ?_
  have hal := X_a1.lt
  refine own_callN W1 (A := [(.int (3 : Int32))]) (wt := 1) (pc' := 46) (st := [(.ref a1)]) at_43 rfl (wd4 hw) (wd5 hw) (wd3 hw) (wd6 hw) (by decide) (own_m1 l Z a0 hw [] h1 a1 X_a1 F_pairs_a1 F_sortedPairs_a1 F_indices_a1 F_sortedIndices_a1 F_numbers_a1 F_count_a1) (allS (Or.inr o_a1) all0) rfl pd_6 rfl (Nat.le_of_eq rfl) (by decide) (by decide) (by decide) (by decide) rfl ?_
  rintro T2 h2 _ W2 K2 P2 ⟨rfl, ⟨pA, pB, xA, xB, nb, o_pA, o_pB, o_xA, o_xB, o_nb, ne_pA_pB, ne_pA_xA, ne_pA_xB, ne_pA_nb, ne_pB_xA, ne_pB_xB, ne_pB_nb, ne_xA_xB, ne_xA_nb, ne_xB_nb, F_pairs_a1, F_sortedPairs_a1, F_indices_a1, F_sortedIndices_a1, F_numbers_a1, F_count_a1, V_pA, V_pB, V_xA, V_xB, V_nb⟩⟩
  have X_a1 := X_a1.keep K2
  show own_Go p e below C T2 (mkF m 46 #[.val (.int p1), .val (.int p2), .val (.int p3), .val (.int p4), .val (.int p5), .val (.int p6), .val (.int vF0n), .val (.int vS0n), .val (.int vF1n), .val (.int vS1n), .val (.int vF2n), .val (.int vS2n), .unset, .unset, .unset, .unset, .unset, .unset, .unset, .unset, .unset] [(.ref a1)])
  have ne_a1_pA : a1 ≠ pA := Nat.ne_of_lt (Nat.lt_of_lt_of_le hal o_pA)
  have o_pA : s.heap.size ≤ pA := Nat.le_trans (Nat.le_trans o_a1 (Nat.le_of_lt hal)) o_pA
  have ne_a1_pB : a1 ≠ pB := Nat.ne_of_lt (Nat.lt_of_lt_of_le hal o_pB)
  have o_pB : s.heap.size ≤ pB := Nat.le_trans (Nat.le_trans o_a1 (Nat.le_of_lt hal)) o_pB
  have ne_a1_xA : a1 ≠ xA := Nat.ne_of_lt (Nat.lt_of_lt_of_le hal o_xA)
  have o_xA : s.heap.size ≤ xA := Nat.le_trans (Nat.le_trans o_a1 (Nat.le_of_lt hal)) o_xA
  have ne_a1_xB : a1 ≠ xB := Nat.ne_of_lt (Nat.lt_of_lt_of_le hal o_xB)
  have o_xB : s.heap.size ≤ xB := Nat.le_trans (Nat.le_trans o_a1 (Nat.le_of_lt hal)) o_xB
  have ne_a1_nb : a1 ≠ nb := Nat.ne_of_lt (Nat.lt_of_lt_of_le hal o_nb)
  have o_nb : s.heap.size ≤ nb := Nat.le_trans (Nat.le_trans o_a1 (Nat.le_of_lt hal)) o_nb
  refine own_astore W2 48 #[.val (.int p1), .val (.int p2), .val (.int p3), .val (.int p4), .val (.int p5), .val (.int p6), .val (.int vF0n), .val (.int vS0n), .val (.int vF1n), .val (.int vS1n), .val (.int vF2n), .val (.int vS2n), .val (.ref a1), .unset, .unset, .unset, .unset, .unset, .unset, .unset, .unset] at_46 rfl rfl rfl ?_
  refine own_aload W2 50 at_48 rfl rfl rfl ?_
  refine own_iconst W2 (3 : Int32) 51 at_50 rfl rfl ?_
  refine own_callV W2 (A := [(.int (3 : Int32))]) (wt := 0) (pc' := 54) (st := []) at_51 (wd22 hw) (wd23 hw) (own_nf W2 (wd25 hw)) (wd25 hw) (wd24 hw) (wd3 hw) (wd26 hw) (by decide) X_a1 (own_m3 l Z a0 hw [] h2 a1 pA pB xA xB nb X_a1 F_pairs_a1 F_sortedPairs_a1 F_indices_a1 F_sortedIndices_a1 F_numbers_a1 F_count_a1) (allS (Or.inr o_a1) all0) rfl pd_6 rfl (Nat.le_of_eq rfl) (by decide) (by decide) (by decide) (by decide) rfl ?_
  rintro T3 h3 _ W3 K3 P3 ⟨rfl, ⟨F_pairs_a1, F_sortedPairs_a1, F_indices_a1, F_sortedIndices_a1, F_numbers_a1, F_count_a1⟩⟩
  have X_a1 := X_a1.keep K3
  have V_pA := V_pA.keep K3 (ninS (Ne.symm ne_a1_pA) nin0)
  have V_pB := V_pB.keep K3 (ninS (Ne.symm ne_a1_pB) nin0)
  have V_xA := V_xA.keep K3 (ninS (Ne.symm ne_a1_xA) nin0)
  have V_xB := V_xB.keep K3 (ninS (Ne.symm ne_a1_xB) nin0)
  have V_nb := V_nb.keep K3 (ninS (Ne.symm ne_a1_nb) nin0)
  show own_Go p e below C T3 (mkF m 54 #[.val (.int p1), .val (.int p2), .val (.int p3), .val (.int p4), .val (.int p5), .val (.int p6), .val (.int vF0n), .val (.int vS0n), .val (.int vF1n), .val (.int vS1n), .val (.int vF2n), .val (.int vS2n), .val (.ref a1), .unset, .unset, .unset, .unset, .unset, .unset, .unset, .unset] [])
  refine own_aload W3 56 at_54 rfl rfl rfl ?_
  refine own_iconst W3 (0 : Int32) 57 at_56 rfl rfl ?_
  refine own_iload W3 59 at_57 rfl rfl ?_
  refine own_iload W3 61 at_59 rfl rfl ?_
  have S_ad := own_staK0 S0 (own_WK W3)
  refine own_callV W3 (A := [(.int (0 : Int32)), (.int vF0n), (.int vS0n)]) (wt := 0) (pc' := 64) (st := []) at_61 (wd29 hw) (wd30 hw) (own_nf W3 (wd32 hw)) (wd32 hw) (wd31 hw) (wd3 hw) (wd33 hw) (by decide) X_a1 (own_m4 l Z a0 hw [] h3 a1 (0 : Int32) vF0n vS0n pA (fun _ => 0) 0 F0n S0n S_ad F_pairs_a1 V_pA ne_a1_pA rfl (by omega) hF0n hS0n lF0n lS0n) (allS (Or.inr o_pA) all0) rfl pd_7 rfl (Nat.le_of_eq rfl) (by decide) (by decide) (by decide) (by decide) rfl ?_
  rintro T4 h4 _ W4 K4 P4 ⟨rfl, ⟨q0, hq0, V_pA⟩⟩
  have X_a1 := X_a1.keep K4
  have V_pB := V_pB.keep K4 (ninS (Ne.symm ne_pA_pB) nin0)
  have V_xA := V_xA.keep K4 (ninS (Ne.symm ne_pA_xA) nin0)
  have V_xB := V_xB.keep K4 (ninS (Ne.symm ne_pA_xB) nin0)
  have V_nb := V_nb.keep K4 (ninS (Ne.symm ne_pA_nb) nin0)
  have F_pairs_a1 := F_pairs_a1.keep K4 (ninS ne_a1_pA nin0)
  have F_sortedPairs_a1 := F_sortedPairs_a1.keep K4 (ninS ne_a1_pA nin0)
  have F_indices_a1 := F_indices_a1.keep K4 (ninS ne_a1_pA nin0)
  have F_sortedIndices_a1 := F_sortedIndices_a1.keep K4 (ninS ne_a1_pA nin0)
  have F_numbers_a1 := F_numbers_a1.keep K4 (ninS ne_a1_pA nin0)
  have F_count_a1 := F_count_a1.keep K4 (ninS ne_a1_pA nin0)
  show own_Go p e below C T4 (mkF m 64 #[.val (.int p1), .val (.int p2), .val (.int p3), .val (.int p4), .val (.int p5), .val (.int p6), .val (.int vF0n), .val (.int vS0n), .val (.int vF1n), .val (.int vS1n), .val (.int vF2n), .val (.int vS2n), .val (.ref a1), .unset, .unset, .unset, .unset, .unset, .unset, .unset, .unset] [])
  refine own_aload W4 66 at_64 rfl rfl rfl ?_
  refine own_iconst W4 (1 : Int32) 67 at_66 rfl rfl ?_
  refine own_iload W4 69 at_67 rfl rfl ?_
  refine own_iload W4 71 at_69 rfl rfl ?_
  have S_ad := own_staK0 S0 (own_WK W4)
  refine own_callV W4 (A := [(.int (1 : Int32)), (.int vF1n), (.int vS1n)]) (wt := 0) (pc' := 74) (st := []) at_71 (wd29 hw) (wd30 hw) (own_nf W4 (wd32 hw)) (wd32 hw) (wd31 hw) (wd3 hw) (wd33 hw) (by decide) X_a1 (own_m4 l Z a0 hw [] h4 a1 (1 : Int32) vF1n vS1n pA (own_upL (fun _ => 0) 0 q0) 1 F1n S1n S_ad F_pairs_a1 V_pA ne_a1_pA rfl (by omega) hF1n hS1n lF1n lS1n) (allS (Or.inr o_pA) all0) rfl pd_7 rfl (Nat.le_of_eq rfl) (by decide) (by decide) (by decide) (by decide) rfl ?_
  rintro T5 h5 _ W5 K5 P5 ⟨rfl, ⟨q1, hq1, V_pA⟩⟩
  have X_a1 := X_a1.keep K5
  have V_pB := V_pB.keep K5 (ninS (Ne.symm ne_pA_pB) nin0)
  have V_xA := V_xA.keep K5 (ninS (Ne.symm ne_pA_xA) nin0)
  have V_xB := V_xB.keep K5 (ninS (Ne.symm ne_pA_xB) nin0)
  have V_nb := V_nb.keep K5 (ninS (Ne.symm ne_pA_nb) nin0)
  have F_pairs_a1 := F_pairs_a1.keep K5 (ninS ne_a1_pA nin0)
  have F_sortedPairs_a1 := F_sortedPairs_a1.keep K5 (ninS ne_a1_pA nin0)
  have F_indices_a1 := F_indices_a1.keep K5 (ninS ne_a1_pA nin0)
  have F_sortedIndices_a1 := F_sortedIndices_a1.keep K5 (ninS ne_a1_pA nin0)
  have F_numbers_a1 := F_numbers_a1.keep K5 (ninS ne_a1_pA nin0)
  have F_count_a1 := F_count_a1.keep K5 (ninS ne_a1_pA nin0)
  show own_Go p e below C T5 (mkF m 74 #[.val (.int p1), .val (.int p2), .val (.int p3), .val (.int p4), .val (.int p5), .val (.int p6), .val (.int vF0n), .val (.int vS0n), .val (.int vF1n), .val (.int vS1n), .val (.int vF2n), .val (.int vS2n), .val (.ref a1), .unset, .unset, .unset, .unset, .unset, .unset, .unset, .unset] [])
  refine own_aload W5 76 at_74 rfl rfl rfl ?_
  refine own_iconst W5 (2 : Int32) 77 at_76 rfl rfl ?_
  refine own_iload W5 79 at_77 rfl rfl ?_
  refine own_iload W5 81 at_79 rfl rfl ?_
  have S_ad := own_staK0 S0 (own_WK W5)
  refine own_callV W5 (A := [(.int (2 : Int32)), (.int vF2n), (.int vS2n)]) (wt := 0) (pc' := 84) (st := []) at_81 (wd29 hw) (wd30 hw) (own_nf W5 (wd32 hw)) (wd32 hw) (wd31 hw) (wd3 hw) (wd33 hw) (by decide) X_a1 (own_m4 l Z a0 hw [] h5 a1 (2 : Int32) vF2n vS2n pA (own_upL (own_upL (fun _ => 0) 0 q0) 1 q1) 2 F2n S2n S_ad F_pairs_a1 V_pA ne_a1_pA rfl (by omega) hF2n hS2n lF2n lS2n) (allS (Or.inr o_pA) all0) rfl pd_7 rfl (Nat.le_of_eq rfl) (by decide) (by decide) (by decide) (by decide) rfl ?_
  rintro T6 h6 _ W6 K6 P6 ⟨rfl, ⟨q2, hq2, V_pA⟩⟩
  have X_a1 := X_a1.keep K6
  have V_pB := V_pB.keep K6 (ninS (Ne.symm ne_pA_pB) nin0)
  have V_xA := V_xA.keep K6 (ninS (Ne.symm ne_pA_xA) nin0)
  have V_xB := V_xB.keep K6 (ninS (Ne.symm ne_pA_xB) nin0)
  have V_nb := V_nb.keep K6 (ninS (Ne.symm ne_pA_nb) nin0)
  have F_pairs_a1 := F_pairs_a1.keep K6 (ninS ne_a1_pA nin0)
  have F_sortedPairs_a1 := F_sortedPairs_a1.keep K6 (ninS ne_a1_pA nin0)
  have F_indices_a1 := F_indices_a1.keep K6 (ninS ne_a1_pA nin0)
  have F_sortedIndices_a1 := F_sortedIndices_a1.keep K6 (ninS ne_a1_pA nin0)
  have F_numbers_a1 := F_numbers_a1.keep K6 (ninS ne_a1_pA nin0)
  have F_count_a1 := F_count_a1.keep K6 (ninS ne_a1_pA nin0)
  show own_Go p e below C T6 (mkF m 84 #[.val (.int p1), .val (.int p2), .val (.int p3), .val (.int p4), .val (.int p5), .val (.int p6), .val (.int vF0n), .val (.int vS0n), .val (.int vF1n), .val (.int vS1n), .val (.int vF2n), .val (.int vS2n), .val (.ref a1), .unset, .unset, .unset, .unset, .unset, .unset, .unset, .unset] [])
  refine own_aload W6 86 at_84 rfl rfl rfl ?_
  obtain ⟨FF, hFF⟩ : ∃ f : Nat → Nat, f = fun j => if j = 0 then F0n else if j = 1 then F1n else F2n := ⟨_, rfl⟩
  obtain ⟨SS, hSS⟩ : ∃ f : Nat → Nat, f = fun j => if j = 0 then S0n else if j = 1 then S1n else S2n := ⟨_, rfl⟩
  have eF0 : FF 0 = F0n := by rw [hFF]; rfl
  have eS0 : SS 0 = S0n := by rw [hSS]; rfl
  have eF1 : FF 1 = F1n := by rw [hFF]; rfl
  have eS1 : SS 1 = S1n := by rw [hSS]; rfl
  have eF2 : FF 2 = F2n := by rw [hFF]; rfl
  have eS2 : SS 2 = S2n := by rw [hSS]; rfl
  have hpg : ∀ j, j < 3 → ((own_upL (own_upL (own_upL (fun _ => 0) 0 q0) 1 q1) 2 q2) j).toInt = ((FF j * 4294967296 + SS j : Nat) : Int) := fun j hj => by
    rcases (by omega : j = 0 ∨ j = 1 ∨ j = 2) with rfl | rfl | rfl
    · rw [eF0, eS0]; exact hq0
    · rw [eF1, eS1]; exact hq1
    · rw [eF2, eS2]; exact hq2
  have hFl : ∀ j, j < 3 → FF j < 2147483648 := fun j hj => by
    rcases (by omega : j = 0 ∨ j = 1 ∨ j = 2) with rfl | rfl | rfl <;> omega
  have hSl : ∀ j, j < 3 → SS j < 2147483648 := fun j hj => by
    rcases (by omega : j = 0 ∨ j = 1 ∨ j = 2) with rfl | rfl | rfl <;> omega
  refine own_callV W6 (A := []) (wt := 0) (pc' := 89) (st := []) at_86 (wd36 hw) (wd37 hw) (own_nf W6 (wd39 hw)) (wd39 hw) (wd38 hw) (wd3 hw) (wd40 hw) (by decide) X_a1 (own_m5 l Z a0 hw [] h6 a1 pA pB xA xB nb FF SS (own_upL (own_upL (own_upL (fun _ => 0) 0 q0) 1 q1) 2 q2) _ _ _ _ X_a1 F_pairs_a1 F_sortedPairs_a1 F_indices_a1 F_sortedIndices_a1 F_numbers_a1 F_count_a1 V_pA V_pB V_xA V_xB V_nb ne_a1_pA ne_a1_pB ne_a1_xA ne_a1_xB ne_a1_nb ne_pA_pB ne_pA_xA ne_pA_xB ne_pA_nb ne_pB_xA ne_pB_xB ne_pB_nb ne_xA_xB ne_xA_nb ne_xB_nb hpg hFl hSl) (allS (Or.inr o_a1) (allS (Or.inr o_pA) (allS (Or.inr o_pB) (allS (Or.inr o_xA) (allS (Or.inr o_xB) (allS (Or.inr o_nb) all0)))))) rfl pd_8 rfl (Nat.le_of_eq rfl) (by decide) (by decide) (by decide) (by decide) rfl ?_
  rintro T7 h7 _ W7 K7 P7 ⟨dd, ng, rfl, hdd, F_numbers_a1, V_nb, hn0, hn1, hn2⟩
  have X_a1 := X_a1.keep K7
  show own_Go p e below C T7 (mkF m 89 #[.val (.int p1), .val (.int p2), .val (.int p3), .val (.int p4), .val (.int p5), .val (.int p6), .val (.int vF0n), .val (.int vS0n), .val (.int vF1n), .val (.int vS1n), .val (.int vF2n), .val (.int vS2n), .val (.ref a1), .unset, .unset, .unset, .unset, .unset, .unset, .unset, .unset] [(.int dd)])
  rw [eF0, eF1, eF2, eS0, eS1, eS2] at hdd hn0 hn1 hn2
  refine own_istore W7 91 #[.val (.int p1), .val (.int p2), .val (.int p3), .val (.int p4), .val (.int p5), .val (.int p6), .val (.int vF0n), .val (.int vS0n), .val (.int vF1n), .val (.int vS1n), .val (.int vF2n), .val (.int vS2n), .val (.ref a1), .val (.int dd), .unset, .unset, .unset, .unset, .unset, .unset, .unset] at_89 rfl rfl ?_
  refine own_iload W7 93 at_91 rfl rfl ?_
  refine own_iload W7 95 at_93 rfl rfl ?_
  suffices J8 : own_Go p e below C T7 (mkF m 110 #[.val (.int p1), .val (.int p2), .val (.int p3), .val (.int p4), .val (.int p5), .val (.int p6), .val (.int vF0n), .val (.int vS0n), .val (.int vF1n), .val (.int vS1n), .val (.int vF2n), .val (.int vS2n), .val (.ref a1), .val (.int dd), .unset, .unset, .unset, .unset, .unset, .unset, .unset] [(.int (if vF0n = vF1n then (if vS0n = vS1n then (1 : Int32) else (0 : Int32)) else (0 : Int32)))]) by
    by_cases c9 : vF0n = vF1n
    · refine own_icmpN W7 98 at_95 ((teq c9).2) rfl ?_
      refine own_iload W7 100 at_98 rfl rfl ?_
      refine own_iload W7 102 at_100 rfl rfl ?_
      by_cases c10 : vS0n = vS1n
      · refine own_icmpN W7 105 at_102 ((teq c10).2) rfl ?_
        refine own_iconst W7 (1 : Int32) 106 at_105 rfl rfl ?_
        refine own_goto W7 110 at_106 (by decide) (by decide) ?_
        first | (simp only [if_pos c9, if_pos c10] at J8; exact J8) | (simp only [if_pos c9, if_pos c10] at J8 ⊢; exact J8)
      · refine own_icmpY W7 109 at_102 ((feq c10).2) (by decide) (by decide) ?_
        refine own_iconst W7 (0 : Int32) 110 at_109 rfl rfl ?_
        first | (simp only [if_pos c9, if_neg c10] at J8; exact J8) | (simp only [if_pos c9, if_neg c10] at J8 ⊢; exact J8)
    · refine own_icmpY W7 109 at_95 ((feq c9).2) (by decide) (by decide) ?_
      refine own_iconst W7 (0 : Int32) 110 at_109 rfl rfl ?_
      first | (simp only [if_neg c9] at J8; exact J8) | (simp only [if_neg c9] at J8 ⊢; exact J8)
  rw [show (if vF0n = vF1n then (if vS0n = vS1n then (1 : Int32) else (0 : Int32)) else (0 : Int32)) = (if (F0n * 4294967296 + S0n) = (F1n * 4294967296 + S1n) then (1 : Int32) else (0 : Int32)) from own_eqv hF0n hS0n hF1n hS1n lS0n lS1n]
  refine own_istore W7 112 #[.val (.int p1), .val (.int p2), .val (.int p3), .val (.int p4), .val (.int p5), .val (.int p6), .val (.int vF0n), .val (.int vS0n), .val (.int vF1n), .val (.int vS1n), .val (.int vF2n), .val (.int vS2n), .val (.ref a1), .val (.int dd), .val (.int (if (F0n * 4294967296 + S0n) = (F1n * 4294967296 + S1n) then (1 : Int32) else (0 : Int32))), .unset, .unset, .unset, .unset, .unset, .unset] at_110 rfl rfl ?_
  refine own_iload W7 114 at_112 rfl rfl ?_
  refine own_iload W7 116 at_114 rfl rfl ?_
  suffices J11 : own_Go p e below C T7 (mkF m 131 #[.val (.int p1), .val (.int p2), .val (.int p3), .val (.int p4), .val (.int p5), .val (.int p6), .val (.int vF0n), .val (.int vS0n), .val (.int vF1n), .val (.int vS1n), .val (.int vF2n), .val (.int vS2n), .val (.ref a1), .val (.int dd), .val (.int (if (F0n * 4294967296 + S0n) = (F1n * 4294967296 + S1n) then (1 : Int32) else (0 : Int32))), .unset, .unset, .unset, .unset, .unset, .unset] [(.int (if vF0n = vF2n then (if vS0n = vS2n then (1 : Int32) else (0 : Int32)) else (0 : Int32)))]) by
    by_cases c12 : vF0n = vF2n
    · refine own_icmpN W7 119 at_116 ((teq c12).2) rfl ?_
      refine own_iload W7 121 at_119 rfl rfl ?_
      refine own_iload W7 123 at_121 rfl rfl ?_
      by_cases c13 : vS0n = vS2n
      · refine own_icmpN W7 126 at_123 ((teq c13).2) rfl ?_
        refine own_iconst W7 (1 : Int32) 127 at_126 rfl rfl ?_
        refine own_goto W7 131 at_127 (by decide) (by decide) ?_
        first | (simp only [if_pos c12, if_pos c13] at J11; exact J11) | (simp only [if_pos c12, if_pos c13] at J11 ⊢; exact J11)
      · refine own_icmpY W7 130 at_123 ((feq c13).2) (by decide) (by decide) ?_
        refine own_iconst W7 (0 : Int32) 131 at_130 rfl rfl ?_
        first | (simp only [if_pos c12, if_neg c13] at J11; exact J11) | (simp only [if_pos c12, if_neg c13] at J11 ⊢; exact J11)
    · refine own_icmpY W7 130 at_116 ((feq c12).2) (by decide) (by decide) ?_
      refine own_iconst W7 (0 : Int32) 131 at_130 rfl rfl ?_
      first | (simp only [if_neg c12] at J11; exact J11) | (simp only [if_neg c12] at J11 ⊢; exact J11)
  rw [show (if vF0n = vF2n then (if vS0n = vS2n then (1 : Int32) else (0 : Int32)) else (0 : Int32)) = (if (F0n * 4294967296 + S0n) = (F2n * 4294967296 + S2n) then (1 : Int32) else (0 : Int32)) from own_eqv hF0n hS0n hF2n hS2n lS0n lS2n]
  refine own_istore W7 133 #[.val (.int p1), .val (.int p2), .val (.int p3), .val (.int p4), .val (.int p5), .val (.int p6), .val (.int vF0n), .val (.int vS0n), .val (.int vF1n), .val (.int vS1n), .val (.int vF2n), .val (.int vS2n), .val (.ref a1), .val (.int dd), .val (.int (if (F0n * 4294967296 + S0n) = (F1n * 4294967296 + S1n) then (1 : Int32) else (0 : Int32))), .val (.int (if (F0n * 4294967296 + S0n) = (F2n * 4294967296 + S2n) then (1 : Int32) else (0 : Int32))), .unset, .unset, .unset, .unset, .unset] at_131 rfl rfl ?_
  refine own_iload W7 135 at_133 rfl rfl ?_
  refine own_iload W7 137 at_135 rfl rfl ?_
  suffices J14 : own_Go p e below C T7 (mkF m 152 #[.val (.int p1), .val (.int p2), .val (.int p3), .val (.int p4), .val (.int p5), .val (.int p6), .val (.int vF0n), .val (.int vS0n), .val (.int vF1n), .val (.int vS1n), .val (.int vF2n), .val (.int vS2n), .val (.ref a1), .val (.int dd), .val (.int (if (F0n * 4294967296 + S0n) = (F1n * 4294967296 + S1n) then (1 : Int32) else (0 : Int32))), .val (.int (if (F0n * 4294967296 + S0n) = (F2n * 4294967296 + S2n) then (1 : Int32) else (0 : Int32))), .unset, .unset, .unset, .unset, .unset] [(.int (if vF1n = vF2n then (if vS1n = vS2n then (1 : Int32) else (0 : Int32)) else (0 : Int32)))]) by
    by_cases c15 : vF1n = vF2n
    · refine own_icmpN W7 140 at_137 ((teq c15).2) rfl ?_
      refine own_iload W7 142 at_140 rfl rfl ?_
      refine own_iload W7 144 at_142 rfl rfl ?_
      by_cases c16 : vS1n = vS2n
      · refine own_icmpN W7 147 at_144 ((teq c16).2) rfl ?_
        refine own_iconst W7 (1 : Int32) 148 at_147 rfl rfl ?_
        refine own_goto W7 152 at_148 (by decide) (by decide) ?_
        first | (simp only [if_pos c15, if_pos c16] at J14; exact J14) | (simp only [if_pos c15, if_pos c16] at J14 ⊢; exact J14)
      · refine own_icmpY W7 151 at_144 ((feq c16).2) (by decide) (by decide) ?_
        refine own_iconst W7 (0 : Int32) 152 at_151 rfl rfl ?_
        first | (simp only [if_pos c15, if_neg c16] at J14; exact J14) | (simp only [if_pos c15, if_neg c16] at J14 ⊢; exact J14)
    · refine own_icmpY W7 151 at_137 ((feq c15).2) (by decide) (by decide) ?_
      refine own_iconst W7 (0 : Int32) 152 at_151 rfl rfl ?_
      first | (simp only [if_neg c15] at J14; exact J14) | (simp only [if_neg c15] at J14 ⊢; exact J14)
  rw [show (if vF1n = vF2n then (if vS1n = vS2n then (1 : Int32) else (0 : Int32)) else (0 : Int32)) = (if (F1n * 4294967296 + S1n) = (F2n * 4294967296 + S2n) then (1 : Int32) else (0 : Int32)) from own_eqv hF1n hS1n hF2n hS2n lS1n lS2n]
  refine own_istore W7 154 #[.val (.int p1), .val (.int p2), .val (.int p3), .val (.int p4), .val (.int p5), .val (.int p6), .val (.int vF0n), .val (.int vS0n), .val (.int vF1n), .val (.int vS1n), .val (.int vF2n), .val (.int vS2n), .val (.ref a1), .val (.int dd), .val (.int (if (F0n * 4294967296 + S0n) = (F1n * 4294967296 + S1n) then (1 : Int32) else (0 : Int32))), .val (.int (if (F0n * 4294967296 + S0n) = (F2n * 4294967296 + S2n) then (1 : Int32) else (0 : Int32))), .val (.int (if (F1n * 4294967296 + S1n) = (F2n * 4294967296 + S2n) then (1 : Int32) else (0 : Int32))), .unset, .unset, .unset, .unset] at_152 rfl rfl ?_
  refine own_iconst W7 (1 : Int32) 155 at_154 rfl rfl ?_
  refine own_iload W7 157 at_155 rfl rfl ?_
  suffices J17 : own_Go p e below C T7 (mkF m 165 #[.val (.int p1), .val (.int p2), .val (.int p3), .val (.int p4), .val (.int p5), .val (.int p6), .val (.int vF0n), .val (.int vS0n), .val (.int vF1n), .val (.int vS1n), .val (.int vF2n), .val (.int vS2n), .val (.ref a1), .val (.int dd), .val (.int (if (F0n * 4294967296 + S0n) = (F1n * 4294967296 + S1n) then (1 : Int32) else (0 : Int32))), .val (.int (if (F0n * 4294967296 + S0n) = (F2n * 4294967296 + S2n) then (1 : Int32) else (0 : Int32))), .val (.int (if (F1n * 4294967296 + S1n) = (F2n * 4294967296 + S2n) then (1 : Int32) else (0 : Int32))), .unset, .unset, .unset, .unset] [(.int (if (F0n * 4294967296 + S0n) = (F1n * 4294967296 + S1n) then (0 : Int32) else (1 : Int32))), (.int (1 : Int32))]) by
    by_cases c18 : (F0n * 4294967296 + S0n) = (F1n * 4294967296 + S1n)
    · refine own_ifN W7 160 at_157 ((if0 _ _).trans (feq (own_b1 c18)).1) rfl ?_
      refine own_iconst W7 (0 : Int32) 161 at_160 rfl rfl ?_
      refine own_goto W7 165 at_161 (by decide) (by decide) ?_
      first | (simp only [if_pos c18] at J17; exact J17) | (simp only [if_pos c18] at J17 ⊢; exact J17)
    · refine own_ifY W7 164 at_157 ((if0 _ _).trans (teq (own_b0 c18)).1) (by decide) (by decide) ?_
      refine own_iconst W7 (1 : Int32) 165 at_164 rfl rfl ?_
      first | (simp only [if_neg c18] at J17; exact J17) | (simp only [if_neg c18] at J17 ⊢; exact J17)
  refine own_iadd W7 166 at_165 rfl ?_
  refine own_iload W7 168 at_166 rfl rfl ?_
  suffices J19 : own_Go p e below C T7 (mkF m 181 #[.val (.int p1), .val (.int p2), .val (.int p3), .val (.int p4), .val (.int p5), .val (.int p6), .val (.int vF0n), .val (.int vS0n), .val (.int vF1n), .val (.int vS1n), .val (.int vF2n), .val (.int vS2n), .val (.ref a1), .val (.int dd), .val (.int (if (F0n * 4294967296 + S0n) = (F1n * 4294967296 + S1n) then (1 : Int32) else (0 : Int32))), .val (.int (if (F0n * 4294967296 + S0n) = (F2n * 4294967296 + S2n) then (1 : Int32) else (0 : Int32))), .val (.int (if (F1n * 4294967296 + S1n) = (F2n * 4294967296 + S2n) then (1 : Int32) else (0 : Int32))), .unset, .unset, .unset, .unset] [(.int (if (F0n * 4294967296 + S0n) = (F2n * 4294967296 + S2n) then (0 : Int32) else (if (F1n * 4294967296 + S1n) = (F2n * 4294967296 + S2n) then (0 : Int32) else (1 : Int32)))), (.int ((1 : Int32) + (if (F0n * 4294967296 + S0n) = (F1n * 4294967296 + S1n) then (0 : Int32) else (1 : Int32))))]) by
    by_cases c20 : (F0n * 4294967296 + S0n) = (F2n * 4294967296 + S2n)
    · refine own_ifY W7 176 at_168 ((if0 _ _).trans (feq (own_b1 c20)).2) (by decide) (by decide) ?_
      refine own_iconst W7 (0 : Int32) 177 at_176 rfl rfl ?_
      refine own_goto W7 181 at_177 (by decide) (by decide) ?_
      first | (simp only [if_pos c20] at J19; exact J19) | (simp only [if_pos c20] at J19 ⊢; exact J19)
    · refine own_ifN W7 171 at_168 ((if0 _ _).trans (teq (own_b0 c20)).2) rfl ?_
      refine own_iload W7 173 at_171 rfl rfl ?_
      by_cases c21 : (F1n * 4294967296 + S1n) = (F2n * 4294967296 + S2n)
      · refine own_ifN W7 176 at_173 ((if0 _ _).trans (feq (own_b1 c21)).1) rfl ?_
        refine own_iconst W7 (0 : Int32) 177 at_176 rfl rfl ?_
        refine own_goto W7 181 at_177 (by decide) (by decide) ?_
        first | (simp only [if_neg c20, if_pos c21] at J19; exact J19) | (simp only [if_neg c20, if_pos c21] at J19 ⊢; exact J19)
      · refine own_ifY W7 180 at_173 ((if0 _ _).trans (teq (own_b0 c21)).1) (by decide) (by decide) ?_
        refine own_iconst W7 (1 : Int32) 181 at_180 rfl rfl ?_
        first | (simp only [if_neg c20, if_neg c21] at J19; exact J19) | (simp only [if_neg c20, if_neg c21] at J19 ⊢; exact J19)
  refine own_iadd W7 182 at_181 rfl ?_
  refine own_istore W7 184 #[.val (.int p1), .val (.int p2), .val (.int p3), .val (.int p4), .val (.int p5), .val (.int p6), .val (.int vF0n), .val (.int vS0n), .val (.int vF1n), .val (.int vS1n), .val (.int vF2n), .val (.int vS2n), .val (.ref a1), .val (.int dd), .val (.int (if (F0n * 4294967296 + S0n) = (F1n * 4294967296 + S1n) then (1 : Int32) else (0 : Int32))), .val (.int (if (F0n * 4294967296 + S0n) = (F2n * 4294967296 + S2n) then (1 : Int32) else (0 : Int32))), .val (.int (if (F1n * 4294967296 + S1n) = (F2n * 4294967296 + S2n) then (1 : Int32) else (0 : Int32))), .val (.int (((1 : Int32) + (if (F0n * 4294967296 + S0n) = (F1n * 4294967296 + S1n) then (0 : Int32) else (1 : Int32))) + (if (F0n * 4294967296 + S0n) = (F2n * 4294967296 + S2n) then (0 : Int32) else (if (F1n * 4294967296 + S1n) = (F2n * 4294967296 + S2n) then (0 : Int32) else (1 : Int32))))), .unset, .unset, .unset] at_182 rfl rfl ?_
  refine own_iload W7 186 at_184 rfl rfl ?_
  refine own_iload W7 188 at_186 rfl rfl ?_
  refine own_iload W7 190 at_188 rfl rfl ?_
  refine own_iload W7 192 at_190 rfl rfl ?_
  refine own_iload W7 194 at_192 rfl rfl ?_
  refine own_iload W7 196 at_194 rfl rfl ?_
  refine own_callS W7 (A := [(.int vF0n), (.int vS0n), (.int vF1n), (.int vS1n), (.int vF2n), (.int vS2n)]) (wt := 0) (pc' := 199) (st := []) at_196 (wd63 hw) (wd64 hw) (wd65 hw) (wd66 hw) (by decide) (own_m11 l Z a0 hw [] h7 vF0n vS0n vF1n vS1n vF2n vS2n F0n S0n F1n S1n F2n S2n hF0n hS0n hF1n hS1n hF2n hS2n lS0n lS1n lS2n) all0 rfl pd_9 rfl (Nat.le_of_eq rfl) (by decide) (by decide) (by decide) (by decide) rfl ?_
  rintro T22 h22 _ W22 K22 P22 ⟨r0, rfl, hr0⟩
  rw [P22 rfl rfl] at W22
  show own_Go p e below C T22 (mkF m 199 #[.val (.int p1), .val (.int p2), .val (.int p3), .val (.int p4), .val (.int p5), .val (.int p6), .val (.int vF0n), .val (.int vS0n), .val (.int vF1n), .val (.int vS1n), .val (.int vF2n), .val (.int vS2n), .val (.ref a1), .val (.int dd), .val (.int (if (F0n * 4294967296 + S0n) = (F1n * 4294967296 + S1n) then (1 : Int32) else (0 : Int32))), .val (.int (if (F0n * 4294967296 + S0n) = (F2n * 4294967296 + S2n) then (1 : Int32) else (0 : Int32))), .val (.int (if (F1n * 4294967296 + S1n) = (F2n * 4294967296 + S2n) then (1 : Int32) else (0 : Int32))), .val (.int (((1 : Int32) + (if (F0n * 4294967296 + S0n) = (F1n * 4294967296 + S1n) then (0 : Int32) else (1 : Int32))) + (if (F0n * 4294967296 + S0n) = (F2n * 4294967296 + S2n) then (0 : Int32) else (if (F1n * 4294967296 + S1n) = (F2n * 4294967296 + S2n) then (0 : Int32) else (1 : Int32))))), .unset, .unset, .unset] [(.int r0)])
  refine own_istore W22 201 #[.val (.int p1), .val (.int p2), .val (.int p3), .val (.int p4), .val (.int p5), .val (.int p6), .val (.int vF0n), .val (.int vS0n), .val (.int vF1n), .val (.int vS1n), .val (.int vF2n), .val (.int vS2n), .val (.ref a1), .val (.int dd), .val (.int (if (F0n * 4294967296 + S0n) = (F1n * 4294967296 + S1n) then (1 : Int32) else (0 : Int32))), .val (.int (if (F0n * 4294967296 + S0n) = (F2n * 4294967296 + S2n) then (1 : Int32) else (0 : Int32))), .val (.int (if (F1n * 4294967296 + S1n) = (F2n * 4294967296 + S2n) then (1 : Int32) else (0 : Int32))), .val (.int (((1 : Int32) + (if (F0n * 4294967296 + S0n) = (F1n * 4294967296 + S1n) then (0 : Int32) else (1 : Int32))) + (if (F0n * 4294967296 + S0n) = (F2n * 4294967296 + S2n) then (0 : Int32) else (if (F1n * 4294967296 + S1n) = (F2n * 4294967296 + S2n) then (0 : Int32) else (1 : Int32))))), .val (.int r0), .unset, .unset] at_199 rfl rfl ?_
  refine own_iload W22 203 at_201 rfl rfl ?_
  refine own_iload W22 205 at_203 rfl rfl ?_
  refine own_iload W22 207 at_205 rfl rfl ?_
  refine own_iload W22 209 at_207 rfl rfl ?_
  refine own_iload W22 211 at_209 rfl rfl ?_
  refine own_iload W22 213 at_211 rfl rfl ?_
  refine own_callS W22 (A := [(.int vF1n), (.int vS1n), (.int vF0n), (.int vS0n), (.int vF2n), (.int vS2n)]) (wt := 0) (pc' := 216) (st := []) at_213 (wd63 hw) (wd64 hw) (wd65 hw) (wd66 hw) (by decide) (own_m11 l Z a0 hw [] h7 vF1n vS1n vF0n vS0n vF2n vS2n F1n S1n F0n S0n F2n S2n hF1n hS1n hF0n hS0n hF2n hS2n lS1n lS0n lS2n) all0 rfl pd_9 rfl (Nat.le_of_eq rfl) (by decide) (by decide) (by decide) (by decide) rfl ?_
  rintro T23 h23 _ W23 K23 P23 ⟨r1, rfl, hr1⟩
  rw [P23 rfl rfl] at W23
  show own_Go p e below C T23 (mkF m 216 #[.val (.int p1), .val (.int p2), .val (.int p3), .val (.int p4), .val (.int p5), .val (.int p6), .val (.int vF0n), .val (.int vS0n), .val (.int vF1n), .val (.int vS1n), .val (.int vF2n), .val (.int vS2n), .val (.ref a1), .val (.int dd), .val (.int (if (F0n * 4294967296 + S0n) = (F1n * 4294967296 + S1n) then (1 : Int32) else (0 : Int32))), .val (.int (if (F0n * 4294967296 + S0n) = (F2n * 4294967296 + S2n) then (1 : Int32) else (0 : Int32))), .val (.int (if (F1n * 4294967296 + S1n) = (F2n * 4294967296 + S2n) then (1 : Int32) else (0 : Int32))), .val (.int (((1 : Int32) + (if (F0n * 4294967296 + S0n) = (F1n * 4294967296 + S1n) then (0 : Int32) else (1 : Int32))) + (if (F0n * 4294967296 + S0n) = (F2n * 4294967296 + S2n) then (0 : Int32) else (if (F1n * 4294967296 + S1n) = (F2n * 4294967296 + S2n) then (0 : Int32) else (1 : Int32))))), .val (.int r0), .unset, .unset] [(.int r1)])
  refine own_istore W23 218 #[.val (.int p1), .val (.int p2), .val (.int p3), .val (.int p4), .val (.int p5), .val (.int p6), .val (.int vF0n), .val (.int vS0n), .val (.int vF1n), .val (.int vS1n), .val (.int vF2n), .val (.int vS2n), .val (.ref a1), .val (.int dd), .val (.int (if (F0n * 4294967296 + S0n) = (F1n * 4294967296 + S1n) then (1 : Int32) else (0 : Int32))), .val (.int (if (F0n * 4294967296 + S0n) = (F2n * 4294967296 + S2n) then (1 : Int32) else (0 : Int32))), .val (.int (if (F1n * 4294967296 + S1n) = (F2n * 4294967296 + S2n) then (1 : Int32) else (0 : Int32))), .val (.int (((1 : Int32) + (if (F0n * 4294967296 + S0n) = (F1n * 4294967296 + S1n) then (0 : Int32) else (1 : Int32))) + (if (F0n * 4294967296 + S0n) = (F2n * 4294967296 + S2n) then (0 : Int32) else (if (F1n * 4294967296 + S1n) = (F2n * 4294967296 + S2n) then (0 : Int32) else (1 : Int32))))), .val (.int r0), .val (.int r1), .unset] at_216 rfl rfl ?_
  refine own_iload W23 220 at_218 rfl rfl ?_
  refine own_iload W23 222 at_220 rfl rfl ?_
  refine own_iload W23 224 at_222 rfl rfl ?_
  refine own_iload W23 226 at_224 rfl rfl ?_
  refine own_iload W23 228 at_226 rfl rfl ?_
  refine own_iload W23 230 at_228 rfl rfl ?_
  refine own_callS W23 (A := [(.int vF2n), (.int vS2n), (.int vF0n), (.int vS0n), (.int vF1n), (.int vS1n)]) (wt := 0) (pc' := 233) (st := []) at_230 (wd63 hw) (wd64 hw) (wd65 hw) (wd66 hw) (by decide) (own_m11 l Z a0 hw [] h7 vF2n vS2n vF0n vS0n vF1n vS1n F2n S2n F0n S0n F1n S1n hF2n hS2n hF0n hS0n hF1n hS1n lS2n lS0n lS1n) all0 rfl pd_9 rfl (Nat.le_of_eq rfl) (by decide) (by decide) (by decide) (by decide) rfl ?_
  rintro T24 h24 _ W24 K24 P24 ⟨r2, rfl, hr2⟩
  rw [P24 rfl rfl] at W24
  show own_Go p e below C T24 (mkF m 233 #[.val (.int p1), .val (.int p2), .val (.int p3), .val (.int p4), .val (.int p5), .val (.int p6), .val (.int vF0n), .val (.int vS0n), .val (.int vF1n), .val (.int vS1n), .val (.int vF2n), .val (.int vS2n), .val (.ref a1), .val (.int dd), .val (.int (if (F0n * 4294967296 + S0n) = (F1n * 4294967296 + S1n) then (1 : Int32) else (0 : Int32))), .val (.int (if (F0n * 4294967296 + S0n) = (F2n * 4294967296 + S2n) then (1 : Int32) else (0 : Int32))), .val (.int (if (F1n * 4294967296 + S1n) = (F2n * 4294967296 + S2n) then (1 : Int32) else (0 : Int32))), .val (.int (((1 : Int32) + (if (F0n * 4294967296 + S0n) = (F1n * 4294967296 + S1n) then (0 : Int32) else (1 : Int32))) + (if (F0n * 4294967296 + S0n) = (F2n * 4294967296 + S2n) then (0 : Int32) else (if (F1n * 4294967296 + S1n) = (F2n * 4294967296 + S2n) then (0 : Int32) else (1 : Int32))))), .val (.int r0), .val (.int r1), .unset] [(.int r2)])
  refine own_istore W24 235 #[.val (.int p1), .val (.int p2), .val (.int p3), .val (.int p4), .val (.int p5), .val (.int p6), .val (.int vF0n), .val (.int vS0n), .val (.int vF1n), .val (.int vS1n), .val (.int vF2n), .val (.int vS2n), .val (.ref a1), .val (.int dd), .val (.int (if (F0n * 4294967296 + S0n) = (F1n * 4294967296 + S1n) then (1 : Int32) else (0 : Int32))), .val (.int (if (F0n * 4294967296 + S0n) = (F2n * 4294967296 + S2n) then (1 : Int32) else (0 : Int32))), .val (.int (if (F1n * 4294967296 + S1n) = (F2n * 4294967296 + S2n) then (1 : Int32) else (0 : Int32))), .val (.int (((1 : Int32) + (if (F0n * 4294967296 + S0n) = (F1n * 4294967296 + S1n) then (0 : Int32) else (1 : Int32))) + (if (F0n * 4294967296 + S0n) = (F2n * 4294967296 + S2n) then (0 : Int32) else (if (F1n * 4294967296 + S1n) = (F2n * 4294967296 + S2n) then (0 : Int32) else (1 : Int32))))), .val (.int r0), .val (.int r1), .val (.int r2)] at_233 rfl rfl ?_
  refine own_iload W24 237 at_235 rfl rfl ?_
  refine own_iload W24 239 at_237 rfl rfl ?_
  refine own_icmpN W24 242 at_239 ((teq (own_expD hdd : dd = (((1 : Int32) + (if (F0n * 4294967296 + S0n) = (F1n * 4294967296 + S1n) then (0 : Int32) else (1 : Int32))) + (if (F0n * 4294967296 + S0n) = (F2n * 4294967296 + S2n) then (0 : Int32) else (if (F1n * 4294967296 + S1n) = (F2n * 4294967296 + S2n) then (0 : Int32) else (1 : Int32)))))).2) rfl ?_
  refine own_aload W24 244 at_242 rfl rfl rfl ?_
  refine own_iconst W24 (0 : Int32) 245 at_244 rfl rfl ?_
  refine own_callV W24 (A := [(.int (0 : Int32))]) (wt := 0) (pc' := 248) (st := []) at_245 (wd70 hw) (wd71 hw) (own_nf W24 (wd73 hw)) (wd73 hw) (wd72 hw) (wd3 hw) (wd74 hw) (by decide) X_a1 (own_m13 l Z a0 hw [] h7 a1 (0 : Int32) nb ng 0 F_numbers_a1 V_nb rfl (by omega)) all0 rfl pd_1 rfl (Nat.le_of_eq rfl) (by decide) (by decide) (by decide) (by decide) rfl ?_
  rintro T25 h25 _ W25 K25 P25 rfl
  rw [P25 rfl rfl] at W25
  show own_Go p e below C T25 (mkF m 248 #[.val (.int p1), .val (.int p2), .val (.int p3), .val (.int p4), .val (.int p5), .val (.int p6), .val (.int vF0n), .val (.int vS0n), .val (.int vF1n), .val (.int vS1n), .val (.int vF2n), .val (.int vS2n), .val (.ref a1), .val (.int dd), .val (.int (if (F0n * 4294967296 + S0n) = (F1n * 4294967296 + S1n) then (1 : Int32) else (0 : Int32))), .val (.int (if (F0n * 4294967296 + S0n) = (F2n * 4294967296 + S2n) then (1 : Int32) else (0 : Int32))), .val (.int (if (F1n * 4294967296 + S1n) = (F2n * 4294967296 + S2n) then (1 : Int32) else (0 : Int32))), .val (.int (((1 : Int32) + (if (F0n * 4294967296 + S0n) = (F1n * 4294967296 + S1n) then (0 : Int32) else (1 : Int32))) + (if (F0n * 4294967296 + S0n) = (F2n * 4294967296 + S2n) then (0 : Int32) else (if (F1n * 4294967296 + S1n) = (F2n * 4294967296 + S2n) then (0 : Int32) else (1 : Int32))))), .val (.int r0), .val (.int r1), .val (.int r2)] [(.int (ng 0))])
  refine own_iload W25 250 at_248 rfl rfl ?_
  refine own_icmpN W25 253 at_250 ((teq (Int32.toInt_inj.mp (hn0.trans hr0.symm) : (ng 0) = r0)).2) rfl ?_
  refine own_aload W25 255 at_253 rfl rfl rfl ?_
  refine own_iconst W25 (1 : Int32) 256 at_255 rfl rfl ?_
  refine own_callV W25 (A := [(.int (1 : Int32))]) (wt := 0) (pc' := 259) (st := []) at_256 (wd70 hw) (wd71 hw) (own_nf W25 (wd73 hw)) (wd73 hw) (wd72 hw) (wd3 hw) (wd74 hw) (by decide) X_a1 (own_m13 l Z a0 hw [] h7 a1 (1 : Int32) nb ng 1 F_numbers_a1 V_nb rfl (by omega)) all0 rfl pd_1 rfl (Nat.le_of_eq rfl) (by decide) (by decide) (by decide) (by decide) rfl ?_
  rintro T26 h26 _ W26 K26 P26 rfl
  rw [P26 rfl rfl] at W26
  show own_Go p e below C T26 (mkF m 259 #[.val (.int p1), .val (.int p2), .val (.int p3), .val (.int p4), .val (.int p5), .val (.int p6), .val (.int vF0n), .val (.int vS0n), .val (.int vF1n), .val (.int vS1n), .val (.int vF2n), .val (.int vS2n), .val (.ref a1), .val (.int dd), .val (.int (if (F0n * 4294967296 + S0n) = (F1n * 4294967296 + S1n) then (1 : Int32) else (0 : Int32))), .val (.int (if (F0n * 4294967296 + S0n) = (F2n * 4294967296 + S2n) then (1 : Int32) else (0 : Int32))), .val (.int (if (F1n * 4294967296 + S1n) = (F2n * 4294967296 + S2n) then (1 : Int32) else (0 : Int32))), .val (.int (((1 : Int32) + (if (F0n * 4294967296 + S0n) = (F1n * 4294967296 + S1n) then (0 : Int32) else (1 : Int32))) + (if (F0n * 4294967296 + S0n) = (F2n * 4294967296 + S2n) then (0 : Int32) else (if (F1n * 4294967296 + S1n) = (F2n * 4294967296 + S2n) then (0 : Int32) else (1 : Int32))))), .val (.int r0), .val (.int r1), .val (.int r2)] [(.int (ng 1))])
  refine own_iload W26 261 at_259 rfl rfl ?_
  refine own_icmpN W26 264 at_261 ((teq (Int32.toInt_inj.mp (hn1.trans hr1.symm) : (ng 1) = r1)).2) rfl ?_
  refine own_aload W26 266 at_264 rfl rfl rfl ?_
  refine own_iconst W26 (2 : Int32) 267 at_266 rfl rfl ?_
  refine own_callV W26 (A := [(.int (2 : Int32))]) (wt := 0) (pc' := 270) (st := []) at_267 (wd70 hw) (wd71 hw) (own_nf W26 (wd73 hw)) (wd73 hw) (wd72 hw) (wd3 hw) (wd74 hw) (by decide) X_a1 (own_m13 l Z a0 hw [] h7 a1 (2 : Int32) nb ng 2 F_numbers_a1 V_nb rfl (by omega)) all0 rfl pd_1 rfl (Nat.le_of_eq rfl) (by decide) (by decide) (by decide) (by decide) rfl ?_
  rintro T27 h27 _ W27 K27 P27 rfl
  rw [P27 rfl rfl] at W27
  show own_Go p e below C T27 (mkF m 270 #[.val (.int p1), .val (.int p2), .val (.int p3), .val (.int p4), .val (.int p5), .val (.int p6), .val (.int vF0n), .val (.int vS0n), .val (.int vF1n), .val (.int vS1n), .val (.int vF2n), .val (.int vS2n), .val (.ref a1), .val (.int dd), .val (.int (if (F0n * 4294967296 + S0n) = (F1n * 4294967296 + S1n) then (1 : Int32) else (0 : Int32))), .val (.int (if (F0n * 4294967296 + S0n) = (F2n * 4294967296 + S2n) then (1 : Int32) else (0 : Int32))), .val (.int (if (F1n * 4294967296 + S1n) = (F2n * 4294967296 + S2n) then (1 : Int32) else (0 : Int32))), .val (.int (((1 : Int32) + (if (F0n * 4294967296 + S0n) = (F1n * 4294967296 + S1n) then (0 : Int32) else (1 : Int32))) + (if (F0n * 4294967296 + S0n) = (F2n * 4294967296 + S2n) then (0 : Int32) else (if (F1n * 4294967296 + S1n) = (F2n * 4294967296 + S2n) then (0 : Int32) else (1 : Int32))))), .val (.int r0), .val (.int r1), .val (.int r2)] [(.int (ng 2))])
  refine own_iload W27 272 at_270 rfl rfl ?_
  refine own_icmpN W27 275 at_272 ((teq (Int32.toInt_inj.mp (hn2.trans hr2.symm) : (ng 2) = r2)).2) rfl ?_
  refine own_iconst W27 (1 : Int32) 276 at_275 rfl rfl ?_
  refine own_goto W27 280 at_276 (by decide) (by decide) ?_
  refine own_retZ (Q := fun v h => v = some (.int (1 : Int32))) W27 hC (by decide) (by decide) at_280 ?_
  exact rfl
set_option maxRecDepth 65536 in
set_option maxHeartbeats 40000000 in
theorem comes_1 {Post : Tables → Env → Array Value → State → Outcome → State → Prop} (hpost : ∀ tb e args s v u, (limb_1_1.after args s (.returned v) u = true ∧ limb_1_2.after args s (.returned v) u = true ∧ True) → FrameEnd s (.returned v) u (Jvm.fieldLocs frame_1_writes args s ++ Jvm.arrayLocs frame_1_arrays args s ++ Jvm.staticLocs frame_1_statics s) 24 384 → Post tb e args s (.returned v) u) :
    ArmFor flags0 classFile x code maxLocals ret World_1 tables_1 room_1 Calls_1 rest_1 Pre_1 Post := by
  intro l hfl _ _ p e ha hc hk s m args below hf hA hF happ hP
  obtain ⟨hcalls, hrest, hpre⟩ := hP
  obtain ⟨-, -, -, hnamed, -, -, -, hat⟩ := (Spec.applies_iff hf).mp happ
  obtain ⟨hg, hn⟩ := and_e (Cond.before_iff.mp (show (Jvm.Cond.and given_1 narrow_1).before args s = true from hpre))
  obtain ⟨g1, g2⟩ := and_e hg
  obtain ⟨g3, g4⟩ := and_e g2
  obtain ⟨g5, g6⟩ := and_e g4
  obtain ⟨g7, g8⟩ := and_e g6
  obtain ⟨g9, g10⟩ := and_e g8
  obtain ⟨g11, g12⟩ := and_e g10
  obtain ⟨w0, w1, w2, w3, w4, w5, rfl⟩ : ∃ w0 w1 w2 w3 w4 w5 : Value, args = #[w0, w1, w2, w3, w4, w5] := by
    have hs : args.size = 6 := by simpa [Cond.value, given_1] using g1
    obtain ⟨L⟩ := args
    match L, hs with
    | [w0, w1, w2, w3, w4, w5], _ => exact ⟨w0, w1, w2, w3, w4, w5, rfl⟩
  have hw := fun d (hd : d ∈ tables_1) => atoms_spec (ws := Jvm.Cond.code x code maxLocals ret :: tables_1) hat d (List.mem_cons_of_mem _ hd)
  have hfit : Fit s := fun {y c} hc i hi => by
    obtain ⟨ha, rfl⟩ := Array.getElem?_eq_some_iff.mp hc
    have q := List.all_eq_true.mp ((Array.all_eq_true_iff_forall_mem.mp hF) _ (Array.getElem_mem ha)) i (List.mem_range.mpr hi)
    simpa [Array.getElem?_eq_getElem hi] using q
  obtain ⟨i0, ei0⟩ := is_v g3
  obtain rfl : w0 = (.int i0) := Option.some.inj ei0
  obtain ⟨i1, ei1⟩ := is_v g5
  obtain rfl : w1 = (.int i1) := Option.some.inj ei1
  obtain ⟨i2, ei2⟩ := is_v g7
  obtain rfl : w2 = (.int i2) := Option.some.inj ei2
  obtain ⟨i3, ei3⟩ := is_v g9
  obtain rfl : w3 = (.int i3) := Option.some.inj ei3
  obtain ⟨i4, ei4⟩ := is_v g11
  obtain rfl : w4 = (.int i4) := Option.some.inj ei4
  obtain ⟨i5, ei5⟩ := is_v g12
  obtain rfl : w5 = (.int i5) := Option.some.inj ei5
  have hn1 : (Cond.eq (Term.static "com/example/nodemata/nodemata/PairNumbers" "$assertionsDisabled" "Z") (Term.int (1 : Int32))).value _ s none s [] = some true := hn
  have sAd : Sta s s.heap "com/example/nodemata/nodemata/PairNumbers" "$assertionsDisabled" "Z" (.int (1 : Int32)) := Sta.start (eqv_i (Term.int_eval (1 : Int32)) hn1) (Or.inr ⟨(hw _ (List.mem_of_getElem? (i := 3) rfl)), (hw _ (List.mem_of_getElem? (i := 35) rfl))⟩)
  obtain ⟨n, o, h1, h2, h3, _, L, rfl, ⟨N, -, -, rfl⟩, hq⟩ := own_m0 l s _ hw tables_1 s.heap i0 i1 i2 i3 i4 i5 sAd p e ha hc hk s m _ below hf ((Spec.applies_iff_loose hf).mp happ).1 ⟨rfl, State.Warmed39.refl s, rfl⟩ trivial
  refine ⟨n, _, h1, h2, h3, hpost _ _ _ _ _ _ ⟨Cond.after_iff.mpr rfl, Cond.after_iff.mpr (eq_i res_at (Term.int_eval (1)) rfl), trivial⟩ ⟨hq.1, hq.2.1, (hq.2.2.sift fun y hy => Or.inr ((N y hy).resolve_left (fun q => nomatch q))).mono (by decide) (by decide)⟩⟩
theorem main_1_1 : Claimed_1_1 := comes_1 fun _ _ _ _ _ _ h hF => ⟨h.1, hF⟩
theorem main_1_2 : Claimed_1_2 := comes_1 fun _ _ _ _ _ _ h hF => ⟨h.2.1, hF⟩
end Jvm.Pilot.@@N@@
namespace Jvm.Pilot.@@N@@
open Jvm Jvm.ClassFile Sem Op Lib Jvm.Free Jvm.Stand Jvm.Pilot.@@N@@.Jvm.D
/-! MADE BY PROGRAM (witnessworld.py) out of the Statement's table words and the real class files: 18 classes; the members and pool entries that the words name. The judged class is class 1, her method 1. -/
namespace start1
open Jvm.ClassFile
def u (s : String) : CpInfo := .utf8 (stringToUtf16 s)
/-- a pool by its gaps: so many unusable entries, then the entry; so many at the end -/
def gap : Nat → List CpInfo → List CpInfo
  | 0, r => r
  | n + 1, r => .unusable :: gap n r
def poolList (es : List (Nat × CpInfo)) (last : Nat) : List CpInfo := es.foldr (fun e r => gap e.1 (e.2 :: r)) (gap last [])
def pool (es : List (Nat × CpInfo)) (last : Nat) : Array CpInfo := ⟨poolList es last⟩
def fileOf (pool : Array CpInfo) (this : Nat) (attrs : Array Attribute := #[]) (ms : Array MethodInfo := #[]) (fl : Nat := 33) (sup : Nat := 0) (ifs : Array Nat := #[]) (fds : Array FieldInfo := #[]) : ClassFile where
  minorVersion := 0
  majorVersion := 65
  constantPool := pool
  accessFlags := fl
  thisClass := this
  superClass := sup
  interfaces := ifs
  fields := fds
  methods := ms
  attributes := attrs
def plain (name : String) (sup : Option ClassId) : Class where
  name := name
  kind := .ordinary
  loader := none
  accessFlags := 33
  super := sup
  interfaces := #[]
  cf := none
  fields := #[]
  methods := #[]
  instanceTypes := #[]
  staticTypes := #[]
  resolved := #[]
  callSites := []
  init := .initialized
  statics := none
  mirror := none

def pool0 : Array CpInfo := pool [(5, u "<init>"), (0, u "()V"), (1, .class_ 10), (1, u "java/lang/Object")] 113

def k0c0 : Code := { maxStack := 0, maxLocals := 1, code := object_method_1_code, exceptionTable := #[], attributes := #[] }
def k0m0 : Method := { name := "<init>", desc := "()V", sig := { parameters := [], returnType := none }, accessFlags := 1, code := some k0c0 }
/-- java/lang/Object -/
def k0 : Class := { plain "java/lang/Object" none with
  accessFlags := 33
  interfaces := #[]
  cf := some (fileOf pool0 8 #[] #[{ accessFlags := 1, nameIndex := 5, descriptorIndex := 6, attributes := #[] }] 33 0 #[] #[])
  fields := #[]
  methods := #[k0m0]
  instanceTypes := #[]
  staticTypes := #[]
  resolved := Array.replicate 124 none
  statics := none }

def pool1 : Array CpInfo := pool [(2, .class_ 4), (1, u "java/lang/Object"), (0, u "<init>"), (0, u "()V"), (0, .integer 2147483647), (0, .class_ 9), (0, u "com/example/nodemata/nodemata/PairNumbers"), (0, .methodref 8 11), (0, .nameAndType 5 12), (0, u "(I)V"), (0, .methodref 8 14), (0, .nameAndType 15 12), (0, u "start"), (0, .methodref 8 17), (0, .nameAndType 18 19), (0, u "set"), (0, u "(III)V"), (0, .methodref 8 21), (0, .nameAndType 22 23), (0, u "number"), (0, u "()I"), (0, .methodref 25 26), (0, .class_ 27), (0, .nameAndType 28 29), (0, u "com/example/nodemata/nodemata/PairNumbersSetPinLaw"), (0, u "rank"), (0, u "(IIIIII)I"), (0, .methodref 8 31), (0, .nameAndType 32 33), (0, u "numberOf"), (0, u "(I)I"), (0, .methodref 25 35), (0, .nameAndType 36 37), (0, u "lt"), (0, u "(IIII)Z"), (2, u "law"), (0, u "(IIIIII)Z")] 3

def k1m0 : Method := { name := "<init>", desc := "()V", sig := { parameters := [], returnType := none }, accessFlags := 1, code := none }
def k1c1 : Code := { maxStack := 6, maxLocals := 21, code := code, exceptionTable := #[], attributes := #[] }
def k1m1 : Method := { name := "law", desc := "(IIIIII)Z", sig := { parameters := [.int, .int, .int, .int, .int, .int], returnType := some .boolean }, accessFlags := 9, code := some k1c1 }
def k1c2 : Code := { maxStack := 2, maxLocals := 4, code := method_3_code, exceptionTable := #[], attributes := #[] }
def k1m2 : Method := { name := "lt", desc := "(IIII)Z", sig := { parameters := [.int, .int, .int, .int], returnType := some .boolean }, accessFlags := 10, code := some k1c2 }
def k1c3 : Code := { maxStack := 4, maxLocals := 9, code := method_4_code, exceptionTable := #[], attributes := #[] }
def k1m3 : Method := { name := "rank", desc := "(IIIIII)I", sig := { parameters := [.int, .int, .int, .int, .int, .int], returnType := some .int }, accessFlags := 10, code := some k1c3 }
/-- com/example/nodemata/nodemata/PairNumbersSetPinLaw -/
def k1 : Class := { plain "com/example/nodemata/nodemata/PairNumbersSetPinLaw" (some 0) with
  accessFlags := 49
  interfaces := #[]
  cf := some (fileOf pool1 25 #[] #[{ accessFlags := 1, nameIndex := 5, descriptorIndex := 6, attributes := #[] }, { accessFlags := 9, nameIndex := 40, descriptorIndex := 41, attributes := #[] }, { accessFlags := 10, nameIndex := 36, descriptorIndex := 37, attributes := #[] }, { accessFlags := 10, nameIndex := 28, descriptorIndex := 29, attributes := #[] }] 49 2 #[] #[])
  fields := #[]
  methods := #[k1m0, k1m1, k1m2, k1m3]
  instanceTypes := #[]
  staticTypes := #[]
  resolved := Array.replicate 45 none
  statics := none }

def pool2 : Array CpInfo := pool [(1, .methodref 2 3), (0, .class_ 4), (0, .nameAndType 5 6), (0, u "java/lang/Object"), (0, u "<init>"), (0, u "()V"), (0, .fieldref 8 9), (0, .class_ 10), (0, .nameAndType 11 12), (0, u "com/example/nodemata/nodemata/PairNumbers"), (0, u "pairs"), (0, u "[J"), (0, .fieldref 8 14), (0, .nameAndType 15 12), (0, u "sortedPairs"), (0, .fieldref 8 17), (0, .nameAndType 18 19), (0, u "indices"), (0, u "[I"), (0, .fieldref 8 21), (0, .nameAndType 22 19), (0, u "sortedIndices"), (0, .fieldref 8 24), (0, .nameAndType 25 19), (0, u "numbers"), (0, .fieldref 8 27), (0, .nameAndType 28 29), (0, u "count"), (0, u "I"), (0, .fieldref 8 31), (0, .nameAndType 32 33), (0, u "$assertionsDisabled"), (0, u "Z"), (9, .class_ 44), (0, u "java/lang/Integer"), (0, .methodref 8 46), (0, .nameAndType 47 6), (0, u "sort"), (0, .long 4294967295), (1, .class_ 51), (0, u "java/lang/Long"), (0, .methodref 50 53), (0, .nameAndType 54 55), (0, u "numberOfLeadingZeros"), (0, u "(J)I"), (0, .methodref 43 57), (0, .nameAndType 54 58), (0, u "(I)I"), (0, .methodref 60 61), (0, .class_ 62), (0, .nameAndType 63 64), (0, u "java/lang/Math"), (0, u "min"), (0, u "(II)I"), (0, .methodref 8 66), (0, .nameAndType 67 68), (0, u "digit"), (0, u "(JII)I"), (6, u "MAX_DIGIT_BITS"), (2, u "(I)V"), (2, u "start"), (0, u "set"), (0, u "(III)V"), (1, u "number"), (0, u "()I"), (0, u "numberOf")] 19

def k2c0 : Code := { maxStack := 2, maxLocals := 2, code := prog_83_method_1_code, exceptionTable := #[], attributes := #[] }
def k2m0 : Method := { name := "<init>", desc := "(I)V", sig := { parameters := [.int], returnType := none }, accessFlags := 0, code := some k2c0 }
def k2c1 : Code := { maxStack := 2, maxLocals := 2, code := prog_83_method_2_code, exceptionTable := #[], attributes := #[] }
def k2m1 : Method := { name := "start", desc := "(I)V", sig := { parameters := [.int], returnType := none }, accessFlags := 0, code := some k2c1 }
def k2c2 : Code := { maxStack := 6, maxLocals := 4, code := prog_83_method_3_code, exceptionTable := #[], attributes := #[] }
def k2m2 : Method := { name := "set", desc := "(III)V", sig := { parameters := [.int, .int, .int], returnType := none }, accessFlags := 0, code := some k2c2 }
def k2c3 : Code := { maxStack := 5, maxLocals := 3, code := prog_83_method_4_code, exceptionTable := #[], attributes := #[] }
def k2m3 : Method := { name := "number", desc := "()I", sig := { parameters := [], returnType := some .int }, accessFlags := 0, code := some k2c3 }
def k2c4 : Code := { maxStack := 2, maxLocals := 2, code := prog_83_method_5_code, exceptionTable := #[], attributes := #[] }
def k2m4 : Method := { name := "numberOf", desc := "(I)I", sig := { parameters := [.int], returnType := some .int }, accessFlags := 0, code := some k2c4 }
def k2c5 : Code := { maxStack := 6, maxLocals := 18, code := prog_83_method_6_code, exceptionTable := #[], attributes := #[] }
def k2m5 : Method := { name := "sort", desc := "()V", sig := { parameters := [], returnType := none }, accessFlags := 2, code := some k2c5 }
def k2c6 : Code := { maxStack := 3, maxLocals := 4, code := prog_83_method_7_code, exceptionTable := #[], attributes := #[] }
def k2m6 : Method := { name := "digit", desc := "(JII)I", sig := { parameters := [.long, .int, .int], returnType := some .int }, accessFlags := 10, code := some k2c6 }
/-- com/example/nodemata/nodemata/PairNumbers -/
def k2 : Class := { plain "com/example/nodemata/nodemata/PairNumbers" (some 0) with
  accessFlags := 48
  interfaces := #[]
  cf := some (fileOf pool2 8 #[] #[{ accessFlags := 0, nameIndex := 5, descriptorIndex := 78, attributes := #[] }, { accessFlags := 0, nameIndex := 81, descriptorIndex := 78, attributes := #[] }, { accessFlags := 0, nameIndex := 82, descriptorIndex := 83, attributes := #[] }, { accessFlags := 0, nameIndex := 85, descriptorIndex := 86, attributes := #[] }, { accessFlags := 0, nameIndex := 87, descriptorIndex := 58, attributes := #[] }, { accessFlags := 2, nameIndex := 47, descriptorIndex := 6, attributes := #[] }, { accessFlags := 10, nameIndex := 67, descriptorIndex := 68, attributes := #[] }] 48 2 #[] #[{ accessFlags := 26, nameIndex := 75, descriptorIndex := 29, attributes := #[] }, { accessFlags := 2, nameIndex := 11, descriptorIndex := 12, attributes := #[] }, { accessFlags := 2, nameIndex := 15, descriptorIndex := 12, attributes := #[] }, { accessFlags := 2, nameIndex := 18, descriptorIndex := 19, attributes := #[] }, { accessFlags := 2, nameIndex := 22, descriptorIndex := 19, attributes := #[] }, { accessFlags := 18, nameIndex := 25, descriptorIndex := 19, attributes := #[] }, { accessFlags := 2, nameIndex := 28, descriptorIndex := 29, attributes := #[] }, { accessFlags := 4120, nameIndex := 32, descriptorIndex := 33, attributes := #[] }])
  fields := #[{ name := "MAX_DIGIT_BITS", type := .int, accessFlags := 26, slot := 0, constantValue := 0 }, { name := "pairs", type := (.array .long), accessFlags := 2, slot := 0, constantValue := 0 }, { name := "sortedPairs", type := (.array .long), accessFlags := 2, slot := 1, constantValue := 0 }, { name := "indices", type := (.array .int), accessFlags := 2, slot := 2, constantValue := 0 }, { name := "sortedIndices", type := (.array .int), accessFlags := 2, slot := 3, constantValue := 0 }, { name := "numbers", type := (.array .int), accessFlags := 18, slot := 4, constantValue := 0 }, { name := "count", type := .int, accessFlags := 2, slot := 5, constantValue := 0 }, { name := "$assertionsDisabled", type := .boolean, accessFlags := 4120, slot := 1, constantValue := 0 }]
  methods := #[k2m0, k2m1, k2m2, k2m3, k2m4, k2m5, k2m6]
  instanceTypes := #[(.array .long), (.array .long), (.array .int), (.array .int), (.array .int), .int]
  staticTypes := #[.int, .boolean]
  resolved := Array.replicate 107 none
  statics := some 0 }

def pool3 : Array CpInfo := pool [(1, .class_ 2), (0, u "java/io/Serializable"), (0, .class_ 4), (0, u "java/lang/Object")] 2

/-- java/io/Serializable -/
def k3 : Class := { plain "java/io/Serializable" (some 0) with
  accessFlags := 1537
  interfaces := #[]
  cf := some (fileOf pool3 1 #[] #[] 1537 3 #[] #[])
  fields := #[]
  methods := #[]
  instanceTypes := #[]
  staticTypes := #[]
  resolved := Array.replicate 7 none
  statics := none }

def pool4 : Array CpInfo := pool [(2, .class_ 4), (1, u "java/lang/Object"), (0, u "<init>"), (0, u "()V"), (1, .class_ 10), (1, u "java/lang/Number"), (2, .class_ 14), (0, u "java/io/Serializable"), (0, u "serialVersionUID"), (0, u "J")] 20

def k4m0 : Method := { name := "<init>", desc := "()V", sig := { parameters := [], returnType := none }, accessFlags := 1, code := none }
/-- java/lang/Number -/
def k4 : Class := { plain "java/lang/Number" (some 0) with
  accessFlags := 1057
  interfaces := #[3]
  cf := some (fileOf pool4 8 #[] #[{ accessFlags := 1, nameIndex := 5, descriptorIndex := 6, attributes := #[] }] 1057 2 #[13] #[{ accessFlags := 26, nameIndex := 15, descriptorIndex := 16, attributes := #[] }])
  fields := #[{ name := "serialVersionUID", type := .long, accessFlags := 26, slot := 0, constantValue := 0 }]
  methods := #[k4m0]
  instanceTypes := #[]
  staticTypes := #[.long]
  resolved := Array.replicate 37 none
  statics := none }

def pool5 : Array CpInfo := pool [(1, .class_ 2), (0, u "java/lang/Comparable"), (0, .class_ 4), (0, u "java/lang/Object")] 7

/-- java/lang/Comparable -/
def k5 : Class := { plain "java/lang/Comparable" (some 0) with
  accessFlags := 1537
  interfaces := #[]
  cf := some (fileOf pool5 1 #[] #[] 1537 3 #[] #[])
  fields := #[]
  methods := #[]
  instanceTypes := #[]
  staticTypes := #[]
  resolved := Array.replicate 12 none
  statics := none }

def pool6 : Array CpInfo := pool [(1, .class_ 2), (0, u "java/lang/constant/Constable"), (0, .class_ 4), (0, u "java/lang/Object")] 6

/-- java/lang/constant/Constable -/
def k6 : Class := { plain "java/lang/constant/Constable" (some 0) with
  accessFlags := 1537
  interfaces := #[]
  cf := some (fileOf pool6 1 #[] #[] 1537 3 #[] #[])
  fields := #[]
  methods := #[]
  instanceTypes := #[]
  staticTypes := #[]
  resolved := Array.replicate 11 none
  statics := none }

def pool7 : Array CpInfo := pool [(1, .class_ 2), (0, u "java/lang/constant/ConstantDesc"), (0, .class_ 4), (0, u "java/lang/Object")] 32

/-- java/lang/constant/ConstantDesc -/
def k7 : Class := { plain "java/lang/constant/ConstantDesc" (some 0) with
  accessFlags := 1537
  interfaces := #[]
  cf := some (fileOf pool7 1 #[] #[] 1537 3 #[] #[])
  fields := #[]
  methods := #[]
  instanceTypes := #[]
  staticTypes := #[]
  resolved := Array.replicate 37 none
  statics := none }

def pool8 : Array CpInfo := pool [(1, .class_ 2), (0, u "java/lang/Long"), (15, .class_ 20), (1, u "java/lang/Integer"), (79, u "numberOfLeadingZeros"), (0, u "(J)I"), (133, .class_ 237), (1, u "java/lang/Long$LongCache"), (33, .class_ 272), (0, u "java/lang/Number"), (2, u "value"), (0, u "J"), (31, .methodref 18 309), (0, .nameAndType 100 310), (0, u "(I)I"), (50, u "TYPE"), (0, u "Ljava/lang/Class;"), (0, .class_ 364), (0, u "java/lang/Comparable"), (0, .class_ 366), (0, u "java/lang/constant/Constable"), (0, .class_ 368), (0, u "java/lang/constant/ConstantDesc"), (0, u "MIN_VALUE"), (1, u "MAX_VALUE"), (4, u "SIZE"), (0, u "I"), (1, u "BYTES"), (1, u "serialVersionUID")] 142

def k8c0 : Code := { maxStack := 3, maxLocals := 3, code := jdk_35_method_48_code, exceptionTable := #[], attributes := #[] }
def k8m0 : Method := { name := "numberOfLeadingZeros", desc := "(J)I", sig := { parameters := [.long], returnType := some .int }, accessFlags := 9, code := some k8c0 }
/-- java/lang/Long -/
def k8 : Class := { plain "java/lang/Long" (some 4) with
  accessFlags := 49
  interfaces := #[5, 6, 7]
  cf := some (fileOf pool8 1 #[.nestMembers #[235]] #[{ accessFlags := 9, nameIndex := 100, descriptorIndex := 101, attributes := #[] }] 49 271 #[363, 365, 367] #[{ accessFlags := 25, nameIndex := 369, descriptorIndex := 276, attributes := #[] }, { accessFlags := 25, nameIndex := 371, descriptorIndex := 276, attributes := #[] }, { accessFlags := 25, nameIndex := 361, descriptorIndex := 362, attributes := #[] }, { accessFlags := 18, nameIndex := 275, descriptorIndex := 276, attributes := #[] }, { accessFlags := 25, nameIndex := 376, descriptorIndex := 377, attributes := #[] }, { accessFlags := 25, nameIndex := 379, descriptorIndex := 377, attributes := #[] }, { accessFlags := 26, nameIndex := 381, descriptorIndex := 276, attributes := #[] }])
  fields := #[{ name := "MIN_VALUE", type := .long, accessFlags := 25, slot := 0, constantValue := 0 }, { name := "MAX_VALUE", type := .long, accessFlags := 25, slot := 1, constantValue := 0 }, { name := "TYPE", type := (.object "java/lang/Class"), accessFlags := 25, slot := 2, constantValue := 0 }, { name := "value", type := .long, accessFlags := 18, slot := 0, constantValue := 0 }, { name := "SIZE", type := .int, accessFlags := 25, slot := 3, constantValue := 0 }, { name := "BYTES", type := .int, accessFlags := 25, slot := 4, constantValue := 0 }, { name := "serialVersionUID", type := .long, accessFlags := 26, slot := 5, constantValue := 0 }]
  methods := #[k8m0]
  instanceTypes := #[.long]
  staticTypes := #[.long, .long, (.object "java/lang/Class"), .int, .int, .long]
  resolved := Array.replicate 524 none
  statics := none }

def pool9 : Array CpInfo := pool [(1, .class_ 2), (0, u "java/lang/Integer"), (16, u "digits"), (0, u "[C"), (32, u "numberOfLeadingZeros"), (0, u "(I)I"), (30, u "DigitOnes"), (0, u "[B"), (2, u "DigitTens"), (99, .class_ 190), (0, u "java/lang/Integer$IntegerCache"), (3, u "I"), (8, .class_ 204), (0, u "java/lang/Number"), (2, u "value"), (56, .integer 65536), (37, u "TYPE"), (0, u "Ljava/lang/Class;"), (0, .class_ 305), (0, u "java/lang/Comparable"), (0, .class_ 307), (0, u "java/lang/constant/Constable"), (0, .class_ 309), (0, u "java/lang/constant/ConstantDesc"), (0, u "MIN_VALUE"), (1, u "MAX_VALUE"), (3, u "SIZE"), (1, u "BYTES"), (1, u "serialVersionUID"), (0, u "J")] 131

def k9c0 : Code := { maxStack := 3, maxLocals := 2, code := jdk_33_method_47_code, exceptionTable := #[], attributes := #[] }
def k9m0 : Method := { name := "numberOfLeadingZeros", desc := "(I)I", sig := { parameters := [.int], returnType := some .int }, accessFlags := 9, code := some k9c0 }
/-- java/lang/Integer -/
def k9 : Class := { plain "java/lang/Integer" (some 4) with
  accessFlags := 49
  interfaces := #[5, 6, 7]
  cf := some (fileOf pool9 1 #[.nestMembers #[189]] #[{ accessFlags := 9, nameIndex := 53, descriptorIndex := 54, attributes := #[] }] 49 203 #[304, 306, 308] #[{ accessFlags := 25, nameIndex := 310, descriptorIndex := 194, attributes := #[] }, { accessFlags := 25, nameIndex := 312, descriptorIndex := 194, attributes := #[] }, { accessFlags := 25, nameIndex := 302, descriptorIndex := 303, attributes := #[] }, { accessFlags := 24, nameIndex := 19, descriptorIndex := 20, attributes := #[] }, { accessFlags := 24, nameIndex := 89, descriptorIndex := 86, attributes := #[] }, { accessFlags := 24, nameIndex := 85, descriptorIndex := 86, attributes := #[] }, { accessFlags := 18, nameIndex := 207, descriptorIndex := 194, attributes := #[] }, { accessFlags := 25, nameIndex := 316, descriptorIndex := 194, attributes := #[] }, { accessFlags := 25, nameIndex := 318, descriptorIndex := 194, attributes := #[] }, { accessFlags := 26, nameIndex := 320, descriptorIndex := 321, attributes := #[] }])
  fields := #[{ name := "MIN_VALUE", type := .int, accessFlags := 25, slot := 0, constantValue := 0 }, { name := "MAX_VALUE", type := .int, accessFlags := 25, slot := 1, constantValue := 0 }, { name := "TYPE", type := (.object "java/lang/Class"), accessFlags := 25, slot := 2, constantValue := 0 }, { name := "digits", type := (.array .char), accessFlags := 24, slot := 3, constantValue := 0 }, { name := "DigitTens", type := (.array .byte), accessFlags := 24, slot := 4, constantValue := 0 }, { name := "DigitOnes", type := (.array .byte), accessFlags := 24, slot := 5, constantValue := 0 }, { name := "value", type := .int, accessFlags := 18, slot := 0, constantValue := 0 }, { name := "SIZE", type := .int, accessFlags := 25, slot := 6, constantValue := 0 }, { name := "BYTES", type := .int, accessFlags := 25, slot := 7, constantValue := 0 }, { name := "serialVersionUID", type := .long, accessFlags := 26, slot := 8, constantValue := 0 }]
  methods := #[k9m0]
  instanceTypes := #[.int]
  staticTypes := #[.int, .int, (.object "java/lang/Class"), (.array .char), (.array .byte), (.array .byte), .int, .int, .long]
  resolved := Array.replicate 453 none
  statics := none }

def pool10 : Array CpInfo := pool [(1, .class_ 2), (0, u "java/lang/Math"), (1, .class_ 6), (1, u "java/lang/Object"), (0, u "<init>"), (0, u "()V"), (89, .class_ 100), (1, u "java/lang/Math$RandomNumberGeneratorHolder"), (71, u "negativeZeroFloatBits"), (0, u "J"), (2, u "negativeZeroDoubleBits"), (24, u "min"), (43, u "$assertionsDisabled"), (0, u "Z"), (88, u "(II)I"), (2, u "twoToTheDoubleScaleDown"), (0, u "D"), (4, u "twoToTheDoubleScaleUp"), (9, u "E"), (3, u "PI"), (2, u "TAU"), (2, u "DEGREES_TO_RADIANS"), (0, u "RADIANS_TO_DEGREES")] 94

def k10m0 : Method := { name := "<init>", desc := "()V", sig := { parameters := [], returnType := none }, accessFlags := 2, code := none }
def k10c1 : Code := { maxStack := 2, maxLocals := 2, code := jdk_29_method_69_code, exceptionTable := #[], attributes := #[] }
def k10m1 : Method := { name := "min", desc := "(II)I", sig := { parameters := [.int, .int], returnType := some .int }, accessFlags := 9, code := some k10c1 }
/-- java/lang/Math -/
def k10 : Class := { plain "java/lang/Math" (some 0) with
  accessFlags := 49
  interfaces := #[]
  cf := some (fileOf pool10 1 #[.nestMembers #[98]] #[{ accessFlags := 2, nameIndex := 7, descriptorIndex := 8, attributes := #[] }, { accessFlags := 9, nameIndex := 201, descriptorIndex := 335, attributes := #[] }] 49 4 #[] #[{ accessFlags := 25, nameIndex := 354, descriptorIndex := 339, attributes := #[] }, { accessFlags := 25, nameIndex := 358, descriptorIndex := 339, attributes := #[] }, { accessFlags := 25, nameIndex := 361, descriptorIndex := 339, attributes := #[] }, { accessFlags := 26, nameIndex := 364, descriptorIndex := 339, attributes := #[] }, { accessFlags := 26, nameIndex := 365, descriptorIndex := 339, attributes := #[] }, { accessFlags := 26, nameIndex := 172, descriptorIndex := 173, attributes := #[] }, { accessFlags := 26, nameIndex := 176, descriptorIndex := 173, attributes := #[] }, { accessFlags := 8, nameIndex := 344, descriptorIndex := 339, attributes := #[] }, { accessFlags := 8, nameIndex := 338, descriptorIndex := 339, attributes := #[] }, { accessFlags := 4120, nameIndex := 245, descriptorIndex := 246, attributes := #[] }])
  fields := #[{ name := "E", type := .double, accessFlags := 25, slot := 0, constantValue := 0 }, { name := "PI", type := .double, accessFlags := 25, slot := 1, constantValue := 0 }, { name := "TAU", type := .double, accessFlags := 25, slot := 2, constantValue := 0 }, { name := "DEGREES_TO_RADIANS", type := .double, accessFlags := 26, slot := 3, constantValue := 0 }, { name := "RADIANS_TO_DEGREES", type := .double, accessFlags := 26, slot := 4, constantValue := 0 }, { name := "negativeZeroFloatBits", type := .long, accessFlags := 26, slot := 5, constantValue := 0 }, { name := "negativeZeroDoubleBits", type := .long, accessFlags := 26, slot := 6, constantValue := 0 }, { name := "twoToTheDoubleScaleUp", type := .double, accessFlags := 8, slot := 7, constantValue := 0 }, { name := "twoToTheDoubleScaleDown", type := .double, accessFlags := 8, slot := 8, constantValue := 0 }, { name := "$assertionsDisabled", type := .boolean, accessFlags := 4120, slot := 9, constantValue := 0 }]
  methods := #[k10m0, k10m1]
  instanceTypes := #[]
  staticTypes := #[.double, .double, .double, .double, .double, .long, .long, .double, .double, .boolean]
  resolved := Array.replicate 460 none
  statics := none }

def pool11 : Array CpInfo := pool [(1, u "java/lang/Cloneable"), (0, .class_ 1), (0, u "java/lang/Object"), (0, .class_ 3)] 3

/-- java/lang/Cloneable -/
def k11 : Class := { plain "java/lang/Cloneable" (some 0) with
  accessFlags := 1537
  interfaces := #[]
  cf := some (fileOf pool11 2 #[] #[] 1537 4 #[] #[])
  fields := #[]
  methods := #[]
  instanceTypes := #[]
  staticTypes := #[]
  resolved := Array.replicate 8 none
  statics := none }

/-- the primitive byte -/
def k12 : Class := { plain "byte" none with kind := .primitive 'B', accessFlags := 0x411 }
/-- [B -/
def k13 : Class := { plain "[B" (some 0) with kind := .array 12 .byte, interfaces := #[11, 3], accessFlags := 1041 }

/-- the primitive int -/
def k14 : Class := { plain "int" none with kind := .primitive 'I', accessFlags := 0x411 }
/-- [I -/
def k15 : Class := { plain "[I" (some 0) with kind := .array 14 .int, interfaces := #[11, 3], accessFlags := 1041 }

/-- the primitive long -/
def k16 : Class := { plain "long" none with kind := .primitive 'J', accessFlags := 0x411 }
/-- [J -/
def k17 : Class := { plain "[J" (some 0) with kind := .array 16 .long, interfaces := #[11, 3], accessFlags := 1041 }

def heap : Heap := #[{ cls := 2, slots := #[.int 0, .int 1], vm := .statics 2 }]
def classes : Array Class := #[k0, k1, k2, k3, k4, k5, k6, k7, k8, k9, k10, k11, k12, k13, k14, k15, k16, k17]
def interned : List (Array UInt16 × Addr) := []
def slotsUsed : Nat := 2
def theMethod : MethodId := ⟨1, 1⟩
def args0 : Array Value := #[.int 5, .int 6, .int 7, .int 1, .int 2, .int 3]
def aboutOver (below : List Frame) : State where
  vm := { classes := classes, interned := interned.toArray }
  heap := heap
  slotsUsed := slotsUsed
  threads := #[{ frames := .invoking theMethod args0 :: below }]
def below0 : List Frame := [.native { method := ⟨0, 0⟩, args := #[] }]
def about1 : State := aboutOver below0
def p0 : Program := .bare "" "" ""
def e0 : Env := launch0.env 0 0 0
theorem w_frames : about1.frames = Frame.invoking theMethod args0 :: below0 := rfl
set_option maxRecDepth 65536 in
theorem w_args : argsFit about1.vm theMethod args0 = true := by decide +kernel
set_option maxRecDepth 65536 in
theorem w_heap : heapFits about1 = true := by decide +kernel
set_option maxRecDepth 65536 in
theorem w_runnable : about1.curStatus? = some .runnable := by decide +kernel
set_option maxRecDepth 65536 in
theorem w_alone : about1.alone = true := by decide +kernel
set_option maxRecDepth 65536 in
theorem w_named : about1.methodNamed? x = some theMethod := by decide +kernel
set_option maxRecDepth 65536 in
theorem w_hears : about1.hears theMethod below0 = true := by decide +kernel
set_option maxRecDepth 65536 in
theorem w_ripe : about1.ripe theMethod args0 below0 = true := by decide +kernel
theorem w_running : about1.status = .running := rfl
set_option maxRecDepth 65536 in
theorem w_room : about1.hasRoom e0.platform room_1 = true :=
  launch0.hasRoom_least _ room_1 (by decide +kernel) (by decide +kernel) (by decide +kernel) (by decide +kernel) (by decide +kernel) (by decide +kernel)
theorem allAtoms_all (ts : List Jvm.Cond) (a : Array Jvm.Value) (st : Jvm.State) : (allAtoms ts).before a st = ts.all (fun c => c.before a st) := by
  induction ts with
  | nil => rfl
  | cons c t ih =>
    show (Jvm.Cond.and c (allAtoms t)).before a st = _
    rw [Jvm.Cond.before_and, ih, List.all_cons]
def words1 : List Jvm.Cond := Jvm.Cond.code x code maxLocals ret :: tables_1
/-- a 'code' word, met by the world's own term for the bytes: nothing is compared byte by byte -/
theorem code_word {y : MethodName} {bytes : ByteArray} {mx : Nat} {rt : Option FieldType} {a : Array Value} {s : State} {m : MethodId} {meth : Method} {c : Code} (h1 : s.methodNamed? y = some m) (h2 : s.vm.method? m = some meth) (h3 : meth.code = some c) (h4 : c.code = bytes)
    (h5 : (c.maxLocals == mx && c.exceptionTable.isEmpty && decide (c.maxStack ≤ mostOperands) && decide (meth.sig.returnType = rt) && !meth.locks && decide (parseMethodDescriptor y.desc = some meth.sig)) = true) : (Jvm.Cond.code y bytes mx rt).before a s = true := by
  simp only [Bool.and_eq_true, beq_iff_eq, Bool.not_eq_true', decide_eq_true_eq] at h5
  obtain ⟨⟨⟨⟨⟨g1, g2⟩, g3⟩, g4⟩, g5⟩, g6⟩ := h5
  simp [Cond.before, Cond.holds, Cond.value, h1, h2, h3, h4, g1, g2, g3, g4, g5, g6]
def isCode : Jvm.Cond → Bool
  | .code _ _ _ _ => true
  | _ => false
theorem all_split {L : List Jvm.Cond} {P : Jvm.Cond → Bool} (h1 : L.all (fun c => isCode c || P c) = true) (h2 : ∀ c ∈ L.filter isCode, P c = true) : L.all P = true := by
  refine List.all_eq_true.mpr fun c hc => ?_
  have h := List.all_eq_true.mp h1 c hc
  rcases Bool.eq_false_or_eq_true (isCode c) with hi | hi
  · exact h2 c (List.mem_filter.mpr ⟨hc, hi⟩)
  · simpa [hi] using h
set_option maxRecDepth 65536 in
theorem w_c0 : (Jvm.Cond.code x code maxLocals ret).before args0 about1 = true := code_word (m := ⟨1, 1⟩) (meth := k1m1) (c := k1c1) (by decide +kernel) rfl rfl rfl (by decide +kernel)
set_option maxRecDepth 65536 in
theorem w_c1 : (Jvm.Cond.code ({ cls := "com/example/nodemata/nodemata/PairNumbers", name := "<init>", desc := "(I)V" } : Jvm.MethodName) prog_83_method_1_code (2 : Nat) (Option.none : Option Jvm.ClassFile.FieldType)).before args0 about1 = true := code_word (m := ⟨2, 0⟩) (meth := k2m0) (c := k2c0) (by decide +kernel) rfl rfl rfl (by decide +kernel)
set_option maxRecDepth 65536 in
theorem w_c2 : (Jvm.Cond.code ({ cls := "java/lang/Object", name := "<init>", desc := "()V" } : Jvm.MethodName) object_method_1_code (1 : Nat) (Option.none : Option Jvm.ClassFile.FieldType)).before args0 about1 = true := code_word (m := ⟨0, 0⟩) (meth := k0m0) (c := k0c0) (by decide +kernel) rfl rfl rfl (by decide +kernel)
set_option maxRecDepth 65536 in
theorem w_c3 : (Jvm.Cond.code ({ cls := "com/example/nodemata/nodemata/PairNumbers", name := "start", desc := "(I)V" } : Jvm.MethodName) prog_83_method_2_code (2 : Nat) (Option.none : Option Jvm.ClassFile.FieldType)).before args0 about1 = true := code_word (m := ⟨2, 1⟩) (meth := k2m1) (c := k2c1) (by decide +kernel) rfl rfl rfl (by decide +kernel)
set_option maxRecDepth 65536 in
theorem w_c4 : (Jvm.Cond.code ({ cls := "com/example/nodemata/nodemata/PairNumbers", name := "set", desc := "(III)V" } : Jvm.MethodName) prog_83_method_3_code (4 : Nat) (Option.none : Option Jvm.ClassFile.FieldType)).before args0 about1 = true := code_word (m := ⟨2, 2⟩) (meth := k2m2) (c := k2c2) (by decide +kernel) rfl rfl rfl (by decide +kernel)
set_option maxRecDepth 65536 in
theorem w_c5 : (Jvm.Cond.code ({ cls := "com/example/nodemata/nodemata/PairNumbers", name := "number", desc := "()I" } : Jvm.MethodName) prog_83_method_4_code (3 : Nat) (Option.some Jvm.ClassFile.FieldType.int)).before args0 about1 = true := code_word (m := ⟨2, 3⟩) (meth := k2m3) (c := k2c3) (by decide +kernel) rfl rfl rfl (by decide +kernel)
set_option maxRecDepth 65536 in
theorem w_c6 : (Jvm.Cond.code ({ cls := "com/example/nodemata/nodemata/PairNumbers", name := "sort", desc := "()V" } : Jvm.MethodName) prog_83_method_6_code (18 : Nat) (Option.none : Option Jvm.ClassFile.FieldType)).before args0 about1 = true := code_word (m := ⟨2, 5⟩) (meth := k2m5) (c := k2c5) (by decide +kernel) rfl rfl rfl (by decide +kernel)
set_option maxRecDepth 65536 in
theorem w_c7 : (Jvm.Cond.code ({ cls := "java/lang/Long", name := "numberOfLeadingZeros", desc := "(J)I" } : Jvm.MethodName) jdk_35_method_48_code (3 : Nat) (Option.some Jvm.ClassFile.FieldType.int)).before args0 about1 = true := code_word (m := ⟨8, 0⟩) (meth := k8m0) (c := k8c0) (by decide +kernel) rfl rfl rfl (by decide +kernel)
set_option maxRecDepth 65536 in
theorem w_c8 : (Jvm.Cond.code ({ cls := "java/lang/Integer", name := "numberOfLeadingZeros", desc := "(I)I" } : Jvm.MethodName) jdk_33_method_47_code (2 : Nat) (Option.some Jvm.ClassFile.FieldType.int)).before args0 about1 = true := code_word (m := ⟨9, 0⟩) (meth := k9m0) (c := k9c0) (by decide +kernel) rfl rfl rfl (by decide +kernel)
set_option maxRecDepth 65536 in
theorem w_c9 : (Jvm.Cond.code ({ cls := "java/lang/Math", name := "min", desc := "(II)I" } : Jvm.MethodName) jdk_29_method_69_code (2 : Nat) (Option.some Jvm.ClassFile.FieldType.int)).before args0 about1 = true := code_word (m := ⟨10, 1⟩) (meth := k10m1) (c := k10c1) (by decide +kernel) rfl rfl rfl (by decide +kernel)
set_option maxRecDepth 65536 in
theorem w_c10 : (Jvm.Cond.code ({ cls := "com/example/nodemata/nodemata/PairNumbers", name := "digit", desc := "(JII)I" } : Jvm.MethodName) prog_83_method_7_code (4 : Nat) (Option.some Jvm.ClassFile.FieldType.int)).before args0 about1 = true := code_word (m := ⟨2, 6⟩) (meth := k2m6) (c := k2c6) (by decide +kernel) rfl rfl rfl (by decide +kernel)
set_option maxRecDepth 65536 in
theorem w_c11 : (Jvm.Cond.code ({ cls := "com/example/nodemata/nodemata/PairNumbersSetPinLaw", name := "rank", desc := "(IIIIII)I" } : Jvm.MethodName) method_4_code (9 : Nat) (Option.some Jvm.ClassFile.FieldType.int)).before args0 about1 = true := code_word (m := ⟨1, 3⟩) (meth := k1m3) (c := k1c3) (by decide +kernel) rfl rfl rfl (by decide +kernel)
set_option maxRecDepth 65536 in
theorem w_c12 : (Jvm.Cond.code ({ cls := "com/example/nodemata/nodemata/PairNumbersSetPinLaw", name := "lt", desc := "(IIII)Z" } : Jvm.MethodName) method_3_code (4 : Nat) (Option.some Jvm.ClassFile.FieldType.boolean)).before args0 about1 = true := code_word (m := ⟨1, 2⟩) (meth := k1m2) (c := k1c2) (by decide +kernel) rfl rfl rfl (by decide +kernel)
set_option maxRecDepth 65536 in
theorem w_c13 : (Jvm.Cond.code ({ cls := "com/example/nodemata/nodemata/PairNumbers", name := "numberOf", desc := "(I)I" } : Jvm.MethodName) prog_83_method_5_code (2 : Nat) (Option.some Jvm.ClassFile.FieldType.int)).before args0 about1 = true := code_word (m := ⟨2, 4⟩) (meth := k2m4) (c := k2c4) (by decide +kernel) rfl rfl rfl (by decide +kernel)
def codes1 : List Jvm.Cond := [Jvm.Cond.code x code maxLocals ret, Jvm.Cond.code ({ cls := "com/example/nodemata/nodemata/PairNumbers", name := "<init>", desc := "(I)V" } : Jvm.MethodName) prog_83_method_1_code (2 : Nat) (Option.none : Option Jvm.ClassFile.FieldType), Jvm.Cond.code ({ cls := "java/lang/Object", name := "<init>", desc := "()V" } : Jvm.MethodName) object_method_1_code (1 : Nat) (Option.none : Option Jvm.ClassFile.FieldType), Jvm.Cond.code ({ cls := "com/example/nodemata/nodemata/PairNumbers", name := "start", desc := "(I)V" } : Jvm.MethodName) prog_83_method_2_code (2 : Nat) (Option.none : Option Jvm.ClassFile.FieldType), Jvm.Cond.code ({ cls := "com/example/nodemata/nodemata/PairNumbers", name := "set", desc := "(III)V" } : Jvm.MethodName) prog_83_method_3_code (4 : Nat) (Option.none : Option Jvm.ClassFile.FieldType), Jvm.Cond.code ({ cls := "com/example/nodemata/nodemata/PairNumbers", name := "number", desc := "()I" } : Jvm.MethodName) prog_83_method_4_code (3 : Nat) (Option.some Jvm.ClassFile.FieldType.int), Jvm.Cond.code ({ cls := "com/example/nodemata/nodemata/PairNumbers", name := "sort", desc := "()V" } : Jvm.MethodName) prog_83_method_6_code (18 : Nat) (Option.none : Option Jvm.ClassFile.FieldType), Jvm.Cond.code ({ cls := "java/lang/Long", name := "numberOfLeadingZeros", desc := "(J)I" } : Jvm.MethodName) jdk_35_method_48_code (3 : Nat) (Option.some Jvm.ClassFile.FieldType.int), Jvm.Cond.code ({ cls := "java/lang/Integer", name := "numberOfLeadingZeros", desc := "(I)I" } : Jvm.MethodName) jdk_33_method_47_code (2 : Nat) (Option.some Jvm.ClassFile.FieldType.int), Jvm.Cond.code ({ cls := "java/lang/Math", name := "min", desc := "(II)I" } : Jvm.MethodName) jdk_29_method_69_code (2 : Nat) (Option.some Jvm.ClassFile.FieldType.int), Jvm.Cond.code ({ cls := "com/example/nodemata/nodemata/PairNumbers", name := "digit", desc := "(JII)I" } : Jvm.MethodName) prog_83_method_7_code (4 : Nat) (Option.some Jvm.ClassFile.FieldType.int), Jvm.Cond.code ({ cls := "com/example/nodemata/nodemata/PairNumbersSetPinLaw", name := "rank", desc := "(IIIIII)I" } : Jvm.MethodName) method_4_code (9 : Nat) (Option.some Jvm.ClassFile.FieldType.int), Jvm.Cond.code ({ cls := "com/example/nodemata/nodemata/PairNumbersSetPinLaw", name := "lt", desc := "(IIII)Z" } : Jvm.MethodName) method_3_code (4 : Nat) (Option.some Jvm.ClassFile.FieldType.boolean), Jvm.Cond.code ({ cls := "com/example/nodemata/nodemata/PairNumbers", name := "numberOf", desc := "(I)I" } : Jvm.MethodName) prog_83_method_5_code (2 : Nat) (Option.some Jvm.ClassFile.FieldType.int)]
set_option maxRecDepth 65536 in
theorem codes_eq : words1.filter isCode = codes1 := rfl
theorem w_codes : ∀ c ∈ words1.filter isCode, c.before args0 about1 = true := by
  rw [codes_eq]
  intro c hc
  simp only [codes1, List.mem_cons, List.not_mem_nil, or_false] at hc
  rcases hc with rfl | rfl | rfl | rfl | rfl | rfl | rfl | rfl | rfl | rfl | rfl | rfl | rfl | rfl
  · exact w_c0
  · exact w_c1
  · exact w_c2
  · exact w_c3
  · exact w_c4
  · exact w_c5
  · exact w_c6
  · exact w_c7
  · exact w_c8
  · exact w_c9
  · exact w_c10
  · exact w_c11
  · exact w_c12
  · exact w_c13
set_option maxRecDepth 65536 in
theorem w_t1 : (words1.take 24).all (fun c => isCode c || c.before args0 about1) = true := by decide +kernel
set_option maxRecDepth 65536 in
theorem w_t2 : ((words1.drop 24).take 24).all (fun c => isCode c || c.before args0 about1) = true := by decide +kernel
set_option maxRecDepth 65536 in
theorem w_t3 : (((words1.drop 24).drop 24).take 24).all (fun c => isCode c || c.before args0 about1) = true := by decide +kernel
set_option maxRecDepth 65536 in
theorem w_t4 : (((words1.drop 24).drop 24).drop 24).all (fun c => isCode c || c.before args0 about1) = true := by decide +kernel
theorem w_tables : (allAtoms (Jvm.Cond.code x code maxLocals ret :: tables_1)).before args0 about1 = true := by
  rw [allAtoms_all]
  show words1.all (fun c => c.before args0 about1) = true
  refine all_split ?_ w_codes
  rw [← List.take_append_drop 24 words1, List.all_append, w_t1, ← List.take_append_drop 24 (words1.drop 24), List.all_append, w_t2, ← List.take_append_drop 24 ((words1.drop 24).drop 24), List.all_append, w_t3, w_t4]
  rfl
set_option maxRecDepth 65536 in
theorem w_case : (Jvm.Cond.and given_1 narrow_1).before args0 about1 = true := by decide +kernel
theorem w_applies : (headSpec (Jvm.Cond.code x code maxLocals ret :: tables_1) room_1).applies x e0.platform about1 = true :=
  (Spec.applies_iff w_frames).mpr ⟨w_running, w_runnable, w_alone, w_named, w_hears, w_ripe, w_room, w_tables⟩
theorem atStart : AtStart classFile x code maxLocals ret World_1 tables_1 room_1 Calls_1 rest_1 Pre_1 launch0 p0 e0 about1 theMethod args0 below0 :=
  ⟨lists_1, trivial, launch0.admits_env _ _ _, launch0.least_env, fairChoices_fair.cas, fairChoices_fair.clock, w_frames, w_args, w_heap, w_applies, trivial, trivial, w_case⟩
end start1
theorem witness_1 : WitnessClaimed_1 := ⟨start1.p0, start1.e0, start1.about1, start1.theMethod, start1.args0, start1.below0, start1.atStart⟩
end Jvm.Pilot.@@N@@
