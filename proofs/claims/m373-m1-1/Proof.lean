import JvmDerived
import JvmDerived.Pilot.@@N@@Statement
import JvmDerived.Pilot.@@N@@Code
set_option linter.unusedVariables false
set_option linter.unusedSimpArgs false
namespace Jvm.OwnK
open Sem ClassFile Op Lib Bundle Jvm.Stand Jvm.Free Jvm.LawKit Jvm.RoadKit
/-! ## the end of a body, the goal, the point -/
def Fne (s : State) (n0 : Nat) (Z : State) (EL : List (String × Nat)) (nw : Bool) (rm : Room) (Q : Option Value → Heap → List Addr → Prop) (o : Outcome) (U : State) : Prop :=
  ∃ v L so, o = .returned v ∧ Q v U.heap so ∧ Fr n0 L ∧ CHr Z EL s.vm s.heap U.vm U.heap ∧ (∀ x ∈ so, n0 ≤ x ∧ x < U.heap.size ∧ Safe Z EL U.vm U.heap x) ∧ (nw = true → s.WarmedH U.vm) ∧ ReturnedEndW s o U L rm.cells rm.slots
def WP (p : Program) (e : Env) (below : List Frame) (Φ : Outcome → State → Prop) (T : State) (g : JFrame) : Prop :=
  ∃ s₂ o, Steps p.tables e below (T.setTop g) s₂ ∧ s₂.status = .running ∧ Ended s₂ below o ∧ Φ o s₂
def WS (p : Program) (l : Launch) (e : Env) (R : Room) (s : State) (m : MethodId) (args : Array Value) (below : List Frame) (meth : Method) (c : Code) (Z : State) (a0 : Array Value) (EL : List (String × Nat)) (nw : Bool) (n0 : Nat) (y : MethodName) (code : ByteArray) (maxL : Nat) (ret : Option FieldType)
    (T : State) (h : Heap) (sf : List Addr) (cells slots : Nat) : Prop :=
  ∃ locs, Stand p l e R (s.setVm T.vm) m args below meth c T locs cells slots ∧ T.heap = h ∧ s.Since T.vm h.size ∧ Z.Warmed39 T.vm ∧ T.vm.findClass y.cls = some m.cls ∧ CHr Z EL s.vm s.heap T.vm h ∧ Fr n0 locs ∧ n0 ≤ h.size ∧
    (∀ x ∈ sf, n0 ≤ x ∧ x < h.size ∧ Safe Z EL T.vm h x) ∧ EW Z a0 EL ∧ (nw = true → s.WarmedH T.vm) ∧ (p.tables.exec = Jvm.exec ∧ c.code = code ∧ meth.sig.returnType = ret ∧ meth.locks = false ∧ c.maxLocals = maxL ∧ meth.name = y.name)
def Ct (l : Launch) (Z : State) (a0 : Array Value) (EL : List (String × Nat)) (nw : Bool) (y : MethodName) (bytes : ByteArray) (maxL : Nat) (ret : Option FieldType) (rm : Room) (as' : Array Value) (h : Heap) (sf : List Addr) (n0 : Nat) (Q : Option Value → Heap → List Addr → Prop) : Prop :=
  ∀ ws, MetFree l y (head1 (Cond.code y bytes maxL ret :: ws) rm) (fun a U => a = as' ∧ Z.Warmed39 U.vm ∧ U.heap = h ∧ CHv Z EL U.vm h ∧ n0 ≤ h.size ∧ EW Z a0 EL ∧ ∀ x ∈ sf, n0 ≤ x ∧ x < h.size ∧ Safe Z EL U.vm h x) (fun _ _ _ _ _ => True)
    (fun _ U o U' => Fne U n0 Z EL nw rm Q o U')
def D (code : ByteArray) (pc : Nat) (i : Instr) (n pc' : Nat) : Prop := decode code pc = .ok (i, n) ∧ pc' = pc + n
section Base
variable {p : Program} {l : Launch} {e : Env} {R : Room} {s : State} {m : MethodId} {args : Array Value} {below : List Frame} {meth : Method} {c : Code} {Z : State} {EL : List (String × Nat)} {nw : Bool} {n0 : Nat} {y : MethodName} {code : ByteArray} {maxL : Nat} {ret : Option FieldType} {T : State} {h : Heap} {sf : List Addr} {cells slots : Nat} {Φ : Outcome → State → Prop} {a0 : Array Value} {pc pc' : Nat} {L : Array Slot} {S : List Value}
theorem WP.st {T' : State} {g g' : JFrame} (k : ∀ t, Steps p.tables e below (T'.setTop g') t → Steps p.tables e below (T.setTop g) t) (w : WP p e below Φ T' g') : WP p e below Φ T g := by
  obtain ⟨s₂, o, h1, h2⟩ := w; exact ⟨s₂, o, k _ h1, h2⟩
theorem WP.cast {g g' : JFrame} (q : g = g') (w : WP p e below Φ T g') : WP p e below Φ T g := q ▸ w
theorem WP.steps {T' : State} {g g' : JFrame} (k : Steps p.tables e below (T.setTop g) (T'.setTop g')) (w : WP p e below Φ T' g') : WP p e below Φ T g := WP.st (fun _ q => k.trans q) w

theorem WS.here (W : WS p l e R s m args below meth c Z a0 EL nw n0 y code maxL ret T h sf cells slots) : At T m c below := by obtain ⟨_, X, -⟩ := W; exact X.here
theorem WS.hx (W : WS p l e R s m args below meth c Z a0 EL nw n0 y code maxL ret T h sf cells slots) : p.tables.exec = Jvm.exec := by obtain ⟨_, _, _, _, _, _, _, _, _, _, _, _, q, -⟩ := W; exact q
theorem WS.hby (W : WS p l e R s m args below meth c Z a0 EL nw n0 y code maxL ret T h sf cells slots) : c.code = code := by obtain ⟨_, _, _, _, _, _, _, _, _, _, _, _, _, q, -⟩ := W; exact q
theorem WS.hn (W : WS p l e R s m args below meth c Z a0 EL nw n0 y code maxL ret T h sf cells slots) : n0 ≤ h.size := by obtain ⟨_, _, _, _, _, _, _, _, q, -⟩ := W; exact q
theorem WS.hT (W : WS p l e R s m args below meth c Z a0 EL nw n0 y code maxL ret T h sf cells slots) : T.heap = h := by obtain ⟨_, _, q, -⟩ := W; exact q
theorem WS.hZ (W : WS p l e R s m args below meth c Z a0 EL nw n0 y code maxL ret T h sf cells slots) : Z.Warmed39 T.vm := by obtain ⟨_, _, _, _, q, -⟩ := W; exact q
theorem WS.lt (W : WS p l e R s m args below meth c Z a0 EL nw n0 y code maxL ret T h sf cells slots) {x : Addr} (q : x ∈ sf) : x < h.size := by obtain ⟨_, _, _, _, _, _, _, _, _, w, -⟩ := W; exact (w x q).2.1
theorem WS.ge (W : WS p l e R s m args below meth c Z a0 EL nw n0 y code maxL ret T h sf cells slots) {x : Addr} (q : x ∈ sf) : n0 ≤ x := by obtain ⟨_, _, _, _, _, _, _, _, _, w, -⟩ := W; exact (w x q).1
theorem WS.hd (W : WS p l e R s m args below meth c Z a0 EL nw n0 y code maxL ret T h sf cells slots) {i : Instr} {n : Nat} (d : D code pc i n pc') : decode c.code pc = .ok (i, n) := hb W.hby d.1
theorem WS.mono (W : WS p l e R s m args below meth c Z a0 EL nw n0 y code maxL ret T h sf cells slots) {cells' slots' : Nat} {sf' : List Addr} (hc : cells ≤ cells') (hs : slots ≤ slots') (hf : ∀ x ∈ sf', x ∈ sf) : WS p l e R s m args below meth c Z a0 EL nw n0 y code maxL ret T h sf' cells' slots' := by
  obtain ⟨locs, X, a1, a2, a3, a4, a5, a6, a7, a8, a9⟩ := W
  exact ⟨locs, X.mono hc hs, a1, a2, a3, a4, a5, a6, a7, fun x hx => a8 x (hf x hx), a9⟩
/-- a step by a law of the library over the point's own start: the point behind it -/
theorem WS.pack {T' : State} {h' : Heap} {sf' : List Addr} {locs' : List Loc} {cells' slots' : Nat} (W : WS p l e R s m args below meth c Z a0 EL nw n0 y code maxL ret T h sf cells slots) (X' : Stand p l e R (s.setVm T.vm) m args below meth c T' locs' cells' slots') (eT : T'.heap = h') (N : Fr n0 locs') (hle : h.size ≤ h'.size) (K : CHv Z EL T.vm h → CHv Z EL T.vm h' ∧ ∀ y, Bk Z EL T.vm h' y → Bk Z EL T.vm h y) (hf : ∀ x ∈ sf', x ∈ sf ∨ (h.size ≤ x ∧ x < h'.size)) :
    WS p l e R s m args below meth c Z a0 EL nw n0 y code maxL ret T' h' sf' cells' slots' := by
  obtain ⟨locs, X, a1, a2, a3, a4, a5, a6, a7, a8, hE, aW, a10⟩ := W
  have C0 := K a5.1
  have C1 : CHr Z EL T.vm h T.vm h' := ⟨C0.1, hle, fun z q => Or.inl (C0.2 z q)⟩
  have C2 := CHv.at X' a3 hE C1.1
  have hS2 : (s.setVm T.vm).Since T'.vm h'.size := X'.warmed.since _
  refine ⟨locs', X'.retabled X'.warmed.wide, eT, a2.trans hS2 hle, wtrans (s := s.setVm T.vm) a3 X'.warmed, by rw [X'.warmed.alike.findClass]; exact a4, (a5.trans C1).trans C2, N, Nat.le_trans a7 hle, fun x hx => ?_, hE, fun u => State.WarmedH.trans (t := s.setVm T.vm) (aW u) X'.warmed, a10⟩
  rcases hf x hx with q | ⟨q1, q2⟩
  · obtain ⟨b1, b2, b3⟩ := a8 x q
    exact ⟨b1, Nat.lt_of_lt_of_le b2 hle, C2.safe (Nat.lt_of_lt_of_le b2 hle) (C1.safe b2 b3)⟩
  · refine ⟨Nat.le_trans a7 q1, q2, C2.safe q2 fun B => ?_⟩
    obtain ⟨cell, z⟩ := (C0.2 x B).there
    have := (Array.getElem?_eq_some_iff.mp z).1; omega
/-- nothing of the heap moved -/
theorem WS.same {T' : State} (W : WS p l e R s m args below meth c Z a0 EL nw n0 y code maxL ret T h sf cells slots) (f : ∀ locs, Stand p l e R (s.setVm T.vm) m args below meth c T locs cells slots → Stand p l e R (s.setVm T.vm) m args below meth c T' locs cells slots) (eT : T'.heap = h) : WS p l e R s m args below meth c Z a0 EL nw n0 y code maxL ret T' h sf cells slots := by
  obtain ⟨locs, X, a1, a2, a3, a4, a5, a6, a7, a8, a9⟩ := id W
  exact W.pack (f _ X) eT a6 (Nat.le_refl _) (fun H => ⟨H, fun _ q => q⟩) (fun x hx => Or.inl hx)

theorem k_aloadN (W : WS p l e R s m args below meth c Z a0 EL nw n0 y code maxL ret T h sf cells slots) {k : Fin 4} {v : Value} (d : D code pc (.aload_n k) 1 pc')   (hl : L[k.val]? = some (.val v)) (hv : v.isRef = true) (w : WP p e below Φ T (mkF m pc' L (v :: S))) : WP p e below Φ T (mkF m pc L (S)) := by
  obtain ⟨hd, rfl⟩ := d
  exact WP.st (fun _ q => XS.aloadN W.here W.hx rfl (hb W.hby hd) hl hv q) w
theorem k_aload (W : WS p l e R s m args below meth c Z a0 EL nw n0 y code maxL ret T h sf cells slots) {k : Nat} {v : Value} (d : D code pc (.aload k) 2 pc')   (hl : L[k]? = some (.val v)) (hv : v.isRef = true) (w : WP p e below Φ T (mkF m pc' L (v :: S))) : WP p e below Φ T (mkF m pc L (S)) := by
  obtain ⟨hd, rfl⟩ := d
  exact WP.st (fun _ q => XS.aload W.here W.hx rfl (hb W.hby hd) hl hv q) w
theorem k_iloadN (W : WS p l e R s m args below meth c Z a0 EL nw n0 y code maxL ret T h sf cells slots) {k : Fin 4} {v : Int32} (d : D code pc (.iload_n k) 1 pc')   (hl : L[k.val]? = some (.val (.int v))) (w : WP p e below Φ T (mkF m pc' L (.int v :: S))) : WP p e below Φ T (mkF m pc L (S)) := by
  obtain ⟨hd, rfl⟩ := d
  exact WP.st (fun _ q => XS.iloadN W.here W.hx rfl (hb W.hby hd) hl q) w
theorem k_iload (W : WS p l e R s m args below meth c Z a0 EL nw n0 y code maxL ret T h sf cells slots) {k : Nat} {v : Int32} (d : D code pc (.iload k) 2 pc')   (hl : L[k]? = some (.val (.int v))) (w : WP p e below Φ T (mkF m pc' L (.int v :: S))) : WP p e below Φ T (mkF m pc L (S)) := by
  obtain ⟨hd, rfl⟩ := d
  exact WP.st (fun _ q => XS.iload W.here W.hx rfl (hb W.hby hd) hl q) w
theorem k_lloadN (W : WS p l e R s m args below meth c Z a0 EL nw n0 y code maxL ret T h sf cells slots) {k : Fin 4} {v : Int64} (d : D code pc (.lload_n k) 1 pc')   (hl : L[k.val]? = some (.val (.long v))) (w : WP p e below Φ T (mkF m pc' L (.long v :: S))) : WP p e below Φ T (mkF m pc L (S)) := by
  obtain ⟨hd, rfl⟩ := d
  exact WP.st (fun _ q => XS.lloadN W.here W.hx rfl (hb W.hby hd) hl q) w
theorem k_lload (W : WS p l e R s m args below meth c Z a0 EL nw n0 y code maxL ret T h sf cells slots) {k : Nat} {v : Int64} (d : D code pc (.lload k) 2 pc')   (hl : L[k]? = some (.val (.long v))) (w : WP p e below Φ T (mkF m pc' L (.long v :: S))) : WP p e below Φ T (mkF m pc L (S)) := by
  obtain ⟨hd, rfl⟩ := d
  exact WP.st (fun _ q => XS.lload W.here W.hx rfl (hb W.hby hd) hl q) w
theorem k_istoreN (W : WS p l e R s m args below meth c Z a0 EL nw n0 y code maxL ret T h sf cells slots) {k : Fin 4} {x : Int32} {L' : Array Slot} (d : D code pc (.istore_n k) 1 pc')    (hl : storeLocals L k.val (.int x) = some L') (w : WP p e below Φ T (mkF m pc' L' (S))) : WP p e below Φ T (mkF m pc L (.int x :: S)) := by
  obtain ⟨hd, rfl⟩ := d
  exact WP.st (fun _ q => XS.istoreN W.here W.hx rfl (hb W.hby hd) rfl hl q) w
theorem k_istore (W : WS p l e R s m args below meth c Z a0 EL nw n0 y code maxL ret T h sf cells slots) {k : Nat} {x : Int32} {L' : Array Slot} (d : D code pc (.istore k) 2 pc')    (hl : storeLocals L k (.int x) = some L') (w : WP p e below Φ T (mkF m pc' L' (S))) : WP p e below Φ T (mkF m pc L (.int x :: S)) := by
  obtain ⟨hd, rfl⟩ := d
  exact WP.st (fun _ q => XS.istore W.here W.hx rfl (hb W.hby hd) rfl hl q) w
theorem k_lstoreN (W : WS p l e R s m args below meth c Z a0 EL nw n0 y code maxL ret T h sf cells slots) {k : Fin 4} {x : Int64} {L' : Array Slot} (d : D code pc (.lstore_n k) 1 pc')    (hl : storeLocals L k.val (.long x) = some L') (w : WP p e below Φ T (mkF m pc' L' (S))) : WP p e below Φ T (mkF m pc L (.long x :: S)) := by
  obtain ⟨hd, rfl⟩ := d
  exact WP.st (fun _ q => XS.lstoreN W.here W.hx rfl (hb W.hby hd) rfl hl q) w
theorem k_lstore (W : WS p l e R s m args below meth c Z a0 EL nw n0 y code maxL ret T h sf cells slots) {k : Nat} {x : Int64} {L' : Array Slot} (d : D code pc (.lstore k) 2 pc')    (hl : storeLocals L k (.long x) = some L') (w : WP p e below Φ T (mkF m pc' L' (S))) : WP p e below Φ T (mkF m pc L (.long x :: S)) := by
  obtain ⟨hd, rfl⟩ := d
  exact WP.st (fun _ q => XS.lstore W.here W.hx rfl (hb W.hby hd) rfl hl q) w
theorem k_astoreN (W : WS p l e R s m args below meth c Z a0 EL nw n0 y code maxL ret T h sf cells slots) {k : Fin 4} {x : Value} {L' : Array Slot} (d : D code pc (.astore_n k) 1 pc')    (hv : x.isRef = true) (hl : storeLocals L k.val x = some L') (w : WP p e below Φ T (mkF m pc' L' (S))) : WP p e below Φ T (mkF m pc L (x :: S)) := by
  obtain ⟨hd, rfl⟩ := d
  exact WP.st (fun _ q => XS.astoreN W.here W.hx rfl (hb W.hby hd) rfl hv hl q) w
theorem k_astore (W : WS p l e R s m args below meth c Z a0 EL nw n0 y code maxL ret T h sf cells slots) {k : Nat} {x : Value} {L' : Array Slot} (d : D code pc (.astore k) 2 pc')    (hv : x.isRef = true) (hl : storeLocals L k x = some L') (w : WP p e below Φ T (mkF m pc' L' (S))) : WP p e below Φ T (mkF m pc L (x :: S)) := by
  obtain ⟨hd, rfl⟩ := d
  exact WP.st (fun _ q => XS.astore W.here W.hx rfl (hb W.hby hd) rfl hv hl q) w
theorem k_iconst (W : WS p l e R s m args below meth c Z a0 EL nw n0 y code maxL ret T h sf cells slots) {i : Int} {z : Int32} (d : D code pc (.iconst i) 1 pc')   (hz : Int32.ofInt i = z) (w : WP p e below Φ T (mkF m pc' L (.int z :: S))) : WP p e below Φ T (mkF m pc L (S)) := by
  obtain ⟨hd, rfl⟩ := d
  exact WP.st (fun _ q => XS.iconst W.here W.hx rfl (hb W.hby hd) (by rw [hz]; exact q)) w
theorem k_bipush (W : WS p l e R s m args below meth c Z a0 EL nw n0 y code maxL ret T h sf cells slots) {i : Int} {z : Int32} (d : D code pc (.bipush i) 2 pc')   (hz : (Int8.ofInt i).toInt32 = z) (w : WP p e below Φ T (mkF m pc' L (.int z :: S))) : WP p e below Φ T (mkF m pc L (S)) := by
  obtain ⟨hd, rfl⟩ := d
  exact WP.st (fun _ q => XS.bipush W.here W.hx rfl (hb W.hby hd) (by rw [hz]; exact q)) w
theorem k_sipush (W : WS p l e R s m args below meth c Z a0 EL nw n0 y code maxL ret T h sf cells slots) {i : Int} {z : Int32} (d : D code pc (.sipush i) 3 pc')   (hz : (Int16.ofInt i).toInt32 = z) (w : WP p e below Φ T (mkF m pc' L (.int z :: S))) : WP p e below Φ T (mkF m pc L (S)) := by
  obtain ⟨hd, rfl⟩ := d
  exact WP.st (fun _ q => XS.sipush W.here W.hx rfl (hb W.hby hd) (by rw [hz]; exact q)) w
theorem k_lconst (W : WS p l e R s m args below meth c Z a0 EL nw n0 y code maxL ret T h sf cells slots) {k : Fin 2} {z : Int64} (d : D code pc (.lconst k) 1 pc')   (hz : Int64.ofNat k = z) (w : WP p e below Φ T (mkF m pc' L (.long z :: S))) : WP p e below Φ T (mkF m pc L (S)) := by
  obtain ⟨hd, rfl⟩ := d
  exact WP.st (fun _ q => XS.lconst W.here W.hx rfl (hb W.hby hd) (by rw [hz]; exact q)) w
theorem k_aconst (W : WS p l e R s m args below meth c Z a0 EL nw n0 y code maxL ret T h sf cells slots)  (d : D code pc (.aconst_null) 1 pc')  (w : WP p e below Φ T (mkF m pc' L (.null :: S))) : WP p e below Φ T (mkF m pc L (S)) := by
  obtain ⟨hd, rfl⟩ := d
  exact WP.st (fun _ q => XS.aconstNull W.here W.hx rfl (hb W.hby hd) q) w
theorem k_iadd (W : WS p l e R s m args below meth c Z a0 EL nw n0 y code maxL ret T h sf cells slots) {x y z : Int32} (d : D code pc (.iadd) 1 pc')  (hz : x + y = z) (w : WP p e below Φ T (mkF m pc' L (.int z :: S))) : WP p e below Φ T (mkF m pc L (.int y :: .int x :: S)) := by
  obtain ⟨hd, rfl⟩ := d
  exact WP.st (fun _ q => XS.iadd W.here W.hx rfl (hb W.hby hd) rfl (by rw [hz]; exact q)) w
theorem k_isub (W : WS p l e R s m args below meth c Z a0 EL nw n0 y code maxL ret T h sf cells slots) {x y z : Int32} (d : D code pc (.isub) 1 pc')  (hz : x - y = z) (w : WP p e below Φ T (mkF m pc' L (.int z :: S))) : WP p e below Φ T (mkF m pc L (.int y :: .int x :: S)) := by
  obtain ⟨hd, rfl⟩ := d
  exact WP.st (fun _ q => XS.isub W.here W.hx rfl (hb W.hby hd) rfl (by rw [hz]; exact q)) w
theorem k_iand (W : WS p l e R s m args below meth c Z a0 EL nw n0 y code maxL ret T h sf cells slots) {x y z : Int32} (d : D code pc (.iand) 1 pc')  (hz : x &&& y = z) (w : WP p e below Φ T (mkF m pc' L (.int z :: S))) : WP p e below Φ T (mkF m pc L (.int y :: .int x :: S)) := by
  obtain ⟨hd, rfl⟩ := d
  exact WP.st (fun _ q => XS.iand W.here W.hx rfl (hb W.hby hd) rfl (by rw [hz]; exact q)) w
theorem k_imul (W : WS p l e R s m args below meth c Z a0 EL nw n0 y code maxL ret T h sf cells slots) {x y z : Int32} (d : D code pc (.imul) 1 pc')  (hz : x * y = z) (w : WP p e below Φ T (mkF m pc' L (.int z :: S))) : WP p e below Φ T (mkF m pc L (.int y :: .int x :: S)) := by
  obtain ⟨hd, rfl⟩ := d
  exact WP.st (fun _ q => XS.imul W.here W.hx rfl (hb W.hby hd) rfl (by rw [hz]; exact q)) w
theorem k_ixor (W : WS p l e R s m args below meth c Z a0 EL nw n0 y code maxL ret T h sf cells slots) {x y z : Int32} (d : D code pc (.ixor) 1 pc')  (hz : x ^^^ y = z) (w : WP p e below Φ T (mkF m pc' L (.int z :: S))) : WP p e below Φ T (mkF m pc L (.int y :: .int x :: S)) := by
  obtain ⟨hd, rfl⟩ := d
  exact WP.st (fun _ q => XS.ixor W.here W.hx rfl (hb W.hby hd) rfl (by rw [hz]; exact q)) w
theorem k_ior (W : WS p l e R s m args below meth c Z a0 EL nw n0 y code maxL ret T h sf cells slots) {x y z : Int32} (d : D code pc (.ior) 1 pc')  (hz : x ||| y = z) (w : WP p e below Φ T (mkF m pc' L (.int z :: S))) : WP p e below Φ T (mkF m pc L (.int y :: .int x :: S)) := by
  obtain ⟨hd, rfl⟩ := d
  exact WP.st (fun _ q => XS.ior W.here W.hx rfl (hb W.hby hd) rfl (by rw [hz]; exact q)) w
theorem k_ishl (W : WS p l e R s m args below meth c Z a0 EL nw n0 y code maxL ret T h sf cells slots) {x y z : Int32} (d : D code pc (.ishl) 1 pc')  (hz : x <<< (y &&& 31) = z) (w : WP p e below Φ T (mkF m pc' L (.int z :: S))) : WP p e below Φ T (mkF m pc L (.int y :: .int x :: S)) := by
  obtain ⟨hd, rfl⟩ := d
  exact WP.st (fun _ q => XS.ishl W.here W.hx rfl (hb W.hby hd) rfl (by rw [hz]; exact q)) w
theorem k_ishr (W : WS p l e R s m args below meth c Z a0 EL nw n0 y code maxL ret T h sf cells slots) {x y z : Int32} (d : D code pc (.ishr) 1 pc')  (hz : x >>> (y &&& 31) = z) (w : WP p e below Φ T (mkF m pc' L (.int z :: S))) : WP p e below Φ T (mkF m pc L (.int y :: .int x :: S)) := by
  obtain ⟨hd, rfl⟩ := d
  exact WP.st (fun _ q => XS.ishr W.here W.hx rfl (hb W.hby hd) rfl (by rw [hz]; exact q)) w
theorem k_iushr (W : WS p l e R s m args below meth c Z a0 EL nw n0 y code maxL ret T h sf cells slots) {x y z : Int32} (d : D code pc (.iushr) 1 pc')  (hz : XT.ushr x y = z) (w : WP p e below Φ T (mkF m pc' L (.int z :: S))) : WP p e below Φ T (mkF m pc L (.int y :: .int x :: S)) := by
  obtain ⟨hd, rfl⟩ := d
  exact WP.st (fun _ q => XT.iushr W.here W.hx rfl (hb W.hby hd) rfl (by rw [hz]; exact q)) w
theorem k_idiv (W : WS p l e R s m args below meth c Z a0 EL nw n0 y code maxL ret T h sf cells slots) {x y z : Int32} (d : D code pc (.idiv) 1 pc')  (hy : y ≠ 0) (hz : x / y = z) (w : WP p e below Φ T (mkF m pc' L (.int z :: S))) : WP p e below Φ T (mkF m pc L (.int y :: .int x :: S)) := by
  obtain ⟨hd, rfl⟩ := d
  exact WP.st (fun _ q => XS.idiv W.here W.hx rfl (hb W.hby hd) rfl hy (by rw [hz]; exact q)) w
theorem k_irem (W : WS p l e R s m args below meth c Z a0 EL nw n0 y code maxL ret T h sf cells slots) {x y z : Int32} (d : D code pc (.irem) 1 pc')  (hy : y ≠ 0) (hz : x % y = z) (w : WP p e below Φ T (mkF m pc' L (.int z :: S))) : WP p e below Φ T (mkF m pc L (.int y :: .int x :: S)) := by
  obtain ⟨hd, rfl⟩ := d
  exact WP.st (fun _ q => XS.irem W.here W.hx rfl (hb W.hby hd) rfl hy (by rw [irem_eq_mod x y, hz]; exact q)) w
theorem k_ineg (W : WS p l e R s m args below meth c Z a0 EL nw n0 y code maxL ret T h sf cells slots) {x z : Int32} (d : D code pc (.ineg) 1 pc')  (hz : -x = z) (w : WP p e below Φ T (mkF m pc' L (.int z :: S))) : WP p e below Φ T (mkF m pc L (.int x :: S)) := by
  obtain ⟨hd, rfl⟩ := d
  exact WP.st (fun _ q => XS.ineg W.here W.hx rfl (hb W.hby hd) rfl (by rw [hz]; exact q)) w
theorem k_ladd (W : WS p l e R s m args below meth c Z a0 EL nw n0 y code maxL ret T h sf cells slots) {x y z : Int64} (d : D code pc (.ladd) 1 pc')  (hz : x + y = z) (w : WP p e below Φ T (mkF m pc' L (.long z :: S))) : WP p e below Φ T (mkF m pc L (.long y :: .long x :: S)) := by
  obtain ⟨hd, rfl⟩ := d
  exact WP.st (fun _ q => XS.ladd W.here W.hx rfl (hb W.hby hd) rfl (by rw [hz]; exact q)) w
theorem k_lsub (W : WS p l e R s m args below meth c Z a0 EL nw n0 y code maxL ret T h sf cells slots) {x y z : Int64} (d : D code pc (.lsub) 1 pc')  (hz : x - y = z) (w : WP p e below Φ T (mkF m pc' L (.long z :: S))) : WP p e below Φ T (mkF m pc L (.long y :: .long x :: S)) := by
  obtain ⟨hd, rfl⟩ := d
  exact WP.st (fun _ q => XS.lsub W.here W.hx rfl (hb W.hby hd) rfl (by rw [hz]; exact q)) w
theorem k_land (W : WS p l e R s m args below meth c Z a0 EL nw n0 y code maxL ret T h sf cells slots) {x y z : Int64} (d : D code pc (.land) 1 pc')  (hz : x &&& y = z) (w : WP p e below Φ T (mkF m pc' L (.long z :: S))) : WP p e below Φ T (mkF m pc L (.long y :: .long x :: S)) := by
  obtain ⟨hd, rfl⟩ := d
  exact WP.st (fun _ q => XS.land W.here W.hx rfl (hb W.hby hd) rfl (by rw [hz]; exact q)) w
theorem k_lmul (W : WS p l e R s m args below meth c Z a0 EL nw n0 y code maxL ret T h sf cells slots) {x y z : Int64} (d : D code pc (.lmul) 1 pc')  (hz : x * y = z) (w : WP p e below Φ T (mkF m pc' L (.long z :: S))) : WP p e below Φ T (mkF m pc L (.long y :: .long x :: S)) := by
  obtain ⟨hd, rfl⟩ := d
  exact WP.st (fun _ q => XS.lmul W.here W.hx rfl (hb W.hby hd) rfl (by rw [hz]; exact q)) w
theorem k_lxor (W : WS p l e R s m args below meth c Z a0 EL nw n0 y code maxL ret T h sf cells slots) {x y z : Int64} (d : D code pc (.lxor) 1 pc')  (hz : x ^^^ y = z) (w : WP p e below Φ T (mkF m pc' L (.long z :: S))) : WP p e below Φ T (mkF m pc L (.long y :: .long x :: S)) := by
  obtain ⟨hd, rfl⟩ := d
  exact WP.st (fun _ q => XS.lxor W.here W.hx rfl (hb W.hby hd) rfl (by rw [hz]; exact q)) w
theorem k_lor (W : WS p l e R s m args below meth c Z a0 EL nw n0 y code maxL ret T h sf cells slots) {x y z : Int64} (d : D code pc (.lor) 1 pc')  (hz : x ||| y = z) (w : WP p e below Φ T (mkF m pc' L (.long z :: S))) : WP p e below Φ T (mkF m pc L (.long y :: .long x :: S)) := by
  obtain ⟨hd, rfl⟩ := d
  exact WP.st (fun _ q => XS.lor W.here W.hx rfl (hb W.hby hd) rfl (by rw [hz]; exact q)) w
theorem k_lshl (W : WS p l e R s m args below meth c Z a0 EL nw n0 y code maxL ret T h sf cells slots) {x z : Int64} {y : Int32} (d : D code pc (.lshl) 1 pc')   (hz : x <<< (y.toInt64 &&& 63) = z) (w : WP p e below Φ T (mkF m pc' L (.long z :: S))) : WP p e below Φ T (mkF m pc L (.int y :: .long x :: S)) := by
  obtain ⟨hd, rfl⟩ := d
  exact WP.st (fun _ q => XT.lshl W.here W.hx rfl (hb W.hby hd) rfl (by rw [hz]; exact q)) w
theorem k_lshr (W : WS p l e R s m args below meth c Z a0 EL nw n0 y code maxL ret T h sf cells slots) {x z : Int64} {y : Int32} (d : D code pc (.lshr) 1 pc')   (hz : x >>> (y.toInt64 &&& 63) = z) (w : WP p e below Φ T (mkF m pc' L (.long z :: S))) : WP p e below Φ T (mkF m pc L (.int y :: .long x :: S)) := by
  obtain ⟨hd, rfl⟩ := d
  exact WP.st (fun _ q => XT.lshr W.here W.hx rfl (hb W.hby hd) rfl (by rw [hz]; exact q)) w
theorem k_lushr (W : WS p l e R s m args below meth c Z a0 EL nw n0 y code maxL ret T h sf cells slots) {x z : Int64} {y : Int32} (d : D code pc (.lushr) 1 pc')   (hz : XT.ushrL x y = z) (w : WP p e below Φ T (mkF m pc' L (.long z :: S))) : WP p e below Φ T (mkF m pc L (.int y :: .long x :: S)) := by
  obtain ⟨hd, rfl⟩ := d
  exact WP.st (fun _ q => XT.lushr W.here W.hx rfl (hb W.hby hd) rfl (by rw [hz]; exact q)) w
theorem k_lrem (W : WS p l e R s m args below meth c Z a0 EL nw n0 y code maxL ret T h sf cells slots) {x y z : Int64} (d : D code pc (.lrem) 1 pc')  (hy : y ≠ 0) (hz : x - (x / y) * y = z) (w : WP p e below Φ T (mkF m pc' L (.long z :: S))) : WP p e below Φ T (mkF m pc L (.long y :: .long x :: S)) := by
  obtain ⟨hd, rfl⟩ := d
  exact WP.st (fun _ q => XS.lrem W.here W.hx rfl (hb W.hby hd) rfl hy (by rw [hz]; exact q)) w
theorem k_ldiv (W : WS p l e R s m args below meth c Z a0 EL nw n0 y code maxL ret T h sf cells slots) {x y z : Int64} (d : D code pc (.ldiv) 1 pc')  (hy : y ≠ 0) (hz : x / y = z) (w : WP p e below Φ T (mkF m pc' L (.long z :: S))) : WP p e below Φ T (mkF m pc L (.long y :: .long x :: S)) := by
  obtain ⟨hd, rfl⟩ := d
  exact WP.st (fun _ q => XS.ldiv W.here W.hx rfl (hb W.hby hd) rfl hy (by rw [hz]; exact q)) w
theorem k_lneg (W : WS p l e R s m args below meth c Z a0 EL nw n0 y code maxL ret T h sf cells slots) {x z : Int64} (d : D code pc (.lneg) 1 pc')  (hz : -x = z) (w : WP p e below Φ T (mkF m pc' L (.long z :: S))) : WP p e below Φ T (mkF m pc L (.long x :: S)) := by
  obtain ⟨hd, rfl⟩ := d
  exact WP.st (fun _ q => XS.lneg W.here W.hx rfl (hb W.hby hd) rfl (by rw [hz]; exact q)) w
theorem k_lcmp (W : WS p l e R s m args below meth c Z a0 EL nw n0 y code maxL ret T h sf cells slots) {x y : Int64} {z : Int32} (d : D code pc (.lcmp) 1 pc')   (hz : XT.cmpL x y = z) (w : WP p e below Φ T (mkF m pc' L (.int z :: S))) : WP p e below Φ T (mkF m pc L (.long y :: .long x :: S)) := by
  obtain ⟨hd, rfl⟩ := d
  exact WP.st (fun _ q => XT.lcmp W.here W.hx rfl (hb W.hby hd) rfl (by rw [hz]; exact q)) w
theorem k_i2b (W : WS p l e R s m args below meth c Z a0 EL nw n0 y code maxL ret T h sf cells slots) {x z : Int32} (d : D code pc (.i2b) 1 pc')  (hz : x.toInt8.toInt32 = z) (w : WP p e below Φ T (mkF m pc' L (.int z :: S))) : WP p e below Φ T (mkF m pc L (.int x :: S)) := by
  obtain ⟨hd, rfl⟩ := d
  exact WP.st (fun _ q => XS.i2b W.here W.hx rfl (hb W.hby hd) rfl (by rw [hz]; exact q)) w
theorem k_i2c (W : WS p l e R s m args below meth c Z a0 EL nw n0 y code maxL ret T h sf cells slots) {x z : Int32} (d : D code pc (.i2c) 1 pc')  (hz : x.toUInt32.toUInt16.toUInt32.toInt32 = z) (w : WP p e below Φ T (mkF m pc' L (.int z :: S))) : WP p e below Φ T (mkF m pc L (.int x :: S)) := by
  obtain ⟨hd, rfl⟩ := d
  exact WP.st (fun _ q => XS.i2c W.here W.hx rfl (hb W.hby hd) rfl (by rw [hz]; exact q)) w
theorem k_i2s (W : WS p l e R s m args below meth c Z a0 EL nw n0 y code maxL ret T h sf cells slots) {x z : Int32} (d : D code pc (.i2s) 1 pc')  (hz : x.toInt16.toInt32 = z) (w : WP p e below Φ T (mkF m pc' L (.int z :: S))) : WP p e below Φ T (mkF m pc L (.int x :: S)) := by
  obtain ⟨hd, rfl⟩ := d
  exact WP.st (fun _ q => XS.i2s W.here W.hx rfl (hb W.hby hd) rfl (by rw [hz]; exact q)) w
theorem k_i2l (W : WS p l e R s m args below meth c Z a0 EL nw n0 y code maxL ret T h sf cells slots) {x : Int32} {z : Int64} (d : D code pc (.i2l) 1 pc')   (hz : x.toInt64 = z) (w : WP p e below Φ T (mkF m pc' L (.long z :: S))) : WP p e below Φ T (mkF m pc L (.int x :: S)) := by
  obtain ⟨hd, rfl⟩ := d
  exact WP.st (fun _ q => XS.i2l W.here W.hx rfl (hb W.hby hd) rfl (by rw [hz]; exact q)) w
theorem k_l2i (W : WS p l e R s m args below meth c Z a0 EL nw n0 y code maxL ret T h sf cells slots) {x : Int64} {z : Int32} (d : D code pc (.l2i) 1 pc')   (hz : x.toInt32 = z) (w : WP p e below Φ T (mkF m pc' L (.int z :: S))) : WP p e below Φ T (mkF m pc L (.long x :: S)) := by
  obtain ⟨hd, rfl⟩ := d
  exact WP.st (fun _ q => XS.l2i W.here W.hx rfl (hb W.hby hd) rfl (by rw [hz]; exact q)) w
theorem k_dup (W : WS p l e R s m args below meth c Z a0 EL nw n0 y code maxL ret T h sf cells slots) {x : Value} (d : D code pc (.dup) 1 pc')  (hc : x.category = 1) (w : WP p e below Φ T (mkF m pc' L (x :: x :: S))) : WP p e below Φ T (mkF m pc L (x :: S)) := by
  obtain ⟨hd, rfl⟩ := d
  exact WP.st (fun _ q => XS.dup W.here W.hx rfl (hb W.hby hd) rfl hc q) w
theorem k_pop (W : WS p l e R s m args below meth c Z a0 EL nw n0 y code maxL ret T h sf cells slots) {x : Value} (d : D code pc (.pop) 1 pc')  (hc : x.category = 1) (w : WP p e below Φ T (mkF m pc' L (S))) : WP p e below Φ T (mkF m pc L (x :: S)) := by
  obtain ⟨hd, rfl⟩ := d
  exact WP.st (fun _ q => XS.pop W.here W.hx rfl (hb W.hby hd) rfl hc q) w
theorem k_dupX1 (W : WS p l e R s m args below meth c Z a0 EL nw n0 y code maxL ret T h sf cells slots) {x z : Value} (d : D code pc (.dup_x1) 1 pc')  (hc : x.category = 1) (hc' : z.category = 1) (w : WP p e below Φ T (mkF m pc' L (x :: z :: x :: S))) : WP p e below Φ T (mkF m pc L (x :: z :: S)) := by
  obtain ⟨hd, rfl⟩ := d
  exact WP.st (fun _ q => XS.dupX1 W.here W.hx rfl (hb W.hby hd) rfl hc hc' q) w
theorem k_dup2 (W : WS p l e R s m args below meth c Z a0 EL nw n0 y code maxL ret T h sf cells slots) {x z : Value} (d : D code pc (.dup2) 1 pc')  (hc : x.category = 1) (hc' : z.category = 1) (w : WP p e below Φ T (mkF m pc' L (x :: z :: x :: z :: S))) : WP p e below Φ T (mkF m pc L (x :: z :: S)) := by
  obtain ⟨hd, rfl⟩ := d
  exact WP.st (fun _ q => XT.dup2 W.here W.hx rfl (hb W.hby hd) rfl hc hc' q) w
theorem k_dup2L (W : WS p l e R s m args below meth c Z a0 EL nw n0 y code maxL ret T h sf cells slots) {x : Int64} (d : D code pc (.dup2) 1 pc')  (w : WP p e below Φ T (mkF m pc' L (.long x :: .long x :: S))) : WP p e below Φ T (mkF m pc L (.long x :: S)) := by
  obtain ⟨hd, rfl⟩ := d
  exact WP.st (fun _ q => XT.dup2L W.here W.hx rfl (hb W.hby hd) rfl q) w
theorem k_iinc (W : WS p l e R s m args below meth c Z a0 EL nw n0 y code maxL ret T h sf cells slots) {k : Nat} {cst : Int} {x z : Int32} {L' : Array Slot} (d : D code pc (.iinc k cst) 3 pc')     (hl : L[k]? = some (.val (.int x))) (hz : x + Int32.ofInt cst = z) (hl' : storeLocals L k (.int z) = some L') (w : WP p e below Φ T (mkF m pc' L' (S))) : WP p e below Φ T (mkF m pc L (S)) := by
  obtain ⟨hd, rfl⟩ := d
  exact WP.st (fun _ q => XS.iinc W.here W.hx rfl (hb W.hby hd) hl (by rw [hz]; exact hl') q) w
theorem k_goto (W : WS p l e R s m args below meth c Z a0 EL nw n0 y code maxL ret T h sf cells slots) {o : Int} (pc1 : Nat) (d : D code pc (.goto o) 3 pc') (ho : 0 ≤ (pc : Int) + o ∧ ((pc : Int) + o).toNat = pc1) (w : WP p e below Φ T (mkF m pc1 L S)) : WP p e below Φ T (mkF m pc L S) := by
  obtain ⟨hd, rfl⟩ := d
  exact WP.st (fun _ q => XS.goto W.here W.hx rfl (pc0 := pc) (pc' := pc1) rfl (hb W.hby hd) ho.1 ho.2 q) w
def icP : ClassFile.Cond → Int32 → Prop
  | .eq, x => x = 0
  | .ne, x => ¬ x = 0
  | .lt, x => x < 0
  | .ge, x => ¬ x < 0
  | .gt, x => 0 < x
  | .le, x => ¬ 0 < x
def ic2 : ClassFile.Cond → Int32 → Int32 → Prop
  | .eq, x, y => x = y
  | .ne, x, y => ¬ x = y
  | .lt, x, y => x < y
  | .ge, x, y => ¬ x < y
  | .gt, x, y => y < x
  | .le, x, y => ¬ y < x
theorem icP_iff (cd : ClassFile.Cond) (x : Int32) : ifCond.holds cd x = true ↔ icP cd x := by
  cases cd <;> simp [ifCond.holds, icP, Int32.not_lt, Int32.not_le]
theorem ic2_iff (cd : ClassFile.Cond) (x y : Int32) : if_icmp.holds cd x y = true ↔ ic2 cd x y := by
  cases cd <;> simp [if_icmp.holds, ic2, Int32.not_lt, Int32.not_le]
theorem k_ifY (W : WS p l e R s m args below meth c Z a0 EL nw n0 y code maxL ret T h sf cells slots) {cd : ClassFile.Cond} {x : Int32} {o : Int} (pc1 : Nat) (d : D code pc (.ifCond cd o) 3 pc') (ho : 0 ≤ (pc : Int) + o ∧ ((pc : Int) + o).toNat = pc1) (hc : icP cd x) (w : WP p e below Φ T (mkF m pc1 L S)) : WP p e below Φ T (mkF m pc L (.int x :: S)) := by
  obtain ⟨hd, rfl⟩ := d
  exact WP.st (fun _ q => XS.ifYes W.here W.hx rfl (pc0 := pc) (pc' := pc1) rfl (hb W.hby hd) rfl ((icP_iff _ _).mpr hc) ho.1 ho.2 q) w
theorem k_ifN (W : WS p l e R s m args below meth c Z a0 EL nw n0 y code maxL ret T h sf cells slots) {cd : ClassFile.Cond} {x : Int32} {o : Int} (d : D code pc (.ifCond cd o) 3 pc') (hc : ¬ icP cd x) (w : WP p e below Φ T (mkF m pc' L S)) : WP p e below Φ T (mkF m pc L (.int x :: S)) := by
  obtain ⟨hd, rfl⟩ := d
  exact WP.st (fun _ q => XS.ifNo W.here W.hx rfl (hb W.hby hd) rfl (by cases hh : ifCond.holds cd x with | false => rfl | true => exact absurd ((icP_iff _ _).mp hh) hc) q) w
theorem k_if (W : WS p l e R s m args below meth c Z a0 EL nw n0 y code maxL ret T h sf cells slots) {cd : ClassFile.Cond} {x : Int32} {o : Int} (pc1 : Nat) (d : D code pc (.ifCond cd o) 3 pc') (ho : 0 ≤ (pc : Int) + o ∧ ((pc : Int) + o).toNat = pc1) (w1 : icP cd x → WP p e below Φ T (mkF m pc1 L S)) (w2 : ¬ icP cd x → WP p e below Φ T (mkF m pc' L S)) : WP p e below Φ T (mkF m pc L (.int x :: S)) := by
  by_cases q : icP cd x
  · exact k_ifY W pc1 d ho q (w1 q)
  · exact k_ifN W d q (w2 q)
theorem k_icY (W : WS p l e R s m args below meth c Z a0 EL nw n0 y code maxL ret T h sf cells slots) {cd : ClassFile.Cond} {x z : Int32} {o : Int} (pc1 : Nat) (d : D code pc (.if_icmp cd o) 3 pc') (ho : 0 ≤ (pc : Int) + o ∧ ((pc : Int) + o).toNat = pc1) (hc : ic2 cd x z) (w : WP p e below Φ T (mkF m pc1 L S)) : WP p e below Φ T (mkF m pc L (.int z :: .int x :: S)) := by
  obtain ⟨hd, rfl⟩ := d
  exact WP.st (fun _ q => XS.icmpYes W.here W.hx rfl (pc0 := pc) (pc' := pc1) rfl (hb W.hby hd) rfl ((ic2_iff _ _ _).mpr hc) ho.1 ho.2 q) w
theorem k_icN (W : WS p l e R s m args below meth c Z a0 EL nw n0 y code maxL ret T h sf cells slots) {cd : ClassFile.Cond} {x z : Int32} {o : Int} (d : D code pc (.if_icmp cd o) 3 pc') (hc : ¬ ic2 cd x z) (w : WP p e below Φ T (mkF m pc' L S)) : WP p e below Φ T (mkF m pc L (.int z :: .int x :: S)) := by
  obtain ⟨hd, rfl⟩ := d
  exact WP.st (fun _ q => XS.icmpNo W.here W.hx rfl (hb W.hby hd) rfl (by cases hh : if_icmp.holds cd x z with | false => rfl | true => exact absurd ((ic2_iff _ _ _).mp hh) hc) q) w
theorem k_ic (W : WS p l e R s m args below meth c Z a0 EL nw n0 y code maxL ret T h sf cells slots) {cd : ClassFile.Cond} {x z : Int32} {o : Int} (pc1 : Nat) (d : D code pc (.if_icmp cd o) 3 pc') (ho : 0 ≤ (pc : Int) + o ∧ ((pc : Int) + o).toNat = pc1) (w1 : ic2 cd x z → WP p e below Φ T (mkF m pc1 L S)) (w2 : ¬ ic2 cd x z → WP p e below Φ T (mkF m pc' L S)) : WP p e below Φ T (mkF m pc L (.int z :: .int x :: S)) := by
  by_cases q : ic2 cd x z
  · exact k_icY W pc1 d ho q (w1 q)
  · exact k_icN W d q (w2 q)
theorem k_nullY (W : WS p l e R s m args below meth c Z a0 EL nw n0 y code maxL ret T h sf cells slots) {o : Int} (pc1 : Nat) (d : D code pc (.ifnull o) 3 pc') (ho : 0 ≤ (pc : Int) + o ∧ ((pc : Int) + o).toNat = pc1) (w : WP p e below Φ T (mkF m pc1 L S)) : WP p e below Φ T (mkF m pc L (.null :: S)) := by
  obtain ⟨hd, rfl⟩ := d
  exact WP.st (fun _ q => XS.ifnullYes W.here W.hx rfl (pc0 := pc) (pc' := pc1) rfl (hb W.hby hd) rfl ho.1 ho.2 q) w
theorem k_nullN (W : WS p l e R s m args below meth c Z a0 EL nw n0 y code maxL ret T h sf cells slots) {o : Int} {b : Addr} (d : D code pc (.ifnull o) 3 pc') (w : WP p e below Φ T (mkF m pc' L S)) : WP p e below Φ T (mkF m pc L (.ref b :: S)) := by
  obtain ⟨hd, rfl⟩ := d
  exact WP.st (fun _ q => XS.ifnullNo W.here W.hx rfl (hb W.hby hd) rfl q) w
theorem k_nnY (W : WS p l e R s m args below meth c Z a0 EL nw n0 y code maxL ret T h sf cells slots) {o : Int} {b : Addr} (pc1 : Nat) (d : D code pc (.ifnonnull o) 3 pc') (ho : 0 ≤ (pc : Int) + o ∧ ((pc : Int) + o).toNat = pc1) (w : WP p e below Φ T (mkF m pc1 L S)) : WP p e below Φ T (mkF m pc L (.ref b :: S)) := by
  obtain ⟨hd, rfl⟩ := d
  exact WP.st (fun _ q => XS.ifnonnullYes W.here W.hx rfl (pc0 := pc) (pc' := pc1) rfl (hb W.hby hd) rfl ho.1 ho.2 q) w
theorem k_nnN (W : WS p l e R s m args below meth c Z a0 EL nw n0 y code maxL ret T h sf cells slots) {o : Int} (d : D code pc (.ifnonnull o) 3 pc') (w : WP p e below Φ T (mkF m pc' L S)) : WP p e below Φ T (mkF m pc L (.null :: S)) := by
  obtain ⟨hd, rfl⟩ := d
  exact WP.st (fun _ q => XS.ifnonnullNo W.here W.hx rfl (hb W.hby hd) rfl q) w
def acP : ACond → Value → Value → Prop
  | .eq, x, y => x = y
  | .ne, x, y => ¬ x = y
theorem k_acY (W : WS p l e R s m args below meth c Z a0 EL nw n0 y code maxL ret T h sf cells slots) {cd : ACond} {x z : Value} {o : Int} (pc1 : Nat) (d : D code pc (.if_acmp cd o) 3 pc') (h1 : x.isRef = true) (h2 : z.isRef = true) (ho : 0 ≤ (pc : Int) + o ∧ ((pc : Int) + o).toNat = pc1) (hc : acP cd x z) (w : WP p e below Φ T (mkF m pc1 L S)) : WP p e below Φ T (mkF m pc L (z :: x :: S)) := by
  obtain ⟨hd, rfl⟩ := d
  obtain ⟨locs, X, -⟩ := id W
  cases cd
  · exact WP.st (fun _ q => Jvm.RoadKit.acmp X W.hx rfl h1 h2 (pc0 := pc) (pc' := pc1) (same := true) rfl (hb W.hby hd) rfl (decide_eq_true hc) ho.1 (by simp [acV, ho.2]) q) w
  · exact WP.st (fun _ q => Jvm.RoadKit.acmp X W.hx rfl h1 h2 (pc0 := pc) (pc' := pc1) (same := false) rfl (hb W.hby hd) rfl (decide_eq_false hc) ho.1 (by simp [acV, ho.2]) q) w
theorem k_acN (W : WS p l e R s m args below meth c Z a0 EL nw n0 y code maxL ret T h sf cells slots) {cd : ACond} {x z : Value} {o : Int} (d : D code pc (.if_acmp cd o) 3 pc') (h1 : x.isRef = true) (h2 : z.isRef = true) (ho : 0 ≤ (pc : Int) + o) (hc : ¬ acP cd x z) (w : WP p e below Φ T (mkF m pc' L S)) : WP p e below Φ T (mkF m pc L (z :: x :: S)) := by
  obtain ⟨hd, rfl⟩ := d
  obtain ⟨locs, X, -⟩ := id W
  cases cd
  · exact WP.st (fun _ q => Jvm.RoadKit.acmp X W.hx rfl h1 h2 (pc0 := pc) (pc' := pc + 3) (same := false) rfl (hb W.hby hd) rfl (decide_eq_false hc) ho (by simp [acV]) q) w
  · exact WP.st (fun _ q => Jvm.RoadKit.acmp X W.hx rfl h1 h2 (pc0 := pc) (pc' := pc + 3) (same := true) rfl (hb W.hby hd) rfl (decide_eq_true (Classical.not_not.mp hc)) ho (by simp [acV]) q) w
end Base

/-! ## small facts on numbers -/
abbrev i2c (x : Int32) : Int32 := x.toUInt32.toUInt16.toUInt32.toInt32
abbrev i2b (x : Int32) : Int32 := x.toInt8.toInt32
abbrev Rg (x : Int32) (n : Int) : Prop := 0 ≤ x.toInt ∧ x.toInt < n
theorem Rg.mono {x : Int32} {n k : Int} (q : Rg x n) (h : n ≤ k) : Rg x k := ⟨q.1, Int.lt_of_lt_of_le q.2 h⟩
theorem toInt_and_nonneg (x m : Int32) (hm : 0 ≤ m.toInt) : 0 ≤ (x &&& m).toInt ∧ (x &&& m).toInt ≤ m.toInt := by
  have e1 : (x &&& m).toBitVec = x.toBitVec &&& m.toBitVec := rfl
  have h1 : m.toInt = m.toBitVec.toNat := by
    have : m.toInt = m.toBitVec.toInt := rfl
    rw [this] at hm ⊢
    rw [BitVec.toInt_eq_toNat_cond] at hm ⊢
    split at hm <;> split <;> omega
  have h2 : (x.toBitVec &&& m.toBitVec).toNat ≤ m.toBitVec.toNat := by rw [BitVec.toNat_and]; exact Nat.and_le_right
  have hm2 : 2 * m.toBitVec.toNat < 2 ^ 32 := by
    have : m.toInt < 2 ^ 31 := Int32.toInt_lt m
    omega
  have h3 : (x &&& m).toInt = (x.toBitVec &&& m.toBitVec).toNat := by
    show (x.toBitVec &&& m.toBitVec).toInt = _
    rw [BitVec.toInt_eq_toNat_cond, if_pos (by omega)]
  rw [h3, h1]; omega
theorem Rg.and (x m : Int32) {n : Int} (hm : 0 ≤ m.toInt ∧ m.toInt < n) : Rg (x &&& m) n := by
  have := toInt_and_nonneg x m hm.1; exact ⟨this.1, by omega⟩
theorem toInt_i2c (x : Int32) : (i2c x).toInt = x.toBitVec.toNat % 65536 := by
  have h : (i2c x).toBitVec = (x.toBitVec.setWidth 16).setWidth 32 := rfl
  show (i2c x).toBitVec.toInt = _
  rw [h, BitVec.toInt_eq_toNat_cond, BitVec.toNat_setWidth, BitVec.toNat_setWidth]
  have : x.toBitVec.toNat % 2 ^ 16 < 2 ^ 16 := Nat.mod_lt _ (by decide)
  rw [Nat.mod_eq_of_lt (a := x.toBitVec.toNat % 2 ^ 16) (by omega), if_pos (by omega)]
  rfl
theorem rg_i2c (x : Int32) : Rg (i2c x) 65536 := by rw [Rg, toInt_i2c]; omega
theorem natOf {x : Int32} (q : 0 ≤ x.toInt) : (x.toBitVec.toNat : Int) = x.toInt := by
  have : x.toInt = x.toBitVec.toInt := rfl
  rw [this] at q ⊢
  rw [BitVec.toInt_eq_toNat_cond] at q ⊢
  split at q <;> split <;> omega
theorem Rg.c {x : Int32} (q : Rg x 65536) : i2c x = x := by
  apply Int32.toInt_inj.mp
  have := natOf q.1; rw [toInt_i2c]; have h2 := q.2; omega
theorem Rg.nar {x : Int32} (q : Rg x 65536) : nar .char x = x := q.c
theorem Rg.fits {x : Int32} (q : Rg x 65536) : fits .char (.int x) = true := by
  have h0 : (0 : Int32) ≤ x := Int32.le_iff_toInt_le.mpr q.1
  have h1 : x ≤ 65535 := Int32.le_iff_toInt_le.mpr (by have := q.2; have e : (65535 : Int32).toInt = 65535 := by decide
                                                       omega)
  simp [Jvm.fits, h0, h1]
theorem Rg.le255 {x : Int32} (q : Rg x 256) : ¬ 255 < x := by rw [Int32.lt_iff_toInt_lt]; have := q.2; have h : (255 : Int32).toInt = 255 := by decide
                                                              omega
theorem nar_i2b (x : Int32) : nar .byte (i2b x) = i2b x := by simp [nar, i2b]
theorem fits_i2b (x : Int32) : Jvm.fits .byte (.int (i2b x)) = true := by
  have e : (i2b x).toInt = x.toInt8.toInt := Int8.toInt_toInt32 _
  have h0 : (-128 : Int32) ≤ i2b x := Int32.le_iff_toInt_le.mpr (by rw [e]; exact Int8.le_toInt _)
  have h1 : i2b x ≤ 127 := Int32.le_iff_toInt_le.mpr (by rw [e]; exact Int8.toInt_le _)
  simp [Jvm.fits, h0, h1]
theorem shr0 (x : Int32) : x >>> ((0 : Int32) &&& 31) = x := by
  have : ((0 : Int32) &&& 31) = 0 := by decide
  rw [this]; simp
theorem Rg.fin {x : Int32} (q : Rg x 256) : ∃ k : Fin 256, x = Int32.ofNat k.val := by
  obtain ⟨h1, h2⟩ := q
  obtain ⟨n, hn⟩ : ∃ n : Nat, x.toInt = n := ⟨x.toInt.toNat, (Int.toNat_of_nonneg h1).symm⟩
  refine ⟨⟨n, by omega⟩, ?_⟩
  apply Int32.toInt_inj.mp
  rw [Int32.toInt_ofNat_of_lt (by simp; omega), hn]
theorem lo_all : ∀ k : Fin 256, (i2b (Int32.ofNat k.val)) &&& 255 = Int32.ofNat k.val := by decide +kernel
theorem lo_i2b {x : Int32} (q : Rg x 256) : (i2b x) &&& 255 = x := by
  obtain ⟨k, rfl⟩ := q.fin; exact lo_all k
theorem i2b_inj {x y : Int32} (q : Rg x 256) (r : Rg y 256) (h : i2b x = i2b y) : x = y := by
  rw [← lo_i2b q, ← lo_i2b r, h]
theorem Rg.mod {x k : Int32} {n : Int} (q : Rg x n) (hk : 0 < k.toInt) : Rg (x % k) k.toInt := by
  have h : (x % k).toInt = x.toInt.tmod k.toInt := Int32.toInt_mod _ _
  rw [Rg, h]
  have h1 := q.1
  rw [Int.tmod_eq_emod_of_nonneg h1]
  exact ⟨Int.emod_nonneg _ (by omega), Int.emod_lt_of_pos _ hk⟩
theorem Rg.add {x y : Int32} {n k : Int} (q : Rg x n) (r : Rg y k) (h : n + k ≤ 2147483648) : Rg (x + y) (n + k - 1) := by
  have e : (x + y).toInt = x.toInt + y.toInt := by
    rw [Int32.toInt_add]
    have h1 := q.1; have h2 := q.2; have h3 := r.1; have h4 := r.2
    rw [Int.bmod_eq_of_le (by omega) (by omega)]
  rw [Rg, e]
  have h1 := q.1; have h2 := q.2; have h3 := r.1; have h4 := r.2
  omega
theorem toInt_land_nonneg (x m : Int64) (hm : 0 ≤ m.toInt) : 0 ≤ (x &&& m).toInt ∧ (x &&& m).toInt ≤ m.toInt := by
  have h1 : m.toInt = m.toBitVec.toNat := by
    have : m.toInt = m.toBitVec.toInt := rfl
    rw [this] at hm ⊢
    rw [BitVec.toInt_eq_toNat_cond] at hm ⊢
    split at hm <;> split <;> omega
  have h2 : (x.toBitVec &&& m.toBitVec).toNat ≤ m.toBitVec.toNat := by rw [BitVec.toNat_and]; exact Nat.and_le_right
  have hm2 : 2 * m.toBitVec.toNat < 2 ^ 64 := by
    have : m.toInt < 2 ^ 63 := Int64.toInt_lt m
    omega
  have h3 : (x &&& m).toInt = (x.toBitVec &&& m.toBitVec).toNat := by
    show (x.toBitVec &&& m.toBitVec).toInt = _
    rw [BitVec.toInt_eq_toNat_cond, if_pos (by omega)]
  rw [h3, h1]; omega
theorem lrem_rg {x y : Int64} (hx : 0 ≤ x.toInt) (hy : 0 < y.toInt) : 0 ≤ (x - x / y * y).toInt ∧ (x - x / y * y).toInt < y.toInt := by
  have hxl : x.toInt < 2 ^ 63 := Int64.toInt_lt x
  have hyl : y.toInt < 2 ^ 63 := Int64.toInt_lt y
  have e0 : x.toInt.tdiv y.toInt = x.toInt / y.toInt := Int.tdiv_eq_ediv_of_nonneg hx
  have d0 : 0 ≤ x.toInt / y.toInt := Int.ediv_nonneg hx (by omega)
  have d1 : x.toInt / y.toInt ≤ x.toInt := Int.ediv_le_self _ hx
  have e1 : (x / y).toInt = x.toInt / y.toInt := by rw [Int64.toInt_div, e0, Int.bmod_eq_of_le (by omega) (by omega)]
  have d2 : x.toInt / y.toInt * y.toInt ≤ x.toInt := Int.ediv_mul_le _ (by omega)
  have d3 : 0 ≤ x.toInt / y.toInt * y.toInt := Int.mul_nonneg d0 (by omega)
  have e2 : (x / y * y).toInt = x.toInt / y.toInt * y.toInt := by rw [Int64.toInt_mul, e1, Int.bmod_eq_of_le (by omega) (by omega)]
  have e3 : (x - x / y * y).toInt = x.toInt - x.toInt / y.toInt * y.toInt := by rw [Int64.toInt_sub, e2, Int.bmod_eq_of_le (by omega) (by omega)]
  have e4 : x.toInt % y.toInt = x.toInt - x.toInt / y.toInt * y.toInt := by
    have := Int.emod_add_mul_ediv x.toInt y.toInt; rw [Int.mul_comm] at this; omega
  rw [e3, ← e4]
  exact ⟨Int.emod_nonneg _ (by omega), Int.emod_lt_of_pos _ hy⟩
theorem cmpL_eq {x y : Int64} : XT.cmpL x y = 0 ↔ x = y := by
  unfold XT.cmpL; split
  · rename_i h; constructor
    · intro q; exact absurd q (by decide)
    · intro q; subst q; exact absurd h (Int64.lt_irrefl)
  · split <;> simp_all
theorem cmpL_lt {x y : Int64} : XT.cmpL x y < 0 ↔ x < y := by
  unfold XT.cmpL; split
  · rename_i h; constructor
    · intro q; exact absurd q (by decide)
    · intro q; rw [Int64.lt_iff_toInt_lt] at h q; omega
  · rename_i h; split
    · rename_i h2; subst h2; simp
    · rename_i h2; constructor
      · intro _; rw [Int64.lt_iff_toInt_lt] at h ⊢; have : x.toInt ≠ y.toInt := fun q => h2 (Int64.toInt_inj.mp q); omega
      · intro _; decide
theorem cmpL_gt {x y : Int64} : 0 < XT.cmpL x y ↔ y < x := by
  unfold XT.cmpL; split
  · rename_i h; constructor
    · intro _; exact h
    · intro _; decide
  · rename_i h; split
    · constructor
      · intro q; exact absurd q (by decide)
      · intro q; exact absurd q h
    · constructor
      · intro q; exact absurd q (by decide)
      · intro q; exact absurd q h
theorem bit01 {x : Int32} (q : Rg x 2) : x = 0 ∨ x = 1 := by
  have h1 := q.1; have h2 := q.2
  rcases (by omega : x.toInt = 0 ∨ x.toInt = 1) with h | h
  · exact Or.inl (Int32.toInt_inj.mp (h.trans (by decide)))
  · exact Or.inr (Int32.toInt_inj.mp (h.trans (by decide)))
theorem toInt_of {i : Nat} (h : i < 2147483648) : (Int32.ofNat i).toInt = i := Int32.toInt_ofNat_of_lt (by simpa using h)
theorem ix_of {i : Nat} (h : i < 2147483648) : ¬ Int32.ofNat i < 0 ∧ (Int32.ofNat i).toNatClampNeg = i := by
  refine ⟨?_, ?_⟩
  · rw [Int32.lt_iff_toInt_lt, toInt_of h]; simp
  · unfold Int32.toNatClampNeg; rw [toInt_of h]; rfl
theorem of_lt {i n : Nat} (h : i < n) (hn : n < 2147483648) : Int32.ofNat i < Int32.ofNat n := by
  rw [Int32.lt_iff_toInt_lt, toInt_of hn, toInt_of (by omega)]; omega
theorem of_ge {i n : Nat} (h : n ≤ i) (hn : i < 2147483648) : ¬ Int32.ofNat i < Int32.ofNat n := by
  rw [Int32.lt_iff_toInt_lt, toInt_of hn, toInt_of (by omega)]; omega
theorem of_sub {i n : Nat} (h : n ≤ i) (hi : i < 2147483648) : ¬ Int32.ofNat i - Int32.ofNat n < 0 := by
  have e : Int32.ofNat i - Int32.ofNat n = Int32.ofNat (i - n) := by
    apply Int32.toInt_inj.mp
    rw [Int32.toInt_sub, toInt_of hi, toInt_of (i := n) (by omega), toInt_of (i := i - n) (by omega), Int.bmod_eq_of_le (by omega) (by omega)]; omega
  rw [e]; exact (ix_of (by omega)).1
theorem of_inj {i n : Nat} (hi : i < 2147483648) (hn : n < 2147483648) (h : Int32.ofNat i = Int32.ofNat n) : i = n := by
  have := congrArg Int32.toInt h; rw [toInt_of hi, toInt_of hn] at this; omega
theorem of_ne0 {n : Nat} (h : 0 < n) (hn : n < 2147483648) : ¬ Int32.ofNat n = 0 := fun q => by
  have h1 := congrArg Int32.toInt q; rw [toInt_of hn] at h1
  have h2 : (0 : Int32).toInt = 0 := by decide
  omega
theorem cmp_step {cs : List Int32} {vs : List Value} {i : Nat} {ci : Int32} (hci : cs[i]? = some ci) (hl : vs.length = cs.length) : (((cs.take i).map i2b).map Value.int ++ vs.drop i).set i (.int (i2b ci)) = ((cs.take (i + 1)).map i2b).map Value.int ++ vs.drop (i + 1) := by
  have h0 : i < cs.length := (List.getElem?_eq_some_iff.mp hci).1
  have h1 : (((cs.take i).map i2b).map Value.int).length = i := by simp; omega
  have h2 : i < vs.length := by omega
  rw [List.set_append_right _ _ (by omega), h1, Nat.sub_self, List.drop_eq_getElem_cons h2, List.set_cons_zero, List.take_add_one, hci]
  simp
theorem le7 {n : Nat} (h : n ≤ 7) : ¬ (7 : Int32) < Int32.ofNat n := by
  have h7 : (7 : Int32) = Int32.ofNat 7 := rfl
  rw [h7]; exact of_ge h (by decide)
theorem of_succ (i : Nat) : Int32.ofNat i + Int32.ofInt 1 = Int32.ofNat (i + 1) := by
  rw [Int32.ofNat_add]; rfl
theorem rgS {x : Int32} {L : List Int32} {n : Int} (q : Rg x n) (r : ∀ c ∈ L, Rg c n) : ∀ c ∈ x :: L, Rg c n := fun c hc => (List.mem_cons.mp hc).elim (fun e => e ▸ q) (r c)
theorem cat_ref {v : Value} (h : v.isRef = true) : v.category = 1 := by cases v <;> simp_all [Value.isRef, Value.category]
theorem cat_i (x : Int32) : (Value.int x).category = 1 := rfl
theorem cat_l (x : Int64) : (Value.long x).category = 2 := rfl
theorem cat_r (x : Addr) : (Value.ref x).category = 1 := rfl
theorem cat_n : Value.null.category = 1 := rfl
theorem nar_refv {t : FieldType} {v : Value} (h : v.isRef = true) (ht : t.isReference = true) : narrow t v = v := by cases t <;> simp_all [narrow, FieldType.isReference]
theorem fits_refv {t : FieldType} {v : Value} (h : v.isRef = true) (ht : t.isReference = true) : Jvm.fits t v = true := by cases t <;> cases v <;> simp_all [Jvm.fits, Value.isRef, FieldType.isReference]

/-! ## what is known of a heap -/
section Facts
variable {Z : State} {h h' : Heap} {a b : Addr} {ty : FieldType} {vs : List Value} {ws : List Addr} {C : String}
def Av (Z : State) (h : Heap) (a : Addr) (ty : FieldType) (vs : List Value) : Prop :=
  ∃ c : Cell, Arr Z h a c ty ∧ c.slots.toList = vs ∧ vs.length < 2147483648 ∧ ∀ v ∈ vs, fits ty v = true
theorem Av.lt (F : Av Z h a ty vs) : a < h.size := by obtain ⟨c, A, -⟩ := F; exact A.lt
theorem Av.keep (F : Av Z h a ty vs) (K : Keep h h' ws) (q : a ∉ ws) : Av Z h' a ty vs := by obtain ⟨c, A, r⟩ := F; exact ⟨c, ⟨K.2.1 a c A.1 q, A.2⟩, r⟩
theorem Av.len (F : Av Z h a ty vs) : vs.length < 2147483648 := F.choose_spec.2.2.1
theorem fits_default (ty : FieldType) : fits ty (defaultValue ty) = true := by cases ty <;> simp [fits, defaultValue]
theorem Av.new {k : ClassId} {z : Int32} (A : Arr Z h a (newA k ty z) ty) (n : Nat) (q : z.toNatClampNeg = n) : Av Z h a ty (List.replicate n (defaultValue ty)) := by
  refine ⟨_, A, by simp [newA, q], ?_, fun v hv => ?_⟩
  · rw [List.length_replicate, ← q]; have := Int32.toInt_lt z; unfold Int32.toNatClampNeg; omega
  · rw [List.eq_of_mem_replicate hv]; exact fits_default ty
theorem Av.set {j : Nat} {v : Value} (F : Av Z h a ty vs) (W : Wr h h' a j v) (hv : fits ty v = true) : Av Z h' a ty (vs.set j v) := by
  obtain ⟨c, A, r1, r2, r3⟩ := F
  refine ⟨c.setSlot j v, A.same W, by simp [Cell.setSlot, r1], by simpa using r2, fun u hu => ?_⟩
  rcases List.mem_or_eq_of_mem_set hu with q | q
  · exact r3 u q
  · rw [q]; exact hv
theorem Av.arv (F : Av Z h a ty vs) (d : Value) : ∃ k, Arv Z h a k ty (Int32.ofNat vs.length) vs d := by
  obtain ⟨c, A, r1, r2, r3⟩ := F
  have hs : c.slots.size = vs.length := by rw [← r1]; simp
  have hx := ix_of r2
  refine ⟨c.cls, c, A, rfl, by rw [hx.2, hs], hx.1, fun k hk => ?_, fun i hi => ?_⟩
  · rw [← Array.getElem?_toList, r1, List.getD_eq_getElem?_getD, List.getElem?_eq_getElem (by omega)]; rfl
  · rw [List.getD_eq_getElem?_getD, List.getElem?_eq_getElem (by omega)]; exact r3 _ (List.getElem_mem _)
theorem Av.fitc {c : Cell} (A : Arr Z h a c ty) (r1 : c.slots.toList = vs) (r3 : ∀ v ∈ vs, fits ty v = true) : FitC Z c := fun i v hv => by
  obtain ⟨-, k, hk, comp, hkind⟩ := A.2.1
  have : v ∈ vs := by rw [← r1]; exact List.mem_of_getElem? (i := i) (by rw [Array.getElem?_toList]; exact hv)
  simp [State.fitsSlot, State.slotType?, hk, hkind, r3 v this]
theorem Av.of_arv {k : ClassId} {z : Int32} {d : Value} (F : Arv Z h a k ty z vs d) (q : z.toNatClampNeg = vs.length) : Av Z h a ty vs := by
  obtain ⟨c, A, -, r1, r2, H, G⟩ := F
  have e : c.slots.toList = vs := by
    apply List.ext_getElem?; intro i
    by_cases hi : i < c.slots.size
    · have := H i hi
      rw [Array.getElem?_toList, this, List.getD_eq_getElem?_getD]
      have hv : i < vs.length := by omega
      simp [hv]
    · rw [Array.getElem?_toList, Array.getElem?_eq_none (by omega), List.getElem?_eq_none (by omega)]
  refine ⟨c, A, e, ?_, fun v hv => ?_⟩
  · rw [← q]; have := Int32.toInt_lt z; unfold Int32.toNatClampNeg; omega
  · obtain ⟨i, hi, rfl⟩ := List.mem_iff_getElem.mp hv
    have := G i (by omega)
    rwa [List.getD_eq_getElem?_getD, List.getElem?_eq_getElem hi] at this
theorem keep_ext (E : Ext h h') (ws : List Addr) : Keep h h' ws := (Keep.refl h ws).ext E
theorem nin1 {x y : Addr} (q : x ≠ y) : x ∉ [y] := ninS q nin0
def AllExa (Z : State) (h : Heap) (C : String) (vs : List Value) : Prop := ∀ v ∈ vs, ∃ r, v = .ref r ∧ Exa Z h r C
theorem AllExa.keep (F : AllExa Z h C vs) (K : Keep h h' ws) : AllExa Z h' C vs := fun v hv => by obtain ⟨r, e, E⟩ := F v hv; exact ⟨r, e, E.keep K⟩
theorem Sta.keep {n d : String} {v : Value} (F : Sta Z h C n d v) (K : Keep h h' ws) (q : ∀ x ∈ ws, ∀ cell : Cell, h[x]? = some cell → cell.vm.isStatics = false) : Sta Z h' C n d v := by
  obtain ⟨cf, i, k, f, st, cell, h1, h2, h3, h4, h5, h6, h7⟩ := F
  exact ⟨cf, i, k, f, st, cell, h1, h2, h3, h4, K.2.1 _ _ h5 (fun hm => by have := q _ hm _ h5; rw [h6] at this; cases this), h6, h7⟩
theorem Av.plain (F : Av Z h a ty vs) : ∀ cell : Cell, h[a]? = some cell → cell.vm.isStatics = false := fun cell q => by
  obtain ⟨c, A, -⟩ := F; cases A.1.symm.trans q; exact Arr.plain A
theorem Exa.plain (F : Exa Z h a C) : ∀ cell : Cell, h[a]? = some cell → cell.vm.isStatics = false := fun cell q => by
  obtain ⟨c, _, h1, _, _, h4, _⟩ := F; cases h1.symm.trans q; exact h4
theorem ne_av {ty' : FieldType} {vs' : List Value} (F : Av Z h a ty vs) (G : Av Z h b ty' vs') (q : ty ≠ ty') : a ≠ b := fun e => by
  subst e
  obtain ⟨c, A, -⟩ := F; obtain ⟨c', A', -⟩ := G
  cases A.1.symm.trans A'.1
  obtain ⟨-, k, hk, comp, hkind⟩ := A.2.1
  obtain ⟨-, k', hk', comp', hkind'⟩ := A'.2.1
  cases hk.symm.trans hk'
  have := hkind.symm.trans hkind'
  injection this with _ e
  exact q e
theorem ne_len {vs' : List Value} (F : Av Z h a ty vs) (G : Av Z h b ty vs') (q : vs ≠ vs') : a ≠ b := fun e => by
  subst e
  obtain ⟨c, A, r, -⟩ := F; obtain ⟨c', A', r', -⟩ := G
  cases A.1.symm.trans A'.1
  exact q (r.symm.trans r')
theorem ne_exav {n : Nat} {a0 : Array Value} (E : Exa Z h a C) (w : (Cond.instantiable C n).before a0 Z = true) (F : Av Z h b ty vs) : a ≠ b := by
  obtain ⟨c, A, -⟩ := F; exact ne_arr E w A
/-- a String of Latin-1 bytes (as signed), its byte[] at b -/
def St (Z : State) (h : Heap) (a b : Addr) (bs : List Int32) : Prop :=
  Exa Z h a "java/lang/String" ∧ Fld Z h a "java/lang/String" "coder" "B" (.int 0) ∧ Fld Z h a "java/lang/String" "value" "[B" (.ref b) ∧ Av Z h b .byte (bs.map Value.int)
theorem St.keep {bs : List Int32} (F : St Z h a b bs) (K : Keep h h' ws) (q : a ∉ ws) (r : b ∉ ws) : St Z h' a b bs := ⟨F.1.keep K, F.2.1.keep K q, F.2.2.1.keep K q, F.2.2.2.keep K r⟩
end Facts

/-! ## a body's entry and its ends -/
section Ends
variable {p : Program} {l : Launch} {e : Env} {R : Room} {s : State} {m : MethodId} {args : Array Value} {below : List Frame} {meth : Method} {c : Code} {Z : State} {EL : List (String × Nat)} {nw : Bool} {n0 : Nat} {y : MethodName} {code : ByteArray} {maxL : Nat} {ret : Option FieldType} {T : State} {h : Heap} {sf : List Addr} {cells slots : Nat} {Φ : Outcome → State → Prop} {a0 : Array Value} {pc pc' : Nat} {L : Array Slot} {S : List Value} {rm : Room} {Q : Option Value → Heap → List Addr → Prop}
theorem Ct.body {as' : Array Value} (hp : plainFor y = true)
    (body : ∀ p e s m below meth c s₁, WS p l e rm s m as' below meth c Z a0 EL nw n0 y code maxL ret s₁ h sf 0 0 → WP p e below (Fne s n0 Z EL nw rm Q) s₁ (entryFrame m as' maxL)) : Ct l Z a0 EL nw y code maxL ret rm as' h sf n0 Q := by
  intro ws
  refine MetFree.of_bodySF hp hisR ?_
  intro p e s m args below meth c s₁ Bd hml hP hK
  obtain ⟨rfl, hZ, hh, hC, hn, hE, hsf⟩ := hP
  have X0 : Stand p l e rm s m args below meth c s₁ [] 0 0 := Stand.of_body Bd
  have e0 : s₁.heap = h := by rw [← hh, Bd.state]; rfl
  have ev : s₁.vm = s.vm := by rw [Bd.state]; rfl
  have hs : s.heap = h := hh
  refine body p e s m below meth c s₁ ⟨[], X0.retabled X0.warmed.wide, e0, X0.warmed.since _, wtrans hZ X0.warmed, ?_, ?_, Fr.nil _, hn, ?_, hE, fun _ => X0.warmed, Bd.exec, Bd.bytes, Bd.returns, Bd.notSynchronized, hml, (name_of_methodNamed Bd.named Bd.method).1⟩
  · rw [ev]; exact findClass_of_methodNamed Bd.named
  · rw [ev, hs]; exact CHr.refl hC
  · rw [ev]; exact hsf
theorem WS.fin (W : WS p l e R s m args below meth c Z a0 EL nw n0 y code maxL ret T h sf cells slots) (so : List Addr) (hso : ∀ x ∈ so, x ∈ sf) {v : Option Value} (hv : meth.sig.returnType = none → v = none) (hc : cells ≤ rm.cells) (hs : slots ≤ rm.slots) (q : Q v h so) :
    ∃ fs, (∀ (f : JFrame) (acts : List Action), f.method = m → f.locked = none → f.entered = [] → (doReturn e (T.setTop f) acts v).1 = T.setFrames fs) ∧ (T.setFrames fs).status = .running ∧ Ended (T.setFrames fs) below (.returned v) ∧ Fne s n0 Z EL nw rm Q (.returned v) (T.setFrames fs) := by
  obtain ⟨locs, X, a1, a2, a3, a4, a5, a6, a7, a8, a9, aW, b1, b2, b3, b4, b5⟩ := W
  obtain ⟨fs, q1, q2, q3, q4⟩ := (X.mono hc hs).leaveW a2 (by rw [a1]; exact Nat.le_refl _) hv b4
  refine ⟨fs, q1, q2, q3, v, locs, so, rfl, ?_, a6, ?_, ?_, aW, q4⟩
  · show Q v T.heap so; rw [a1]; exact q
  · show CHr Z EL s.vm s.heap T.vm T.heap; rw [a1]; exact a5
  · show ∀ x ∈ so, n0 ≤ x ∧ x < T.heap.size ∧ Safe Z EL T.vm T.heap x; rw [a1]; exact fun x hx => a8 x (hso x hx)
theorem k_ret (W : WS p l e R s m args below meth c Z a0 EL nw n0 y code maxL ret T h sf cells slots) (d : D code pc .return_ 1 pc') (hr : ret = none) (so : List Addr) (hso : ∀ x ∈ so, x ∈ sf) (hc : cells ≤ rm.cells) (hs : slots ≤ rm.slots) (q : Q none h so) : WP p e below (Fne s n0 Z EL nw rm Q) T (mkF m pc L []) := by
  have hret : meth.sig.returnType = ret := by obtain ⟨_, _, _, _, _, _, _, _, _, _, _, _, _, _, q, -⟩ := W; exact q
  obtain ⟨fs, q1, q2, q3, q4⟩ := W.fin so hso (v := none) (fun _ => rfl) hc hs q
  obtain ⟨locs, X, -⟩ := id W
  exact ⟨_, _, X.returnOut W.hx (hret.trans hr) (W.hd d) q1, q2, q3, q4⟩
theorem k_ireturn (W : WS p l e R s m args below meth c Z a0 EL nw n0 y code maxL ret T h sf cells slots) {z : Int32} (d : D code pc .ireturn 1 pc') (hr : ret = some .int) (so : List Addr) (hso : ∀ x ∈ so, x ∈ sf) (hc : cells ≤ rm.cells) (hs : slots ≤ rm.slots) (q : Q (some (.int z)) h so) : WP p e below (Fne s n0 Z EL nw rm Q) T (mkF m pc L (.int z :: S)) := by
  have hret : meth.sig.returnType = ret := by obtain ⟨_, _, _, _, _, _, _, _, _, _, _, _, _, _, q, -⟩ := W; exact q
  obtain ⟨fs, q1, q2, q3, q4⟩ := W.fin so hso (v := some (.int z)) (fun u => by rw [hret, hr] at u; cases u) hc hs q
  obtain ⟨locs, X, -⟩ := id W
  exact ⟨_, _, retOut X W.hx (hret.trans hr) rfl (Or.inl ⟨rfl, Or.inl rfl, z, rfl⟩) (W.hd d) q1, q2, q3, q4⟩
theorem k_retN (W : WS p l e R s m args below meth c Z a0 EL nw n0 y code maxL ret T h sf cells slots) {z z' : Int32} {t : FieldType} (d : D code pc .ireturn 1 pc') (hr : ret = some t) (ht : t = .boolean ∨ t = .byte ∨ t = .char ∨ t = .short) (hz : nar t z = z') (so : List Addr) (hso : ∀ x ∈ so, x ∈ sf) (hc : cells ≤ rm.cells) (hs : slots ≤ rm.slots) (q : Q (some (.int z')) h so) : WP p e below (Fne s n0 Z EL nw rm Q) T (mkF m pc L (.int z :: S)) := by
  have hret : meth.sig.returnType = ret := by obtain ⟨_, _, _, _, _, _, _, _, _, _, _, _, _, _, q, -⟩ := W; exact q
  obtain ⟨fs, q1, q2, q3, q4⟩ := W.fin so hso (v := some (.int z')) (fun u => by rw [hret, hr] at u; cases u) hc hs q
  obtain ⟨locs, X, -⟩ := id W
  subst hz
  exact ⟨_, _, retN X W.hx (t := t) (hret.trans hr) ht (W.hd d) q1, q2, q3, q4⟩
theorem k_lreturn (W : WS p l e R s m args below meth c Z a0 EL nw n0 y code maxL ret T h sf cells slots) {z : Int64} (d : D code pc .lreturn 1 pc') (hr : ret = some .long) (so : List Addr) (hso : ∀ x ∈ so, x ∈ sf) (hc : cells ≤ rm.cells) (hs : slots ≤ rm.slots) (q : Q (some (.long z)) h so) : WP p e below (Fne s n0 Z EL nw rm Q) T (mkF m pc L (.long z :: S)) := by
  have hret : meth.sig.returnType = ret := by obtain ⟨_, _, _, _, _, _, _, _, _, _, _, _, _, _, q, -⟩ := W; exact q
  obtain ⟨fs, q1, q2, q3, q4⟩ := W.fin so hso (v := some (.long z)) (fun u => by rw [hret, hr] at u; cases u) hc hs q
  obtain ⟨locs, X, -⟩ := id W
  exact ⟨_, _, retOut X W.hx (hret.trans hr) rfl (Or.inr (Or.inl ⟨rfl, rfl, z, rfl⟩)) (W.hd d) q1, q2, q3, q4⟩
theorem k_areturn (W : WS p l e R s m args below meth c Z a0 EL nw n0 y code maxL ret T h sf cells slots) {v : Value} {t : FieldType} (d : D code pc .areturn 1 pc') (hr : ret = some t) (ht : t.isReference = true) (hv : v.isRef = true) (so : List Addr) (hso : ∀ x ∈ so, x ∈ sf) (hc : cells ≤ rm.cells) (hs : slots ≤ rm.slots) (q : Q (some v) h so) : WP p e below (Fne s n0 Z EL nw rm Q) T (mkF m pc L (v :: S)) := by
  have hret : meth.sig.returnType = ret := by obtain ⟨_, _, _, _, _, _, _, _, _, _, _, _, _, _, q, -⟩ := W; exact q
  obtain ⟨fs, q1, q2, q3, q4⟩ := W.fin so hso (v := some v) (fun u => by rw [hret, hr] at u; cases u) hc hs q
  obtain ⟨locs, X, -⟩ := id W
  have hn : narrow t v = v := by cases t <;> simp_all [narrow, FieldType.isReference]
  exact ⟨_, _, retOut X W.hx (hret.trans hr) hn (Or.inr (Or.inr (Or.inr (Or.inr ⟨rfl, ht, hv⟩)))) (W.hd d) q1, q2, q3, q4⟩
end Ends

/-! ## steps on the heap -/
section Steps
variable {p : Program} {l : Launch} {e : Env} {R : Room} {s : State} {m : MethodId} {args : Array Value} {below : List Frame} {meth : Method} {c : Code} {Z : State} {EL : List (String × Nat)} {nw : Bool} {n0 : Nat} {y : MethodName} {code : ByteArray} {maxL : Nat} {ret : Option FieldType} {T : State} {h : Heap} {sf : List Addr} {cells slots : Nat} {Φ : Outcome → State → Prop} {a0 : Array Value} {pc pc' : Nat} {L : Array Slot} {S : List Value}
abbrev catS (S : List Value) : Nat := (S.map fun v => v.category).sum
abbrev Ix (j : Int32) (i : Nat) : Prop := ¬ j < 0 ∧ j.toNatClampNeg = i
theorem Ix.ok {j : Int32} {i n : Nat} (q : Ix j i) (hi : i < n) : ¬ (j < 0 ∨ n ≤ j.toNatClampNeg) := by
  rintro (u | u)
  · exact q.1 u
  · rw [q.2] at u; omega

theorem k_getF (W : WS p l e R s m args below meth c Z a0 EL nw n0 y code maxL ret T h sf cells slots) {index : Nat} {R0 O n d host : String} (dd : D code pc (.getfield index) 3 pc') (w : (Cond.fieldLink y.cls index R0 n d).before a0 Z = true ∨ (Cond.fieldLinkNest y.cls index R0 n d host).before a0 Z = true) (via : Via Z R0 O n d) {a : Addr} {v : Value} (F : Fld Z h a O n d v)
    (k : ∀ T', WS p l e R s m args below meth c Z a0 EL nw n0 y code maxL ret T' h sf cells slots → WP p e below Φ T' (mkF m pc' L (v :: S))) : WP p e below Φ T (mkF m pc L (.ref a :: S)) := by
  obtain ⟨locs, X, eT, hS, hZ, hown, hC, hN, hn, hsf, hE, hWm, b1, b2, b3, b4, b5, b6⟩ := id W
  obtain ⟨T', X', e', st⟩ := getF X W.hx hZ hown w via eT F (g := mkF m pc L (.ref a :: S)) rfl rfl (W.hd dd)
  obtain ⟨hd, rfl⟩ := dd
  exact WP.st (fun t q => st t q) (k T' (W.pack X' e' hN (Nat.le_refl _) (fun H => ⟨H, fun _ q => q⟩) (fun x hx => Or.inl hx)))

theorem k_getS (W : WS p l e R s m args below meth c Z a0 EL nw n0 y code maxL ret T h sf cells slots) {index : Nat} {R0 O n d : String} (dd : D code pc (.getstatic index) 3 pc') (w : (Cond.fieldLink y.cls index R0 n d).before a0 Z = true) (via : Via Z R0 O n d) {v : Value} (F : Sta Z h O n d v)
    (k : ∀ T', WS p l e R s m args below meth c Z a0 EL nw n0 y code maxL ret T' h sf cells slots → WP p e below Φ T' (mkF m pc' L (v :: S))) : WP p e below Φ T (mkF m pc L (S)) := by
  obtain ⟨locs, X, eT, hS, hZ, hown, hC, hN, hn, hsf, hE, hWm, b1, b2, b3, b4, b5, b6⟩ := id W
  obtain ⟨T', X', e', st⟩ := getS X W.hx hZ (host := "") hown w via eT F (g := mkF m pc L S) rfl (W.hd dd)
  obtain ⟨hd, rfl⟩ := dd
  exact WP.st (fun t q => st t q) (k T' (W.pack X' e' hN (Nat.le_refl _) (fun H => ⟨H, fun _ q => q⟩) (fun x hx => Or.inl hx)))

theorem k_putF (W : WS p l e R s m args below meth c Z a0 EL nw n0 y code maxL ret T h sf cells slots) {index kk : Nat} {R0 O n d C : String} {ty : FieldType} (dd : D code pc (.putfield index) 3 pc') (w : (Cond.fieldLink y.cls index R0 n d).before a0 Z = true) (via : Via Z R0 O n d) {a : Addr} {v v' old : Value} (ha : a ∈ sf) (F : Fld Z h a O n d old) (E : Exa Z h a C)
    (Lw : (Cond.lays C O n d).before a0 Z = true ∨ ((Cond.laysFinal C O n d).before a0 Z = true ∧ y.cls = O ∧ y.name = "<init>")) (wi : (Cond.instantiable C kk).before a0 Z = true) (hty : parseFieldDescriptor d = some ty) (hnr : narrow ty v = v') (hf : fits ty v' = true)
    (k : ∀ T' h', WS p l e R s m args below meth c Z a0 EL nw n0 y code maxL ret T' h' sf cells slots → Wr h h' a (Jvm.RoadKit.slotOf Z O n d) v' → WP p e below Φ T' (mkF m pc' L (S))) : WP p e below Φ T (mkF m pc L (v :: .ref a :: S)) := by
  obtain ⟨locs, X, eT, hS, hZ, hown, hC, hN, hn, hsf, hE, hWm, b1, b2, b3, b4, b5, b6⟩ := id W
  obtain ⟨T', h', X', e', Wh, st⟩ := putFN X W.hx hZ hown w via eT F E (Lw.imp id fun q => ⟨q.1, q.2.1, b6.trans q.2.2⟩) wi hty hnr hf (g := mkF m pc L (v :: .ref a :: S)) rfl rfl (W.hd dd)
  obtain ⟨hd, rfl⟩ := dd
  exact WP.st (fun t q => st t q) (k T' h' (W.pack X' e' (Fr.snoc X' hN (hsf a ha).1) (Nat.le_of_eq Wh.size.symm) (fun H => H.wrStep Wh (hsf a ha).2.2) (fun x hx => Or.inl hx)) Wh)

theorem k_new (W : WS p l e R s m args below meth c Z a0 EL nw n0 y code maxL ret T h sf cells slots) {index n : Nat} {C : String} (c' s' : Nat) (dd : D code pc (.new index) 3 pc') (w : (Cond.classLink y.cls index C).before a0 Z = true) (wi : (Cond.instantiable C n).before a0 Z = true) (wz : (Cond.initialized C).before a0 Z = true) (hc : cells + 1 = c' ∧ c' ≤ R.cells) (hl : slots + n = s' ∧ s' ≤ R.slots)
    (k : ∀ T' h' a, a = h.size → WS p l e R s m args below meth c Z a0 EL nw n0 y code maxL ret T' h' (a :: sf) c' s' → Ext h h' → Exa Z h' a C → (∀ {O nm d : String} {ty : FieldType}, Laid Z a0 C O nm d → parseFieldDescriptor d = some ty → Fld Z h' a O nm d (defaultValue ty)) → WP p e below Φ T' (mkF m pc' L (.ref a :: S))) : WP p e below Φ T (mkF m pc L (S)) := by
  obtain ⟨locs, X, eT, hS, hZ, hown, hC, hN, hn, hsf, hE, hWm, b1, b2, b3, b4, b5, b6⟩ := id W
  obtain ⟨rfl, hc⟩ := hc
  obtain ⟨rfl, hl⟩ := hl
  obtain ⟨T', h', X', e', E, A, Dd, -, st⟩ := newO X W.hx hZ hown w wi wz eT (g := mkF m pc L S) rfl (W.hd dd) hc hl
  obtain ⟨hd, rfl⟩ := dd
  exact WP.st (fun t q => st t q) (k T' h' _ rfl (W.pack X' e' hN E.1 (fun H => H.step fun _ _ _ q => E.2 _ _ q) (fun x hx => (List.mem_cons.mp hx).elim (fun q => Or.inr (by subst q; exact ⟨Nat.le_refl _, A.lt⟩)) Or.inl)) E A Dd)

theorem k_newarr (W : WS p l e R s m args below meth c Z a0 EL nw n0 y code maxL ret T h sf cells slots) {aty : ArrayType} {z : Int32} (n c' s' : Nat) (dd : D code pc (.newarray aty) 2 pc') (w : (Cond.arrayClass (newarray.typeOf aty)).before a0 Z = true) (hz : Ix z n) (hb : n * 8 ≤ 536870912) (hc : cells + 1 = c' ∧ c' ≤ R.cells) (hl : slots + n = s' ∧ s' ≤ R.slots)
    (k : ∀ T' h' a, a = h.size → WS p l e R s m args below meth c Z a0 EL nw n0 y code maxL ret T' h' (a :: sf) c' s' → Ext h h' → Av Z h' a (newarray.typeOf aty) (List.replicate n (defaultValue (newarray.typeOf aty))) → WP p e below Φ T' (mkF m pc' L (.ref a :: S))) : WP p e below Φ T (mkF m pc L (.int z :: S)) := by
  obtain ⟨locs, X, eT, hS, hZ, hown, hC, hN, hn, hsf, hE, hWm, b1, b2, b3, b4, b5, b6⟩ := id W
  obtain ⟨rfl, hc⟩ := hc
  obtain ⟨rfl, hl⟩ := hl
  obtain ⟨T', h', cA, X', e', E, A, st⟩ := newP X W.hx hZ w eT (g := mkF m pc L (.int z :: S)) rfl (W.hd dd) rfl hz.1 (cap := n) (Nat.le_of_eq hz.2) hb hc hl
  obtain ⟨hd, rfl⟩ := dd
  exact WP.st (fun t q => st t q) (k T' h' _ rfl (W.pack X' e' hN E.1 (fun H => H.step fun _ _ _ q => E.2 _ _ q) (fun x hx => (List.mem_cons.mp hx).elim (fun q => Or.inr (by subst q; exact ⟨Nat.le_refl _, A.lt⟩)) Or.inl)) E (Av.new A n hz.2))

theorem k_castore (W : WS p l e R s m args below meth c Z a0 EL nw n0 y code maxL ret T h sf cells slots) {a : Addr} {vs : List Value} {j x z : Int32} (i : Nat) (dd : D code pc (.castore) 1 pc') (ha : a ∈ sf) (F : Av Z h a .char vs) (hj : Ix j i) (hi : i < vs.length) (hz : nar .char x = z) (hf : fits .char (.int z) = true)
    (k : ∀ T' h', WS p l e R s m args below meth c Z a0 EL nw n0 y code maxL ret T' h' sf cells slots → Wr h h' a i (.int z) → Av Z h' a .char (vs.set i (.int z)) → WP p e below Φ T' (mkF m pc' L (S))) : WP p e below Φ T (mkF m pc L (.int x :: .int j :: .ref a :: S)) := by
  obtain ⟨locs, X, eT, hS, hZ, hown, hC, hN, hn, hsf, hE, hWm, b1, b2, b3, b4, b5, b6⟩ := id W
  obtain ⟨cl, A, r1, r2, r3⟩ := id F
  have hsz : cl.slots.size = vs.length := by rw [← r1]; simp
  obtain ⟨T', h', X', e', Wh, st⟩ := stC X W.hx hZ eT A (j := j) (x := x) (hj.ok (by rw [hsz]; exact hi)) (g := mkF m pc L (.int x :: .int j :: .ref a :: S)) rfl rfl (W.hd dd)
  rw [hj.2] at X' Wh
  subst hz
  obtain ⟨hd, rfl⟩ := dd
  exact WP.st (fun t q => st t q) (k T' h' (W.pack X' e' (Fr.snoc X' hN (hsf a ha).1) (Nat.le_of_eq Wh.size.symm) (fun H => H.wrStep Wh (hsf a ha).2.2) (fun x hx => Or.inl hx)) Wh (F.set Wh hf))

theorem k_bastore (W : WS p l e R s m args below meth c Z a0 EL nw n0 y code maxL ret T h sf cells slots) {a : Addr} {vs : List Value} {j x z : Int32} (i : Nat) (dd : D code pc (.bastore) 1 pc') (ha : a ∈ sf) (F : Av Z h a .byte vs) (hj : Ix j i) (hi : i < vs.length) (hz : nar .byte x = z) (hf : fits .byte (.int z) = true)
    (k : ∀ T' h', WS p l e R s m args below meth c Z a0 EL nw n0 y code maxL ret T' h' sf cells slots → Wr h h' a i (.int z) → Av Z h' a .byte (vs.set i (.int z)) → WP p e below Φ T' (mkF m pc' L (S))) : WP p e below Φ T (mkF m pc L (.int x :: .int j :: .ref a :: S)) := by
  obtain ⟨locs, X, eT, hS, hZ, hown, hC, hN, hn, hsf, hE, hWm, b1, b2, b3, b4, b5, b6⟩ := id W
  obtain ⟨cl, A, r1, r2, r3⟩ := id F
  have hsz : cl.slots.size = vs.length := by rw [← r1]; simp
  obtain ⟨T', h', X', e', Wh, st⟩ := stB X W.hx hZ eT A (j := j) (x := x) (hj.ok (by rw [hsz]; exact hi)) (g := mkF m pc L (.int x :: .int j :: .ref a :: S)) rfl rfl (W.hd dd)
  rw [hj.2] at X' Wh
  subst hz
  obtain ⟨hd, rfl⟩ := dd
  exact WP.st (fun t q => st t q) (k T' h' (W.pack X' e' (Fr.snoc X' hN (hsf a ha).1) (Nat.le_of_eq Wh.size.symm) (fun H => H.wrStep Wh (hsf a ha).2.2) (fun x hx => Or.inl hx)) Wh (F.set Wh hf))

theorem k_iastore (W : WS p l e R s m args below meth c Z a0 EL nw n0 y code maxL ret T h sf cells slots) {a : Addr} {vs : List Value} {j x z : Int32} (i : Nat) (dd : D code pc (.iastore) 1 pc') (ha : a ∈ sf) (F : Av Z h a .int vs) (hj : Ix j i) (hi : i < vs.length) (hz : x = z) (hf : fits .int (.int z) = true)
    (k : ∀ T' h', WS p l e R s m args below meth c Z a0 EL nw n0 y code maxL ret T' h' sf cells slots → Wr h h' a i (.int z) → Av Z h' a .int (vs.set i (.int z)) → WP p e below Φ T' (mkF m pc' L (S))) : WP p e below Φ T (mkF m pc L (.int x :: .int j :: .ref a :: S)) := by
  obtain ⟨locs, X, eT, hS, hZ, hown, hC, hN, hn, hsf, hE, hWm, b1, b2, b3, b4, b5, b6⟩ := id W
  obtain ⟨cl, A, r1, r2, r3⟩ := id F
  have hsz : cl.slots.size = vs.length := by rw [← r1]; simp
  obtain ⟨T', h', X', e', Wh, st⟩ := stI X W.hx hZ eT A (j := j) (x := x) (hj.ok (by rw [hsz]; exact hi)) (g := mkF m pc L (.int x :: .int j :: .ref a :: S)) rfl rfl (W.hd dd)
  rw [hj.2] at X' Wh
  subst hz
  obtain ⟨hd, rfl⟩ := dd
  exact WP.st (fun t q => st t q) (k T' h' (W.pack X' e' (Fr.snoc X' hN (hsf a ha).1) (Nat.le_of_eq Wh.size.symm) (fun H => H.wrStep Wh (hsf a ha).2.2) (fun x hx => Or.inl hx)) Wh (F.set Wh hf))

theorem k_sastore (W : WS p l e R s m args below meth c Z a0 EL nw n0 y code maxL ret T h sf cells slots) {a : Addr} {vs : List Value} {j x z : Int32} (i : Nat) (dd : D code pc (.sastore) 1 pc') (ha : a ∈ sf) (F : Av Z h a .short vs) (hj : Ix j i) (hi : i < vs.length) (hz : nar .short x = z) (hf : fits .short (.int z) = true)
    (k : ∀ T' h', WS p l e R s m args below meth c Z a0 EL nw n0 y code maxL ret T' h' sf cells slots → Wr h h' a i (.int z) → Av Z h' a .short (vs.set i (.int z)) → WP p e below Φ T' (mkF m pc' L (S))) : WP p e below Φ T (mkF m pc L (.int x :: .int j :: .ref a :: S)) := by
  obtain ⟨locs, X, eT, hS, hZ, hown, hC, hN, hn, hsf, hE, hWm, b1, b2, b3, b4, b5, b6⟩ := id W
  obtain ⟨cl, A, r1, r2, r3⟩ := id F
  have hsz : cl.slots.size = vs.length := by rw [← r1]; simp
  obtain ⟨T', h', X', e', Wh, st⟩ := stS X W.hx hZ eT A (j := j) (x := x) (hj.ok (by rw [hsz]; exact hi)) (g := mkF m pc L (.int x :: .int j :: .ref a :: S)) rfl rfl (W.hd dd)
  rw [hj.2] at X' Wh
  subst hz
  obtain ⟨hd, rfl⟩ := dd
  exact WP.st (fun t q => st t q) (k T' h' (W.pack X' e' (Fr.snoc X' hN (hsf a ha).1) (Nat.le_of_eq Wh.size.symm) (fun H => H.wrStep Wh (hsf a ha).2.2) (fun x hx => Or.inl hx)) Wh (F.set Wh hf))

theorem k_zastore (W : WS p l e R s m args below meth c Z a0 EL nw n0 y code maxL ret T h sf cells slots) {a : Addr} {vs : List Value} {j x z : Int32} (i : Nat) (dd : D code pc (.bastore) 1 pc') (ha : a ∈ sf) (F : Av Z h a .boolean vs) (hj : Ix j i) (hi : i < vs.length) (hz : nar .boolean x = z) (hf : fits .boolean (.int z) = true)
    (k : ∀ T' h', WS p l e R s m args below meth c Z a0 EL nw n0 y code maxL ret T' h' sf cells slots → Wr h h' a i (.int z) → Av Z h' a .boolean (vs.set i (.int z)) → WP p e below Φ T' (mkF m pc' L (S))) : WP p e below Φ T (mkF m pc L (.int x :: .int j :: .ref a :: S)) := by
  obtain ⟨locs, X, eT, hS, hZ, hown, hC, hN, hn, hsf, hE, hWm, b1, b2, b3, b4, b5, b6⟩ := id W
  obtain ⟨cl, A, r1, r2, r3⟩ := id F
  have hsz : cl.slots.size = vs.length := by rw [← r1]; simp
  obtain ⟨T', h', X', e', Wh, st⟩ := stZ X W.hx hZ eT A (j := j) (x := x) (hj.ok (by rw [hsz]; exact hi)) (g := mkF m pc L (.int x :: .int j :: .ref a :: S)) rfl rfl (W.hd dd)
  rw [hj.2] at X' Wh
  subst hz
  obtain ⟨hd, rfl⟩ := dd
  exact WP.st (fun t q => st t q) (k T' h' (W.pack X' e' (Fr.snoc X' hN (hsf a ha).1) (Nat.le_of_eq Wh.size.symm) (fun H => H.wrStep Wh (hsf a ha).2.2) (fun x hx => Or.inl hx)) Wh (F.set Wh hf))

theorem k_caload (W : WS p l e R s m args below meth c Z a0 EL nw n0 y code maxL ret T h sf cells slots) {a : Addr} {vs : List Value} {j : Int32} {v : Value} (i : Nat) (dd : D code pc (.caload) 1 pc') (F : Av Z h a .char vs) (hj : Ix j i) (hi : vs[i]? = some v)
    (w : WP p e below Φ T (mkF m pc' L (v :: S))) : WP p e below Φ T (mkF m pc L (.int j :: .ref a :: S)) := by
  obtain ⟨locs, X, eT, hS, hZ, hown, hC, hN, hn, hsf, hE, hWm, b1, b2, b3, b4, b5, b6⟩ := id W
  obtain ⟨cl, A, r1, r2, r3⟩ := id F
  have hsz : cl.slots.size = vs.length := by rw [← r1]; simp
  have hlt : i < vs.length := (List.getElem?_eq_some_iff.mp hi).1
  have hv : cl.slots[j.toNatClampNeg]? = some v := by rw [hj.2, ← Array.getElem?_toList, r1]; exact hi
  have hA : (s.setVm T.vm).isArrayOf cl .char := State.isArrayOf_alike hZ.alike A.2.1
  obtain ⟨hd, rfl⟩ := id dd
  exact WP.st (fun t q => X.caload W.hx (by rw [eT]; exact A.1) hA A.2.2 (hj.ok (by rw [hsz]; exact hlt)) hv (g := mkF m pc L (.int j :: .ref a :: S)) rfl rfl (W.hd dd) _ q) w

theorem k_iaload (W : WS p l e R s m args below meth c Z a0 EL nw n0 y code maxL ret T h sf cells slots) {a : Addr} {vs : List Value} {j : Int32} {v : Value} (i : Nat) (dd : D code pc (.iaload) 1 pc') (F : Av Z h a .int vs) (hj : Ix j i) (hi : vs[i]? = some v)
    (w : WP p e below Φ T (mkF m pc' L (v :: S))) : WP p e below Φ T (mkF m pc L (.int j :: .ref a :: S)) := by
  obtain ⟨locs, X, eT, hS, hZ, hown, hC, hN, hn, hsf, hE, hWm, b1, b2, b3, b4, b5, b6⟩ := id W
  obtain ⟨cl, A, r1, r2, r3⟩ := id F
  have hsz : cl.slots.size = vs.length := by rw [← r1]; simp
  have hlt : i < vs.length := (List.getElem?_eq_some_iff.mp hi).1
  have hv : cl.slots[j.toNatClampNeg]? = some v := by rw [hj.2, ← Array.getElem?_toList, r1]; exact hi
  have hA : (s.setVm T.vm).isArrayOf cl .int := State.isArrayOf_alike hZ.alike A.2.1
  obtain ⟨hd, rfl⟩ := id dd
  exact WP.st (fun t q => X.iaload W.hx (by rw [eT]; exact A.1) hA A.2.2 (hj.ok (by rw [hsz]; exact hlt)) hv (g := mkF m pc L (.int j :: .ref a :: S)) rfl rfl (W.hd dd) _ q) w

theorem k_baload (W : WS p l e R s m args below meth c Z a0 EL nw n0 y code maxL ret T h sf cells slots) {a : Addr} {vs : List Value} {j : Int32} {v : Value} (i : Nat) (dd : D code pc (.baload) 1 pc') (F : Av Z h a .byte vs) (hj : Ix j i) (hi : vs[i]? = some v)
    (w : WP p e below Φ T (mkF m pc' L (v :: S))) : WP p e below Φ T (mkF m pc L (.int j :: .ref a :: S)) := by
  obtain ⟨locs, X, eT, hS, hZ, hown, hC, hN, hn, hsf, hE, hWm, b1, b2, b3, b4, b5, b6⟩ := id W
  obtain ⟨cl, A, r1, r2, r3⟩ := id F
  have hsz : cl.slots.size = vs.length := by rw [← r1]; simp
  have hlt : i < vs.length := (List.getElem?_eq_some_iff.mp hi).1
  have hv : cl.slots[j.toNatClampNeg]? = some v := by rw [hj.2, ← Array.getElem?_toList, r1]; exact hi
  have hA : (s.setVm T.vm).isArrayOf cl .byte := State.isArrayOf_alike hZ.alike A.2.1
  obtain ⟨hd, rfl⟩ := id dd
  exact WP.st (fun t q => X.baloadBytes W.hx (by rw [eT]; exact A.1) hA A.2.2 (hj.ok (by rw [hsz]; exact hlt)) hv (g := mkF m pc L (.int j :: .ref a :: S)) rfl rfl (W.hd dd) _ q) w

theorem k_aaload (W : WS p l e R s m args below meth c Z a0 EL nw n0 y code maxL ret T h sf cells slots) {a : Addr} {vs : List Value} {ty : FieldType} {j : Int32} {v : Value} (i : Nat) (dd : D code pc .aaload 1 pc') (F : Av Z h a ty vs) (hty : ty.isReference = true) (hj : Ix j i) (hi : vs[i]? = some v)
    (w : WP p e below Φ T (mkF m pc' L (v :: S))) : WP p e below Φ T (mkF m pc L (.int j :: .ref a :: S)) := by
  obtain ⟨locs, X, eT, hS, hZ, hown, hC, hN, hn, hsf, hE, hWm, b1, b2, b3, b4, b5, b6⟩ := id W
  obtain ⟨cl, A, r1, r2, r3⟩ := id F
  have hsz : cl.slots.size = vs.length := by rw [← r1]; simp
  have hlt : i < vs.length := (List.getElem?_eq_some_iff.mp hi).1
  have hv : cl.slots[j.toNatClampNeg]? = some v := by rw [hj.2, ← Array.getElem?_toList, r1]; exact hi
  have hA : (s.setVm T.vm).isArrayOf cl ty := State.isArrayOf_alike hZ.alike A.2.1
  obtain ⟨hd, rfl⟩ := id dd
  exact WP.st (fun t q => X.aaload W.hx (by rw [eT]; exact A.1) hA hty A.2.2 (hj.ok (by rw [hsz]; exact hlt)) hv (g := mkF m pc L (.int j :: .ref a :: S)) rfl rfl (W.hd dd) _ q) w

theorem k_arraylength (W : WS p l e R s m args below meth c Z a0 EL nw n0 y code maxL ret T h sf cells slots) {a : Addr} {ty : FieldType} {vs : List Value} {z : Int32} (dd : D code pc .arraylength 1 pc') (F : Av Z h a ty vs) (hz : vs.length.toInt32 = z) (w : WP p e below Φ T (mkF m pc' L (.int z :: S))) : WP p e below Φ T (mkF m pc L (.ref a :: S)) := by
  obtain ⟨locs, X, eT, hS, hZ, hown, hC, hN, hn, hsf, hE, hWm, b1, b2, b3, b4, b5, b6⟩ := id W
  obtain ⟨cl, A, r1, r2, r3⟩ := id F
  have hsz : cl.slots.size = vs.length := by rw [← r1]; simp
  have hA : (s.setVm T.vm).isArrayOf cl ty := State.isArrayOf_alike hZ.alike A.2.1
  obtain ⟨hd, rfl⟩ := id dd
  exact WP.st (fun t q => X.arraylength W.hx (by rw [eT]; exact A.1) hA (g := mkF m pc L (.ref a :: S)) rfl rfl (W.hd dd) _ (by rw [hsz, hz]; exact q)) w

theorem k_cast (W : WS p l e R s m args below meth c Z a0 EL nw n0 y code maxL ret T h sf cells slots) {index : Nat} {K : String} {a : Addr} (dd : D code pc (.checkcast index) 3 pc') (w : (Cond.classLink y.cls index K).before a0 Z = true) (F : Ins Z h a K true)
    (k : ∀ T', WS p l e R s m args below meth c Z a0 EL nw n0 y code maxL ret T' h sf cells slots → WP p e below Φ T' (mkF m pc' L (.ref a :: S))) : WP p e below Φ T (mkF m pc L (.ref a :: S)) := by
  obtain ⟨locs, X, eT, hS, hZ, hown, hC, hN, hn, hsf, hE, hWm, b1, b2, b3, b4, b5, b6⟩ := id W
  obtain ⟨T', X', e', st⟩ := castY X W.hx hZ hown w eT F (g := mkF m pc L (.ref a :: S)) rfl rfl (W.hd dd)
  obtain ⟨hd, rfl⟩ := dd
  exact WP.st (fun t q => st t q) (k T' (W.pack X' e' hN (Nat.le_refl _) (fun H => ⟨H, fun _ q => q⟩) (fun x hx => Or.inl hx)))
theorem k_instY (W : WS p l e R s m args below meth c Z a0 EL nw n0 y code maxL ret T h sf cells slots) {index : Nat} {K : String} {a : Addr} (dd : D code pc (.instanceof index) 3 pc') (w : (Cond.classLink y.cls index K).before a0 Z = true) (F : Ins Z h a K true)
    (k : ∀ T', WS p l e R s m args below meth c Z a0 EL nw n0 y code maxL ret T' h sf cells slots → WP p e below Φ T' (mkF m pc' L (.int 1 :: S))) : WP p e below Φ T (mkF m pc L (.ref a :: S)) := by
  obtain ⟨locs, X, eT, hS, hZ, hown, hC, hN, hn, hsf, hE, hWm, b1, b2, b3, b4, b5, b6⟩ := id W
  obtain ⟨T', X', e', st⟩ := instY X W.hx hZ hown w eT F (g := mkF m pc L (.ref a :: S)) rfl rfl (W.hd dd)
  obtain ⟨hd, rfl⟩ := dd
  exact WP.st (fun t q => st t q) (k T' (W.pack X' e' hN (Nat.le_refl _) (fun H => ⟨H, fun _ q => q⟩) (fun x hx => Or.inl hx)))

theorem nsRoot {O K : String} {n : Nat} (w : (Cond.noSuperclass O).before a0 Z = true) (wk : (Cond.instantiable K n).before a0 Z = true) (hn : O ≠ K) : NS Z O K := by
  obtain ⟨c, k, h1, h2, h3, -, -⟩ := Cond.noSuperclass_spec w
  obtain ⟨t, -, g1, -⟩ := Cond.instantiable_spec wk
  have ne := ids_ne h1 g1 hn
  refine ⟨c, t, h1, g1, fun fuel => ?_⟩
  cases fuel with
  | zero => rfl
  | succ f => simp [Vm.isSubclassAux, ne, h2, h3]
theorem nsNo {C S K : String} {n : Nat} (w : (Cond.superclass C S).before a0 Z = true) (wk : (Cond.instantiable K n).before a0 Z = true) (q : NS Z C K) (hn : C ≠ K) : ∃ c t, Z.vm.findClass C = some c ∧ Z.vm.findClass K = some t ∧ Z.vm.assignable c t = false := by
  obtain ⟨c, t, h0, g0, n3⟩ := q
  obtain ⟨p, k, kp, h1, h2, h3, h4, h5, -, h7⟩ := Cond.superclass_spec h0 w
  obtain ⟨t', k', g1, g2, g3, g4, -⟩ := Cond.instantiable_spec wk
  cases g0.symm.trans g1
  have g5 : k'.isInterface = false := by cases hh : k'.isInterface <;> simp [hh] at g4 ⊢
  have ne := ids_ne h0 g0 hn
  refine ⟨c, t, h0, g0, ?_⟩
  show Z.vm.assignableAux (255 + 1) c t = false
  simp [Vm.assignableAux, ne, h2, g2, h5, g3, g5, Vm.isSubclass, n3]
theorem k_instN (W : WS p l e R s m args below meth c Z a0 EL nw n0 y code maxL ret T h sf cells slots) {index : Nat} {K C : String} {a : Addr} (dd : D code pc (.instanceof index) 3 pc') (w : (Cond.classLink y.cls index K).before a0 Z = true) (E : Exa Z h a C) (F : ∃ c t, Z.vm.findClass C = some c ∧ Z.vm.findClass K = some t ∧ Z.vm.assignable c t = false)
    (k : ∀ T', WS p l e R s m args below meth c Z a0 EL nw n0 y code maxL ret T' h sf cells slots → WP p e below Φ T' (mkF m pc' L (.int 0 :: S))) : WP p e below Φ T (mkF m pc L (.ref a :: S)) := by
  obtain ⟨locs, X, eT, hS, hZ, hown, hC, hN, hn, hsf, hE, hWm, b1, b2, b3, b4, b5, b6⟩ := id W
  obtain ⟨T', X', e', st⟩ := instNo X W.hx hZ hown w eT E F (g := mkF m pc L (.ref a :: S)) rfl rfl (W.hd dd)
  obtain ⟨hd, rfl⟩ := dd
  exact WP.st (fun t q => st t q) (k T' (W.pack X' e' hN (Nat.le_refl _) (fun H => ⟨H, fun _ q => q⟩) (fun x hx => Or.inl hx)))
theorem k_instNull (W : WS p l e R s m args below meth c Z a0 EL nw n0 y code maxL ret T h sf cells slots) {index : Nat} (dd : D code pc (.instanceof index) 3 pc') (w : WP p e below Φ T (mkF m pc' L (.int 0 :: S))) : WP p e below Φ T (mkF m pc L (.null :: S)) := by
  obtain ⟨locs, X, eT, hS, hZ, hown, hC, hN, hn, hsf, hE, hWm, b1, b2, b3, b4, b5, b6⟩ := id W
  obtain ⟨hd, rfl⟩ := id dd
  exact WP.st (fun t q => X.instanceofNull W.hx (g := mkF m pc L (.null :: S)) rfl rfl (W.hd dd) _ q) w
theorem k_castNull (W : WS p l e R s m args below meth c Z a0 EL nw n0 y code maxL ret T h sf cells slots) {index : Nat} (dd : D code pc (.checkcast index) 3 pc') (w : WP p e below Φ T (mkF m pc' L (.null :: S))) : WP p e below Φ T (mkF m pc L (.null :: S)) := by
  obtain ⟨locs, X, eT, hS, hZ, hown, hC, hN, hn, hsf, hE, hWm, b1, b2, b3, b4, b5, b6⟩ := id W
  obtain ⟨hd, rfl⟩ := id dd
  exact WP.st (fun t q => X.checkcastNull W.hx (g := mkF m pc L (.null :: S)) rfl rfl (W.hd dd) _ q) w

theorem k_ldcI (W : WS p l e R s m args below meth c Z a0 EL nw n0 y code maxL ret T h sf cells slots) {index : Nat} {v : Int32} (dd : D code pc (.ldc index) 2 pc') (w : (Cond.constant y.cls index v).before a0 Z = true) (k : WP p e below Φ T (mkF m pc' L (.int v :: S))) : WP p e below Φ T (mkF m pc L (S)) := by
  obtain ⟨locs, X, eT, hS, hZ, hown, hC, hN, hn, hsf, hE, hWm, b1, b2, b3, b4, b5, b6⟩ := id W
  obtain ⟨hd, rfl⟩ := id dd
  exact WP.st (fun t q => Jvm.Stand.ldcI X W.hx hown (mv (s := s.setVm T.vm) hZ w) (g := mkF m pc L S) rfl (W.hd dd) q) k
theorem k_ldc2J (W : WS p l e R s m args below meth c Z a0 EL nw n0 y code maxL ret T h sf cells slots) {index : Nat} {v : Int64} (dd : D code pc (.ldc2_w index) 3 pc') (w : (Cond.constantLong y.cls index v).before a0 Z = true) (k : WP p e below Φ T (mkF m pc' L (.long v :: S))) : WP p e below Φ T (mkF m pc L (S)) := by
  obtain ⟨locs, X, eT, hS, hZ, hown, hC, hN, hn, hsf, hE, hWm, b1, b2, b3, b4, b5, b6⟩ := id W
  obtain ⟨hd, rfl⟩ := id dd
  exact WP.st (fun t q => Jvm.Stand.ldc2J X W.hx hown (mv (s := s.setVm T.vm) hZ w) (g := mkF m pc L S) rfl (W.hd dd) q) k

theorem k_initO (W : WS p l e R s m args below meth c Z a0 EL nw n0 y code maxL ret T h sf cells slots) {index : Nat} {a : Addr} (Wd : Nat) (dd : D code pc (.invokespecial index) 3 pc') (w1 : (Cond.methodLink y.cls index Lib.objectInit).before a0 Z = true) (w2 : (Cond.instanceMethod Lib.objectInit).before a0 Z = true) (w3 : (Cond.code Lib.objectInit ⟨#[0xb1]⟩ 1 none).before a0 Z = true)
    (hL : L.size = maxL) (hW : catS S ≤ Wd) (hf : 1 ≤ R.frames) (hl : Wd + 12 ≤ R.locals) (k : ∀ T', WS p l e R s m args below meth c Z a0 EL nw n0 y code maxL ret T' h sf cells slots → WP p e below Φ T' (mkF m pc' L (S))) : WP p e below Φ T (mkF m pc L (.ref a :: S)) := by
  obtain ⟨locs, X, eT, hS, hZ, hown, hC, hN, hn, hsf, hE, hWm, b1, b2, b3, b4, b5, b6⟩ := id W
  obtain ⟨T', X', e', st⟩ := initO X W.hx hZ hown w1 w2 w3 eT (g := mkF m pc L (.ref a :: S)) rfl (hL.trans b5.symm) rfl (W.hd dd) hf (W := Wd) (by show 2 * 0 + _ ≤ _; rw [Nat.mul_zero, Nat.zero_add]; exact hW) hl
  obtain ⟨hd, rfl⟩ := dd
  exact WP.st (fun t q => st t q) (k T' (W.pack X' e' hN (Nat.le_refl _) (fun H => ⟨H, fun _ q => q⟩) (fun x hx => Or.inl hx)))

theorem k_clone (W : WS p l e R s m args below meth c Z a0 EL nw n0 y code maxL ret T h sf cells slots) {index : Nat} {ad : String} {a : Addr} {vs : List Value} {ty : FieldType} (Wd n c' s' : Nat) (dd : D code pc (.invokevirtual index) 3 pc') (w1 : (Cond.methodLink y.cls index ⟨ad, "clone", "()Ljava/lang/Object;"⟩).before a0 Z = true) (w2 : (Cond.sameMethod ad "java/lang/Object" "clone" "()Ljava/lang/Object;").before a0 Z = true) (w3 : (Cond.native ⟨"java/lang/Object", "clone", "()Ljava/lang/Object;"⟩).before a0 Z = true)
    (w4 : (Cond.instanceMethod ⟨"java/lang/Object", "clone", "()Ljava/lang/Object;"⟩).before a0 Z = true) (w5 : (Cond.selects ad ⟨ad, "clone", "()Ljava/lang/Object;"⟩ ⟨"java/lang/Object", "clone", "()Ljava/lang/Object;"⟩).before a0 Z = true) (w6 : (Cond.castable ad "java/lang/Cloneable").before a0 Z = true) (F : Av Z h a ty vs) (E : Exa Z h a ad) (hn : vs.length ≤ n)
    (hL : L.size = maxL) (hW : catS S ≤ Wd) (hf : 1 ≤ R.frames) (hlo : Wd + 14 ≤ R.locals) (hc : cells + 1 = c' ∧ c' ≤ R.cells) (hl : slots + n = s' ∧ s' ≤ R.slots)
    (k : ∀ T' h' b, b = h.size → WS p l e R s m args below meth c Z a0 EL nw n0 y code maxL ret T' h' (b :: sf) c' s' → Ext h h' → Av Z h' b ty vs → Exa Z h' b ad → WP p e below Φ T' (mkF m pc' L (.ref b :: S))) : WP p e below Φ T (mkF m pc L (.ref a :: S)) := by
  obtain ⟨locs, X, eT, hS, hZ, hown, hC, hN, hn, hsf, hE, hWm, b1, b2, b3, b4, b5, b6⟩ := id W
  obtain ⟨rfl, hc⟩ := hc
  obtain ⟨rfl, hl⟩ := hl
  obtain ⟨cl, A, r1, r2, r3⟩ := id F
  have hsz : cl.slots.size = vs.length := by rw [← r1]; simp
  obtain ⟨T', h', X', e', Eh, B, E', st⟩ := cloneA X W.hx hZ hown w1 w2 w3 w4 w5 w6 eT A E (Av.fitc A r1 r3) (g := mkF m pc L (.ref a :: S)) rfl (hL.trans b5.symm) rfl (W.hd dd) hf (W := Wd) (cap := n) (by show 2 * 0 + _ ≤ _; rw [Nat.mul_zero, Nat.zero_add]; exact hW) hlo (by omega) hc hl
  obtain ⟨hd, rfl⟩ := dd
  exact WP.st (fun t q => st t q) (k T' h' _ rfl (W.pack X' e' hN Eh.1 (fun H => H.step fun _ _ _ q => Eh.2 _ _ q) (fun x hx => (List.mem_cons.mp hx).elim (fun q => Or.inr (by subst q; exact ⟨Nat.le_refl _, B.lt⟩)) Or.inl)) Eh ⟨_, B, r1, r2, r3⟩ E')

theorem k_acopy (W : WS p l e R s m args below meth c Z a0 EL nw n0 y code maxL ret T h sf cells slots) {index : Nat} {a b : Addr} {vs ud : List Value} {ty : FieldType} {sp dp nn : Int32} (Wd i j n : Nat) (dd : D code pc (.invokestatic index) 3 pc') (w1 : (Cond.methodLink y.cls index Jvm.Stand.acN).before a0 Z = true) (w2 : (Cond.native Jvm.Stand.acN).before a0 Z = true) (w3 : (Cond.static Jvm.Stand.acN).before a0 Z = true) (w4 : (Cond.initialized "java/lang/System").before a0 Z = true)
    (F : Av Z h a ty vs) (G : Av Z h b ty ud) (hty : refKind ty = false) (hb' : b ∈ sf) (h1 : Ix sp i) (h2 : Ix dp j) (h3 : Ix nn n) (h4 : i + n ≤ vs.length) (h5 : j + n ≤ ud.length)
    (hL : L.size = maxL) (hW : catS S ≤ Wd) (hf : 1 ≤ R.frames) (hlo : Wd + 18 ≤ R.locals)
    (k : ∀ T' h', WS p l e R s m args below meth c Z a0 EL nw n0 y code maxL ret T' h' sf cells slots → Keep h h' [b] → Av Z h' b ty (ud.take j ++ (vs.drop i).take n ++ ud.drop (j + n)) → WP p e below Φ T' (mkF m pc' L (S))) : WP p e below Φ T (mkF m pc L (.int nn :: .int dp :: .ref b :: .int sp :: .ref a :: S)) := by
  obtain ⟨locs, X, eT, hS, hZ, hown, hC, hN, hn, hsf, hE, hWm, b1, b2, b3, b4, b5, b6⟩ := id W
  obtain ⟨k1, A⟩ := F.arv (defaultValue ty)
  obtain ⟨k2, B⟩ := G.arv (defaultValue ty)
  have hx1 := ix_of F.len
  have hx2 := ix_of G.len
  have hus : (vs.drop i).take n = (List.range nn.toNatClampNeg).map fun q => vs.getD (sp.toNatClampNeg + q) (defaultValue ty) := by
    rw [h1.2, h3.2]
    apply List.ext_getElem?; intro q
    by_cases hq : q < n
    · rw [List.getElem?_take_of_lt hq, List.getElem?_drop, List.getElem?_map, List.getElem?_range hq]
      show _ = some (vs.getD (i + q) (defaultValue ty))
      rw [List.getD_eq_getElem?_getD, List.getElem?_eq_getElem (by omega)]; rfl
    · rw [List.getElem?_eq_none (by rw [List.length_take]; omega), List.getElem?_eq_none (by simp; omega)]
  obtain ⟨T', h', L', X', e', N', K', B', st⟩ := cpA X W.hx hZ hown w1 w2 w3 w4 eT A B (Or.inl ⟨rfl, hty⟩) h1.1 h2.1 h3.1 (by rw [h1.2, h3.2, hx1.2]; exact h4) (by rw [h2.2, h3.2, hx2.2]; exact h5) hus (by rw [h2.2, h3.2]; exact h5) hN (hsf b hb').1 (g := mkF m pc L (.int nn :: .int dp :: .ref b :: .int sp :: .ref a :: S)) rfl (hL.trans b5.symm) rfl (W.hd dd) hf (W := Wd) (by show 2 * 0 + _ ≤ _; rw [Nat.mul_zero, Nat.zero_add]; exact hW) hlo
  rw [h2.2, h3.2] at B'
  obtain ⟨hd, rfl⟩ := dd
  exact WP.st (fun t q => st t q) (k T' h' (W.pack X' e' N' K'.1 (fun H => H.step fun z hz c q => K'.2.1 z c q (fun u => (hsf b hb').2.2 ((List.mem_singleton.mp u) ▸ hz))) (fun x hx => Or.inl hx)) K' (Av.of_arv B' (by rw [hx2.2]; simp; omega)))

theorem k_ldcO (W : WS p l e R s m args below meth c Z a0 EL nw n0 y code maxL ret T h sf cells slots) {index : Nat} {text : String} (n c' s' : Nat) (hnw : nw = false) (dd : D code pc (.ldc index) 2 pc') (w : (Cond.stringLink y.cls index text).before a0 Z = true) (wS : ∀ a ∈ Bundle.stringAtoms, a.before a0 Z = true) (hn1 : 4 * text.toList.length ≤ n ∧ n ≤ 536870912) (hc : cells + 2 = c' ∧ c' ≤ R.cells) (hl : slots + (n + 4) = s' ∧ s' ≤ R.slots)
    (k : ∀ T' h' a, WS p l e R s m args below meth c Z a0 EL nw n0 y code maxL ret T' h' sf c' s' → Ext h h' → WP p e below Φ T' (mkF m pc' L (.ref a :: S))) : WP p e below Φ T (mkF m pc L (S)) := by
  obtain ⟨locs, X, eT, hS, hZ, hown, hC, hN, hn, hsf, hE, hWm, b1, b2, b3, b4, b5, b6⟩ := id W
  obtain ⟨rfl, hc⟩ := hc
  obtain ⟨rfl, hl⟩ := hl
  obtain ⟨a, T', h', k1, X', e', E, hS', hk', hW', hown', hC', -, st⟩ := ldcOH (EL := EL) X W.hx hZ hown w wS eT hS (Nat.le_refl _) hE hC.1 (g := mkF m pc L S) rfl (W.hd dd) hn1.1 hn1.2 hc hl
  obtain ⟨hd, rfl⟩ := dd
  refine WP.st (fun t q => st t q) (k T' h' a ⟨locs, X', e', ⟨hS'.1, fun j p u v => ⟨(hS'.2 j p u v).1, Nat.lt_of_lt_of_le (hS'.2 j p u v).2 hk'⟩⟩, hW', hown', hC.trans hC', hN, Nat.le_trans hn E.1, fun x hx => ?_, hE, fun u => by (rw [hnw] at u; cases u), b1, b2, b3, b4, b5, b6⟩ E)
  obtain ⟨g1, g2, g3⟩ := hsf x hx
  exact ⟨g1, Nat.lt_of_lt_of_le g2 E.1, hC'.safe g2 g3⟩
theorem k_ldcS (W : WS p l e R s m args below meth c Z a0 EL nw n0 y code maxL ret T h sf cells slots) {index : Nat} {text : String} (bs : List Int32) (n c' s' : Nat) (hnw : nw = false) (dd : D code pc (.ldc index) 2 pc') (w : (Cond.stringLink y.cls index text).before a0 Z = true) (wS : ∀ a ∈ Bundle.stringAtoms, a.before a0 Z = true) (hmem : (y.cls, index) ∈ EL)
    (ht : (∀ c ∈ text.toList, c.toNat < 256) ∧ text.toList.map (fun c => Value.int (Jvm.Lit.byteI c.toNat.toUInt16)) = bs.map Value.int) (hlen : bs.length < 2147483648) (hn1 : 4 * text.toList.length ≤ n ∧ n ≤ 536870912) (hc : cells + 2 = c' ∧ c' ≤ R.cells) (hl : slots + (n + 4) = s' ∧ s' ≤ R.slots)
    (k : ∀ T' h' a b, WS p l e R s m args below meth c Z a0 EL nw n0 y code maxL ret T' h' sf c' s' → Ext h h' → St Z h' a b bs → (∀ x ∈ sf, x ≠ a ∧ x ≠ b) → WP p e below Φ T' (mkF m pc' L (.ref a :: S))) : WP p e below Φ T (mkF m pc L (S)) := by
  obtain ⟨locs, X, eT, hS, hZ, hown, hC, hN, hn, hsf, hE, hWm, b1, b2, b3, b4, b5, b6⟩ := id W
  obtain ⟨rfl, hc⟩ := hc
  obtain ⟨rfl, hl⟩ := hl
  have hzz : (Int32.ofNat bs.length).toNatClampNeg = (bs.map Value.int).length := by
    rw [List.length_map]; unfold Int32.toNatClampNeg; rw [Int32.toInt_ofNat_of_lt (by simpa using hlen)]; rfl
  have hz0 : ¬ Int32.ofNat bs.length < 0 := by
    rw [Int32.lt_iff_toInt_lt, Int32.toInt_ofNat_of_lt (by simpa using hlen)]; simp
  obtain ⟨a, T', h', k1, b, kk, X', e', E, hS', hk', hW', hown', G1, G2, G3, G4, -, -, hC', -, hne, st⟩ := ldcCH (EL := EL) X W.hx hZ hown w wS eT hS (Nat.le_refl _) hE hmem hC.1 (vs := bs.map Value.int) (z := Int32.ofNat bs.length) ht hz0 hzz (g := mkF m pc L S) rfl (W.hd dd) hn1.1 hn1.2 hc hl
  obtain ⟨hd, rfl⟩ := dd
  have hsf' : ∀ x ∈ sf, n0 ≤ x ∧ x < h'.size ∧ Safe Z EL T'.vm h' x := fun x hx => by
    obtain ⟨g1, g2, g3⟩ := hsf x hx
    exact ⟨g1, Nat.lt_of_lt_of_le g2 E.1, hC'.safe g2 g3⟩
  exact WP.st (fun t q => st t q) (k T' h' a b ⟨locs, X', e', ⟨hS'.1, fun j p u v => ⟨(hS'.2 j p u v).1, Nat.lt_of_lt_of_le (hS'.2 j p u v).2 hk'⟩⟩, hW', hown', hC.trans hC', hN, Nat.le_trans hn E.1, hsf', hE, fun u => by (rw [hnw] at u; cases u), b1, b2, b3, b4, b5, b6⟩ E ⟨G1, G2, G3, Av.of_arv G4 hzz⟩ (fun x hx => hne x (hsf' x hx).2.2))
end Steps

/-! ## calls by contract -/
section Calls
variable {p : Program} {l : Launch} {e : Env} {R : Room} {s : State} {m : MethodId} {args : Array Value} {below : List Frame} {meth : Method} {c : Code} {Z : State} {EL : List (String × Nat)} {nw : Bool} {n0 : Nat} {y : MethodName} {code : ByteArray} {maxL : Nat} {ret : Option FieldType} {T : State} {h : Heap} {sf : List Addr} {cells slots : Nat} {Φ : Outcome → State → Prop} {a0 : Array Value} {pc pc' : Nat} {L : Array Slot} {S : List Value}
theorem backCt {z : MethodName} {bytes : ByteArray} {mL : Nat} {rt : Option FieldType} {rm : Room} {as' : Array Value} {sfc : List Addr} {Q : Option Value → Heap → List Addr → Prop} {len Wd : Nat} {vm0 : Vm}
    (hM : Ct l Z a0 EL nw z bytes mL rt rm as' h sfc n0 Q) (hZ : Z.Warmed39 vm0) (wc : (Cond.code z bytes mL rt).before a0 Z = true) (wz : (Cond.initialized z.cls).before a0 Z = true) (hf : rm.frames + 1 ≤ R.frames) (hl : Wd + (mL + 11) + rm.locals ≤ R.locals) (hE : EW Z a0 EL) (hn : n0 ≤ h.size) (H : CHv Z EL vm0 h) (hsf : ∀ x ∈ sfc, n0 ≤ x ∧ x < h.size ∧ Safe Z EL vm0 h x) :
    BackS l R p e below (s.setVm vm0) args z len Wd (fun A a => a = as' ∧ A.U.heap = h ∧ A.cells + rm.cells ≤ R.cells ∧ A.slots + rm.slots ≤ R.slots)
      (fun A _ v B => ∃ L so, Q v B.U.heap so ∧ Fr n0 L ∧ B.locs = A.locs ++ L ∧ B.cells = A.cells + rm.cells ∧ B.slots = A.slots + rm.slots ∧ CHr Z EL vm0 h B.U.vm B.U.heap ∧ (nw = true → (s.setVm vm0).WarmedH B.U.vm) ∧ ∀ x ∈ so, n0 ≤ x ∧ x < B.U.heap.size ∧ Safe Z EL B.U.vm B.U.heap x) := by
  refine BackS.of_freeW (bytes := bytes) (maxL := mL) (ret := rt) (E := fun _ first o t L k n => k = rm.cells ∧ n = rm.slots ∧ ∃ v so, o = .returned v ∧ Q v t.heap so ∧ Fr n0 L ∧ CHr Z EL first.vm first.heap t.vm t.heap ∧ (nw = true → first.WarmedH t.vm) ∧ ∀ x ∈ so, n0 ≤ x ∧ x < t.heap.size ∧ Safe Z EL t.vm t.heap x) (hM []) hf hl ?_ ?_ (fun _ _ _ _ _ _ _ _ _ => trivial) ?_ ?_
  · intro m meth c A a Y hp
    have hU : Z.Warmed39 A.U.vm := wtrans (s := s.setVm vm0) hZ Y.warmed
    exact ⟨by show (Cond.and _ .tt).before a A.U = true; rw [Cond.before_and, mv hU wc]; rfl, mv hU wc, mv hU wz, hp.2.2.1, hp.2.2.2⟩
  · intro m meth c A a g mk Y hp
    have C := CHv.at Y hZ hE H
    refine ⟨hp.1, wtrans (s := s.setVm vm0) hZ Y.warmed, hp.2.1, C.1, hn, hE, fun x hx => ?_⟩
    obtain ⟨q1, q2, q3⟩ := hsf x hx
    exact ⟨q1, q2, C.safe q2 q3⟩
  · rintro a first o t ⟨v, L, so, q1, q2, q3, q4, q5, qw, q6⟩
    exact ⟨L, _, _, q6, rfl, rfl, v, so, q1, q2, q3, q4, qw, q5⟩
  · rintro m meth c A a g mk v t L k n Y hp - - ⟨rfl, rfl, v', so, q1, q2, q3, q4, qw, q5⟩
    cases q1
    refine ⟨L, so, q2, q3, rfl, rfl, rfl, (CHv.at Y hZ hE H).trans ?_, fun u => State.WarmedH.trans Y.warmed (qw u), q5⟩
    rw [← hp.2.1]; exact q4

theorem k_callS (W : WS p l e R s m args below meth c Z a0 EL nw n0 y code maxL ret T h sf cells slots) {z : MethodName} {bytes : ByteArray} {mL : Nat} {rt : Option FieldType} {rm : Room} {sfc : List Addr} {Q : Option Value → Heap → List Addr → Prop} (Wd c' s' : Nat) {argsL rest : List Value} {index : Nat} (dd : D code pc (.invokestatic index) 3 pc') (w1 : (Cond.methodLink y.cls index z).before a0 Z = true) (w2 : (Cond.static z).before a0 Z = true) (hy : z.cls ≠ "java/lang/invoke/MethodHandle" ∧ z.cls ≠ "java/lang/invoke/VarHandle") (hlen : ∀ sig, parseMethodDescriptor z.desc = some sig → argsL.length = sig.parameters.length) (hC : Ct l Z a0 EL nw z bytes mL rt rm argsL.toArray h sfc n0 Q) (w4 : (Cond.code z bytes mL rt).before a0 Z = true) (w3 : (Cond.initialized z.cls).before a0 Z = true) (hsfc : ∀ x ∈ sfc, x ∈ sf) (hL : L.size = maxL) (hW : catS rest ≤ Wd) (hf : rm.frames + 1 ≤ R.frames) (hl : Wd + (mL + 11) + rm.locals ≤ R.locals) (hc : cells + rm.cells = c' ∧ c' ≤ R.cells) (hs : slots + rm.slots = s' ∧ s' ≤ R.slots) (hst : S = argsL.reverse ++ rest) (hnv : ∀ h so, ¬ Q none h so)
    (k : ∀ T' h' (v : Value) so, WS p l e R s m args below meth c Z a0 EL nw n0 y code maxL ret T' h' sf c' s' → Q (some v) h' so → WP p e below Φ T' (mkF m pc' L (v :: rest))) : WP p e below Φ T (mkF m pc L S) := by
  obtain ⟨locs, X, eT, hS, hZ, hown, hC0, hN, hn, hsf, hE, hWm, b1, b2, b3, b4, b5, b6⟩ := id W
  obtain ⟨rfl, hc⟩ := hc
  obtain ⟨rfl, hs⟩ := hs
  have hB := backCt (R := R) (p := p) (e := e) (below := below) (s := s) (args := args) (len := 3) (Wd := Wd) hC hZ w4 w3 hf hl hE hn hC0.1 (fun x hx => hsf x (hsfc x hx))
  obtain ⟨v, vm₁, ⟨U', L', c1, s1⟩, -, X', hS', hg, hpost, st⟩ := callSS X W.hx hown (mvT (s := s.setVm T.vm) hZ w1) (mvT (s := s.setVm T.vm) hZ w2) (mvT (s := s.setVm T.vm) hZ w3) (mvT (s := s.setVm T.vm) hZ w4) hy hB (g := mkF m pc L S) rfl (hL.trans b5.symm) (argsL := argsL) (rest := rest) hlen hst (by show 2 * 0 + _ ≤ _; rw [Nat.mul_zero, Nat.zero_add]; exact hW) (W.hd dd) (fun vm₁ _ => ⟨rfl, eT, hc, hs⟩)
  obtain ⟨L1, so, q1, q2, q3, q4, q5, q6, qw, q7⟩ := hpost
  dsimp only [Pt.U, Pt.locs, Pt.cells, Pt.slots] at X' hS' hg q1 q2 q3 q4 q5 q6 qw q7 st
  subst q3 q4 q5
  obtain ⟨hd, rfl⟩ := dd
  have WW : WS p l e R s m args below meth c Z a0 EL nw n0 y code maxL ret U' U'.heap (so ++ sf) (cells + rm.cells) (slots + rm.slots) := by
    refine ⟨_, X', rfl, hS.trans hS' (by rw [← eT]; exact hg), State.Warmed39.trans (t := s.setVm T.vm) hZ hS'.1, by rw [hS'.1.alike.findClass]; exact hown, hC0.trans q6, hN.app q2, Nat.le_trans hn (by rw [← eT]; exact hg), fun x hx => ?_, hE, fun u => State.WarmedH.trans (t := s.setVm T.vm) (hWm u) (qw u), b1, b2, b3, b4, b5, b6⟩
    rcases List.mem_append.mp hx with u | u
    · exact q7 x u
    · obtain ⟨g1, g2, g3⟩ := hsf x u
      exact ⟨g1, Nat.lt_of_lt_of_le g2 (by rw [← eT]; exact hg), q6.safe g2 g3⟩
  cases v with
  | none => exact absurd q1 (hnv _ _)
  | some v =>
  refine WP.steps st (k _ _ v so (WS.mono (sf' := sf) WW (Nat.le_refl _) (Nat.le_refl _) (fun x hx => List.mem_append_right _ hx)) q1)

theorem k_callS0 (W : WS p l e R s m args below meth c Z a0 EL nw n0 y code maxL ret T h sf cells slots) {z : MethodName} {bytes : ByteArray} {mL : Nat} {rt : Option FieldType} {rm : Room} {sfc : List Addr} {Q : Option Value → Heap → List Addr → Prop} (Wd c' s' : Nat) {argsL rest : List Value} {index : Nat} (dd : D code pc (.invokestatic index) 3 pc') (w1 : (Cond.methodLink y.cls index z).before a0 Z = true) (w2 : (Cond.static z).before a0 Z = true) (hy : z.cls ≠ "java/lang/invoke/MethodHandle" ∧ z.cls ≠ "java/lang/invoke/VarHandle") (hlen : ∀ sig, parseMethodDescriptor z.desc = some sig → argsL.length = sig.parameters.length) (hC : Ct l Z a0 EL nw z bytes mL rt rm argsL.toArray h sfc n0 Q) (w4 : (Cond.code z bytes mL rt).before a0 Z = true) (w3 : (Cond.initialized z.cls).before a0 Z = true) (hsfc : ∀ x ∈ sfc, x ∈ sf) (hL : L.size = maxL) (hW : catS rest ≤ Wd) (hf : rm.frames + 1 ≤ R.frames) (hl : Wd + (mL + 11) + rm.locals ≤ R.locals) (hc : cells + rm.cells = c' ∧ c' ≤ R.cells) (hs : slots + rm.slots = s' ∧ s' ≤ R.slots) (hst : S = argsL.reverse ++ rest) (hnv : ∀ v h so, ¬ Q (some v) h so)
    (k : ∀ T' h'  so, WS p l e R s m args below meth c Z a0 EL nw n0 y code maxL ret T' h' sf c' s' → Q none h' so → WP p e below Φ T' (mkF m pc' L rest)) : WP p e below Φ T (mkF m pc L S) := by
  obtain ⟨locs, X, eT, hS, hZ, hown, hC0, hN, hn, hsf, hE, hWm, b1, b2, b3, b4, b5, b6⟩ := id W
  obtain ⟨rfl, hc⟩ := hc
  obtain ⟨rfl, hs⟩ := hs
  have hB := backCt (R := R) (p := p) (e := e) (below := below) (s := s) (args := args) (len := 3) (Wd := Wd) hC hZ w4 w3 hf hl hE hn hC0.1 (fun x hx => hsf x (hsfc x hx))
  obtain ⟨v, vm₁, ⟨U', L', c1, s1⟩, -, X', hS', hg, hpost, st⟩ := callSS X W.hx hown (mvT (s := s.setVm T.vm) hZ w1) (mvT (s := s.setVm T.vm) hZ w2) (mvT (s := s.setVm T.vm) hZ w3) (mvT (s := s.setVm T.vm) hZ w4) hy hB (g := mkF m pc L S) rfl (hL.trans b5.symm) (argsL := argsL) (rest := rest) hlen hst (by show 2 * 0 + _ ≤ _; rw [Nat.mul_zero, Nat.zero_add]; exact hW) (W.hd dd) (fun vm₁ _ => ⟨rfl, eT, hc, hs⟩)
  obtain ⟨L1, so, q1, q2, q3, q4, q5, q6, qw, q7⟩ := hpost
  dsimp only [Pt.U, Pt.locs, Pt.cells, Pt.slots] at X' hS' hg q1 q2 q3 q4 q5 q6 qw q7 st
  subst q3 q4 q5
  obtain ⟨hd, rfl⟩ := dd
  have WW : WS p l e R s m args below meth c Z a0 EL nw n0 y code maxL ret U' U'.heap (so ++ sf) (cells + rm.cells) (slots + rm.slots) := by
    refine ⟨_, X', rfl, hS.trans hS' (by rw [← eT]; exact hg), State.Warmed39.trans (t := s.setVm T.vm) hZ hS'.1, by rw [hS'.1.alike.findClass]; exact hown, hC0.trans q6, hN.app q2, Nat.le_trans hn (by rw [← eT]; exact hg), fun x hx => ?_, hE, fun u => State.WarmedH.trans (t := s.setVm T.vm) (hWm u) (qw u), b1, b2, b3, b4, b5, b6⟩
    rcases List.mem_append.mp hx with u | u
    · exact q7 x u
    · obtain ⟨g1, g2, g3⟩ := hsf x u
      exact ⟨g1, Nat.lt_of_lt_of_le g2 (by rw [← eT]; exact hg), q6.safe g2 g3⟩
  cases v with
  | some v => exact absurd q1 (hnv _ _ _)
  | none =>
  refine WP.steps st (k _ _ so (WS.mono (sf' := sf) WW (Nat.le_refl _) (Nat.le_refl _) (fun x hx => List.mem_append_right _ hx)) q1)

theorem k_callSn (W : WS p l e R s m args below meth c Z a0 EL nw n0 y code maxL ret T h sf cells slots) {z : MethodName} {bytes : ByteArray} {mL : Nat} {rt : Option FieldType} {rm : Room} {sfc : List Addr} {Q : Option Value → Heap → List Addr → Prop} (Wd c' s' : Nat) {argsL rest : List Value} {index : Nat} (dd : D code pc (.invokestatic index) 3 pc') (w1 : (Cond.methodLink y.cls index z).before a0 Z = true) (w2 : (Cond.static z).before a0 Z = true) (hy : z.cls ≠ "java/lang/invoke/MethodHandle" ∧ z.cls ≠ "java/lang/invoke/VarHandle") (hlen : ∀ sig, parseMethodDescriptor z.desc = some sig → argsL.length = sig.parameters.length) (hC : Ct l Z a0 EL nw z bytes mL rt rm argsL.toArray h sfc n0 Q) (w4 : (Cond.code z bytes mL rt).before a0 Z = true) (w3 : (Cond.initialized z.cls).before a0 Z = true) (hsfc : ∀ x ∈ sfc, x ∈ sf) (hL : L.size = maxL) (hW : catS rest ≤ Wd) (hf : rm.frames + 1 ≤ R.frames) (hl : Wd + (mL + 11) + rm.locals ≤ R.locals) (hc : cells + rm.cells = c' ∧ c' ≤ R.cells) (hs : slots + rm.slots = s' ∧ s' ≤ R.slots) (hst : S = argsL.reverse ++ rest) (hnv : ∀ h so, ¬ Q none h so)
    (k : ∀ T' h' (v : Value) so, WS p l e R s m args below meth c Z a0 EL nw n0 y code maxL ret T' h' (so ++ sf) c' s' → Q (some v) h' so → WP p e below Φ T' (mkF m pc' L (v :: rest))) : WP p e below Φ T (mkF m pc L S) := by
  obtain ⟨locs, X, eT, hS, hZ, hown, hC0, hN, hn, hsf, hE, hWm, b1, b2, b3, b4, b5, b6⟩ := id W
  obtain ⟨rfl, hc⟩ := hc
  obtain ⟨rfl, hs⟩ := hs
  have hB := backCt (R := R) (p := p) (e := e) (below := below) (s := s) (args := args) (len := 3) (Wd := Wd) hC hZ w4 w3 hf hl hE hn hC0.1 (fun x hx => hsf x (hsfc x hx))
  obtain ⟨v, vm₁, ⟨U', L', c1, s1⟩, -, X', hS', hg, hpost, st⟩ := callSS X W.hx hown (mvT (s := s.setVm T.vm) hZ w1) (mvT (s := s.setVm T.vm) hZ w2) (mvT (s := s.setVm T.vm) hZ w3) (mvT (s := s.setVm T.vm) hZ w4) hy hB (g := mkF m pc L S) rfl (hL.trans b5.symm) (argsL := argsL) (rest := rest) hlen hst (by show 2 * 0 + _ ≤ _; rw [Nat.mul_zero, Nat.zero_add]; exact hW) (W.hd dd) (fun vm₁ _ => ⟨rfl, eT, hc, hs⟩)
  obtain ⟨L1, so, q1, q2, q3, q4, q5, q6, qw, q7⟩ := hpost
  dsimp only [Pt.U, Pt.locs, Pt.cells, Pt.slots] at X' hS' hg q1 q2 q3 q4 q5 q6 qw q7 st
  subst q3 q4 q5
  obtain ⟨hd, rfl⟩ := dd
  have WW : WS p l e R s m args below meth c Z a0 EL nw n0 y code maxL ret U' U'.heap (so ++ sf) (cells + rm.cells) (slots + rm.slots) := by
    refine ⟨_, X', rfl, hS.trans hS' (by rw [← eT]; exact hg), State.Warmed39.trans (t := s.setVm T.vm) hZ hS'.1, by rw [hS'.1.alike.findClass]; exact hown, hC0.trans q6, hN.app q2, Nat.le_trans hn (by rw [← eT]; exact hg), fun x hx => ?_, hE, fun u => State.WarmedH.trans (t := s.setVm T.vm) (hWm u) (qw u), b1, b2, b3, b4, b5, b6⟩
    rcases List.mem_append.mp hx with u | u
    · exact q7 x u
    · obtain ⟨g1, g2, g3⟩ := hsf x u
      exact ⟨g1, Nat.lt_of_lt_of_le g2 (by rw [← eT]; exact hg), q6.safe g2 g3⟩
  cases v with
  | none => exact absurd q1 (hnv _ _)
  | some v =>
  refine WP.steps st (k _ _ v so WW q1)

theorem k_callI0 (W : WS p l e R s m args below meth c Z a0 EL nw n0 y code maxL ret T h sf cells slots) {z : MethodName} {bytes : ByteArray} {mL : Nat} {rt : Option FieldType} {rm : Room} {sfc : List Addr} {Q : Option Value → Heap → List Addr → Prop} (Wd c' s' : Nat) {argsL rest : List Value} {index : Nat} {a : Addr} (dd : D code pc (.invokespecial index) 3 pc') (hrt : rt = none) (hz : z.name = "<init>") (w1 : (Cond.methodLink y.cls index z).before a0 Z = true) (w2 : (Cond.instanceMethod z).before a0 Z = true) (hy : z.cls ≠ "java/lang/invoke/MethodHandle" ∧ z.cls ≠ "java/lang/invoke/VarHandle") (hlen : ∀ sig, parseMethodDescriptor z.desc = some sig → argsL.length = sig.parameters.length) (hC : Ct l Z a0 EL nw z bytes mL rt rm (.ref a :: argsL).toArray h sfc n0 Q) (w4 : (Cond.code z bytes mL rt).before a0 Z = true) (w3 : (Cond.initialized z.cls).before a0 Z = true) (hsfc : ∀ x ∈ sfc, x ∈ sf) (hL : L.size = maxL) (hW : catS rest ≤ Wd) (hf : rm.frames + 1 ≤ R.frames) (hl : Wd + (mL + 11) + rm.locals ≤ R.locals) (hc : cells + rm.cells = c' ∧ c' ≤ R.cells) (hs : slots + rm.slots = s' ∧ s' ≤ R.slots) (hst : S = argsL.reverse ++ .ref a :: rest) (hnv : ∀ v h so, ¬ Q (some v) h so)
    (k : ∀ T' h'  so, WS p l e R s m args below meth c Z a0 EL nw n0 y code maxL ret T' h' sf c' s' → Q none h' so → WP p e below Φ T' (mkF m pc' L rest)) : WP p e below Φ T (mkF m pc L S) := by
  obtain ⟨locs, X, eT, hS, hZ, hown, hC0, hN, hn, hsf, hE, hWm, b1, b2, b3, b4, b5, b6⟩ := id W
  obtain ⟨rfl, hc⟩ := hc
  obtain ⟨rfl, hs⟩ := hs
  have hB := backCt (R := R) (p := p) (e := e) (below := below) (s := s) (args := args) (len := 3) (Wd := Wd) hC hZ w4 w3 hf hl hE hn hC0.1 (fun x hx => hsf x (hsfc x hx))
  subst hrt
  obtain ⟨v, vm₁, ⟨U', L', c1, s1⟩, -, X', hS', hg, hpost, st⟩ := X.specialBackS W.hx (y := z) hz hown (mvT (s := s.setVm T.vm) hZ w1) (mvT (s := s.setVm T.vm) hZ w2) (mvT (s := s.setVm T.vm) hZ w4) hy hB (g := mkF m pc L S) rfl (hL.trans b5.symm) (Steps.refl _) (a := a) (argsL := argsL) (rest := rest) hlen hst (by show 2 * 0 + _ ≤ _; rw [Nat.mul_zero, Nat.zero_add]; exact hW) (W.hd dd) (fun vm₁ _ => ⟨rfl, eT, hc, hs⟩)
  obtain ⟨L1, so, q1, q2, q3, q4, q5, q6, qw, q7⟩ := hpost
  dsimp only [Pt.U, Pt.locs, Pt.cells, Pt.slots] at X' hS' hg q1 q2 q3 q4 q5 q6 qw q7 st
  subst q3 q4 q5
  obtain ⟨hd, rfl⟩ := dd
  have WW : WS p l e R s m args below meth c Z a0 EL nw n0 y code maxL ret U' U'.heap (so ++ sf) (cells + rm.cells) (slots + rm.slots) := by
    refine ⟨_, X', rfl, hS.trans hS' (by rw [← eT]; exact hg), State.Warmed39.trans (t := s.setVm T.vm) hZ hS'.1, by rw [hS'.1.alike.findClass]; exact hown, hC0.trans q6, hN.app q2, Nat.le_trans hn (by rw [← eT]; exact hg), fun x hx => ?_, hE, fun u => State.WarmedH.trans (t := s.setVm T.vm) (hWm u) (qw u), b1, b2, b3, b4, b5, b6⟩
    rcases List.mem_append.mp hx with u | u
    · exact q7 x u
    · obtain ⟨g1, g2, g3⟩ := hsf x u
      exact ⟨g1, Nat.lt_of_lt_of_le g2 (by rw [← eT]; exact hg), q6.safe g2 g3⟩
  cases v with
  | some v => exact absurd q1 (hnv _ _ _)
  | none =>
  refine WP.steps st (k _ _ so (WS.mono (sf' := sf) WW (Nat.le_refl _) (Nat.le_refl _) (fun x hx => List.mem_append_right _ hx)) q1)

theorem k_callV (W : WS p l e R s m args below meth c Z a0 EL nw n0 y code maxL ret T h sf cells slots) {z : MethodName} {bytes : ByteArray} {mL : Nat} {rt : Option FieldType} {rm : Room} {sfc : List Addr} {Q : Option Value → Heap → List Addr → Prop} (Wd c' s' : Nat) {argsL rest : List Value} {index : Nat} {a : Addr} {C : String} {z0 : MethodName} (dd : D code pc (.invokevirtual index) 3 pc') (w1 : (Cond.methodLink y.cls index z0).before a0 Z = true) (w2 : (Cond.declares z0).before a0 Z = true) (nf : ∀ s' : State, Z.Warmed39 s'.vm → NotFace s' z0) (w5 : (Cond.selects C z0 z).before a0 Z = true) (w6 : (Cond.instanceMethod z).before a0 Z = true) (hy : z0.cls ≠ "java/lang/invoke/MethodHandle" ∧ z0.cls ≠ "java/lang/invoke/VarHandle") (hlen : ∀ sig, parseMethodDescriptor z0.desc = some sig → argsL.length = sig.parameters.length) (E : Exa Z h a C) (hC : Ct l Z a0 EL nw z bytes mL rt rm (.ref a :: argsL).toArray h sfc n0 Q) (w4 : (Cond.code z bytes mL rt).before a0 Z = true) (w3 : (Cond.initialized z.cls).before a0 Z = true) (hsfc : ∀ x ∈ sfc, x ∈ sf) (hL : L.size = maxL) (hW : catS rest ≤ Wd) (hf : rm.frames + 1 ≤ R.frames) (hl : Wd + (mL + 11) + rm.locals ≤ R.locals) (hc : cells + rm.cells = c' ∧ c' ≤ R.cells) (hs : slots + rm.slots = s' ∧ s' ≤ R.slots) (hst : S = argsL.reverse ++ .ref a :: rest) (hnv : ∀ h so, ¬ Q none h so)
    (k : ∀ T' h' (v : Value) so, WS p l e R s m args below meth c Z a0 EL nw n0 y code maxL ret T' h' sf c' s' → Q (some v) h' so → WP p e below Φ T' (mkF m pc' L (v :: rest))) : WP p e below Φ T (mkF m pc L S) := by
  obtain ⟨locs, X, eT, hS, hZ, hown, hC0, hN, hn, hsf, hE, hWm, b1, b2, b3, b4, b5, b6⟩ := id W
  obtain ⟨rfl, hc⟩ := hc
  obtain ⟨rfl, hs⟩ := hs
  have hB := backCt (R := R) (p := p) (e := e) (below := below) (s := s) (args := args) (len := 3) (Wd := Wd) hC hZ w4 w3 hf hl hE hn hC0.1 (fun x hx => hsf x (hsfc x hx))
  obtain ⟨cq, kq, qa, qb, qc⟩ := isOf (s := s.setVm T.vm) hZ eT E
  obtain ⟨v, vm₁, ⟨U', L', c1, s1⟩, -, X', hS', hg, hpost, st⟩ := X.virtualBackS W.hx (y := z0) (z := z) hown (mvT (s := s.setVm T.vm) hZ w1) (mvT (s := s.setVm T.vm) hZ w2) (nf (s.setVm T.vm) hZ) (mvT (s := s.setVm T.vm) hZ w5) (mvT (s := s.setVm T.vm) hZ w6) hy hB qa qc (g := mkF m pc L S) rfl (hL.trans b5.symm) (Steps.refl _) (argsL := argsL) (rest := rest) hlen hst (by show 2 * 0 + _ ≤ _; rw [Nat.mul_zero, Nat.zero_add]; exact hW) (W.hd dd) (fun vm₁ _ => ⟨rfl, eT, hc, hs⟩)
  obtain ⟨L1, so, q1, q2, q3, q4, q5, q6, qw, q7⟩ := hpost
  dsimp only [Pt.U, Pt.locs, Pt.cells, Pt.slots] at X' hS' hg q1 q2 q3 q4 q5 q6 qw q7 st
  subst q3 q4 q5
  obtain ⟨hd, rfl⟩ := dd
  have WW : WS p l e R s m args below meth c Z a0 EL nw n0 y code maxL ret U' U'.heap (so ++ sf) (cells + rm.cells) (slots + rm.slots) := by
    refine ⟨_, X', rfl, hS.trans hS' (by rw [← eT]; exact hg), State.Warmed39.trans (t := s.setVm T.vm) hZ hS'.1, by rw [hS'.1.alike.findClass]; exact hown, hC0.trans q6, hN.app q2, Nat.le_trans hn (by rw [← eT]; exact hg), fun x hx => ?_, hE, fun u => State.WarmedH.trans (t := s.setVm T.vm) (hWm u) (qw u), b1, b2, b3, b4, b5, b6⟩
    rcases List.mem_append.mp hx with u | u
    · exact q7 x u
    · obtain ⟨g1, g2, g3⟩ := hsf x u
      exact ⟨g1, Nat.lt_of_lt_of_le g2 (by rw [← eT]; exact hg), q6.safe g2 g3⟩
  cases v with
  | none => exact absurd q1 (hnv _ _)
  | some v =>
  refine WP.steps st (k _ _ v so (WS.mono (sf' := sf) WW (Nat.le_refl _) (Nat.le_refl _) (fun x hx => List.mem_append_right _ hx)) q1)

theorem k_callV0 (W : WS p l e R s m args below meth c Z a0 EL nw n0 y code maxL ret T h sf cells slots) {z : MethodName} {bytes : ByteArray} {mL : Nat} {rt : Option FieldType} {rm : Room} {sfc : List Addr} {Q : Option Value → Heap → List Addr → Prop} (Wd c' s' : Nat) {argsL rest : List Value} {index : Nat} {a : Addr} {C : String} {z0 : MethodName} (dd : D code pc (.invokevirtual index) 3 pc') (w1 : (Cond.methodLink y.cls index z0).before a0 Z = true) (w2 : (Cond.declares z0).before a0 Z = true) (nf : ∀ s' : State, Z.Warmed39 s'.vm → NotFace s' z0) (w5 : (Cond.selects C z0 z).before a0 Z = true) (w6 : (Cond.instanceMethod z).before a0 Z = true) (hy : z0.cls ≠ "java/lang/invoke/MethodHandle" ∧ z0.cls ≠ "java/lang/invoke/VarHandle") (hlen : ∀ sig, parseMethodDescriptor z0.desc = some sig → argsL.length = sig.parameters.length) (E : Exa Z h a C) (hC : Ct l Z a0 EL nw z bytes mL rt rm (.ref a :: argsL).toArray h sfc n0 Q) (w4 : (Cond.code z bytes mL rt).before a0 Z = true) (w3 : (Cond.initialized z.cls).before a0 Z = true) (hsfc : ∀ x ∈ sfc, x ∈ sf) (hL : L.size = maxL) (hW : catS rest ≤ Wd) (hf : rm.frames + 1 ≤ R.frames) (hl : Wd + (mL + 11) + rm.locals ≤ R.locals) (hc : cells + rm.cells = c' ∧ c' ≤ R.cells) (hs : slots + rm.slots = s' ∧ s' ≤ R.slots) (hst : S = argsL.reverse ++ .ref a :: rest) (hnv : ∀ v h so, ¬ Q (some v) h so)
    (k : ∀ T' h'  so, WS p l e R s m args below meth c Z a0 EL nw n0 y code maxL ret T' h' sf c' s' → Q none h' so → WP p e below Φ T' (mkF m pc' L rest)) : WP p e below Φ T (mkF m pc L S) := by
  obtain ⟨locs, X, eT, hS, hZ, hown, hC0, hN, hn, hsf, hE, hWm, b1, b2, b3, b4, b5, b6⟩ := id W
  obtain ⟨rfl, hc⟩ := hc
  obtain ⟨rfl, hs⟩ := hs
  have hB := backCt (R := R) (p := p) (e := e) (below := below) (s := s) (args := args) (len := 3) (Wd := Wd) hC hZ w4 w3 hf hl hE hn hC0.1 (fun x hx => hsf x (hsfc x hx))
  obtain ⟨cq, kq, qa, qb, qc⟩ := isOf (s := s.setVm T.vm) hZ eT E
  obtain ⟨v, vm₁, ⟨U', L', c1, s1⟩, -, X', hS', hg, hpost, st⟩ := X.virtualBackS W.hx (y := z0) (z := z) hown (mvT (s := s.setVm T.vm) hZ w1) (mvT (s := s.setVm T.vm) hZ w2) (nf (s.setVm T.vm) hZ) (mvT (s := s.setVm T.vm) hZ w5) (mvT (s := s.setVm T.vm) hZ w6) hy hB qa qc (g := mkF m pc L S) rfl (hL.trans b5.symm) (Steps.refl _) (argsL := argsL) (rest := rest) hlen hst (by show 2 * 0 + _ ≤ _; rw [Nat.mul_zero, Nat.zero_add]; exact hW) (W.hd dd) (fun vm₁ _ => ⟨rfl, eT, hc, hs⟩)
  obtain ⟨L1, so, q1, q2, q3, q4, q5, q6, qw, q7⟩ := hpost
  dsimp only [Pt.U, Pt.locs, Pt.cells, Pt.slots] at X' hS' hg q1 q2 q3 q4 q5 q6 qw q7 st
  subst q3 q4 q5
  obtain ⟨hd, rfl⟩ := dd
  have WW : WS p l e R s m args below meth c Z a0 EL nw n0 y code maxL ret U' U'.heap (so ++ sf) (cells + rm.cells) (slots + rm.slots) := by
    refine ⟨_, X', rfl, hS.trans hS' (by rw [← eT]; exact hg), State.Warmed39.trans (t := s.setVm T.vm) hZ hS'.1, by rw [hS'.1.alike.findClass]; exact hown, hC0.trans q6, hN.app q2, Nat.le_trans hn (by rw [← eT]; exact hg), fun x hx => ?_, hE, fun u => State.WarmedH.trans (t := s.setVm T.vm) (hWm u) (qw u), b1, b2, b3, b4, b5, b6⟩
    rcases List.mem_append.mp hx with u | u
    · exact q7 x u
    · obtain ⟨g1, g2, g3⟩ := hsf x u
      exact ⟨g1, Nat.lt_of_lt_of_le g2 (by rw [← eT]; exact hg), q6.safe g2 g3⟩
  cases v with
  | some v => exact absurd q1 (hnv _ _ _)
  | none =>
  refine WP.steps st (k _ _ so (WS.mono (sf' := sf) WW (Nat.le_refl _) (Nat.le_refl _) (fun x hx => List.mem_append_right _ hx)) q1)

theorem k_callVn (W : WS p l e R s m args below meth c Z a0 EL nw n0 y code maxL ret T h sf cells slots) {z : MethodName} {bytes : ByteArray} {mL : Nat} {rt : Option FieldType} {rm : Room} {sfc : List Addr} {Q : Option Value → Heap → List Addr → Prop} (Wd c' s' : Nat) {argsL rest : List Value} {index : Nat} {a : Addr} {C : String} {z0 : MethodName} (dd : D code pc (.invokevirtual index) 3 pc') (w1 : (Cond.methodLink y.cls index z0).before a0 Z = true) (w2 : (Cond.declares z0).before a0 Z = true) (nf : ∀ s' : State, Z.Warmed39 s'.vm → NotFace s' z0) (w5 : (Cond.selects C z0 z).before a0 Z = true) (w6 : (Cond.instanceMethod z).before a0 Z = true) (hy : z0.cls ≠ "java/lang/invoke/MethodHandle" ∧ z0.cls ≠ "java/lang/invoke/VarHandle") (hlen : ∀ sig, parseMethodDescriptor z0.desc = some sig → argsL.length = sig.parameters.length) (E : Exa Z h a C) (hC : Ct l Z a0 EL nw z bytes mL rt rm (.ref a :: argsL).toArray h sfc n0 Q) (w4 : (Cond.code z bytes mL rt).before a0 Z = true) (w3 : (Cond.initialized z.cls).before a0 Z = true) (hsfc : ∀ x ∈ sfc, x ∈ sf) (hL : L.size = maxL) (hW : catS rest ≤ Wd) (hf : rm.frames + 1 ≤ R.frames) (hl : Wd + (mL + 11) + rm.locals ≤ R.locals) (hc : cells + rm.cells = c' ∧ c' ≤ R.cells) (hs : slots + rm.slots = s' ∧ s' ≤ R.slots) (hst : S = argsL.reverse ++ .ref a :: rest) (hnv : ∀ h so, ¬ Q none h so)
    (k : ∀ T' h' (v : Value) so, WS p l e R s m args below meth c Z a0 EL nw n0 y code maxL ret T' h' (so ++ sf) c' s' → Q (some v) h' so → WP p e below Φ T' (mkF m pc' L (v :: rest))) : WP p e below Φ T (mkF m pc L S) := by
  obtain ⟨locs, X, eT, hS, hZ, hown, hC0, hN, hn, hsf, hE, hWm, b1, b2, b3, b4, b5, b6⟩ := id W
  obtain ⟨rfl, hc⟩ := hc
  obtain ⟨rfl, hs⟩ := hs
  have hB := backCt (R := R) (p := p) (e := e) (below := below) (s := s) (args := args) (len := 3) (Wd := Wd) hC hZ w4 w3 hf hl hE hn hC0.1 (fun x hx => hsf x (hsfc x hx))
  obtain ⟨cq, kq, qa, qb, qc⟩ := isOf (s := s.setVm T.vm) hZ eT E
  obtain ⟨v, vm₁, ⟨U', L', c1, s1⟩, -, X', hS', hg, hpost, st⟩ := X.virtualBackS W.hx (y := z0) (z := z) hown (mvT (s := s.setVm T.vm) hZ w1) (mvT (s := s.setVm T.vm) hZ w2) (nf (s.setVm T.vm) hZ) (mvT (s := s.setVm T.vm) hZ w5) (mvT (s := s.setVm T.vm) hZ w6) hy hB qa qc (g := mkF m pc L S) rfl (hL.trans b5.symm) (Steps.refl _) (argsL := argsL) (rest := rest) hlen hst (by show 2 * 0 + _ ≤ _; rw [Nat.mul_zero, Nat.zero_add]; exact hW) (W.hd dd) (fun vm₁ _ => ⟨rfl, eT, hc, hs⟩)
  obtain ⟨L1, so, q1, q2, q3, q4, q5, q6, qw, q7⟩ := hpost
  dsimp only [Pt.U, Pt.locs, Pt.cells, Pt.slots] at X' hS' hg q1 q2 q3 q4 q5 q6 qw q7 st
  subst q3 q4 q5
  obtain ⟨hd, rfl⟩ := dd
  have WW : WS p l e R s m args below meth c Z a0 EL nw n0 y code maxL ret U' U'.heap (so ++ sf) (cells + rm.cells) (slots + rm.slots) := by
    refine ⟨_, X', rfl, hS.trans hS' (by rw [← eT]; exact hg), State.Warmed39.trans (t := s.setVm T.vm) hZ hS'.1, by rw [hS'.1.alike.findClass]; exact hown, hC0.trans q6, hN.app q2, Nat.le_trans hn (by rw [← eT]; exact hg), fun x hx => ?_, hE, fun u => State.WarmedH.trans (t := s.setVm T.vm) (hWm u) (qw u), b1, b2, b3, b4, b5, b6⟩
    rcases List.mem_append.mp hx with u | u
    · exact q7 x u
    · obtain ⟨g1, g2, g3⟩ := hsf x u
      exact ⟨g1, Nat.lt_of_lt_of_le g2 (by rw [← eT]; exact hg), q6.safe g2 g3⟩
  cases v with
  | none => exact absurd q1 (hnv _ _)
  | some v =>
  refine WP.steps st (k _ _ v so WW q1)

theorem k_callP (W : WS p l e R s m args below meth c Z a0 EL nw n0 y code maxL ret T h sf cells slots) {z : MethodName} {bytes : ByteArray} {mL : Nat} {rt : Option FieldType} {rm : Room} {sfc : List Addr} {Q : Option Value → Heap → List Addr → Prop} (Wd c' s' : Nat) {argsL rest : List Value} {index : Nat} {a : Addr} {C : String} (dd : D code pc (.invokevirtual index) 3 pc') (w1 : (Cond.methodLink y.cls index z).before a0 Z = true) (w2 : (Cond.instanceMethod z).before a0 Z = true) (w5 : (Cond.selects z.cls z z).before a0 Z = true) (w6 : (Cond.privateMethod z).before a0 Z = true) (hy : z.cls ≠ "java/lang/invoke/MethodHandle" ∧ z.cls ≠ "java/lang/invoke/VarHandle") (hlen : ∀ sig, parseMethodDescriptor z.desc = some sig → argsL.length = sig.parameters.length) (E : Exa Z h a C) (hC : Ct l Z a0 EL nw z bytes mL rt rm (.ref a :: argsL).toArray h sfc n0 Q) (w4 : (Cond.code z bytes mL rt).before a0 Z = true) (w3 : (Cond.initialized z.cls).before a0 Z = true) (hsfc : ∀ x ∈ sfc, x ∈ sf) (hL : L.size = maxL) (hW : catS rest ≤ Wd) (hf : rm.frames + 1 ≤ R.frames) (hl : Wd + (mL + 11) + rm.locals ≤ R.locals) (hc : cells + rm.cells = c' ∧ c' ≤ R.cells) (hs : slots + rm.slots = s' ∧ s' ≤ R.slots) (hst : S = argsL.reverse ++ .ref a :: rest) (hnv : ∀ h so, ¬ Q none h so)
    (k : ∀ T' h' (v : Value) so, WS p l e R s m args below meth c Z a0 EL nw n0 y code maxL ret T' h' sf c' s' → Q (some v) h' so → WP p e below Φ T' (mkF m pc' L (v :: rest))) : WP p e below Φ T (mkF m pc L S) := by
  obtain ⟨locs, X, eT, hS, hZ, hown, hC0, hN, hn, hsf, hE, hWm, b1, b2, b3, b4, b5, b6⟩ := id W
  obtain ⟨rfl, hc⟩ := hc
  obtain ⟨rfl, hs⟩ := hs
  have hB := backCt (R := R) (p := p) (e := e) (below := below) (s := s) (args := args) (len := 3) (Wd := Wd) hC hZ w4 w3 hf hl hE hn hC0.1 (fun x hx => hsf x (hsfc x hx))
  obtain ⟨cc, hc1, hc2⟩ := E.cell
  obtain ⟨v, vm₁, ⟨U', L', c1, s1⟩, -, X', hS', hg, hpost, st⟩ := X.privateBackS W.hx (y := z) hown (mvT (s := s.setVm T.vm) hZ w1) (mvT (s := s.setVm T.vm) hZ w2) (mvT (s := s.setVm T.vm) hZ w5) (Cond.privateMethod_at (mvP (s := s.setVm T.vm) hZ w6 (args := #[]))) (mvT (s := s.setVm T.vm) hZ w4) hy hB (g := mkF m pc L S) rfl (hL.trans b5.symm) (Steps.refl _) (a := a) (by rw [eT]; exact hc1) hc2 (argsL := argsL) (rest := rest) hlen hst (by show 2 * 0 + _ ≤ _; rw [Nat.mul_zero, Nat.zero_add]; exact hW) (W.hd dd) (fun vm₁ _ => ⟨rfl, eT, hc, hs⟩)
  obtain ⟨L1, so, q1, q2, q3, q4, q5, q6, qw, q7⟩ := hpost
  dsimp only [Pt.U, Pt.locs, Pt.cells, Pt.slots] at X' hS' hg q1 q2 q3 q4 q5 q6 qw q7 st
  subst q3 q4 q5
  obtain ⟨hd, rfl⟩ := dd
  have WW : WS p l e R s m args below meth c Z a0 EL nw n0 y code maxL ret U' U'.heap (so ++ sf) (cells + rm.cells) (slots + rm.slots) := by
    refine ⟨_, X', rfl, hS.trans hS' (by rw [← eT]; exact hg), State.Warmed39.trans (t := s.setVm T.vm) hZ hS'.1, by rw [hS'.1.alike.findClass]; exact hown, hC0.trans q6, hN.app q2, Nat.le_trans hn (by rw [← eT]; exact hg), fun x hx => ?_, hE, fun u => State.WarmedH.trans (t := s.setVm T.vm) (hWm u) (qw u), b1, b2, b3, b4, b5, b6⟩
    rcases List.mem_append.mp hx with u | u
    · exact q7 x u
    · obtain ⟨g1, g2, g3⟩ := hsf x u
      exact ⟨g1, Nat.lt_of_lt_of_le g2 (by rw [← eT]; exact hg), q6.safe g2 g3⟩
  cases v with
  | none => exact absurd q1 (hnv _ _)
  | some v =>
  refine WP.steps st (k _ _ v so (WS.mono (sf' := sf) WW (Nat.le_refl _) (Nat.le_refl _) (fun x hx => List.mem_append_right _ hx)) q1)

theorem k_callP0 (W : WS p l e R s m args below meth c Z a0 EL nw n0 y code maxL ret T h sf cells slots) {z : MethodName} {bytes : ByteArray} {mL : Nat} {rt : Option FieldType} {rm : Room} {sfc : List Addr} {Q : Option Value → Heap → List Addr → Prop} (Wd c' s' : Nat) {argsL rest : List Value} {index : Nat} {a : Addr} {C : String} (dd : D code pc (.invokevirtual index) 3 pc') (w1 : (Cond.methodLink y.cls index z).before a0 Z = true) (w2 : (Cond.instanceMethod z).before a0 Z = true) (w5 : (Cond.selects z.cls z z).before a0 Z = true) (w6 : (Cond.privateMethod z).before a0 Z = true) (hy : z.cls ≠ "java/lang/invoke/MethodHandle" ∧ z.cls ≠ "java/lang/invoke/VarHandle") (hlen : ∀ sig, parseMethodDescriptor z.desc = some sig → argsL.length = sig.parameters.length) (E : Exa Z h a C) (hC : Ct l Z a0 EL nw z bytes mL rt rm (.ref a :: argsL).toArray h sfc n0 Q) (w4 : (Cond.code z bytes mL rt).before a0 Z = true) (w3 : (Cond.initialized z.cls).before a0 Z = true) (hsfc : ∀ x ∈ sfc, x ∈ sf) (hL : L.size = maxL) (hW : catS rest ≤ Wd) (hf : rm.frames + 1 ≤ R.frames) (hl : Wd + (mL + 11) + rm.locals ≤ R.locals) (hc : cells + rm.cells = c' ∧ c' ≤ R.cells) (hs : slots + rm.slots = s' ∧ s' ≤ R.slots) (hst : S = argsL.reverse ++ .ref a :: rest) (hnv : ∀ v h so, ¬ Q (some v) h so)
    (k : ∀ T' h'  so, WS p l e R s m args below meth c Z a0 EL nw n0 y code maxL ret T' h' sf c' s' → Q none h' so → WP p e below Φ T' (mkF m pc' L rest)) : WP p e below Φ T (mkF m pc L S) := by
  obtain ⟨locs, X, eT, hS, hZ, hown, hC0, hN, hn, hsf, hE, hWm, b1, b2, b3, b4, b5, b6⟩ := id W
  obtain ⟨rfl, hc⟩ := hc
  obtain ⟨rfl, hs⟩ := hs
  have hB := backCt (R := R) (p := p) (e := e) (below := below) (s := s) (args := args) (len := 3) (Wd := Wd) hC hZ w4 w3 hf hl hE hn hC0.1 (fun x hx => hsf x (hsfc x hx))
  obtain ⟨cc, hc1, hc2⟩ := E.cell
  obtain ⟨v, vm₁, ⟨U', L', c1, s1⟩, -, X', hS', hg, hpost, st⟩ := X.privateBackS W.hx (y := z) hown (mvT (s := s.setVm T.vm) hZ w1) (mvT (s := s.setVm T.vm) hZ w2) (mvT (s := s.setVm T.vm) hZ w5) (Cond.privateMethod_at (mvP (s := s.setVm T.vm) hZ w6 (args := #[]))) (mvT (s := s.setVm T.vm) hZ w4) hy hB (g := mkF m pc L S) rfl (hL.trans b5.symm) (Steps.refl _) (a := a) (by rw [eT]; exact hc1) hc2 (argsL := argsL) (rest := rest) hlen hst (by show 2 * 0 + _ ≤ _; rw [Nat.mul_zero, Nat.zero_add]; exact hW) (W.hd dd) (fun vm₁ _ => ⟨rfl, eT, hc, hs⟩)
  obtain ⟨L1, so, q1, q2, q3, q4, q5, q6, qw, q7⟩ := hpost
  dsimp only [Pt.U, Pt.locs, Pt.cells, Pt.slots] at X' hS' hg q1 q2 q3 q4 q5 q6 qw q7 st
  subst q3 q4 q5
  obtain ⟨hd, rfl⟩ := dd
  have WW : WS p l e R s m args below meth c Z a0 EL nw n0 y code maxL ret U' U'.heap (so ++ sf) (cells + rm.cells) (slots + rm.slots) := by
    refine ⟨_, X', rfl, hS.trans hS' (by rw [← eT]; exact hg), State.Warmed39.trans (t := s.setVm T.vm) hZ hS'.1, by rw [hS'.1.alike.findClass]; exact hown, hC0.trans q6, hN.app q2, Nat.le_trans hn (by rw [← eT]; exact hg), fun x hx => ?_, hE, fun u => State.WarmedH.trans (t := s.setVm T.vm) (hWm u) (qw u), b1, b2, b3, b4, b5, b6⟩
    rcases List.mem_append.mp hx with u | u
    · exact q7 x u
    · obtain ⟨g1, g2, g3⟩ := hsf x u
      exact ⟨g1, Nat.lt_of_lt_of_le g2 (by rw [← eT]; exact hg), q6.safe g2 g3⟩
  cases v with
  | some v => exact absurd q1 (hnv _ _ _)
  | none =>
  refine WP.steps st (k _ _ so (WS.mono (sf' := sf) WW (Nat.le_refl _) (Nat.le_refl _) (fun x hx => List.mem_append_right _ hx)) q1)

theorem k_callPn (W : WS p l e R s m args below meth c Z a0 EL nw n0 y code maxL ret T h sf cells slots) {z : MethodName} {bytes : ByteArray} {mL : Nat} {rt : Option FieldType} {rm : Room} {sfc : List Addr} {Q : Option Value → Heap → List Addr → Prop} (Wd c' s' : Nat) {argsL rest : List Value} {index : Nat} {a : Addr} {C : String} (dd : D code pc (.invokevirtual index) 3 pc') (w1 : (Cond.methodLink y.cls index z).before a0 Z = true) (w2 : (Cond.instanceMethod z).before a0 Z = true) (w5 : (Cond.selects z.cls z z).before a0 Z = true) (w6 : (Cond.privateMethod z).before a0 Z = true) (hy : z.cls ≠ "java/lang/invoke/MethodHandle" ∧ z.cls ≠ "java/lang/invoke/VarHandle") (hlen : ∀ sig, parseMethodDescriptor z.desc = some sig → argsL.length = sig.parameters.length) (E : Exa Z h a C) (hC : Ct l Z a0 EL nw z bytes mL rt rm (.ref a :: argsL).toArray h sfc n0 Q) (w4 : (Cond.code z bytes mL rt).before a0 Z = true) (w3 : (Cond.initialized z.cls).before a0 Z = true) (hsfc : ∀ x ∈ sfc, x ∈ sf) (hL : L.size = maxL) (hW : catS rest ≤ Wd) (hf : rm.frames + 1 ≤ R.frames) (hl : Wd + (mL + 11) + rm.locals ≤ R.locals) (hc : cells + rm.cells = c' ∧ c' ≤ R.cells) (hs : slots + rm.slots = s' ∧ s' ≤ R.slots) (hst : S = argsL.reverse ++ .ref a :: rest) (hnv : ∀ h so, ¬ Q none h so)
    (k : ∀ T' h' (v : Value) so, WS p l e R s m args below meth c Z a0 EL nw n0 y code maxL ret T' h' (so ++ sf) c' s' → Q (some v) h' so → WP p e below Φ T' (mkF m pc' L (v :: rest))) : WP p e below Φ T (mkF m pc L S) := by
  obtain ⟨locs, X, eT, hS, hZ, hown, hC0, hN, hn, hsf, hE, hWm, b1, b2, b3, b4, b5, b6⟩ := id W
  obtain ⟨rfl, hc⟩ := hc
  obtain ⟨rfl, hs⟩ := hs
  have hB := backCt (R := R) (p := p) (e := e) (below := below) (s := s) (args := args) (len := 3) (Wd := Wd) hC hZ w4 w3 hf hl hE hn hC0.1 (fun x hx => hsf x (hsfc x hx))
  obtain ⟨cc, hc1, hc2⟩ := E.cell
  obtain ⟨v, vm₁, ⟨U', L', c1, s1⟩, -, X', hS', hg, hpost, st⟩ := X.privateBackS W.hx (y := z) hown (mvT (s := s.setVm T.vm) hZ w1) (mvT (s := s.setVm T.vm) hZ w2) (mvT (s := s.setVm T.vm) hZ w5) (Cond.privateMethod_at (mvP (s := s.setVm T.vm) hZ w6 (args := #[]))) (mvT (s := s.setVm T.vm) hZ w4) hy hB (g := mkF m pc L S) rfl (hL.trans b5.symm) (Steps.refl _) (a := a) (by rw [eT]; exact hc1) hc2 (argsL := argsL) (rest := rest) hlen hst (by show 2 * 0 + _ ≤ _; rw [Nat.mul_zero, Nat.zero_add]; exact hW) (W.hd dd) (fun vm₁ _ => ⟨rfl, eT, hc, hs⟩)
  obtain ⟨L1, so, q1, q2, q3, q4, q5, q6, qw, q7⟩ := hpost
  dsimp only [Pt.U, Pt.locs, Pt.cells, Pt.slots] at X' hS' hg q1 q2 q3 q4 q5 q6 qw q7 st
  subst q3 q4 q5
  obtain ⟨hd, rfl⟩ := dd
  have WW : WS p l e R s m args below meth c Z a0 EL nw n0 y code maxL ret U' U'.heap (so ++ sf) (cells + rm.cells) (slots + rm.slots) := by
    refine ⟨_, X', rfl, hS.trans hS' (by rw [← eT]; exact hg), State.Warmed39.trans (t := s.setVm T.vm) hZ hS'.1, by rw [hS'.1.alike.findClass]; exact hown, hC0.trans q6, hN.app q2, Nat.le_trans hn (by rw [← eT]; exact hg), fun x hx => ?_, hE, fun u => State.WarmedH.trans (t := s.setVm T.vm) (hWm u) (qw u), b1, b2, b3, b4, b5, b6⟩
    rcases List.mem_append.mp hx with u | u
    · exact q7 x u
    · obtain ⟨g1, g2, g3⟩ := hsf x u
      exact ⟨g1, Nat.lt_of_lt_of_le g2 (by rw [← eT]; exact hg), q6.safe g2 g3⟩
  cases v with
  | none => exact absurd q1 (hnv _ _)
  | some v =>
  refine WP.steps st (k _ _ v so WW q1)

theorem nfSel {C : String} {z0 : MethodName} (w : (Cond.selects C z0 z0).before a0 Z = true) (s' : State) (hZ : Z.Warmed39 s'.vm) : NotFace s' z0 := notFace_of_selects (args := #[]) (mvT hZ w)
end Calls

/-! ## facts out of the case's words -/
section Start
variable {args : Array Value} {Z : State} {t u : Term} {a : Addr} {C n d : String} {v : Value} {ty : FieldType} {z : Int32} {vs : List Value}
theorem eq_start (h : (Cond.eq t (Term.int z)).value args Z none Z [] = some true) : t.eval args Z none [] Z = some (.int z) := by
  have hz : (Term.int z).eval args Z none [] Z = some (.int z) := rfl
  simp only [Cond.value, hz] at h
  cases ht : t.eval args Z none [] Z with
  | none => rw [ht] at h; cases h
  | some w => cases w <;> simp [ht] at h; rw [h]
theorem eqR_start (h : (Cond.eq t u).value args Z none Z [] = some true) (hu : u.eval args Z none [] Z = some (.ref a)) : t.eval args Z none [] Z = some (.ref a) := by
  simp only [Cond.value, hu] at h
  cases ht : t.eval args Z none [] Z with
  | none => rw [ht] at h; cases h
  | some w => cases w <;> simp [ht] at h; rw [h]
theorem exa_start (h : (Cond.exactly t C).value args Z none Z [] = some true) : ∃ a, t.eval args Z none [] Z = some (.ref a) ∧ Exa Z Z.heap a C := by
  obtain ⟨a', c', cell, k, e1, e2, e3, e4, e5, rfl, e7⟩ := Cond.exactly_spec (Cond.before_iff.mpr h)
  exact ⟨a', e1, cell, k, e3, e2, e4, e5, e7⟩
theorem fld_start (ht : t.eval args Z none [] Z = some (.ref a)) (hf : (Term.field t C n d).eval args Z none [] Z = some v) : Fld Z Z.heap a C n d v := Fld.start (by simpa [Term.eval, ht] using hf)
def Els (t : Term) (args : Array Value) (Z : State) : Nat → List Value → Prop
  | _, [] => True
  | i, v :: vs => (Term.elem t (Term.int (Int32.ofNat i))).eval args Z none [] Z = some v ∧ Els t args Z (i + 1) vs
theorem Els.get : ∀ {vs : List Value} {k : Nat}, Els t args Z k vs → ∀ i, i < vs.length → (Term.elem t (Term.int (Int32.ofNat (k + i)))).eval args Z none [] Z = vs[i]?
  | [], _, _, i, hi => by simp at hi
  | v :: vs, k, h, 0, _ => by simpa using h.1
  | v :: vs, k, h, i + 1, hi => by
    have := Els.get h.2 i (by simpa using hi)
    rw [show k + (i + 1) = k + 1 + i by omega]; simpa using this
theorem ref_of_arr (h : (Cond.arrayOf t ty).value args Z none Z [] = some true) : ∃ a, t.eval args Z none [] Z = some (.ref a) := by
  simp only [Cond.value] at h
  split at h
  · cases h
  · cases ht : t.eval args Z none [] Z with
    | none => rw [ht] at h; cases h
    | some w => cases w <;> simp [ht] at h <;> exact ⟨_, rfl⟩
theorem av_start (hf : Fit Z) (ht : t.eval args Z none [] Z = some (.ref a)) (h : (Cond.arrayOf t ty).value args Z none Z [] = some true) (hl : (Term.length t).eval args Z none [] Z = some (.int z)) (hz : Int32.ofNat vs.length = z) (hv : vs.length < 2147483648) (he : Els t args Z 0 vs) : Av Z Z.heap a ty vs := by
  obtain ⟨c, A⟩ := Arr.start ht h
  have hA : Z.arrayAt? a = some c := A.fin (Vm.Alike.refl _)
  have hs : c.slots.size = vs.length := by
    simp only [Term.eval, ht, Option.bind_eq_bind, Option.bind_some, hA, Option.pure_def] at hl
    split at hl
    · rename_i hlt
      have e1 : c.slots.size.toInt32 = z := by simpa using hl
      exact of_inj (by simpa using hlt) hv (e1.trans hz.symm)
    · cases hl
  have hg : ∀ i, i < vs.length → c.slots[i]? = vs[i]? := fun i hi => by
    have q := he.get i hi
    have hx := ix_of (i := i) (by omega)
    rw [Nat.zero_add] at q
    simp only [Term.eval, ht, Option.bind_eq_bind, Option.bind_some, hA, if_neg hx.1, hx.2] at q
    exact q
  have e : c.slots.toList = vs := by
    apply List.ext_getElem?; intro i
    by_cases hi : i < vs.length
    · rw [Array.getElem?_toList]; exact hg i hi
    · rw [Array.getElem?_toList, Array.getElem?_eq_none (by omega), List.getElem?_eq_none (by omega)]
  refine ⟨c, A, e, hv, fun w hw => ?_⟩
  obtain ⟨i, hi, rfl⟩ := List.mem_iff_getElem.mp hw
  have hx := ix_of (i := i) (by omega)
  obtain ⟨w', q1, q2⟩ := elem_fit hf A (j := Int32.ofNat i) (by rintro (u | u); exact hx.1 u; rw [hx.2] at u; omega)
  rw [hx.2, hg i hi, List.getElem?_eq_getElem hi] at q1
  cases q1; exact q2
theorem exa_any {idx : List Nat} (h : (Cond.exactly t C).value args Z none Z idx = some true) : ∃ a, t.eval args Z none idx Z = some (.ref a) ∧ Exa Z Z.heap a C := by
  obtain ⟨a', c', cell, k, e1, e2, e3, e4, e5, rfl, e7⟩ := Cond.exactly_spec (args := args) (first := Z) (o := none) (s := Z) (idx := idx) (t := t) (cls := C) (by simp [Cond.holds, h])
  exact ⟨a', e1, cell, k, e3, e2, e4, e5, e7⟩
theorem all_get {c : Cond} {cell : Cell} (h : (Cond.all t c).value args Z none Z [] = some true) (ht : t.eval args Z none [] Z = some (.ref a)) (hA : Z.arrayAt? a = some cell) : ∀ i, i < cell.slots.size → c.value args Z none Z [i] = some true := by
  simp only [Cond.value, ht, hA] at h
  have key : ∀ (l : List Nat) (acc : Option Bool), l.foldl (fun acc i => match acc with | some true => c.value args Z none Z [i] | x => x) acc = some true → acc = some true ∧ ∀ i ∈ l, c.value args Z none Z [i] = some true := by
    intro l
    induction l with
    | nil => intro acc q; exact ⟨q, fun i hi => nomatch hi⟩
    | cons j l ih =>
      intro acc q
      obtain ⟨q1, q2⟩ := ih _ q
      have ha : acc = some true := by
        cases acc with
        | none => simp at q1
        | some b => cases b <;> simp at q1 ⊢
      refine ⟨ha, fun i hi => ?_⟩
      subst ha
      rcases List.mem_cons.mp hi with rfl | hi
      · exact q1
      · exact q2 i hi
  exact fun i hi => (key _ _ h).2 i (List.mem_range.mpr hi)
theorem cache_start {c2 : Cond} {C1 n1 d1 : String} (hf : Fit Z) (ht : (Term.static C1 n1 d1).eval args Z none [] Z = some (.ref a)) (h : (Cond.arrayOf (Term.static C1 n1 d1) ty).value args Z none Z [] = some true) (hl : (Term.length (Term.static C1 n1 d1)).eval args Z none [] Z = some (.int z))
    (hall : (Cond.all (Term.static C1 n1 d1) (Cond.and (Cond.exactly (Term.elem (Term.static C1 n1 d1) (Term.index 0)) C) c2)).value args Z none Z [] = some true) : ∃ vs, Av Z Z.heap a ty vs ∧ Int32.ofNat vs.length = z ∧ AllExa Z Z.heap C vs := by
  obtain ⟨c, A⟩ := Arr.start ht h
  have hA : Z.arrayAt? a = some c := A.fin (Vm.Alike.refl _)
  have hs : c.slots.size < 2147483648 ∧ c.slots.size.toInt32 = z := by
    simp only [Term.eval] at hl
    simp only [Term.eval] at ht
    rw [ht] at hl
    simp only [Option.bind_eq_bind, Option.bind_some, hA, Option.pure_def] at hl
    split at hl
    · rename_i hlt; exact ⟨by simpa using hlt, by simpa using hl⟩
    · cases hl
  refine ⟨c.slots.toList, ⟨c, A, rfl, by simpa using hs.1, fun w hw => ?_⟩, by simpa using hs.2, fun v hv => ?_⟩
  · obtain ⟨i, hi, rfl⟩ := List.mem_iff_getElem.mp hw
    have hi' : i < c.slots.size := by simpa using hi
    have hx := ix_of (i := i) (by omega)
    obtain ⟨w', q1, q2⟩ := elem_fit hf A (j := Int32.ofNat i) (by rintro (u | u); exact hx.1 u; rw [hx.2] at u; omega)
    rw [hx.2, Array.getElem?_eq_getElem hi'] at q1
    cases q1; simpa using q2
  · obtain ⟨i, hi, rfl⟩ := List.mem_iff_getElem.mp hv
    have hi' : i < c.slots.size := by simpa using hi
    obtain ⟨r, q1, q2⟩ := exa_any (and_e (all_get hall ht hA i hi')).1
    have hx := ix_of (i := i) (by omega)
    have ht2 : (Term.static C1 n1 d1).eval args Z none [i] Z = some (.ref a) := ht
    have hi2 : (Term.index 0).eval args Z none [i] Z = some (.int (Int32.ofNat i)) := rfl
    have q3 : (Term.elem (Term.static C1 n1 d1) (Term.index 0)).eval args Z none [i] Z = c.slots[i]? := by
      show (do
        let .ref a ← (Term.static C1 n1 d1).eval args Z none [i] Z | none
        let .int j ← (Term.index 0).eval args Z none [i] Z | none
        if j < 0 then none else (← Z.arrayAt? a).slots[j.toNatClampNeg]?) = _
      rw [ht2, hi2]
      simp only [Option.bind_eq_bind, Option.bind_some, hA, if_neg hx.1, hx.2]
    rw [q3, Array.getElem?_eq_getElem hi'] at q1
    exact ⟨r, by simpa using q1, q2⟩
end Start

end Jvm.OwnK
namespace Jvm.Pilot.@@N@@
open Jvm Jvm.ClassFile Sem Op Lib Jvm.Free Jvm.Stand Jvm.LawKit Jvm.RoadKit Bundle Jvm.OwnK Jvm.Pilot.@@N@@.Jvm.D
def own_EL : List (String × Nat) := []
theorem w0 {Z : State} {a0 : Array Value} (hw : ∀ d ∈ tables_1, d.before a0 Z = true) : (Jvm.Cond.methodLink "com/example/lean_envelope/leanenvelope/check/ExceededLimitEqualsPinLaw" (16 : Nat) ({ cls := "com/example/lean_envelope/leanenvelope/check/ExceededLimitEqualsPinLaw", name := "nonWs", desc := "(I)I" } : Jvm.MethodName)).before a0 Z = true := hw _ (List.mem_of_getElem? (i := 0) rfl)
theorem w1 {Z : State} {a0 : Array Value} (hw : ∀ d ∈ tables_1, d.before a0 Z = true) : (Jvm.Cond.static ({ cls := "com/example/lean_envelope/leanenvelope/check/ExceededLimitEqualsPinLaw", name := "nonWs", desc := "(I)I" } : Jvm.MethodName)).before a0 Z = true := hw _ (List.mem_of_getElem? (i := 1) rfl)
theorem w2 {Z : State} {a0 : Array Value} (hw : ∀ d ∈ tables_1, d.before a0 Z = true) : (Jvm.Cond.initialized "com/example/lean_envelope/leanenvelope/check/ExceededLimitEqualsPinLaw").before a0 Z = true := hw _ (List.mem_of_getElem? (i := 2) rfl)
theorem w3 {Z : State} {a0 : Array Value} (hw : ∀ d ∈ tables_1, d.before a0 Z = true) : (Jvm.Cond.code ({ cls := "com/example/lean_envelope/leanenvelope/check/ExceededLimitEqualsPinLaw", name := "nonWs", desc := "(I)I" } : Jvm.MethodName) method_2_code (2 : Nat) (Option.some Jvm.ClassFile.FieldType.int)).before a0 Z = true := hw _ (List.mem_of_getElem? (i := 3) rfl)
theorem w4 {Z : State} {a0 : Array Value} (hw : ∀ d ∈ tables_1, d.before a0 Z = true) : (Jvm.Cond.methodLink "com/example/lean_envelope/leanenvelope/check/ExceededLimitEqualsPinLaw" (22 : Nat) ({ cls := "com/example/lean_envelope/leanenvelope/check/ExceededLimitEqualsPinLaw", name := "mk", desc := "(III)Ljava/lang/String;" } : Jvm.MethodName)).before a0 Z = true := hw _ (List.mem_of_getElem? (i := 4) rfl)
theorem w5 {Z : State} {a0 : Array Value} (hw : ∀ d ∈ tables_1, d.before a0 Z = true) : (Jvm.Cond.static ({ cls := "com/example/lean_envelope/leanenvelope/check/ExceededLimitEqualsPinLaw", name := "mk", desc := "(III)Ljava/lang/String;" } : Jvm.MethodName)).before a0 Z = true := hw _ (List.mem_of_getElem? (i := 5) rfl)
theorem w6 {Z : State} {a0 : Array Value} (hw : ∀ d ∈ tables_1, d.before a0 Z = true) : (Jvm.Cond.code ({ cls := "com/example/lean_envelope/leanenvelope/check/ExceededLimitEqualsPinLaw", name := "mk", desc := "(III)Ljava/lang/String;" } : Jvm.MethodName) method_3_code (4 : Nat) (Option.some (Jvm.ClassFile.FieldType.object "java/lang/String"))).before a0 Z = true := hw _ (List.mem_of_getElem? (i := 6) rfl)
theorem w7 {Z : State} {a0 : Array Value} (hw : ∀ d ∈ tables_1, d.before a0 Z = true) : (Jvm.Cond.arrayClass Jvm.ClassFile.FieldType.char).before a0 Z = true := hw _ (List.mem_of_getElem? (i := 7) rfl)
theorem w8 {Z : State} {a0 : Array Value} (hw : ∀ d ∈ tables_1, d.before a0 Z = true) : (Jvm.Cond.classLink "com/example/lean_envelope/leanenvelope/check/ExceededLimitEqualsPinLaw" (7 : Nat) "java/lang/String").before a0 Z = true := hw _ (List.mem_of_getElem? (i := 8) rfl)
theorem w9 {Z : State} {a0 : Array Value} (hw : ∀ d ∈ tables_1, d.before a0 Z = true) : (Jvm.Cond.instantiable "java/lang/String" (4 : Nat)).before a0 Z = true := hw _ (List.mem_of_getElem? (i := 9) rfl)
theorem w10 {Z : State} {a0 : Array Value} (hw : ∀ d ∈ tables_1, d.before a0 Z = true) : (Jvm.Cond.initialized "java/lang/String").before a0 Z = true := hw _ (List.mem_of_getElem? (i := 10) rfl)
theorem w11 {Z : State} {a0 : Array Value} (hw : ∀ d ∈ tables_1, d.before a0 Z = true) : (Jvm.Cond.methodLink "com/example/lean_envelope/leanenvelope/check/ExceededLimitEqualsPinLaw" (9 : Nat) ({ cls := "java/lang/String", name := "<init>", desc := "([C)V" } : Jvm.MethodName)).before a0 Z = true := hw _ (List.mem_of_getElem? (i := 11) rfl)
theorem w12 {Z : State} {a0 : Array Value} (hw : ∀ d ∈ tables_1, d.before a0 Z = true) : (Jvm.Cond.instanceMethod ({ cls := "java/lang/String", name := "<init>", desc := "([C)V" } : Jvm.MethodName)).before a0 Z = true := hw _ (List.mem_of_getElem? (i := 12) rfl)
theorem w13 {Z : State} {a0 : Array Value} (hw : ∀ d ∈ tables_1, d.before a0 Z = true) : (Jvm.Cond.code ({ cls := "java/lang/String", name := "<init>", desc := "([C)V" } : Jvm.MethodName) jdk_42_method_3_code (2 : Nat) (Option.none : Option Jvm.ClassFile.FieldType)).before a0 Z = true := hw _ (List.mem_of_getElem? (i := 13) rfl)
theorem w14 {Z : State} {a0 : Array Value} (hw : ∀ d ∈ tables_1, d.before a0 Z = true) : (Jvm.Cond.methodLink "java/lang/String" (27 : Nat) ({ cls := "java/lang/String", name := "<init>", desc := "([CIILjava/lang/Void;)V" } : Jvm.MethodName)).before a0 Z = true := hw _ (List.mem_of_getElem? (i := 14) rfl)
theorem w15 {Z : State} {a0 : Array Value} (hw : ∀ d ∈ tables_1, d.before a0 Z = true) : (Jvm.Cond.instanceMethod ({ cls := "java/lang/String", name := "<init>", desc := "([CIILjava/lang/Void;)V" } : Jvm.MethodName)).before a0 Z = true := hw _ (List.mem_of_getElem? (i := 15) rfl)
theorem w17 {Z : State} {a0 : Array Value} (hw : ∀ d ∈ tables_1, d.before a0 Z = true) : (Jvm.Cond.code ({ cls := "java/lang/String", name := "<init>", desc := "([CIILjava/lang/Void;)V" } : Jvm.MethodName) jdk_42_method_149_code (6 : Nat) (Option.none : Option Jvm.ClassFile.FieldType)).before a0 Z = true := hw _ (List.mem_of_getElem? (i := 17) rfl)
theorem w18 {Z : State} {a0 : Array Value} (hw : ∀ d ∈ tables_1, d.before a0 Z = true) : (Jvm.Cond.methodLink "java/lang/String" (1 : Nat) ({ cls := "java/lang/Object", name := "<init>", desc := "()V" } : Jvm.MethodName)).before a0 Z = true := hw _ (List.mem_of_getElem? (i := 18) rfl)
theorem w19 {Z : State} {a0 : Array Value} (hw : ∀ d ∈ tables_1, d.before a0 Z = true) : (Jvm.Cond.instanceMethod ({ cls := "java/lang/Object", name := "<init>", desc := "()V" } : Jvm.MethodName)).before a0 Z = true := hw _ (List.mem_of_getElem? (i := 19) rfl)
theorem w20 {Z : State} {a0 : Array Value} (hw : ∀ d ∈ tables_1, d.before a0 Z = true) : (Jvm.Cond.code ({ cls := "java/lang/Object", name := "<init>", desc := "()V" } : Jvm.MethodName) object_method_1_code (1 : Nat) (Option.none : Option Jvm.ClassFile.FieldType)).before a0 Z = true := hw _ (List.mem_of_getElem? (i := 20) rfl)
theorem w21 {Z : State} {a0 : Array Value} (hw : ∀ d ∈ tables_1, d.before a0 Z = true) : (Jvm.Cond.fieldLink "java/lang/String" (38 : Nat) "java/lang/String" "COMPACT_STRINGS" "Z").before a0 Z = true := hw _ (List.mem_of_getElem? (i := 21) rfl)
theorem w22 {Z : State} {a0 : Array Value} (hw : ∀ d ∈ tables_1, d.before a0 Z = true) : (Jvm.Cond.methodLink "java/lang/String" (177 : Nat) ({ cls := "java/lang/StringUTF16", name := "compress", desc := "([CII)[B" } : Jvm.MethodName)).before a0 Z = true := hw _ (List.mem_of_getElem? (i := 22) rfl)
theorem w23 {Z : State} {a0 : Array Value} (hw : ∀ d ∈ tables_1, d.before a0 Z = true) : (Jvm.Cond.static ({ cls := "java/lang/StringUTF16", name := "compress", desc := "([CII)[B" } : Jvm.MethodName)).before a0 Z = true := hw _ (List.mem_of_getElem? (i := 23) rfl)
theorem w24 {Z : State} {a0 : Array Value} (hw : ∀ d ∈ tables_1, d.before a0 Z = true) : (Jvm.Cond.initialized "java/lang/StringUTF16").before a0 Z = true := hw _ (List.mem_of_getElem? (i := 24) rfl)
theorem w25 {Z : State} {a0 : Array Value} (hw : ∀ d ∈ tables_1, d.before a0 Z = true) : (Jvm.Cond.code ({ cls := "java/lang/StringUTF16", name := "compress", desc := "([CII)[B" } : Jvm.MethodName) jdk_52_method_16_code (6 : Nat) (Option.some (Jvm.ClassFile.FieldType.array Jvm.ClassFile.FieldType.byte))).before a0 Z = true := hw _ (List.mem_of_getElem? (i := 25) rfl)
theorem w26 {Z : State} {a0 : Array Value} (hw : ∀ d ∈ tables_1, d.before a0 Z = true) : (Jvm.Cond.arrayClass Jvm.ClassFile.FieldType.byte).before a0 Z = true := hw _ (List.mem_of_getElem? (i := 26) rfl)
theorem w27 {Z : State} {a0 : Array Value} (hw : ∀ d ∈ tables_1, d.before a0 Z = true) : (Jvm.Cond.methodLink "java/lang/StringUTF16" (115 : Nat) ({ cls := "java/lang/StringUTF16", name := "compress", desc := "([CI[BII)I" } : Jvm.MethodName)).before a0 Z = true := hw _ (List.mem_of_getElem? (i := 27) rfl)
theorem w28 {Z : State} {a0 : Array Value} (hw : ∀ d ∈ tables_1, d.before a0 Z = true) : (Jvm.Cond.static ({ cls := "java/lang/StringUTF16", name := "compress", desc := "([CI[BII)I" } : Jvm.MethodName)).before a0 Z = true := hw _ (List.mem_of_getElem? (i := 28) rfl)
theorem w29 {Z : State} {a0 : Array Value} (hw : ∀ d ∈ tables_1, d.before a0 Z = true) : (Jvm.Cond.code ({ cls := "java/lang/StringUTF16", name := "compress", desc := "([CI[BII)I" } : Jvm.MethodName) jdk_52_method_21_code (7 : Nat) (Option.some Jvm.ClassFile.FieldType.int)).before a0 Z = true := hw _ (List.mem_of_getElem? (i := 29) rfl)
theorem w30 {Z : State} {a0 : Array Value} (hw : ∀ d ∈ tables_1, d.before a0 Z = true) : (Jvm.Cond.methodLink "java/lang/String" (47 : Nat) ({ cls := "java/lang/StringUTF16", name := "coderFromArrayLen", desc := "([BI)B" } : Jvm.MethodName)).before a0 Z = true := hw _ (List.mem_of_getElem? (i := 30) rfl)
theorem w31 {Z : State} {a0 : Array Value} (hw : ∀ d ∈ tables_1, d.before a0 Z = true) : (Jvm.Cond.static ({ cls := "java/lang/StringUTF16", name := "coderFromArrayLen", desc := "([BI)B" } : Jvm.MethodName)).before a0 Z = true := hw _ (List.mem_of_getElem? (i := 31) rfl)
theorem w32 {Z : State} {a0 : Array Value} (hw : ∀ d ∈ tables_1, d.before a0 Z = true) : (Jvm.Cond.code ({ cls := "java/lang/StringUTF16", name := "coderFromArrayLen", desc := "([BI)B" } : Jvm.MethodName) jdk_52_method_15_code (2 : Nat) (Option.some Jvm.ClassFile.FieldType.byte)).before a0 Z = true := hw _ (List.mem_of_getElem? (i := 32) rfl)
theorem w33 {Z : State} {a0 : Array Value} (hw : ∀ d ∈ tables_1, d.before a0 Z = true) : (Jvm.Cond.fieldLink "java/lang/String" (15 : Nat) "java/lang/String" "coder" "B").before a0 Z = true := hw _ (List.mem_of_getElem? (i := 33) rfl)
theorem w34 {Z : State} {a0 : Array Value} (hw : ∀ d ∈ tables_1, d.before a0 Z = true) : (Jvm.Cond.laysFinal "java/lang/String" "java/lang/String" "coder" "B").before a0 Z = true := hw _ (List.mem_of_getElem? (i := 34) rfl)
theorem w35 {Z : State} {a0 : Array Value} (hw : ∀ d ∈ tables_1, d.before a0 Z = true) : (Jvm.Cond.fieldLink "java/lang/String" (9 : Nat) "java/lang/String" "value" "[B").before a0 Z = true := hw _ (List.mem_of_getElem? (i := 35) rfl)
theorem w36 {Z : State} {a0 : Array Value} (hw : ∀ d ∈ tables_1, d.before a0 Z = true) : (Jvm.Cond.laysFinal "java/lang/String" "java/lang/String" "value" "[B").before a0 Z = true := hw _ (List.mem_of_getElem? (i := 36) rfl)
theorem w37 {Z : State} {a0 : Array Value} (hw : ∀ d ∈ tables_1, d.before a0 Z = true) : (Jvm.Cond.methodLink "com/example/lean_envelope/leanenvelope/check/ExceededLimitEqualsPinLaw" (26 : Nat) ({ cls := "com/example/lean_envelope/leanenvelope/check/ExceededLimitEqualsPinLaw", name := "mx", desc := "(J)J" } : Jvm.MethodName)).before a0 Z = true := hw _ (List.mem_of_getElem? (i := 37) rfl)
theorem w38 {Z : State} {a0 : Array Value} (hw : ∀ d ∈ tables_1, d.before a0 Z = true) : (Jvm.Cond.static ({ cls := "com/example/lean_envelope/leanenvelope/check/ExceededLimitEqualsPinLaw", name := "mx", desc := "(J)J" } : Jvm.MethodName)).before a0 Z = true := hw _ (List.mem_of_getElem? (i := 38) rfl)
theorem w39 {Z : State} {a0 : Array Value} (hw : ∀ d ∈ tables_1, d.before a0 Z = true) : (Jvm.Cond.code ({ cls := "com/example/lean_envelope/leanenvelope/check/ExceededLimitEqualsPinLaw", name := "mx", desc := "(J)J" } : Jvm.MethodName) method_4_code (4 : Nat) (Option.some Jvm.ClassFile.FieldType.long)).before a0 Z = true := hw _ (List.mem_of_getElem? (i := 39) rfl)
theorem w40 {Z : State} {a0 : Array Value} (hw : ∀ d ∈ tables_1, d.before a0 Z = true) : (Jvm.Cond.constantLong "com/example/lean_envelope/leanenvelope/check/ExceededLimitEqualsPinLaw" (14 : Nat) (9223372036854775807 : Int64)).before a0 Z = true := hw _ (List.mem_of_getElem? (i := 40) rfl)
theorem w41 {Z : State} {a0 : Array Value} (hw : ∀ d ∈ tables_1, d.before a0 Z = true) : (Jvm.Cond.methodLink "com/example/lean_envelope/leanenvelope/check/ExceededLimitEqualsPinLaw" (30 : Nat) ({ cls := "com/example/lean_envelope/leanenvelope/check/ExceededLimitEqualsPinLaw", name := "ac", desc := "(JJ)J" } : Jvm.MethodName)).before a0 Z = true := hw _ (List.mem_of_getElem? (i := 41) rfl)
theorem w42 {Z : State} {a0 : Array Value} (hw : ∀ d ∈ tables_1, d.before a0 Z = true) : (Jvm.Cond.static ({ cls := "com/example/lean_envelope/leanenvelope/check/ExceededLimitEqualsPinLaw", name := "ac", desc := "(JJ)J" } : Jvm.MethodName)).before a0 Z = true := hw _ (List.mem_of_getElem? (i := 42) rfl)
theorem w43 {Z : State} {a0 : Array Value} (hw : ∀ d ∈ tables_1, d.before a0 Z = true) : (Jvm.Cond.code ({ cls := "com/example/lean_envelope/leanenvelope/check/ExceededLimitEqualsPinLaw", name := "ac", desc := "(JJ)J" } : Jvm.MethodName) method_5_code (6 : Nat) (Option.some Jvm.ClassFile.FieldType.long)).before a0 Z = true := hw _ (List.mem_of_getElem? (i := 43) rfl)
theorem w44 {Z : State} {a0 : Array Value} (hw : ∀ d ∈ tables_1, d.before a0 Z = true) : (Jvm.Cond.fieldLink "com/example/lean_envelope/leanenvelope/check/ExceededLimitEqualsPinLaw" (40 : Nat) "com/example/lean_envelope/leanenvelope/check/ExceededLimit$Unit" "BYTES" "Lcom/example/lean_envelope/leanenvelope/check/ExceededLimit$Unit;").before a0 Z = true := hw _ (List.mem_of_getElem? (i := 44) rfl)
theorem w45 {Z : State} {a0 : Array Value} (hw : ∀ d ∈ tables_1, d.before a0 Z = true) : (Jvm.Cond.initialized "com/example/lean_envelope/leanenvelope/check/ExceededLimit$Unit").before a0 Z = true := hw _ (List.mem_of_getElem? (i := 45) rfl)
theorem w46 {Z : State} {a0 : Array Value} (hw : ∀ d ∈ tables_1, d.before a0 Z = true) : (Jvm.Cond.laysStatic "com/example/lean_envelope/leanenvelope/check/ExceededLimit$Unit" "BYTES" "Lcom/example/lean_envelope/leanenvelope/check/ExceededLimit$Unit;").before a0 Z = true := hw _ (List.mem_of_getElem? (i := 46) rfl)
theorem w47 {Z : State} {a0 : Array Value} (hw : ∀ d ∈ tables_1, d.before a0 Z = true) : (Jvm.Cond.classLink "com/example/lean_envelope/leanenvelope/check/ExceededLimitEqualsPinLaw" (43 : Nat) "com/example/lean_envelope/leanenvelope/check/ExceededLimit").before a0 Z = true := hw _ (List.mem_of_getElem? (i := 47) rfl)
theorem w48 {Z : State} {a0 : Array Value} (hw : ∀ d ∈ tables_1, d.before a0 Z = true) : (Jvm.Cond.instantiable "com/example/lean_envelope/leanenvelope/check/ExceededLimit" (4 : Nat)).before a0 Z = true := hw _ (List.mem_of_getElem? (i := 48) rfl)
theorem w49 {Z : State} {a0 : Array Value} (hw : ∀ d ∈ tables_1, d.before a0 Z = true) : (Jvm.Cond.initialized "com/example/lean_envelope/leanenvelope/check/ExceededLimit").before a0 Z = true := hw _ (List.mem_of_getElem? (i := 49) rfl)
theorem w50 {Z : State} {a0 : Array Value} (hw : ∀ d ∈ tables_1, d.before a0 Z = true) : (Jvm.Cond.methodLink "com/example/lean_envelope/leanenvelope/check/ExceededLimitEqualsPinLaw" (45 : Nat) ({ cls := "com/example/lean_envelope/leanenvelope/check/ExceededLimit", name := "<init>", desc := "(Ljava/lang/String;JJLcom/example/lean_envelope/leanenvelope/check/ExceededLimit$Unit;)V" } : Jvm.MethodName)).before a0 Z = true := hw _ (List.mem_of_getElem? (i := 50) rfl)
theorem w51 {Z : State} {a0 : Array Value} (hw : ∀ d ∈ tables_1, d.before a0 Z = true) : (Jvm.Cond.instanceMethod ({ cls := "com/example/lean_envelope/leanenvelope/check/ExceededLimit", name := "<init>", desc := "(Ljava/lang/String;JJLcom/example/lean_envelope/leanenvelope/check/ExceededLimit$Unit;)V" } : Jvm.MethodName)).before a0 Z = true := hw _ (List.mem_of_getElem? (i := 51) rfl)
theorem w52 {Z : State} {a0 : Array Value} (hw : ∀ d ∈ tables_1, d.before a0 Z = true) : (Jvm.Cond.code ({ cls := "com/example/lean_envelope/leanenvelope/check/ExceededLimit", name := "<init>", desc := "(Ljava/lang/String;JJLcom/example/lean_envelope/leanenvelope/check/ExceededLimit$Unit;)V" } : Jvm.MethodName) prog_2_method_1_code (7 : Nat) (Option.none : Option Jvm.ClassFile.FieldType)).before a0 Z = true := hw _ (List.mem_of_getElem? (i := 52) rfl)
theorem w53 {Z : State} {a0 : Array Value} (hw : ∀ d ∈ tables_1, d.before a0 Z = true) : (Jvm.Cond.methodLink "com/example/lean_envelope/leanenvelope/check/ExceededLimit" (1 : Nat) ({ cls := "java/lang/Object", name := "<init>", desc := "()V" } : Jvm.MethodName)).before a0 Z = true := hw _ (List.mem_of_getElem? (i := 53) rfl)
theorem w54 {Z : State} {a0 : Array Value} (hw : ∀ d ∈ tables_1, d.before a0 Z = true) : (Jvm.Cond.stringLink "com/example/lean_envelope/leanenvelope/check/ExceededLimit" (7 : Nat) "field").before a0 Z = true := hw _ (List.mem_of_getElem? (i := 54) rfl)
theorem w57 {Z : State} {a0 : Array Value} (hw : ∀ d ∈ tables_1, d.before a0 Z = true) : (Jvm.Cond.methodLink "com/example/lean_envelope/leanenvelope/check/ExceededLimit" (9 : Nat) ({ cls := "java/util/Objects", name := "requireNonNull", desc := "(Ljava/lang/Object;Ljava/lang/String;)Ljava/lang/Object;" } : Jvm.MethodName)).before a0 Z = true := hw _ (List.mem_of_getElem? (i := 57) rfl)
theorem w58 {Z : State} {a0 : Array Value} (hw : ∀ d ∈ tables_1, d.before a0 Z = true) : (Jvm.Cond.static ({ cls := "java/util/Objects", name := "requireNonNull", desc := "(Ljava/lang/Object;Ljava/lang/String;)Ljava/lang/Object;" } : Jvm.MethodName)).before a0 Z = true := hw _ (List.mem_of_getElem? (i := 58) rfl)
theorem w59 {Z : State} {a0 : Array Value} (hw : ∀ d ∈ tables_1, d.before a0 Z = true) : (Jvm.Cond.initialized "java/util/Objects").before a0 Z = true := hw _ (List.mem_of_getElem? (i := 59) rfl)
theorem w60 {Z : State} {a0 : Array Value} (hw : ∀ d ∈ tables_1, d.before a0 Z = true) : (Jvm.Cond.code ({ cls := "java/util/Objects", name := "requireNonNull", desc := "(Ljava/lang/Object;Ljava/lang/String;)Ljava/lang/Object;" } : Jvm.MethodName) jdk_31_method_11_code (2 : Nat) (Option.some (Jvm.ClassFile.FieldType.object "java/lang/Object"))).before a0 Z = true := hw _ (List.mem_of_getElem? (i := 60) rfl)
theorem w61 {Z : State} {a0 : Array Value} (hw : ∀ d ∈ tables_1, d.before a0 Z = true) : (Jvm.Cond.stringLink "com/example/lean_envelope/leanenvelope/check/ExceededLimit" (15 : Nat) "unit").before a0 Z = true := hw _ (List.mem_of_getElem? (i := 61) rfl)
theorem w62 {Z : State} {a0 : Array Value} (hw : ∀ d ∈ tables_1, d.before a0 Z = true) : (Jvm.Cond.methodLink "com/example/lean_envelope/leanenvelope/check/ExceededLimit" (17 : Nat) ({ cls := "java/lang/String", name := "isBlank", desc := "()Z" } : Jvm.MethodName)).before a0 Z = true := hw _ (List.mem_of_getElem? (i := 62) rfl)
theorem w63 {Z : State} {a0 : Array Value} (hw : ∀ d ∈ tables_1, d.before a0 Z = true) : (Jvm.Cond.declares ({ cls := "java/lang/String", name := "isBlank", desc := "()Z" } : Jvm.MethodName)).before a0 Z = true := hw _ (List.mem_of_getElem? (i := 63) rfl)
theorem w64 {Z : State} {a0 : Array Value} (hw : ∀ d ∈ tables_1, d.before a0 Z = true) : (Jvm.Cond.instanceMethod ({ cls := "java/lang/String", name := "isBlank", desc := "()Z" } : Jvm.MethodName)).before a0 Z = true := hw _ (List.mem_of_getElem? (i := 64) rfl)
theorem w65 {Z : State} {a0 : Array Value} (hw : ∀ d ∈ tables_1, d.before a0 Z = true) : (Jvm.Cond.selects "java/lang/String" ({ cls := "java/lang/String", name := "isBlank", desc := "()Z" } : Jvm.MethodName) ({ cls := "java/lang/String", name := "isBlank", desc := "()Z" } : Jvm.MethodName)).before a0 Z = true := hw _ (List.mem_of_getElem? (i := 65) rfl)
theorem w66 {Z : State} {a0 : Array Value} (hw : ∀ d ∈ tables_1, d.before a0 Z = true) : (Jvm.Cond.code ({ cls := "java/lang/String", name := "isBlank", desc := "()Z" } : Jvm.MethodName) jdk_42_method_117_code (1 : Nat) (Option.some Jvm.ClassFile.FieldType.boolean)).before a0 Z = true := hw _ (List.mem_of_getElem? (i := 66) rfl)
theorem w67 {Z : State} {a0 : Array Value} (hw : ∀ d ∈ tables_1, d.before a0 Z = true) : (Jvm.Cond.methodLink "java/lang/String" (876 : Nat) ({ cls := "java/lang/String", name := "indexOfNonWhitespace", desc := "()I" } : Jvm.MethodName)).before a0 Z = true := hw _ (List.mem_of_getElem? (i := 67) rfl)
theorem w68 {Z : State} {a0 : Array Value} (hw : ∀ d ∈ tables_1, d.before a0 Z = true) : (Jvm.Cond.instanceMethod ({ cls := "java/lang/String", name := "indexOfNonWhitespace", desc := "()I" } : Jvm.MethodName)).before a0 Z = true := hw _ (List.mem_of_getElem? (i := 68) rfl)
theorem w69 {Z : State} {a0 : Array Value} (hw : ∀ d ∈ tables_1, d.before a0 Z = true) : (Jvm.Cond.privateMethod ({ cls := "java/lang/String", name := "indexOfNonWhitespace", desc := "()I" } : Jvm.MethodName)).before a0 Z = true := hw _ (List.mem_of_getElem? (i := 69) rfl)
theorem w70 {Z : State} {a0 : Array Value} (hw : ∀ d ∈ tables_1, d.before a0 Z = true) : (Jvm.Cond.selects "java/lang/String" ({ cls := "java/lang/String", name := "indexOfNonWhitespace", desc := "()I" } : Jvm.MethodName) ({ cls := "java/lang/String", name := "indexOfNonWhitespace", desc := "()I" } : Jvm.MethodName)).before a0 Z = true := hw _ (List.mem_of_getElem? (i := 70) rfl)
theorem w71 {Z : State} {a0 : Array Value} (hw : ∀ d ∈ tables_1, d.before a0 Z = true) : (Jvm.Cond.code ({ cls := "java/lang/String", name := "indexOfNonWhitespace", desc := "()I" } : Jvm.MethodName) jdk_42_method_120_code (1 : Nat) (Option.some Jvm.ClassFile.FieldType.int)).before a0 Z = true := hw _ (List.mem_of_getElem? (i := 71) rfl)
theorem w72 {Z : State} {a0 : Array Value} (hw : ∀ d ∈ tables_1, d.before a0 Z = true) : (Jvm.Cond.methodLink "java/lang/String" (492 : Nat) ({ cls := "java/lang/String", name := "isLatin1", desc := "()Z" } : Jvm.MethodName)).before a0 Z = true := hw _ (List.mem_of_getElem? (i := 72) rfl)
theorem w73 {Z : State} {a0 : Array Value} (hw : ∀ d ∈ tables_1, d.before a0 Z = true) : (Jvm.Cond.declares ({ cls := "java/lang/String", name := "isLatin1", desc := "()Z" } : Jvm.MethodName)).before a0 Z = true := hw _ (List.mem_of_getElem? (i := 73) rfl)
theorem w74 {Z : State} {a0 : Array Value} (hw : ∀ d ∈ tables_1, d.before a0 Z = true) : (Jvm.Cond.instanceMethod ({ cls := "java/lang/String", name := "isLatin1", desc := "()Z" } : Jvm.MethodName)).before a0 Z = true := hw _ (List.mem_of_getElem? (i := 74) rfl)
theorem w75 {Z : State} {a0 : Array Value} (hw : ∀ d ∈ tables_1, d.before a0 Z = true) : (Jvm.Cond.selects "java/lang/String" ({ cls := "java/lang/String", name := "isLatin1", desc := "()Z" } : Jvm.MethodName) ({ cls := "java/lang/String", name := "isLatin1", desc := "()Z" } : Jvm.MethodName)).before a0 Z = true := hw _ (List.mem_of_getElem? (i := 75) rfl)
theorem w76 {Z : State} {a0 : Array Value} (hw : ∀ d ∈ tables_1, d.before a0 Z = true) : (Jvm.Cond.code ({ cls := "java/lang/String", name := "isLatin1", desc := "()Z" } : Jvm.MethodName) jdk_42_method_154_code (1 : Nat) (Option.some Jvm.ClassFile.FieldType.boolean)).before a0 Z = true := hw _ (List.mem_of_getElem? (i := 76) rfl)
theorem w77 {Z : State} {a0 : Array Value} (hw : ∀ d ∈ tables_1, d.before a0 Z = true) : (Jvm.Cond.methodLink "java/lang/String" (924 : Nat) ({ cls := "java/lang/StringLatin1", name := "indexOfNonWhitespace", desc := "([B)I" } : Jvm.MethodName)).before a0 Z = true := hw _ (List.mem_of_getElem? (i := 77) rfl)
theorem w78 {Z : State} {a0 : Array Value} (hw : ∀ d ∈ tables_1, d.before a0 Z = true) : (Jvm.Cond.static ({ cls := "java/lang/StringLatin1", name := "indexOfNonWhitespace", desc := "([B)I" } : Jvm.MethodName)).before a0 Z = true := hw _ (List.mem_of_getElem? (i := 78) rfl)
theorem w79 {Z : State} {a0 : Array Value} (hw : ∀ d ∈ tables_1, d.before a0 Z = true) : (Jvm.Cond.initialized "java/lang/StringLatin1").before a0 Z = true := hw _ (List.mem_of_getElem? (i := 79) rfl)
theorem w80 {Z : State} {a0 : Array Value} (hw : ∀ d ∈ tables_1, d.before a0 Z = true) : (Jvm.Cond.code ({ cls := "java/lang/StringLatin1", name := "indexOfNonWhitespace", desc := "([B)I" } : Jvm.MethodName) jdk_43_method_37_code (4 : Nat) (Option.some Jvm.ClassFile.FieldType.int)).before a0 Z = true := hw _ (List.mem_of_getElem? (i := 80) rfl)
theorem w81 {Z : State} {a0 : Array Value} (hw : ∀ d ∈ tables_1, d.before a0 Z = true) : (Jvm.Cond.methodLink "java/lang/StringLatin1" (50 : Nat) ({ cls := "java/lang/StringLatin1", name := "getChar", desc := "([BI)C" } : Jvm.MethodName)).before a0 Z = true := hw _ (List.mem_of_getElem? (i := 81) rfl)
theorem w82 {Z : State} {a0 : Array Value} (hw : ∀ d ∈ tables_1, d.before a0 Z = true) : (Jvm.Cond.static ({ cls := "java/lang/StringLatin1", name := "getChar", desc := "([BI)C" } : Jvm.MethodName)).before a0 Z = true := hw _ (List.mem_of_getElem? (i := 82) rfl)
theorem w83 {Z : State} {a0 : Array Value} (hw : ∀ d ∈ tables_1, d.before a0 Z = true) : (Jvm.Cond.code ({ cls := "java/lang/StringLatin1", name := "getChar", desc := "([BI)C" } : Jvm.MethodName) jdk_43_method_44_code (2 : Nat) (Option.some Jvm.ClassFile.FieldType.char)).before a0 Z = true := hw _ (List.mem_of_getElem? (i := 83) rfl)
theorem w84 {Z : State} {a0 : Array Value} (hw : ∀ d ∈ tables_1, d.before a0 Z = true) : (Jvm.Cond.fieldLink "java/lang/StringLatin1" (66 : Nat) "java/lang/CharacterDataLatin1" "instance" "Ljava/lang/CharacterDataLatin1;").before a0 Z = true := hw _ (List.mem_of_getElem? (i := 84) rfl)
theorem w85 {Z : State} {a0 : Array Value} (hw : ∀ d ∈ tables_1, d.before a0 Z = true) : (Jvm.Cond.initialized "java/lang/CharacterDataLatin1").before a0 Z = true := hw _ (List.mem_of_getElem? (i := 85) rfl)
theorem w86 {Z : State} {a0 : Array Value} (hw : ∀ d ∈ tables_1, d.before a0 Z = true) : (Jvm.Cond.methodLink "java/lang/StringLatin1" (211 : Nat) ({ cls := "java/lang/CharacterDataLatin1", name := "isWhitespace", desc := "(I)Z" } : Jvm.MethodName)).before a0 Z = true := hw _ (List.mem_of_getElem? (i := 86) rfl)
theorem w87 {Z : State} {a0 : Array Value} (hw : ∀ d ∈ tables_1, d.before a0 Z = true) : (Jvm.Cond.declares ({ cls := "java/lang/CharacterDataLatin1", name := "isWhitespace", desc := "(I)Z" } : Jvm.MethodName)).before a0 Z = true := hw _ (List.mem_of_getElem? (i := 87) rfl)
theorem w88 {Z : State} {a0 : Array Value} (hw : ∀ d ∈ tables_1, d.before a0 Z = true) : (Jvm.Cond.instanceMethod ({ cls := "java/lang/CharacterDataLatin1", name := "isWhitespace", desc := "(I)Z" } : Jvm.MethodName)).before a0 Z = true := hw _ (List.mem_of_getElem? (i := 88) rfl)
theorem w89 {Z : State} {a0 : Array Value} (hw : ∀ d ∈ tables_1, d.before a0 Z = true) : (Jvm.Cond.selects "java/lang/CharacterDataLatin1" ({ cls := "java/lang/CharacterDataLatin1", name := "isWhitespace", desc := "(I)Z" } : Jvm.MethodName) ({ cls := "java/lang/CharacterDataLatin1", name := "isWhitespace", desc := "(I)Z" } : Jvm.MethodName)).before a0 Z = true := hw _ (List.mem_of_getElem? (i := 89) rfl)
theorem w90 {Z : State} {a0 : Array Value} (hw : ∀ d ∈ tables_1, d.before a0 Z = true) : (Jvm.Cond.code ({ cls := "java/lang/CharacterDataLatin1", name := "isWhitespace", desc := "(I)Z" } : Jvm.MethodName) jdk_116_method_26_code (3 : Nat) (Option.some Jvm.ClassFile.FieldType.boolean)).before a0 Z = true := hw _ (List.mem_of_getElem? (i := 90) rfl)
theorem w91 {Z : State} {a0 : Array Value} (hw : ∀ d ∈ tables_1, d.before a0 Z = true) : (Jvm.Cond.methodLink "java/lang/CharacterDataLatin1" (15 : Nat) ({ cls := "java/lang/CharacterDataLatin1", name := "getProperties", desc := "(I)I" } : Jvm.MethodName)).before a0 Z = true := hw _ (List.mem_of_getElem? (i := 91) rfl)
theorem w92 {Z : State} {a0 : Array Value} (hw : ∀ d ∈ tables_1, d.before a0 Z = true) : (Jvm.Cond.declares ({ cls := "java/lang/CharacterDataLatin1", name := "getProperties", desc := "(I)I" } : Jvm.MethodName)).before a0 Z = true := hw _ (List.mem_of_getElem? (i := 92) rfl)
theorem w93 {Z : State} {a0 : Array Value} (hw : ∀ d ∈ tables_1, d.before a0 Z = true) : (Jvm.Cond.instanceMethod ({ cls := "java/lang/CharacterDataLatin1", name := "getProperties", desc := "(I)I" } : Jvm.MethodName)).before a0 Z = true := hw _ (List.mem_of_getElem? (i := 93) rfl)
theorem w94 {Z : State} {a0 : Array Value} (hw : ∀ d ∈ tables_1, d.before a0 Z = true) : (Jvm.Cond.selects "java/lang/CharacterDataLatin1" ({ cls := "java/lang/CharacterDataLatin1", name := "getProperties", desc := "(I)I" } : Jvm.MethodName) ({ cls := "java/lang/CharacterDataLatin1", name := "getProperties", desc := "(I)I" } : Jvm.MethodName)).before a0 Z = true := hw _ (List.mem_of_getElem? (i := 94) rfl)
theorem w95 {Z : State} {a0 : Array Value} (hw : ∀ d ∈ tables_1, d.before a0 Z = true) : (Jvm.Cond.code ({ cls := "java/lang/CharacterDataLatin1", name := "getProperties", desc := "(I)I" } : Jvm.MethodName) jdk_116_method_1_code (4 : Nat) (Option.some Jvm.ClassFile.FieldType.int)).before a0 Z = true := hw _ (List.mem_of_getElem? (i := 95) rfl)
theorem w96 {Z : State} {a0 : Array Value} (hw : ∀ d ∈ tables_1, d.before a0 Z = true) : (Jvm.Cond.fieldLink "java/lang/CharacterDataLatin1" (1 : Nat) "java/lang/CharacterDataLatin1" "A" "[I").before a0 Z = true := hw _ (List.mem_of_getElem? (i := 96) rfl)
theorem w97 {Z : State} {a0 : Array Value} (hw : ∀ d ∈ tables_1, d.before a0 Z = true) : (Jvm.Cond.methodLink "java/lang/String" (505 : Nat) ({ cls := "java/lang/String", name := "length", desc := "()I" } : Jvm.MethodName)).before a0 Z = true := hw _ (List.mem_of_getElem? (i := 97) rfl)
theorem w98 {Z : State} {a0 : Array Value} (hw : ∀ d ∈ tables_1, d.before a0 Z = true) : (Jvm.Cond.declares ({ cls := "java/lang/String", name := "length", desc := "()I" } : Jvm.MethodName)).before a0 Z = true := hw _ (List.mem_of_getElem? (i := 98) rfl)
theorem w99 {Z : State} {a0 : Array Value} (hw : ∀ d ∈ tables_1, d.before a0 Z = true) : (Jvm.Cond.instanceMethod ({ cls := "java/lang/String", name := "length", desc := "()I" } : Jvm.MethodName)).before a0 Z = true := hw _ (List.mem_of_getElem? (i := 99) rfl)
theorem w100 {Z : State} {a0 : Array Value} (hw : ∀ d ∈ tables_1, d.before a0 Z = true) : (Jvm.Cond.selects "java/lang/String" ({ cls := "java/lang/String", name := "length", desc := "()I" } : Jvm.MethodName) ({ cls := "java/lang/String", name := "length", desc := "()I" } : Jvm.MethodName)).before a0 Z = true := hw _ (List.mem_of_getElem? (i := 100) rfl)
theorem w101 {Z : State} {a0 : Array Value} (hw : ∀ d ∈ tables_1, d.before a0 Z = true) : (Jvm.Cond.code ({ cls := "java/lang/String", name := "length", desc := "()I" } : Jvm.MethodName) jdk_42_method_54_code (1 : Nat) (Option.some Jvm.ClassFile.FieldType.int)).before a0 Z = true := hw _ (List.mem_of_getElem? (i := 101) rfl)
theorem w102 {Z : State} {a0 : Array Value} (hw : ∀ d ∈ tables_1, d.before a0 Z = true) : (Jvm.Cond.methodLink "java/lang/String" (335 : Nat) ({ cls := "java/lang/String", name := "coder", desc := "()B" } : Jvm.MethodName)).before a0 Z = true := hw _ (List.mem_of_getElem? (i := 102) rfl)
theorem w103 {Z : State} {a0 : Array Value} (hw : ∀ d ∈ tables_1, d.before a0 Z = true) : (Jvm.Cond.declares ({ cls := "java/lang/String", name := "coder", desc := "()B" } : Jvm.MethodName)).before a0 Z = true := hw _ (List.mem_of_getElem? (i := 103) rfl)
theorem w104 {Z : State} {a0 : Array Value} (hw : ∀ d ∈ tables_1, d.before a0 Z = true) : (Jvm.Cond.instanceMethod ({ cls := "java/lang/String", name := "coder", desc := "()B" } : Jvm.MethodName)).before a0 Z = true := hw _ (List.mem_of_getElem? (i := 104) rfl)
theorem w105 {Z : State} {a0 : Array Value} (hw : ∀ d ∈ tables_1, d.before a0 Z = true) : (Jvm.Cond.selects "java/lang/String" ({ cls := "java/lang/String", name := "coder", desc := "()B" } : Jvm.MethodName) ({ cls := "java/lang/String", name := "coder", desc := "()B" } : Jvm.MethodName)).before a0 Z = true := hw _ (List.mem_of_getElem? (i := 105) rfl)
theorem w106 {Z : State} {a0 : Array Value} (hw : ∀ d ∈ tables_1, d.before a0 Z = true) : (Jvm.Cond.code ({ cls := "java/lang/String", name := "coder", desc := "()B" } : Jvm.MethodName) jdk_42_method_152_code (1 : Nat) (Option.some Jvm.ClassFile.FieldType.byte)).before a0 Z = true := hw _ (List.mem_of_getElem? (i := 106) rfl)
theorem w107 {Z : State} {a0 : Array Value} (hw : ∀ d ∈ tables_1, d.before a0 Z = true) : (Jvm.Cond.fieldLink "com/example/lean_envelope/leanenvelope/check/ExceededLimit" (40 : Nat) "com/example/lean_envelope/leanenvelope/check/ExceededLimit" "field" "Ljava/lang/String;").before a0 Z = true := hw _ (List.mem_of_getElem? (i := 107) rfl)
theorem w108 {Z : State} {a0 : Array Value} (hw : ∀ d ∈ tables_1, d.before a0 Z = true) : (Jvm.Cond.laysFinal "com/example/lean_envelope/leanenvelope/check/ExceededLimit" "com/example/lean_envelope/leanenvelope/check/ExceededLimit" "field" "Ljava/lang/String;").before a0 Z = true := hw _ (List.mem_of_getElem? (i := 108) rfl)
theorem w109 {Z : State} {a0 : Array Value} (hw : ∀ d ∈ tables_1, d.before a0 Z = true) : (Jvm.Cond.fieldLink "com/example/lean_envelope/leanenvelope/check/ExceededLimit" (45 : Nat) "com/example/lean_envelope/leanenvelope/check/ExceededLimit" "actual" "J").before a0 Z = true := hw _ (List.mem_of_getElem? (i := 109) rfl)
theorem w110 {Z : State} {a0 : Array Value} (hw : ∀ d ∈ tables_1, d.before a0 Z = true) : (Jvm.Cond.laysFinal "com/example/lean_envelope/leanenvelope/check/ExceededLimit" "com/example/lean_envelope/leanenvelope/check/ExceededLimit" "actual" "J").before a0 Z = true := hw _ (List.mem_of_getElem? (i := 110) rfl)
theorem w111 {Z : State} {a0 : Array Value} (hw : ∀ d ∈ tables_1, d.before a0 Z = true) : (Jvm.Cond.fieldLink "com/example/lean_envelope/leanenvelope/check/ExceededLimit" (49 : Nat) "com/example/lean_envelope/leanenvelope/check/ExceededLimit" "maximum" "J").before a0 Z = true := hw _ (List.mem_of_getElem? (i := 111) rfl)
theorem w112 {Z : State} {a0 : Array Value} (hw : ∀ d ∈ tables_1, d.before a0 Z = true) : (Jvm.Cond.laysFinal "com/example/lean_envelope/leanenvelope/check/ExceededLimit" "com/example/lean_envelope/leanenvelope/check/ExceededLimit" "maximum" "J").before a0 Z = true := hw _ (List.mem_of_getElem? (i := 112) rfl)
theorem w113 {Z : State} {a0 : Array Value} (hw : ∀ d ∈ tables_1, d.before a0 Z = true) : (Jvm.Cond.fieldLink "com/example/lean_envelope/leanenvelope/check/ExceededLimit" (52 : Nat) "com/example/lean_envelope/leanenvelope/check/ExceededLimit" "unit" "Lcom/example/lean_envelope/leanenvelope/check/ExceededLimit$Unit;").before a0 Z = true := hw _ (List.mem_of_getElem? (i := 113) rfl)
theorem w114 {Z : State} {a0 : Array Value} (hw : ∀ d ∈ tables_1, d.before a0 Z = true) : (Jvm.Cond.laysFinal "com/example/lean_envelope/leanenvelope/check/ExceededLimit" "com/example/lean_envelope/leanenvelope/check/ExceededLimit" "unit" "Lcom/example/lean_envelope/leanenvelope/check/ExceededLimit$Unit;").before a0 Z = true := hw _ (List.mem_of_getElem? (i := 114) rfl)
theorem w115 {Z : State} {a0 : Array Value} (hw : ∀ d ∈ tables_1, d.before a0 Z = true) : (Jvm.Cond.methodLink "com/example/lean_envelope/leanenvelope/check/ExceededLimitEqualsPinLaw" (48 : Nat) ({ cls := "com/example/lean_envelope/leanenvelope/check/ExceededLimit", name := "equals", desc := "(Ljava/lang/Object;)Z" } : Jvm.MethodName)).before a0 Z = true := hw _ (List.mem_of_getElem? (i := 115) rfl)
theorem w116 {Z : State} {a0 : Array Value} (hw : ∀ d ∈ tables_1, d.before a0 Z = true) : (Jvm.Cond.declares ({ cls := "com/example/lean_envelope/leanenvelope/check/ExceededLimit", name := "equals", desc := "(Ljava/lang/Object;)Z" } : Jvm.MethodName)).before a0 Z = true := hw _ (List.mem_of_getElem? (i := 116) rfl)
theorem w117 {Z : State} {a0 : Array Value} (hw : ∀ d ∈ tables_1, d.before a0 Z = true) : (Jvm.Cond.instanceMethod ({ cls := "com/example/lean_envelope/leanenvelope/check/ExceededLimit", name := "equals", desc := "(Ljava/lang/Object;)Z" } : Jvm.MethodName)).before a0 Z = true := hw _ (List.mem_of_getElem? (i := 117) rfl)
theorem w118 {Z : State} {a0 : Array Value} (hw : ∀ d ∈ tables_1, d.before a0 Z = true) : (Jvm.Cond.selects "com/example/lean_envelope/leanenvelope/check/ExceededLimit" ({ cls := "com/example/lean_envelope/leanenvelope/check/ExceededLimit", name := "equals", desc := "(Ljava/lang/Object;)Z" } : Jvm.MethodName) ({ cls := "com/example/lean_envelope/leanenvelope/check/ExceededLimit", name := "equals", desc := "(Ljava/lang/Object;)Z" } : Jvm.MethodName)).before a0 Z = true := hw _ (List.mem_of_getElem? (i := 118) rfl)
theorem w119 {Z : State} {a0 : Array Value} (hw : ∀ d ∈ tables_1, d.before a0 Z = true) : (Jvm.Cond.code ({ cls := "com/example/lean_envelope/leanenvelope/check/ExceededLimit", name := "equals", desc := "(Ljava/lang/Object;)Z" } : Jvm.MethodName) prog_2_method_6_code (4 : Nat) (Option.some Jvm.ClassFile.FieldType.boolean)).before a0 Z = true := hw _ (List.mem_of_getElem? (i := 119) rfl)
theorem w120 {Z : State} {a0 : Array Value} (hw : ∀ d ∈ tables_1, d.before a0 Z = true) : (Jvm.Cond.classLink "com/example/lean_envelope/leanenvelope/check/ExceededLimit" (41 : Nat) "com/example/lean_envelope/leanenvelope/check/ExceededLimit").before a0 Z = true := hw _ (List.mem_of_getElem? (i := 120) rfl)
theorem w122 {Z : State} {a0 : Array Value} (hw : ∀ d ∈ tables_1, d.before a0 Z = true) : (Jvm.Cond.methodLink "com/example/lean_envelope/leanenvelope/check/ExceededLimit" (55 : Nat) ({ cls := "java/lang/String", name := "equals", desc := "(Ljava/lang/Object;)Z" } : Jvm.MethodName)).before a0 Z = true := hw _ (List.mem_of_getElem? (i := 122) rfl)
theorem w123 {Z : State} {a0 : Array Value} (hw : ∀ d ∈ tables_1, d.before a0 Z = true) : (Jvm.Cond.declares ({ cls := "java/lang/String", name := "equals", desc := "(Ljava/lang/Object;)Z" } : Jvm.MethodName)).before a0 Z = true := hw _ (List.mem_of_getElem? (i := 123) rfl)
theorem w124 {Z : State} {a0 : Array Value} (hw : ∀ d ∈ tables_1, d.before a0 Z = true) : (Jvm.Cond.instanceMethod ({ cls := "java/lang/String", name := "equals", desc := "(Ljava/lang/Object;)Z" } : Jvm.MethodName)).before a0 Z = true := hw _ (List.mem_of_getElem? (i := 124) rfl)
theorem w125 {Z : State} {a0 : Array Value} (hw : ∀ d ∈ tables_1, d.before a0 Z = true) : (Jvm.Cond.selects "java/lang/String" ({ cls := "java/lang/String", name := "equals", desc := "(Ljava/lang/Object;)Z" } : Jvm.MethodName) ({ cls := "java/lang/String", name := "equals", desc := "(Ljava/lang/Object;)Z" } : Jvm.MethodName)).before a0 Z = true := hw _ (List.mem_of_getElem? (i := 125) rfl)
theorem w126 {Z : State} {a0 : Array Value} (hw : ∀ d ∈ tables_1, d.before a0 Z = true) : (Jvm.Cond.code ({ cls := "java/lang/String", name := "equals", desc := "(Ljava/lang/Object;)Z" } : Jvm.MethodName) jdk_42_method_66_code (3 : Nat) (Option.some Jvm.ClassFile.FieldType.boolean)).before a0 Z = true := hw _ (List.mem_of_getElem? (i := 126) rfl)
theorem w127 {Z : State} {a0 : Array Value} (hw : ∀ d ∈ tables_1, d.before a0 Z = true) : (Jvm.Cond.classLink "java/lang/String" (10 : Nat) "java/lang/String").before a0 Z = true := hw _ (List.mem_of_getElem? (i := 127) rfl)
theorem w128 {Z : State} {a0 : Array Value} (hw : ∀ d ∈ tables_1, d.before a0 Z = true) : (Jvm.Cond.methodLink "java/lang/String" (541 : Nat) ({ cls := "java/lang/StringLatin1", name := "equals", desc := "([B[B)Z" } : Jvm.MethodName)).before a0 Z = true := hw _ (List.mem_of_getElem? (i := 128) rfl)
theorem w129 {Z : State} {a0 : Array Value} (hw : ∀ d ∈ tables_1, d.before a0 Z = true) : (Jvm.Cond.static ({ cls := "java/lang/StringLatin1", name := "equals", desc := "([B[B)Z" } : Jvm.MethodName)).before a0 Z = true := hw _ (List.mem_of_getElem? (i := 129) rfl)
theorem w130 {Z : State} {a0 : Array Value} (hw : ∀ d ∈ tables_1, d.before a0 Z = true) : (Jvm.Cond.code ({ cls := "java/lang/StringLatin1", name := "equals", desc := "([B[B)Z" } : Jvm.MethodName) jdk_43_method_13_code (3 : Nat) (Option.some Jvm.ClassFile.FieldType.boolean)).before a0 Z = true := hw _ (List.mem_of_getElem? (i := 130) rfl)
theorem w131 {Z : State} {a0 : Array Value} (hw : ∀ d ∈ tables_1, d.before a0 Z = true) : (Jvm.Cond.superclass "java/lang/String" "java/lang/Object").before a0 Z = true := hw _ (List.mem_of_getElem? (i := 131) rfl)
theorem w132 {Z : State} {a0 : Array Value} (hw : ∀ d ∈ tables_1, d.before a0 Z = true) : (Jvm.Cond.noSuperclass "java/lang/Object").before a0 Z = true := hw _ (List.mem_of_getElem? (i := 132) rfl)
theorem w133 {Z : State} {a0 : Array Value} (hw : ∀ d ∈ tables_1, d.before a0 Z = true) : (Jvm.Cond.methodLink "com/example/lean_envelope/leanenvelope/check/ExceededLimitEqualsPinLaw" (52 : Nat) ({ cls := "java/lang/Long", name := "valueOf", desc := "(J)Ljava/lang/Long;" } : Jvm.MethodName)).before a0 Z = true := hw _ (List.mem_of_getElem? (i := 133) rfl)
theorem w134 {Z : State} {a0 : Array Value} (hw : ∀ d ∈ tables_1, d.before a0 Z = true) : (Jvm.Cond.static ({ cls := "java/lang/Long", name := "valueOf", desc := "(J)Ljava/lang/Long;" } : Jvm.MethodName)).before a0 Z = true := hw _ (List.mem_of_getElem? (i := 134) rfl)
theorem w135 {Z : State} {a0 : Array Value} (hw : ∀ d ∈ tables_1, d.before a0 Z = true) : (Jvm.Cond.initialized "java/lang/Long").before a0 Z = true := hw _ (List.mem_of_getElem? (i := 135) rfl)
theorem w136 {Z : State} {a0 : Array Value} (hw : ∀ d ∈ tables_1, d.before a0 Z = true) : (Jvm.Cond.code ({ cls := "java/lang/Long", name := "valueOf", desc := "(J)Ljava/lang/Long;" } : Jvm.MethodName) jdk_35_method_24_code (3 : Nat) (Option.some (Jvm.ClassFile.FieldType.object "java/lang/Long"))).before a0 Z = true := hw _ (List.mem_of_getElem? (i := 136) rfl)
theorem w137 {Z : State} {a0 : Array Value} (hw : ∀ d ∈ tables_1, d.before a0 Z = true) : (Jvm.Cond.constantLong "java/lang/Long" (230 : Nat) (-128 : Int64)).before a0 Z = true := hw _ (List.mem_of_getElem? (i := 137) rfl)
theorem w138 {Z : State} {a0 : Array Value} (hw : ∀ d ∈ tables_1, d.before a0 Z = true) : (Jvm.Cond.constantLong "java/lang/Long" (232 : Nat) (127 : Int64)).before a0 Z = true := hw _ (List.mem_of_getElem? (i := 138) rfl)
theorem w139 {Z : State} {a0 : Array Value} (hw : ∀ d ∈ tables_1, d.before a0 Z = true) : (Jvm.Cond.classLink "java/lang/Long" (1 : Nat) "java/lang/Long").before a0 Z = true := hw _ (List.mem_of_getElem? (i := 139) rfl)
theorem w140 {Z : State} {a0 : Array Value} (hw : ∀ d ∈ tables_1, d.before a0 Z = true) : (Jvm.Cond.instantiable "java/lang/Long" (1 : Nat)).before a0 Z = true := hw _ (List.mem_of_getElem? (i := 140) rfl)
theorem w141 {Z : State} {a0 : Array Value} (hw : ∀ d ∈ tables_1, d.before a0 Z = true) : (Jvm.Cond.methodLink "java/lang/Long" (240 : Nat) ({ cls := "java/lang/Long", name := "<init>", desc := "(J)V" } : Jvm.MethodName)).before a0 Z = true := hw _ (List.mem_of_getElem? (i := 141) rfl)
theorem w142 {Z : State} {a0 : Array Value} (hw : ∀ d ∈ tables_1, d.before a0 Z = true) : (Jvm.Cond.instanceMethod ({ cls := "java/lang/Long", name := "<init>", desc := "(J)V" } : Jvm.MethodName)).before a0 Z = true := hw _ (List.mem_of_getElem? (i := 142) rfl)
theorem w144 {Z : State} {a0 : Array Value} (hw : ∀ d ∈ tables_1, d.before a0 Z = true) : (Jvm.Cond.code ({ cls := "java/lang/Long", name := "<init>", desc := "(J)V" } : Jvm.MethodName) jdk_35_method_26_code (3 : Nat) (Option.none : Option Jvm.ClassFile.FieldType)).before a0 Z = true := hw _ (List.mem_of_getElem? (i := 144) rfl)
theorem w145 {Z : State} {a0 : Array Value} (hw : ∀ d ∈ tables_1, d.before a0 Z = true) : (Jvm.Cond.methodLink "java/lang/Long" (270 : Nat) ({ cls := "java/lang/Number", name := "<init>", desc := "()V" } : Jvm.MethodName)).before a0 Z = true := hw _ (List.mem_of_getElem? (i := 145) rfl)
theorem w146 {Z : State} {a0 : Array Value} (hw : ∀ d ∈ tables_1, d.before a0 Z = true) : (Jvm.Cond.instanceMethod ({ cls := "java/lang/Number", name := "<init>", desc := "()V" } : Jvm.MethodName)).before a0 Z = true := hw _ (List.mem_of_getElem? (i := 146) rfl)
theorem w149 {Z : State} {a0 : Array Value} (hw : ∀ d ∈ tables_1, d.before a0 Z = true) : (Jvm.Cond.initialized "java/lang/Number").before a0 Z = true := hw _ (List.mem_of_getElem? (i := 149) rfl)
theorem w150 {Z : State} {a0 : Array Value} (hw : ∀ d ∈ tables_1, d.before a0 Z = true) : (Jvm.Cond.code ({ cls := "java/lang/Number", name := "<init>", desc := "()V" } : Jvm.MethodName) jdk_18_method_1_code (1 : Nat) (Option.none : Option Jvm.ClassFile.FieldType)).before a0 Z = true := hw _ (List.mem_of_getElem? (i := 150) rfl)
theorem w151 {Z : State} {a0 : Array Value} (hw : ∀ d ∈ tables_1, d.before a0 Z = true) : (Jvm.Cond.methodLink "java/lang/Number" (1 : Nat) ({ cls := "java/lang/Object", name := "<init>", desc := "()V" } : Jvm.MethodName)).before a0 Z = true := hw _ (List.mem_of_getElem? (i := 151) rfl)
theorem w152 {Z : State} {a0 : Array Value} (hw : ∀ d ∈ tables_1, d.before a0 Z = true) : (Jvm.Cond.fieldLink "java/lang/Long" (273 : Nat) "java/lang/Long" "value" "J").before a0 Z = true := hw _ (List.mem_of_getElem? (i := 152) rfl)
theorem w153 {Z : State} {a0 : Array Value} (hw : ∀ d ∈ tables_1, d.before a0 Z = true) : (Jvm.Cond.laysFinal "java/lang/Long" "java/lang/Long" "value" "J").before a0 Z = true := hw _ (List.mem_of_getElem? (i := 153) rfl)
theorem w154 {Z : State} {a0 : Array Value} (hw : ∀ d ∈ tables_1, d.before a0 Z = true) : (Jvm.Cond.superclass "java/lang/Long" "java/lang/Number").before a0 Z = true := hw _ (List.mem_of_getElem? (i := 154) rfl)
theorem w155 {Z : State} {a0 : Array Value} (hw : ∀ d ∈ tables_1, d.before a0 Z = true) : (Jvm.Cond.superclass "java/lang/Number" "java/lang/Object").before a0 Z = true := hw _ (List.mem_of_getElem? (i := 155) rfl)
theorem w156 {Z : State} {a0 : Array Value} (hw : ∀ d ∈ tables_1, d.before a0 Z = true) : (Jvm.Cond.fieldLink "com/example/lean_envelope/leanenvelope/check/ExceededLimitEqualsPinLaw" (34 : Nat) "com/example/lean_envelope/leanenvelope/check/ExceededLimit$Unit" "JOBS" "Lcom/example/lean_envelope/leanenvelope/check/ExceededLimit$Unit;").before a0 Z = true := hw _ (List.mem_of_getElem? (i := 156) rfl)
theorem w157 {Z : State} {a0 : Array Value} (hw : ∀ d ∈ tables_1, d.before a0 Z = true) : (Jvm.Cond.laysStatic "com/example/lean_envelope/leanenvelope/check/ExceededLimit$Unit" "JOBS" "Lcom/example/lean_envelope/leanenvelope/check/ExceededLimit$Unit;").before a0 Z = true := hw _ (List.mem_of_getElem? (i := 157) rfl)
theorem w158 {Z : State} {a0 : Array Value} (hw : ∀ d ∈ tables_1, d.before a0 Z = true) : (Jvm.Cond.fieldLink "java/lang/Long" (234 : Nat) "java/lang/Long$LongCache" "cache" "[Ljava/lang/Long;").before a0 Z = true := hw _ (List.mem_of_getElem? (i := 158) rfl)
theorem d_jdk_52_21_0 : D jdk_52_method_21_code 0 (.iconst 0) 1 1 := And.intro (by decide +kernel) rfl
theorem d_jdk_52_21_1 : D jdk_52_method_21_code 1 (.istore 5) 2 3 := And.intro (by decide +kernel) rfl
theorem d_jdk_52_21_3 : D jdk_52_method_21_code 3 (.iload 5) 2 5 := And.intro (by decide +kernel) rfl
theorem d_jdk_52_21_5 : D jdk_52_method_21_code 5 (.iload 4) 2 7 := And.intro (by decide +kernel) rfl
theorem d_jdk_52_21_7 : D jdk_52_method_21_code 7 (.if_icmp .ge 37) 3 10 := And.intro (by decide +kernel) rfl
theorem d_jdk_52_21_44 : D jdk_52_method_21_code 44 (.iload 4) 2 46 := And.intro (by decide +kernel) rfl
theorem d_jdk_52_21_46 : D jdk_52_method_21_code 46 (.ireturn) 1 47 := And.intro (by decide +kernel) rfl
theorem d_jdk_52_21_10 : D jdk_52_method_21_code 10 (.aload_n 0) 1 11 := And.intro (by decide +kernel) rfl
theorem d_jdk_52_21_11 : D jdk_52_method_21_code 11 (.iload_n 1) 1 12 := And.intro (by decide +kernel) rfl
theorem d_jdk_52_21_12 : D jdk_52_method_21_code 12 (.caload) 1 13 := And.intro (by decide +kernel) rfl
theorem d_jdk_52_21_13 : D jdk_52_method_21_code 13 (.istore 6) 2 15 := And.intro (by decide +kernel) rfl
theorem d_jdk_52_21_15 : D jdk_52_method_21_code 15 (.iload 6) 2 17 := And.intro (by decide +kernel) rfl
theorem d_jdk_52_21_17 : D jdk_52_method_21_code 17 (.sipush 255) 3 20 := And.intro (by decide +kernel) rfl
theorem d_jdk_52_21_20 : D jdk_52_method_21_code 20 (.if_icmp .le 6) 3 23 := And.intro (by decide +kernel) rfl
theorem d_jdk_52_21_26 : D jdk_52_method_21_code 26 (.aload_n 2) 1 27 := And.intro (by decide +kernel) rfl
theorem d_jdk_52_21_27 : D jdk_52_method_21_code 27 (.iload_n 3) 1 28 := And.intro (by decide +kernel) rfl
theorem d_jdk_52_21_28 : D jdk_52_method_21_code 28 (.iload 6) 2 30 := And.intro (by decide +kernel) rfl
theorem d_jdk_52_21_30 : D jdk_52_method_21_code 30 (.i2b) 1 31 := And.intro (by decide +kernel) rfl
theorem d_jdk_52_21_31 : D jdk_52_method_21_code 31 (.bastore) 1 32 := And.intro (by decide +kernel) rfl
theorem d_jdk_52_21_32 : D jdk_52_method_21_code 32 (.iinc 1 1) 3 35 := And.intro (by decide +kernel) rfl
theorem d_jdk_52_21_35 : D jdk_52_method_21_code 35 (.iinc 3 1) 3 38 := And.intro (by decide +kernel) rfl
theorem d_jdk_52_21_38 : D jdk_52_method_21_code 38 (.iinc 5 1) 3 41 := And.intro (by decide +kernel) rfl
theorem d_jdk_52_21_41 : D jdk_52_method_21_code 41 (.goto (-38)) 3 44 := And.intro (by decide +kernel) rfl
theorem pn0 : plainName "java/lang/StringUTF16" = true := by first | (simp [plainName, overriddenIn]; done) | decide +kernel
theorem d_jdk_52_16_0 : D jdk_52_method_16_code 0 (.iload_n 2) 1 1 := And.intro (by decide +kernel) rfl
theorem d_jdk_52_16_1 : D jdk_52_method_16_code 1 (.newarray .byte) 2 3 := And.intro (by decide +kernel) rfl
theorem d_jdk_52_16_3 : D jdk_52_method_16_code 3 (.astore_n 3) 1 4 := And.intro (by decide +kernel) rfl
theorem d_jdk_52_16_4 : D jdk_52_method_16_code 4 (.aload_n 0) 1 5 := And.intro (by decide +kernel) rfl
theorem d_jdk_52_16_5 : D jdk_52_method_16_code 5 (.iload_n 1) 1 6 := And.intro (by decide +kernel) rfl
theorem d_jdk_52_16_6 : D jdk_52_method_16_code 6 (.aload_n 3) 1 7 := And.intro (by decide +kernel) rfl
theorem d_jdk_52_16_7 : D jdk_52_method_16_code 7 (.iconst 0) 1 8 := And.intro (by decide +kernel) rfl
theorem d_jdk_52_16_8 : D jdk_52_method_16_code 8 (.iload_n 2) 1 9 := And.intro (by decide +kernel) rfl
theorem d_jdk_52_16_9 : D jdk_52_method_16_code 9 (.invokestatic 115) 3 12 := And.intro (by decide +kernel) rfl
theorem pd0 : parseMethodDescriptor "([CI[BII)I" = some ⟨[(.array .char), .int, (.array .byte), .int, .int], some .int⟩ := by decide +kernel
theorem d_jdk_52_16_12 : D jdk_52_method_16_code 12 (.istore 4) 2 14 := And.intro (by decide +kernel) rfl
theorem d_jdk_52_16_14 : D jdk_52_method_16_code 14 (.iload 4) 2 16 := And.intro (by decide +kernel) rfl
theorem d_jdk_52_16_16 : D jdk_52_method_16_code 16 (.iload_n 2) 1 17 := And.intro (by decide +kernel) rfl
theorem d_jdk_52_16_17 : D jdk_52_method_16_code 17 (.if_icmp .eq 40) 3 20 := And.intro (by decide +kernel) rfl
theorem d_jdk_52_16_57 : D jdk_52_method_16_code 57 (.aload_n 3) 1 58 := And.intro (by decide +kernel) rfl
theorem d_jdk_52_16_58 : D jdk_52_method_16_code 58 (.areturn) 1 59 := And.intro (by decide +kernel) rfl
theorem d_jdk_52_15_0 : D jdk_52_method_15_code 0 (.iload_n 1) 1 1 := And.intro (by decide +kernel) rfl
theorem d_jdk_52_15_1 : D jdk_52_method_15_code 1 (.aload_n 0) 1 2 := And.intro (by decide +kernel) rfl
theorem d_jdk_52_15_2 : D jdk_52_method_15_code 2 (.arraylength) 1 3 := And.intro (by decide +kernel) rfl
theorem d_jdk_52_15_3 : D jdk_52_method_15_code 3 (.isub) 1 4 := And.intro (by decide +kernel) rfl
theorem d_jdk_52_15_4 : D jdk_52_method_15_code 4 (.bipush 31) 2 6 := And.intro (by decide +kernel) rfl
theorem d_jdk_52_15_6 : D jdk_52_method_15_code 6 (.iushr) 1 7 := And.intro (by decide +kernel) rfl
theorem d_jdk_52_15_7 : D jdk_52_method_15_code 7 (.i2b) 1 8 := And.intro (by decide +kernel) rfl
theorem d_jdk_52_15_8 : D jdk_52_method_15_code 8 (.ireturn) 1 9 := And.intro (by decide +kernel) rfl
theorem d_jdk_42_149_0 : D jdk_42_method_149_code 0 (.aload_n 0) 1 1 := And.intro (by decide +kernel) rfl
theorem d_jdk_42_149_1 : D jdk_42_method_149_code 1 (.invokespecial 1) 3 4 := And.intro (by decide +kernel) rfl
theorem d_jdk_42_149_4 : D jdk_42_method_149_code 4 (.iload_n 3) 1 5 := And.intro (by decide +kernel) rfl
theorem d_jdk_42_149_5 : D jdk_42_method_149_code 5 (.ifCond .ne 22) 3 8 := And.intro (by decide +kernel) rfl
theorem d_jdk_42_149_27 : D jdk_42_method_149_code 27 (.getstatic 38) 3 30 := And.intro (by decide +kernel) rfl
theorem d_jdk_42_149_30 : D jdk_42_method_149_code 30 (.ifCond .eq 28) 3 33 := And.intro (by decide +kernel) rfl
theorem d_jdk_42_149_33 : D jdk_42_method_149_code 33 (.aload_n 1) 1 34 := And.intro (by decide +kernel) rfl
theorem d_jdk_42_149_34 : D jdk_42_method_149_code 34 (.iload_n 2) 1 35 := And.intro (by decide +kernel) rfl
theorem d_jdk_42_149_35 : D jdk_42_method_149_code 35 (.iload_n 3) 1 36 := And.intro (by decide +kernel) rfl
theorem d_jdk_42_149_36 : D jdk_42_method_149_code 36 (.invokestatic 177) 3 39 := And.intro (by decide +kernel) rfl
theorem pd1 : parseMethodDescriptor "([CII)[B" = some ⟨[(.array .char), .int, .int], some (.array .byte)⟩ := by decide +kernel
theorem d_jdk_42_149_39 : D jdk_42_method_149_code 39 (.astore 5) 2 41 := And.intro (by decide +kernel) rfl
theorem d_jdk_42_149_41 : D jdk_42_method_149_code 41 (.aload_n 0) 1 42 := And.intro (by decide +kernel) rfl
theorem d_jdk_42_149_42 : D jdk_42_method_149_code 42 (.aload 5) 2 44 := And.intro (by decide +kernel) rfl
theorem d_jdk_42_149_44 : D jdk_42_method_149_code 44 (.iload_n 3) 1 45 := And.intro (by decide +kernel) rfl
theorem d_jdk_42_149_45 : D jdk_42_method_149_code 45 (.invokestatic 47) 3 48 := And.intro (by decide +kernel) rfl
theorem pd2 : parseMethodDescriptor "([BI)B" = some ⟨[(.array .byte), .int], some .byte⟩ := by decide +kernel
theorem d_jdk_42_149_48 : D jdk_42_method_149_code 48 (.putfield 15) 3 51 := And.intro (by decide +kernel) rfl
theorem d_jdk_42_149_51 : D jdk_42_method_149_code 51 (.aload_n 0) 1 52 := And.intro (by decide +kernel) rfl
theorem d_jdk_42_149_52 : D jdk_42_method_149_code 52 (.aload 5) 2 54 := And.intro (by decide +kernel) rfl
theorem d_jdk_42_149_54 : D jdk_42_method_149_code 54 (.putfield 9) 3 57 := And.intro (by decide +kernel) rfl
theorem d_jdk_42_149_57 : D jdk_42_method_149_code 57 (.return_) 1 58 := And.intro (by decide +kernel) rfl
theorem pn1 : plainName "java/lang/String" = true := by first | (simp [plainName, overriddenIn]; done) | decide +kernel
theorem d_jdk_42_3_0 : D jdk_42_method_3_code 0 (.aload_n 0) 1 1 := And.intro (by decide +kernel) rfl
theorem d_jdk_42_3_1 : D jdk_42_method_3_code 1 (.aload_n 1) 1 2 := And.intro (by decide +kernel) rfl
theorem d_jdk_42_3_2 : D jdk_42_method_3_code 2 (.iconst 0) 1 3 := And.intro (by decide +kernel) rfl
theorem d_jdk_42_3_3 : D jdk_42_method_3_code 3 (.aload_n 1) 1 4 := And.intro (by decide +kernel) rfl
theorem d_jdk_42_3_4 : D jdk_42_method_3_code 4 (.arraylength) 1 5 := And.intro (by decide +kernel) rfl
theorem d_jdk_42_3_5 : D jdk_42_method_3_code 5 (.aconst_null) 1 6 := And.intro (by decide +kernel) rfl
theorem d_jdk_42_3_6 : D jdk_42_method_3_code 6 (.invokespecial 27) 3 9 := And.intro (by decide +kernel) rfl
theorem pd3 : parseMethodDescriptor "([CIILjava/lang/Void;)V" = some ⟨[(.array .char), .int, .int, (.object "java/lang/Void")], none⟩ := by decide +kernel
theorem d_jdk_42_3_9 : D jdk_42_method_3_code 9 (.return_) 1 10 := And.intro (by decide +kernel) rfl
theorem d_jdk_43_13_0 : D jdk_43_method_13_code 0 (.aload_n 0) 1 1 := And.intro (by decide +kernel) rfl
theorem d_jdk_43_13_1 : D jdk_43_method_13_code 1 (.arraylength) 1 2 := And.intro (by decide +kernel) rfl
theorem d_jdk_43_13_2 : D jdk_43_method_13_code 2 (.aload_n 1) 1 3 := And.intro (by decide +kernel) rfl
theorem d_jdk_43_13_3 : D jdk_43_method_13_code 3 (.arraylength) 1 4 := And.intro (by decide +kernel) rfl
theorem d_jdk_43_13_4 : D jdk_43_method_13_code 4 (.if_icmp .ne 30) 3 7 := And.intro (by decide +kernel) rfl
theorem d_jdk_43_13_34 : D jdk_43_method_13_code 34 (.iconst 0) 1 35 := And.intro (by decide +kernel) rfl
theorem d_jdk_43_13_35 : D jdk_43_method_13_code 35 (.ireturn) 1 36 := And.intro (by decide +kernel) rfl
theorem d_jdk_43_13_7 : D jdk_43_method_13_code 7 (.iconst 0) 1 8 := And.intro (by decide +kernel) rfl
theorem d_jdk_43_13_8 : D jdk_43_method_13_code 8 (.istore_n 2) 1 9 := And.intro (by decide +kernel) rfl
theorem d_jdk_43_13_9 : D jdk_43_method_13_code 9 (.iload_n 2) 1 10 := And.intro (by decide +kernel) rfl
theorem d_jdk_43_13_10 : D jdk_43_method_13_code 10 (.aload_n 0) 1 11 := And.intro (by decide +kernel) rfl
theorem d_jdk_43_13_11 : D jdk_43_method_13_code 11 (.arraylength) 1 12 := And.intro (by decide +kernel) rfl
theorem d_jdk_43_13_12 : D jdk_43_method_13_code 12 (.if_icmp .ge 20) 3 15 := And.intro (by decide +kernel) rfl
theorem d_jdk_43_13_32 : D jdk_43_method_13_code 32 (.iconst 1) 1 33 := And.intro (by decide +kernel) rfl
theorem d_jdk_43_13_33 : D jdk_43_method_13_code 33 (.ireturn) 1 34 := And.intro (by decide +kernel) rfl
theorem d_jdk_43_13_15 : D jdk_43_method_13_code 15 (.aload_n 0) 1 16 := And.intro (by decide +kernel) rfl
theorem d_jdk_43_13_16 : D jdk_43_method_13_code 16 (.iload_n 2) 1 17 := And.intro (by decide +kernel) rfl
theorem d_jdk_43_13_17 : D jdk_43_method_13_code 17 (.baload) 1 18 := And.intro (by decide +kernel) rfl
theorem d_jdk_43_13_18 : D jdk_43_method_13_code 18 (.aload_n 1) 1 19 := And.intro (by decide +kernel) rfl
theorem d_jdk_43_13_19 : D jdk_43_method_13_code 19 (.iload_n 2) 1 20 := And.intro (by decide +kernel) rfl
theorem d_jdk_43_13_20 : D jdk_43_method_13_code 20 (.baload) 1 21 := And.intro (by decide +kernel) rfl
theorem d_jdk_43_13_21 : D jdk_43_method_13_code 21 (.if_icmp .eq 5) 3 24 := And.intro (by decide +kernel) rfl
theorem d_jdk_43_13_26 : D jdk_43_method_13_code 26 (.iinc 2 1) 3 29 := And.intro (by decide +kernel) rfl
theorem d_jdk_43_13_29 : D jdk_43_method_13_code 29 (.goto (-20)) 3 32 := And.intro (by decide +kernel) rfl
theorem d_jdk_43_13_24 : D jdk_43_method_13_code 24 (.iconst 0) 1 25 := And.intro (by decide +kernel) rfl
theorem d_jdk_43_13_25 : D jdk_43_method_13_code 25 (.ireturn) 1 26 := And.intro (by decide +kernel) rfl
theorem pn2 : plainName "java/lang/StringLatin1" = true := by first | (simp [plainName, overriddenIn]; done) | decide +kernel
theorem d_jdk_42_66_0 : D jdk_42_method_66_code 0 (.aload_n 0) 1 1 := And.intro (by decide +kernel) rfl
theorem d_jdk_42_66_1 : D jdk_42_method_66_code 1 (.aload_n 1) 1 2 := And.intro (by decide +kernel) rfl
theorem d_jdk_42_66_2 : D jdk_42_method_66_code 2 (.if_acmp .ne 5) 3 5 := And.intro (by decide +kernel) rfl
theorem d_jdk_42_66_7 : D jdk_42_method_66_code 7 (.aload_n 1) 1 8 := And.intro (by decide +kernel) rfl
theorem d_jdk_42_66_8 : D jdk_42_method_66_code 8 (.instanceof 10) 3 11 := And.intro (by decide +kernel) rfl
theorem d_jdk_42_66_11 : D jdk_42_method_66_code 11 (.ifCond .eq 43) 3 14 := And.intro (by decide +kernel) rfl
theorem d_jdk_42_66_14 : D jdk_42_method_66_code 14 (.aload_n 1) 1 15 := And.intro (by decide +kernel) rfl
theorem d_jdk_42_66_15 : D jdk_42_method_66_code 15 (.checkcast 10) 3 18 := And.intro (by decide +kernel) rfl
theorem d_jdk_42_66_18 : D jdk_42_method_66_code 18 (.astore_n 2) 1 19 := And.intro (by decide +kernel) rfl
theorem d_jdk_42_66_19 : D jdk_42_method_66_code 19 (.getstatic 38) 3 22 := And.intro (by decide +kernel) rfl
theorem d_jdk_42_66_22 : D jdk_42_method_66_code 22 (.ifCond .eq 14) 3 25 := And.intro (by decide +kernel) rfl
theorem d_jdk_42_66_25 : D jdk_42_method_66_code 25 (.aload_n 0) 1 26 := And.intro (by decide +kernel) rfl
theorem d_jdk_42_66_26 : D jdk_42_method_66_code 26 (.getfield 15) 3 29 := And.intro (by decide +kernel) rfl
theorem d_jdk_42_66_29 : D jdk_42_method_66_code 29 (.aload_n 2) 1 30 := And.intro (by decide +kernel) rfl
theorem d_jdk_42_66_30 : D jdk_42_method_66_code 30 (.getfield 15) 3 33 := And.intro (by decide +kernel) rfl
theorem d_jdk_42_66_33 : D jdk_42_method_66_code 33 (.if_icmp .ne 21) 3 36 := And.intro (by decide +kernel) rfl
theorem d_jdk_42_66_36 : D jdk_42_method_66_code 36 (.aload_n 0) 1 37 := And.intro (by decide +kernel) rfl
theorem d_jdk_42_66_37 : D jdk_42_method_66_code 37 (.getfield 9) 3 40 := And.intro (by decide +kernel) rfl
theorem d_jdk_42_66_40 : D jdk_42_method_66_code 40 (.aload_n 2) 1 41 := And.intro (by decide +kernel) rfl
theorem d_jdk_42_66_41 : D jdk_42_method_66_code 41 (.getfield 9) 3 44 := And.intro (by decide +kernel) rfl
theorem d_jdk_42_66_44 : D jdk_42_method_66_code 44 (.invokestatic 541) 3 47 := And.intro (by decide +kernel) rfl
theorem pd4 : parseMethodDescriptor "([B[B)Z" = some ⟨[(.array .byte), (.array .byte)], some .boolean⟩ := by decide +kernel
theorem d_jdk_42_66_47 : D jdk_42_method_66_code 47 (.ifCond .eq 7) 3 50 := And.intro (by decide +kernel) rfl
theorem d_jdk_42_66_50 : D jdk_42_method_66_code 50 (.iconst 1) 1 51 := And.intro (by decide +kernel) rfl
theorem d_jdk_42_66_51 : D jdk_42_method_66_code 51 (.goto 4) 3 54 := And.intro (by decide +kernel) rfl
theorem d_jdk_42_66_55 : D jdk_42_method_66_code 55 (.ireturn) 1 56 := And.intro (by decide +kernel) rfl
theorem d_jdk_42_66_54 : D jdk_42_method_66_code 54 (.iconst 0) 1 55 := And.intro (by decide +kernel) rfl
theorem d_jdk_42_66_5 : D jdk_42_method_66_code 5 (.iconst 1) 1 6 := And.intro (by decide +kernel) rfl
theorem d_jdk_42_66_6 : D jdk_42_method_66_code 6 (.ireturn) 1 7 := And.intro (by decide +kernel) rfl
theorem d_jdk_42_154_0 : D jdk_42_method_154_code 0 (.getstatic 38) 3 3 := And.intro (by decide +kernel) rfl
theorem d_jdk_42_154_3 : D jdk_42_method_154_code 3 (.ifCond .eq 14) 3 6 := And.intro (by decide +kernel) rfl
theorem d_jdk_42_154_6 : D jdk_42_method_154_code 6 (.aload_n 0) 1 7 := And.intro (by decide +kernel) rfl
theorem d_jdk_42_154_7 : D jdk_42_method_154_code 7 (.getfield 15) 3 10 := And.intro (by decide +kernel) rfl
theorem d_jdk_42_154_10 : D jdk_42_method_154_code 10 (.ifCond .ne 7) 3 13 := And.intro (by decide +kernel) rfl
theorem d_jdk_42_154_13 : D jdk_42_method_154_code 13 (.iconst 1) 1 14 := And.intro (by decide +kernel) rfl
theorem d_jdk_42_154_14 : D jdk_42_method_154_code 14 (.goto 4) 3 17 := And.intro (by decide +kernel) rfl
theorem d_jdk_42_154_18 : D jdk_42_method_154_code 18 (.ireturn) 1 19 := And.intro (by decide +kernel) rfl
theorem d_jdk_42_152_0 : D jdk_42_method_152_code 0 (.getstatic 38) 3 3 := And.intro (by decide +kernel) rfl
theorem d_jdk_42_152_3 : D jdk_42_method_152_code 3 (.ifCond .eq 10) 3 6 := And.intro (by decide +kernel) rfl
theorem d_jdk_42_152_6 : D jdk_42_method_152_code 6 (.aload_n 0) 1 7 := And.intro (by decide +kernel) rfl
theorem d_jdk_42_152_7 : D jdk_42_method_152_code 7 (.getfield 15) 3 10 := And.intro (by decide +kernel) rfl
theorem d_jdk_42_152_10 : D jdk_42_method_152_code 10 (.goto 4) 3 13 := And.intro (by decide +kernel) rfl
theorem d_jdk_42_152_14 : D jdk_42_method_152_code 14 (.ireturn) 1 15 := And.intro (by decide +kernel) rfl
theorem d_jdk_42_54_0 : D jdk_42_method_54_code 0 (.aload_n 0) 1 1 := And.intro (by decide +kernel) rfl
theorem d_jdk_42_54_1 : D jdk_42_method_54_code 1 (.getfield 9) 3 4 := And.intro (by decide +kernel) rfl
theorem d_jdk_42_54_4 : D jdk_42_method_54_code 4 (.arraylength) 1 5 := And.intro (by decide +kernel) rfl
theorem d_jdk_42_54_5 : D jdk_42_method_54_code 5 (.aload_n 0) 1 6 := And.intro (by decide +kernel) rfl
theorem d_jdk_42_54_6 : D jdk_42_method_54_code 6 (.invokevirtual 335) 3 9 := And.intro (by decide +kernel) rfl
theorem pd5 : parseMethodDescriptor "()B" = some ⟨[], some .byte⟩ := by decide +kernel
theorem d_jdk_42_54_9 : D jdk_42_method_54_code 9 (.ishr) 1 10 := And.intro (by decide +kernel) rfl
theorem d_jdk_42_54_10 : D jdk_42_method_54_code 10 (.ireturn) 1 11 := And.intro (by decide +kernel) rfl
theorem d_jdk_116_1_0 : D jdk_116_method_1_code 0 (.iload_n 1) 1 1 := And.intro (by decide +kernel) rfl
theorem d_jdk_116_1_1 : D jdk_116_method_1_code 1 (.i2c) 1 2 := And.intro (by decide +kernel) rfl
theorem d_jdk_116_1_2 : D jdk_116_method_1_code 2 (.istore_n 2) 1 3 := And.intro (by decide +kernel) rfl
theorem d_jdk_116_1_3 : D jdk_116_method_1_code 3 (.getstatic 1) 3 6 := And.intro (by decide +kernel) rfl
theorem d_jdk_116_1_6 : D jdk_116_method_1_code 6 (.iload_n 2) 1 7 := And.intro (by decide +kernel) rfl
theorem d_jdk_116_1_7 : D jdk_116_method_1_code 7 (.iaload) 1 8 := And.intro (by decide +kernel) rfl
theorem d_jdk_116_1_8 : D jdk_116_method_1_code 8 (.istore_n 3) 1 9 := And.intro (by decide +kernel) rfl
theorem d_jdk_116_1_9 : D jdk_116_method_1_code 9 (.iload_n 3) 1 10 := And.intro (by decide +kernel) rfl
theorem d_jdk_116_1_10 : D jdk_116_method_1_code 10 (.ireturn) 1 11 := And.intro (by decide +kernel) rfl
theorem pn3 : plainName "java/lang/CharacterDataLatin1" = true := by first | (simp [plainName, overriddenIn]; done) | decide +kernel
theorem d_jdk_116_26_0 : D jdk_116_method_26_code 0 (.aload_n 0) 1 1 := And.intro (by decide +kernel) rfl
theorem d_jdk_116_26_1 : D jdk_116_method_26_code 1 (.iload_n 1) 1 2 := And.intro (by decide +kernel) rfl
theorem d_jdk_116_26_2 : D jdk_116_method_26_code 2 (.invokevirtual 15) 3 5 := And.intro (by decide +kernel) rfl
theorem pd6 : parseMethodDescriptor "(I)I" = some ⟨[.int], some .int⟩ := by decide +kernel
theorem d_jdk_116_26_5 : D jdk_116_method_26_code 5 (.istore_n 2) 1 6 := And.intro (by decide +kernel) rfl
theorem d_jdk_116_26_6 : D jdk_116_method_26_code 6 (.iload_n 2) 1 7 := And.intro (by decide +kernel) rfl
theorem d_jdk_116_26_7 : D jdk_116_method_26_code 7 (.sipush 28672) 3 10 := And.intro (by decide +kernel) rfl
theorem d_jdk_116_26_10 : D jdk_116_method_26_code 10 (.iand) 1 11 := And.intro (by decide +kernel) rfl
theorem d_jdk_116_26_11 : D jdk_116_method_26_code 11 (.sipush 16384) 3 14 := And.intro (by decide +kernel) rfl
theorem d_jdk_116_26_14 : D jdk_116_method_26_code 14 (.if_icmp .ne 7) 3 17 := And.intro (by decide +kernel) rfl
theorem d_jdk_116_26_21 : D jdk_116_method_26_code 21 (.iconst 0) 1 22 := And.intro (by decide +kernel) rfl
theorem d_jdk_116_26_22 : D jdk_116_method_26_code 22 (.ireturn) 1 23 := And.intro (by decide +kernel) rfl
theorem d_jdk_116_26_17 : D jdk_116_method_26_code 17 (.iconst 1) 1 18 := And.intro (by decide +kernel) rfl
theorem d_jdk_116_26_18 : D jdk_116_method_26_code 18 (.goto 4) 3 21 := And.intro (by decide +kernel) rfl
theorem d_jdk_43_44_0 : D jdk_43_method_44_code 0 (.aload_n 0) 1 1 := And.intro (by decide +kernel) rfl
theorem d_jdk_43_44_1 : D jdk_43_method_44_code 1 (.iload_n 1) 1 2 := And.intro (by decide +kernel) rfl
theorem d_jdk_43_44_2 : D jdk_43_method_44_code 2 (.baload) 1 3 := And.intro (by decide +kernel) rfl
theorem d_jdk_43_44_3 : D jdk_43_method_44_code 3 (.sipush 255) 3 6 := And.intro (by decide +kernel) rfl
theorem d_jdk_43_44_6 : D jdk_43_method_44_code 6 (.iand) 1 7 := And.intro (by decide +kernel) rfl
theorem d_jdk_43_44_7 : D jdk_43_method_44_code 7 (.i2c) 1 8 := And.intro (by decide +kernel) rfl
theorem d_jdk_43_44_8 : D jdk_43_method_44_code 8 (.ireturn) 1 9 := And.intro (by decide +kernel) rfl
theorem d_jdk_43_37_0 : D jdk_43_method_37_code 0 (.aload_n 0) 1 1 := And.intro (by decide +kernel) rfl
theorem d_jdk_43_37_1 : D jdk_43_method_37_code 1 (.arraylength) 1 2 := And.intro (by decide +kernel) rfl
theorem d_jdk_43_37_2 : D jdk_43_method_37_code 2 (.istore_n 1) 1 3 := And.intro (by decide +kernel) rfl
theorem d_jdk_43_37_3 : D jdk_43_method_37_code 3 (.iconst 0) 1 4 := And.intro (by decide +kernel) rfl
theorem d_jdk_43_37_4 : D jdk_43_method_37_code 4 (.istore_n 2) 1 5 := And.intro (by decide +kernel) rfl
theorem d_jdk_43_37_5 : D jdk_43_method_37_code 5 (.iload_n 2) 1 6 := And.intro (by decide +kernel) rfl
theorem d_jdk_43_37_6 : D jdk_43_method_37_code 6 (.iload_n 1) 1 7 := And.intro (by decide +kernel) rfl
theorem d_jdk_43_37_7 : D jdk_43_method_37_code 7 (.if_icmp .ge 40) 3 10 := And.intro (by decide +kernel) rfl
theorem d_jdk_43_37_10 : D jdk_43_method_37_code 10 (.aload_n 0) 1 11 := And.intro (by decide +kernel) rfl
theorem d_jdk_43_37_11 : D jdk_43_method_37_code 11 (.iload_n 2) 1 12 := And.intro (by decide +kernel) rfl
theorem d_jdk_43_37_12 : D jdk_43_method_37_code 12 (.invokestatic 50) 3 15 := And.intro (by decide +kernel) rfl
theorem pd7 : parseMethodDescriptor "([BI)C" = some ⟨[(.array .byte), .int], some .char⟩ := by decide +kernel
theorem d_jdk_43_37_15 : D jdk_43_method_37_code 15 (.istore_n 3) 1 16 := And.intro (by decide +kernel) rfl
theorem d_jdk_43_37_16 : D jdk_43_method_37_code 16 (.iload_n 3) 1 17 := And.intro (by decide +kernel) rfl
theorem d_jdk_43_37_17 : D jdk_43_method_37_code 17 (.bipush 32) 2 19 := And.intro (by decide +kernel) rfl
theorem d_jdk_43_37_19 : D jdk_43_method_37_code 19 (.if_icmp .eq 22) 3 22 := And.intro (by decide +kernel) rfl
theorem d_jdk_43_37_22 : D jdk_43_method_37_code 22 (.iload_n 3) 1 23 := And.intro (by decide +kernel) rfl
theorem d_jdk_43_37_23 : D jdk_43_method_37_code 23 (.bipush 9) 2 25 := And.intro (by decide +kernel) rfl
theorem d_jdk_43_37_25 : D jdk_43_method_37_code 25 (.if_icmp .eq 16) 3 28 := And.intro (by decide +kernel) rfl
theorem d_jdk_43_37_28 : D jdk_43_method_37_code 28 (.getstatic 66) 3 31 := And.intro (by decide +kernel) rfl
theorem d_jdk_43_37_31 : D jdk_43_method_37_code 31 (.iload_n 3) 1 32 := And.intro (by decide +kernel) rfl
theorem d_jdk_43_37_32 : D jdk_43_method_37_code 32 (.invokevirtual 211) 3 35 := And.intro (by decide +kernel) rfl
theorem pd8 : parseMethodDescriptor "(I)Z" = some ⟨[.int], some .boolean⟩ := by decide +kernel
theorem d_jdk_43_37_35 : D jdk_43_method_37_code 35 (.ifCond .ne 6) 3 38 := And.intro (by decide +kernel) rfl
theorem d_jdk_43_37_38 : D jdk_43_method_37_code 38 (.goto 9) 3 41 := And.intro (by decide +kernel) rfl
theorem d_jdk_43_37_47 : D jdk_43_method_37_code 47 (.iload_n 2) 1 48 := And.intro (by decide +kernel) rfl
theorem d_jdk_43_37_48 : D jdk_43_method_37_code 48 (.ireturn) 1 49 := And.intro (by decide +kernel) rfl
theorem d_jdk_43_37_41 : D jdk_43_method_37_code 41 (.iinc 2 1) 3 44 := And.intro (by decide +kernel) rfl
theorem d_jdk_43_37_44 : D jdk_43_method_37_code 44 (.goto (-39)) 3 47 := And.intro (by decide +kernel) rfl
theorem d_jdk_42_120_0 : D jdk_42_method_120_code 0 (.aload_n 0) 1 1 := And.intro (by decide +kernel) rfl
theorem d_jdk_42_120_1 : D jdk_42_method_120_code 1 (.invokevirtual 492) 3 4 := And.intro (by decide +kernel) rfl
theorem pd9 : parseMethodDescriptor "()Z" = some ⟨[], some .boolean⟩ := by decide +kernel
theorem d_jdk_42_120_4 : D jdk_42_method_120_code 4 (.ifCond .eq 13) 3 7 := And.intro (by decide +kernel) rfl
theorem d_jdk_42_120_7 : D jdk_42_method_120_code 7 (.aload_n 0) 1 8 := And.intro (by decide +kernel) rfl
theorem d_jdk_42_120_8 : D jdk_42_method_120_code 8 (.getfield 9) 3 11 := And.intro (by decide +kernel) rfl
theorem d_jdk_42_120_11 : D jdk_42_method_120_code 11 (.invokestatic 924) 3 14 := And.intro (by decide +kernel) rfl
theorem pd10 : parseMethodDescriptor "([B)I" = some ⟨[(.array .byte)], some .int⟩ := by decide +kernel
theorem d_jdk_42_120_14 : D jdk_42_method_120_code 14 (.goto 10) 3 17 := And.intro (by decide +kernel) rfl
theorem d_jdk_42_120_24 : D jdk_42_method_120_code 24 (.ireturn) 1 25 := And.intro (by decide +kernel) rfl
theorem d_jdk_42_117_0 : D jdk_42_method_117_code 0 (.aload_n 0) 1 1 := And.intro (by decide +kernel) rfl
theorem d_jdk_42_117_1 : D jdk_42_method_117_code 1 (.invokevirtual 876) 3 4 := And.intro (by decide +kernel) rfl
theorem pd11 : parseMethodDescriptor "()I" = some ⟨[], some .int⟩ := by decide +kernel
theorem d_jdk_42_117_4 : D jdk_42_method_117_code 4 (.aload_n 0) 1 5 := And.intro (by decide +kernel) rfl
theorem d_jdk_42_117_5 : D jdk_42_method_117_code 5 (.invokevirtual 505) 3 8 := And.intro (by decide +kernel) rfl
theorem d_jdk_42_117_8 : D jdk_42_method_117_code 8 (.if_icmp .ne 7) 3 11 := And.intro (by decide +kernel) rfl
theorem d_jdk_42_117_15 : D jdk_42_method_117_code 15 (.iconst 0) 1 16 := And.intro (by decide +kernel) rfl
theorem d_jdk_42_117_16 : D jdk_42_method_117_code 16 (.ireturn) 1 17 := And.intro (by decide +kernel) rfl
theorem d_jdk_31_11_0 : D jdk_31_method_11_code 0 (.aload_n 0) 1 1 := And.intro (by decide +kernel) rfl
theorem d_jdk_31_11_1 : D jdk_31_method_11_code 1 (.ifnonnull 12) 3 4 := And.intro (by decide +kernel) rfl
theorem d_jdk_31_11_13 : D jdk_31_method_11_code 13 (.aload_n 0) 1 14 := And.intro (by decide +kernel) rfl
theorem d_jdk_31_11_14 : D jdk_31_method_11_code 14 (.areturn) 1 15 := And.intro (by decide +kernel) rfl
theorem pn4 : plainName "java/util/Objects" = true := by first | (simp [plainName, overriddenIn]; done) | decide +kernel
theorem d_method_2_0 : D method_2_code 0 (.iload_n 0) 1 1 := And.intro (by decide +kernel) rfl
theorem d_method_2_1 : D method_2_code 1 (.sipush 255) 3 4 := And.intro (by decide +kernel) rfl
theorem d_method_2_4 : D method_2_code 4 (.iand) 1 5 := And.intro (by decide +kernel) rfl
theorem d_method_2_5 : D method_2_code 5 (.istore_n 1) 1 6 := And.intro (by decide +kernel) rfl
theorem d_method_2_6 : D method_2_code 6 (.iload_n 1) 1 7 := And.intro (by decide +kernel) rfl
theorem d_method_2_7 : D method_2_code 7 (.bipush 9) 2 9 := And.intro (by decide +kernel) rfl
theorem d_method_2_9 : D method_2_code 9 (.if_icmp .lt 9) 3 12 := And.intro (by decide +kernel) rfl
theorem d_method_2_18 : D method_2_code 18 (.iload_n 1) 1 19 := And.intro (by decide +kernel) rfl
theorem d_method_2_19 : D method_2_code 19 (.bipush 28) 2 21 := And.intro (by decide +kernel) rfl
theorem d_method_2_21 : D method_2_code 21 (.if_icmp .lt 14) 3 24 := And.intro (by decide +kernel) rfl
theorem d_method_2_35 : D method_2_code 35 (.iload_n 1) 1 36 := And.intro (by decide +kernel) rfl
theorem d_method_2_36 : D method_2_code 36 (.ireturn) 1 37 := And.intro (by decide +kernel) rfl
theorem d_method_2_24 : D method_2_code 24 (.iload_n 1) 1 25 := And.intro (by decide +kernel) rfl
theorem d_method_2_25 : D method_2_code 25 (.bipush 32) 2 27 := And.intro (by decide +kernel) rfl
theorem d_method_2_27 : D method_2_code 27 (.if_icmp .gt 8) 3 30 := And.intro (by decide +kernel) rfl
theorem d_method_2_30 : D method_2_code 30 (.iload_n 1) 1 31 := And.intro (by decide +kernel) rfl
theorem d_method_2_31 : D method_2_code 31 (.bipush 64) 2 33 := And.intro (by decide +kernel) rfl
theorem d_method_2_33 : D method_2_code 33 (.iadd) 1 34 := And.intro (by decide +kernel) rfl
theorem d_method_2_34 : D method_2_code 34 (.istore_n 1) 1 35 := And.intro (by decide +kernel) rfl
theorem d_method_2_12 : D method_2_code 12 (.iload_n 1) 1 13 := And.intro (by decide +kernel) rfl
theorem d_method_2_13 : D method_2_code 13 (.bipush 13) 2 15 := And.intro (by decide +kernel) rfl
theorem d_method_2_15 : D method_2_code 15 (.if_icmp .le 15) 3 18 := And.intro (by decide +kernel) rfl
theorem pn5 : plainName "com/example/lean_envelope/leanenvelope/check/ExceededLimitEqualsPinLaw" = true := by first | (simp [plainName, overriddenIn]; done) | decide +kernel
theorem d_method_3_0 : D method_3_code 0 (.iload_n 0) 1 1 := And.intro (by decide +kernel) rfl
theorem d_method_3_1 : D method_3_code 1 (.iconst 1) 1 2 := And.intro (by decide +kernel) rfl
theorem d_method_3_2 : D method_3_code 2 (.if_icmp .ne 21) 3 5 := And.intro (by decide +kernel) rfl
theorem d_method_3_5 : D method_3_code 5 (.iconst 1) 1 6 := And.intro (by decide +kernel) rfl
theorem d_method_3_6 : D method_3_code 6 (.newarray .char) 2 8 := And.intro (by decide +kernel) rfl
theorem d_method_3_8 : D method_3_code 8 (.astore_n 3) 1 9 := And.intro (by decide +kernel) rfl
theorem d_method_3_9 : D method_3_code 9 (.aload_n 3) 1 10 := And.intro (by decide +kernel) rfl
theorem d_method_3_10 : D method_3_code 10 (.iconst 0) 1 11 := And.intro (by decide +kernel) rfl
theorem d_method_3_11 : D method_3_code 11 (.iload_n 1) 1 12 := And.intro (by decide +kernel) rfl
theorem d_method_3_12 : D method_3_code 12 (.i2c) 1 13 := And.intro (by decide +kernel) rfl
theorem d_method_3_13 : D method_3_code 13 (.castore) 1 14 := And.intro (by decide +kernel) rfl
theorem d_method_3_14 : D method_3_code 14 (.new 7) 3 17 := And.intro (by decide +kernel) rfl
theorem d_method_3_17 : D method_3_code 17 (.dup) 1 18 := And.intro (by decide +kernel) rfl
theorem d_method_3_18 : D method_3_code 18 (.aload_n 3) 1 19 := And.intro (by decide +kernel) rfl
theorem d_method_3_19 : D method_3_code 19 (.invokespecial 9) 3 22 := And.intro (by decide +kernel) rfl
theorem pd12 : parseMethodDescriptor "([C)V" = some ⟨[(.array .char)], none⟩ := by decide +kernel
theorem d_method_3_22 : D method_3_code 22 (.areturn) 1 23 := And.intro (by decide +kernel) rfl
theorem d_method_3_23 : D method_3_code 23 (.iconst 2) 1 24 := And.intro (by decide +kernel) rfl
theorem d_method_3_24 : D method_3_code 24 (.newarray .char) 2 26 := And.intro (by decide +kernel) rfl
theorem d_method_3_26 : D method_3_code 26 (.astore_n 3) 1 27 := And.intro (by decide +kernel) rfl
theorem d_method_3_27 : D method_3_code 27 (.aload_n 3) 1 28 := And.intro (by decide +kernel) rfl
theorem d_method_3_28 : D method_3_code 28 (.iconst 0) 1 29 := And.intro (by decide +kernel) rfl
theorem d_method_3_29 : D method_3_code 29 (.iload_n 1) 1 30 := And.intro (by decide +kernel) rfl
theorem d_method_3_30 : D method_3_code 30 (.i2c) 1 31 := And.intro (by decide +kernel) rfl
theorem d_method_3_31 : D method_3_code 31 (.castore) 1 32 := And.intro (by decide +kernel) rfl
theorem d_method_3_32 : D method_3_code 32 (.aload_n 3) 1 33 := And.intro (by decide +kernel) rfl
theorem d_method_3_33 : D method_3_code 33 (.iconst 1) 1 34 := And.intro (by decide +kernel) rfl
theorem d_method_3_34 : D method_3_code 34 (.iload_n 2) 1 35 := And.intro (by decide +kernel) rfl
theorem d_method_3_35 : D method_3_code 35 (.i2c) 1 36 := And.intro (by decide +kernel) rfl
theorem d_method_3_36 : D method_3_code 36 (.castore) 1 37 := And.intro (by decide +kernel) rfl
theorem d_method_3_37 : D method_3_code 37 (.new 7) 3 40 := And.intro (by decide +kernel) rfl
theorem d_method_3_40 : D method_3_code 40 (.dup) 1 41 := And.intro (by decide +kernel) rfl
theorem d_method_3_41 : D method_3_code 41 (.aload_n 3) 1 42 := And.intro (by decide +kernel) rfl
theorem d_method_3_42 : D method_3_code 42 (.invokespecial 9) 3 45 := And.intro (by decide +kernel) rfl
theorem d_method_3_45 : D method_3_code 45 (.areturn) 1 46 := And.intro (by decide +kernel) rfl
theorem d_method_4_0 : D method_4_code 0 (.lload_n 0) 1 1 := And.intro (by decide +kernel) rfl
theorem d_method_4_1 : D method_4_code 1 (.ldc2_w 14) 3 4 := And.intro (by decide +kernel) rfl
theorem d_method_4_4 : D method_4_code 4 (.land) 1 5 := And.intro (by decide +kernel) rfl
theorem d_method_4_5 : D method_4_code 5 (.lstore_n 2) 1 6 := And.intro (by decide +kernel) rfl
theorem d_method_4_6 : D method_4_code 6 (.lload_n 2) 1 7 := And.intro (by decide +kernel) rfl
theorem d_method_4_7 : D method_4_code 7 (.ldc2_w 14) 3 10 := And.intro (by decide +kernel) rfl
theorem d_method_4_10 : D method_4_code 10 (.lcmp) 1 11 := And.intro (by decide +kernel) rfl
theorem d_method_4_11 : D method_4_code 11 (.ifCond .ne 7) 3 14 := And.intro (by decide +kernel) rfl
theorem d_method_4_18 : D method_4_code 18 (.lload_n 2) 1 19 := And.intro (by decide +kernel) rfl
theorem d_method_4_19 : D method_4_code 19 (.lreturn) 1 20 := And.intro (by decide +kernel) rfl
theorem d_method_4_14 : D method_4_code 14 (.lload_n 2) 1 15 := And.intro (by decide +kernel) rfl
theorem d_method_4_15 : D method_4_code 15 (.lconst 1) 1 16 := And.intro (by decide +kernel) rfl
theorem d_method_4_16 : D method_4_code 16 (.lsub) 1 17 := And.intro (by decide +kernel) rfl
theorem d_method_4_17 : D method_4_code 17 (.lstore_n 2) 1 18 := And.intro (by decide +kernel) rfl
theorem d_method_5_0 : D method_5_code 0 (.ldc2_w 14) 3 3 := And.intro (by decide +kernel) rfl
theorem d_method_5_3 : D method_5_code 3 (.lload_n 0) 1 4 := And.intro (by decide +kernel) rfl
theorem d_method_5_4 : D method_5_code 4 (.lsub) 1 5 := And.intro (by decide +kernel) rfl
theorem d_method_5_5 : D method_5_code 5 (.lstore 4) 2 7 := And.intro (by decide +kernel) rfl
theorem d_method_5_7 : D method_5_code 7 (.lload_n 0) 1 8 := And.intro (by decide +kernel) rfl
theorem d_method_5_8 : D method_5_code 8 (.lconst 1) 1 9 := And.intro (by decide +kernel) rfl
theorem d_method_5_9 : D method_5_code 9 (.ladd) 1 10 := And.intro (by decide +kernel) rfl
theorem d_method_5_10 : D method_5_code 10 (.lload_n 2) 1 11 := And.intro (by decide +kernel) rfl
theorem d_method_5_11 : D method_5_code 11 (.ldc2_w 14) 3 14 := And.intro (by decide +kernel) rfl
theorem d_method_5_14 : D method_5_code 14 (.land) 1 15 := And.intro (by decide +kernel) rfl
theorem d_method_5_15 : D method_5_code 15 (.lload 4) 2 17 := And.intro (by decide +kernel) rfl
theorem d_method_5_17 : D method_5_code 17 (.lrem) 1 18 := And.intro (by decide +kernel) rfl
theorem d_method_5_18 : D method_5_code 18 (.ladd) 1 19 := And.intro (by decide +kernel) rfl
theorem d_method_5_19 : D method_5_code 19 (.lreturn) 1 20 := And.intro (by decide +kernel) rfl
theorem d_jdk_18_1_0 : D jdk_18_method_1_code 0 (.aload_n 0) 1 1 := And.intro (by decide +kernel) rfl
theorem d_jdk_18_1_1 : D jdk_18_method_1_code 1 (.invokespecial 1) 3 4 := And.intro (by decide +kernel) rfl
theorem d_jdk_18_1_4 : D jdk_18_method_1_code 4 (.return_) 1 5 := And.intro (by decide +kernel) rfl
theorem pn6 : plainName "java/lang/Number" = true := by first | (simp [plainName, overriddenIn]; done) | decide +kernel
theorem d_jdk_35_26_0 : D jdk_35_method_26_code 0 (.aload_n 0) 1 1 := And.intro (by decide +kernel) rfl
theorem d_jdk_35_26_1 : D jdk_35_method_26_code 1 (.invokespecial 270) 3 4 := And.intro (by decide +kernel) rfl
theorem pd13 : parseMethodDescriptor "()V" = some ⟨[], none⟩ := by decide +kernel
theorem d_jdk_35_26_4 : D jdk_35_method_26_code 4 (.aload_n 0) 1 5 := And.intro (by decide +kernel) rfl
theorem d_jdk_35_26_5 : D jdk_35_method_26_code 5 (.lload_n 1) 1 6 := And.intro (by decide +kernel) rfl
theorem d_jdk_35_26_6 : D jdk_35_method_26_code 6 (.putfield 273) 3 9 := And.intro (by decide +kernel) rfl
theorem d_jdk_35_26_9 : D jdk_35_method_26_code 9 (.return_) 1 10 := And.intro (by decide +kernel) rfl
theorem pn7 : plainName "java/lang/Long" = true := by first | (simp [plainName, overriddenIn]; done) | decide +kernel
theorem d_jdk_35_24_0 : D jdk_35_method_24_code 0 (.sipush 128) 3 3 := And.intro (by decide +kernel) rfl
theorem d_jdk_35_24_3 : D jdk_35_method_24_code 3 (.istore_n 2) 1 4 := And.intro (by decide +kernel) rfl
theorem d_jdk_35_24_4 : D jdk_35_method_24_code 4 (.lload_n 0) 1 5 := And.intro (by decide +kernel) rfl
theorem d_jdk_35_24_5 : D jdk_35_method_24_code 5 (.ldc2_w 230) 3 8 := And.intro (by decide +kernel) rfl
theorem d_jdk_35_24_8 : D jdk_35_method_24_code 8 (.lcmp) 1 9 := And.intro (by decide +kernel) rfl
theorem d_jdk_35_24_9 : D jdk_35_method_24_code 9 (.ifCond .lt 22) 3 12 := And.intro (by decide +kernel) rfl
theorem d_jdk_35_24_31 : D jdk_35_method_24_code 31 (.new 1) 3 34 := And.intro (by decide +kernel) rfl
theorem d_jdk_35_24_34 : D jdk_35_method_24_code 34 (.dup) 1 35 := And.intro (by decide +kernel) rfl
theorem d_jdk_35_24_35 : D jdk_35_method_24_code 35 (.lload_n 0) 1 36 := And.intro (by decide +kernel) rfl
theorem d_jdk_35_24_36 : D jdk_35_method_24_code 36 (.invokespecial 240) 3 39 := And.intro (by decide +kernel) rfl
theorem pd14 : parseMethodDescriptor "(J)V" = some ⟨[.long], none⟩ := by decide +kernel
theorem d_jdk_35_24_39 : D jdk_35_method_24_code 39 (.areturn) 1 40 := And.intro (by decide +kernel) rfl
theorem d_jdk_35_24_12 : D jdk_35_method_24_code 12 (.lload_n 0) 1 13 := And.intro (by decide +kernel) rfl
theorem d_jdk_35_24_13 : D jdk_35_method_24_code 13 (.ldc2_w 232) 3 16 := And.intro (by decide +kernel) rfl
theorem d_jdk_35_24_16 : D jdk_35_method_24_code 16 (.lcmp) 1 17 := And.intro (by decide +kernel) rfl
theorem d_jdk_35_24_17 : D jdk_35_method_24_code 17 (.ifCond .gt 14) 3 20 := And.intro (by decide +kernel) rfl
theorem d_jdk_35_24_20 : D jdk_35_method_24_code 20 (.getstatic 234) 3 23 := And.intro (by decide +kernel) rfl
theorem d_jdk_35_24_23 : D jdk_35_method_24_code 23 (.lload_n 0) 1 24 := And.intro (by decide +kernel) rfl
theorem d_jdk_35_24_24 : D jdk_35_method_24_code 24 (.l2i) 1 25 := And.intro (by decide +kernel) rfl
theorem d_jdk_35_24_25 : D jdk_35_method_24_code 25 (.sipush 128) 3 28 := And.intro (by decide +kernel) rfl
theorem d_jdk_35_24_28 : D jdk_35_method_24_code 28 (.iadd) 1 29 := And.intro (by decide +kernel) rfl
theorem d_jdk_35_24_29 : D jdk_35_method_24_code 29 (.aaload) 1 30 := And.intro (by decide +kernel) rfl
theorem d_jdk_35_24_30 : D jdk_35_method_24_code 30 (.areturn) 1 31 := And.intro (by decide +kernel) rfl
theorem d_prog_2_1_0 : D prog_2_method_1_code 0 (.aload_n 0) 1 1 := And.intro (by decide +kernel) rfl
theorem d_prog_2_1_1 : D prog_2_method_1_code 1 (.invokespecial 1) 3 4 := And.intro (by decide +kernel) rfl
theorem d_prog_2_1_4 : D prog_2_method_1_code 4 (.aload_n 1) 1 5 := And.intro (by decide +kernel) rfl
theorem d_prog_2_1_5 : D prog_2_method_1_code 5 (.ldc 7) 2 7 := And.intro (by decide +kernel) rfl
theorem d_prog_2_1_7 : D prog_2_method_1_code 7 (.invokestatic 9) 3 10 := And.intro (by decide +kernel) rfl
theorem pd15 : parseMethodDescriptor "(Ljava/lang/Object;Ljava/lang/String;)Ljava/lang/Object;" = some ⟨[(.object "java/lang/Object"), (.object "java/lang/String")], some (.object "java/lang/Object")⟩ := by decide +kernel
theorem d_prog_2_1_10 : D prog_2_method_1_code 10 (.pop) 1 11 := And.intro (by decide +kernel) rfl
theorem d_prog_2_1_11 : D prog_2_method_1_code 11 (.aload 6) 2 13 := And.intro (by decide +kernel) rfl
theorem d_prog_2_1_13 : D prog_2_method_1_code 13 (.ldc 15) 2 15 := And.intro (by decide +kernel) rfl
theorem d_prog_2_1_15 : D prog_2_method_1_code 15 (.invokestatic 9) 3 18 := And.intro (by decide +kernel) rfl
theorem d_prog_2_1_18 : D prog_2_method_1_code 18 (.pop) 1 19 := And.intro (by decide +kernel) rfl
theorem d_prog_2_1_19 : D prog_2_method_1_code 19 (.aload_n 1) 1 20 := And.intro (by decide +kernel) rfl
theorem d_prog_2_1_20 : D prog_2_method_1_code 20 (.invokevirtual 17) 3 23 := And.intro (by decide +kernel) rfl
theorem d_prog_2_1_23 : D prog_2_method_1_code 23 (.ifCond .eq 13) 3 26 := And.intro (by decide +kernel) rfl
theorem d_prog_2_1_36 : D prog_2_method_1_code 36 (.lload 4) 2 38 := And.intro (by decide +kernel) rfl
theorem d_prog_2_1_38 : D prog_2_method_1_code 38 (.lconst 0) 1 39 := And.intro (by decide +kernel) rfl
theorem d_prog_2_1_39 : D prog_2_method_1_code 39 (.lcmp) 1 40 := And.intro (by decide +kernel) rfl
theorem d_prog_2_1_40 : D prog_2_method_1_code 40 (.ifCond .lt 10) 3 43 := And.intro (by decide +kernel) rfl
theorem d_prog_2_1_43 : D prog_2_method_1_code 43 (.lload_n 2) 1 44 := And.intro (by decide +kernel) rfl
theorem d_prog_2_1_44 : D prog_2_method_1_code 44 (.lload 4) 2 46 := And.intro (by decide +kernel) rfl
theorem d_prog_2_1_46 : D prog_2_method_1_code 46 (.lcmp) 1 47 := And.intro (by decide +kernel) rfl
theorem d_prog_2_1_47 : D prog_2_method_1_code 47 (.ifCond .gt 24) 3 50 := And.intro (by decide +kernel) rfl
theorem d_prog_2_1_71 : D prog_2_method_1_code 71 (.aload_n 0) 1 72 := And.intro (by decide +kernel) rfl
theorem d_prog_2_1_72 : D prog_2_method_1_code 72 (.aload_n 1) 1 73 := And.intro (by decide +kernel) rfl
theorem d_prog_2_1_73 : D prog_2_method_1_code 73 (.putfield 40) 3 76 := And.intro (by decide +kernel) rfl
theorem d_prog_2_1_76 : D prog_2_method_1_code 76 (.aload_n 0) 1 77 := And.intro (by decide +kernel) rfl
theorem d_prog_2_1_77 : D prog_2_method_1_code 77 (.lload_n 2) 1 78 := And.intro (by decide +kernel) rfl
theorem d_prog_2_1_78 : D prog_2_method_1_code 78 (.putfield 45) 3 81 := And.intro (by decide +kernel) rfl
theorem d_prog_2_1_81 : D prog_2_method_1_code 81 (.aload_n 0) 1 82 := And.intro (by decide +kernel) rfl
theorem d_prog_2_1_82 : D prog_2_method_1_code 82 (.lload 4) 2 84 := And.intro (by decide +kernel) rfl
theorem d_prog_2_1_84 : D prog_2_method_1_code 84 (.putfield 49) 3 87 := And.intro (by decide +kernel) rfl
theorem d_prog_2_1_87 : D prog_2_method_1_code 87 (.aload_n 0) 1 88 := And.intro (by decide +kernel) rfl
theorem d_prog_2_1_88 : D prog_2_method_1_code 88 (.aload 6) 2 90 := And.intro (by decide +kernel) rfl
theorem d_prog_2_1_90 : D prog_2_method_1_code 90 (.putfield 52) 3 93 := And.intro (by decide +kernel) rfl
theorem d_prog_2_1_93 : D prog_2_method_1_code 93 (.return_) 1 94 := And.intro (by decide +kernel) rfl
theorem pn8 : plainName "com/example/lean_envelope/leanenvelope/check/ExceededLimit" = true := by first | (simp [plainName, overriddenIn]; done) | decide +kernel
theorem d_prog_2_6_0 : D prog_2_method_6_code 0 (.iconst 0) 1 1 := And.intro (by decide +kernel) rfl
theorem d_prog_2_6_1 : D prog_2_method_6_code 1 (.istore_n 2) 1 2 := And.intro (by decide +kernel) rfl
theorem d_prog_2_6_2 : D prog_2_method_6_code 2 (.aload_n 0) 1 3 := And.intro (by decide +kernel) rfl
theorem d_prog_2_6_3 : D prog_2_method_6_code 3 (.aload_n 1) 1 4 := And.intro (by decide +kernel) rfl
theorem d_prog_2_6_4 : D prog_2_method_6_code 4 (.if_acmp .ne 8) 3 7 := And.intro (by decide +kernel) rfl
theorem d_prog_2_6_7 : D prog_2_method_6_code 7 (.iconst 1) 1 8 := And.intro (by decide +kernel) rfl
theorem d_prog_2_6_8 : D prog_2_method_6_code 8 (.istore_n 2) 1 9 := And.intro (by decide +kernel) rfl
theorem d_prog_2_6_9 : D prog_2_method_6_code 9 (.goto 70) 3 12 := And.intro (by decide +kernel) rfl
theorem d_prog_2_6_79 : D prog_2_method_6_code 79 (.iload_n 2) 1 80 := And.intro (by decide +kernel) rfl
theorem d_prog_2_6_80 : D prog_2_method_6_code 80 (.ireturn) 1 81 := And.intro (by decide +kernel) rfl
theorem d_prog_2_6_12 : D prog_2_method_6_code 12 (.aload_n 1) 1 13 := And.intro (by decide +kernel) rfl
theorem d_prog_2_6_13 : D prog_2_method_6_code 13 (.instanceof 41) 3 16 := And.intro (by decide +kernel) rfl
theorem d_prog_2_6_16 : D prog_2_method_6_code 16 (.ifCond .eq 63) 3 19 := And.intro (by decide +kernel) rfl
theorem d_prog_2_6_19 : D prog_2_method_6_code 19 (.aload_n 1) 1 20 := And.intro (by decide +kernel) rfl
theorem d_prog_2_6_20 : D prog_2_method_6_code 20 (.checkcast 41) 3 23 := And.intro (by decide +kernel) rfl
theorem d_prog_2_6_23 : D prog_2_method_6_code 23 (.astore_n 3) 1 24 := And.intro (by decide +kernel) rfl
theorem d_prog_2_6_24 : D prog_2_method_6_code 24 (.aload_n 0) 1 25 := And.intro (by decide +kernel) rfl
theorem d_prog_2_6_25 : D prog_2_method_6_code 25 (.getfield 40) 3 28 := And.intro (by decide +kernel) rfl
theorem d_prog_2_6_28 : D prog_2_method_6_code 28 (.aload_n 3) 1 29 := And.intro (by decide +kernel) rfl
theorem d_prog_2_6_29 : D prog_2_method_6_code 29 (.getfield 40) 3 32 := And.intro (by decide +kernel) rfl
theorem d_prog_2_6_32 : D prog_2_method_6_code 32 (.invokevirtual 55) 3 35 := And.intro (by decide +kernel) rfl
theorem pd16 : parseMethodDescriptor "(Ljava/lang/Object;)Z" = some ⟨[(.object "java/lang/Object")], some .boolean⟩ := by decide +kernel
theorem d_prog_2_6_35 : D prog_2_method_6_code 35 (.ifCond .eq 42) 3 38 := And.intro (by decide +kernel) rfl
theorem d_prog_2_6_38 : D prog_2_method_6_code 38 (.aload_n 0) 1 39 := And.intro (by decide +kernel) rfl
theorem d_prog_2_6_39 : D prog_2_method_6_code 39 (.getfield 45) 3 42 := And.intro (by decide +kernel) rfl
theorem d_prog_2_6_42 : D prog_2_method_6_code 42 (.aload_n 3) 1 43 := And.intro (by decide +kernel) rfl
theorem d_prog_2_6_43 : D prog_2_method_6_code 43 (.getfield 45) 3 46 := And.intro (by decide +kernel) rfl
theorem d_prog_2_6_46 : D prog_2_method_6_code 46 (.lcmp) 1 47 := And.intro (by decide +kernel) rfl
theorem d_prog_2_6_47 : D prog_2_method_6_code 47 (.ifCond .ne 30) 3 50 := And.intro (by decide +kernel) rfl
theorem d_prog_2_6_77 : D prog_2_method_6_code 77 (.iconst 0) 1 78 := And.intro (by decide +kernel) rfl
theorem d_prog_2_6_78 : D prog_2_method_6_code 78 (.istore_n 2) 1 79 := And.intro (by decide +kernel) rfl
theorem d_prog_2_6_50 : D prog_2_method_6_code 50 (.aload_n 0) 1 51 := And.intro (by decide +kernel) rfl
theorem d_prog_2_6_51 : D prog_2_method_6_code 51 (.getfield 49) 3 54 := And.intro (by decide +kernel) rfl
theorem d_prog_2_6_54 : D prog_2_method_6_code 54 (.aload_n 3) 1 55 := And.intro (by decide +kernel) rfl
theorem d_prog_2_6_55 : D prog_2_method_6_code 55 (.getfield 49) 3 58 := And.intro (by decide +kernel) rfl
theorem d_prog_2_6_58 : D prog_2_method_6_code 58 (.lcmp) 1 59 := And.intro (by decide +kernel) rfl
theorem d_prog_2_6_59 : D prog_2_method_6_code 59 (.ifCond .ne 18) 3 62 := And.intro (by decide +kernel) rfl
theorem d_prog_2_6_62 : D prog_2_method_6_code 62 (.aload_n 0) 1 63 := And.intro (by decide +kernel) rfl
theorem d_prog_2_6_63 : D prog_2_method_6_code 63 (.getfield 52) 3 66 := And.intro (by decide +kernel) rfl
theorem d_prog_2_6_66 : D prog_2_method_6_code 66 (.aload_n 3) 1 67 := And.intro (by decide +kernel) rfl
theorem d_prog_2_6_67 : D prog_2_method_6_code 67 (.getfield 52) 3 70 := And.intro (by decide +kernel) rfl
theorem d_prog_2_6_70 : D prog_2_method_6_code 70 (.if_acmp .ne 7) 3 73 := And.intro (by decide +kernel) rfl
theorem d_prog_2_6_73 : D prog_2_method_6_code 73 (.iconst 1) 1 74 := And.intro (by decide +kernel) rfl
theorem d_prog_2_6_74 : D prog_2_method_6_code 74 (.goto 4) 3 77 := And.intro (by decide +kernel) rfl
theorem d_code_0 : D code 0 (.iload_n 0) 1 1 := And.intro at_0 rfl
theorem d_code_1 : D code 1 (.bipush 16) 2 3 := And.intro at_1 rfl
theorem d_code_3 : D code 3 (.iushr) 1 4 := And.intro at_3 rfl
theorem d_code_4 : D code 4 (.iconst 1) 1 5 := And.intro at_4 rfl
theorem d_code_5 : D code 5 (.iand) 1 6 := And.intro at_5 rfl
theorem d_code_6 : D code 6 (.iconst 1) 1 7 := And.intro at_6 rfl
theorem d_code_7 : D code 7 (.iadd) 1 8 := And.intro at_7 rfl
theorem d_code_8 : D code 8 (.istore 9) 2 10 := And.intro at_8 rfl
theorem d_code_10 : D code 10 (.iload_n 0) 1 11 := And.intro at_10 rfl
theorem d_code_11 : D code 11 (.invokestatic 16) 3 14 := And.intro at_11 rfl
theorem d_code_14 : D code 14 (.istore 10) 2 16 := And.intro at_14 rfl
theorem d_code_16 : D code 16 (.iload_n 0) 1 17 := And.intro at_16 rfl
theorem d_code_17 : D code 17 (.bipush 8) 2 19 := And.intro at_17 rfl
theorem d_code_19 : D code 19 (.iushr) 1 20 := And.intro at_19 rfl
theorem d_code_20 : D code 20 (.sipush 255) 3 23 := And.intro at_20 rfl
theorem d_code_23 : D code 23 (.iand) 1 24 := And.intro at_23 rfl
theorem d_code_24 : D code 24 (.istore 11) 2 26 := And.intro at_24 rfl
theorem d_code_26 : D code 26 (.iload 8) 2 28 := And.intro at_26 rfl
theorem d_code_28 : D code 28 (.iconst 1) 1 29 := And.intro at_28 rfl
theorem d_code_29 : D code 29 (.iand) 1 30 := And.intro at_29 rfl
theorem d_code_30 : D code 30 (.ifCond .eq 7) 3 33 := And.intro at_30 rfl
theorem d_code_37 : D code 37 (.iconst 0) 1 38 := And.intro at_37 rfl
theorem d_code_33 : D code 33 (.iconst 1) 1 34 := And.intro at_33 rfl
theorem d_code_34 : D code 34 (.goto 4) 3 37 := And.intro at_34 rfl
theorem d_code_38 : D code 38 (.istore 12) 2 40 := And.intro at_38 rfl
theorem d_code_40 : D code 40 (.iload 12) 2 42 := And.intro at_40 rfl
theorem d_code_42 : D code 42 (.ifCond .eq 8) 3 45 := And.intro at_42 rfl
theorem d_code_50 : D code 50 (.iload_n 1) 1 51 := And.intro at_50 rfl
theorem d_code_51 : D code 51 (.bipush 16) 2 53 := And.intro at_51 rfl
theorem d_code_53 : D code 53 (.iushr) 1 54 := And.intro at_53 rfl
theorem d_code_54 : D code 54 (.iconst 1) 1 55 := And.intro at_54 rfl
theorem d_code_55 : D code 55 (.iand) 1 56 := And.intro at_55 rfl
theorem d_code_56 : D code 56 (.iconst 1) 1 57 := And.intro at_56 rfl
theorem d_code_57 : D code 57 (.iadd) 1 58 := And.intro at_57 rfl
theorem d_code_45 : D code 45 (.iload 9) 2 47 := And.intro at_45 rfl
theorem d_code_47 : D code 47 (.goto 11) 3 50 := And.intro at_47 rfl
theorem d_code_58 : D code 58 (.istore 13) 2 60 := And.intro at_58 rfl
theorem d_code_60 : D code 60 (.iload 12) 2 62 := And.intro at_60 rfl
theorem d_code_62 : D code 62 (.ifCond .eq 8) 3 65 := And.intro at_62 rfl
theorem d_code_70 : D code 70 (.iload_n 1) 1 71 := And.intro at_70 rfl
theorem d_code_71 : D code 71 (.invokestatic 16) 3 74 := And.intro at_71 rfl
theorem d_code_65 : D code 65 (.iload 10) 2 67 := And.intro at_65 rfl
theorem d_code_67 : D code 67 (.goto 7) 3 70 := And.intro at_67 rfl
theorem d_code_74 : D code 74 (.istore 14) 2 76 := And.intro at_74 rfl
theorem d_code_76 : D code 76 (.iload 12) 2 78 := And.intro at_76 rfl
theorem d_code_78 : D code 78 (.ifCond .eq 8) 3 81 := And.intro at_78 rfl
theorem d_code_86 : D code 86 (.iload_n 1) 1 87 := And.intro at_86 rfl
theorem d_code_87 : D code 87 (.bipush 8) 2 89 := And.intro at_87 rfl
theorem d_code_89 : D code 89 (.iushr) 1 90 := And.intro at_89 rfl
theorem d_code_90 : D code 90 (.sipush 255) 3 93 := And.intro at_90 rfl
theorem d_code_93 : D code 93 (.iand) 1 94 := And.intro at_93 rfl
theorem d_code_81 : D code 81 (.iload 11) 2 83 := And.intro at_81 rfl
theorem d_code_83 : D code 83 (.goto 11) 3 86 := And.intro at_83 rfl
theorem d_code_94 : D code 94 (.istore 15) 2 96 := And.intro at_94 rfl
theorem d_code_96 : D code 96 (.iload 9) 2 98 := And.intro at_96 rfl
theorem d_code_98 : D code 98 (.iload 10) 2 100 := And.intro at_98 rfl
theorem d_code_100 : D code 100 (.iload 11) 2 102 := And.intro at_100 rfl
theorem d_code_102 : D code 102 (.invokestatic 22) 3 105 := And.intro at_102 rfl
theorem pd17 : parseMethodDescriptor "(III)Ljava/lang/String;" = some ⟨[.int, .int, .int], some (.object "java/lang/String")⟩ := by decide +kernel
theorem d_code_105 : D code 105 (.astore 16) 2 107 := And.intro at_105 rfl
theorem d_code_107 : D code 107 (.iload 13) 2 109 := And.intro at_107 rfl
theorem d_code_109 : D code 109 (.iload 14) 2 111 := And.intro at_109 rfl
theorem d_code_111 : D code 111 (.iload 15) 2 113 := And.intro at_111 rfl
theorem d_code_113 : D code 113 (.invokestatic 22) 3 116 := And.intro at_113 rfl
theorem d_code_116 : D code 116 (.astore 17) 2 118 := And.intro at_116 rfl
theorem d_code_118 : D code 118 (.lload_n 2) 1 119 := And.intro at_118 rfl
theorem d_code_119 : D code 119 (.invokestatic 26) 3 122 := And.intro at_119 rfl
theorem pd18 : parseMethodDescriptor "(J)J" = some ⟨[.long], some .long⟩ := by decide +kernel
theorem d_code_122 : D code 122 (.lstore 18) 2 124 := And.intro at_122 rfl
theorem d_code_124 : D code 124 (.lload 18) 2 126 := And.intro at_124 rfl
theorem d_code_126 : D code 126 (.lload 4) 2 128 := And.intro at_126 rfl
theorem d_code_128 : D code 128 (.invokestatic 30) 3 131 := And.intro at_128 rfl
theorem pd19 : parseMethodDescriptor "(JJ)J" = some ⟨[.long, .long], some .long⟩ := by decide +kernel
theorem d_code_131 : D code 131 (.lstore 20) 2 133 := And.intro at_131 rfl
theorem d_code_133 : D code 133 (.iload 8) 2 135 := And.intro at_133 rfl
theorem d_code_135 : D code 135 (.iconst 2) 1 136 := And.intro at_135 rfl
theorem d_code_136 : D code 136 (.iand) 1 137 := And.intro at_136 rfl
theorem d_code_137 : D code 137 (.ifCond .eq 8) 3 140 := And.intro at_137 rfl
theorem d_code_145 : D code 145 (.lload 6) 2 147 := And.intro at_145 rfl
theorem d_code_147 : D code 147 (.invokestatic 26) 3 150 := And.intro at_147 rfl
theorem d_code_140 : D code 140 (.lload 18) 2 142 := And.intro at_140 rfl
theorem d_code_142 : D code 142 (.goto 8) 3 145 := And.intro at_142 rfl
theorem d_code_150 : D code 150 (.lstore 22) 2 152 := And.intro at_150 rfl
theorem d_code_152 : D code 152 (.iload 8) 2 154 := And.intro at_152 rfl
theorem d_code_154 : D code 154 (.iconst 4) 1 155 := And.intro at_154 rfl
theorem d_code_155 : D code 155 (.iand) 1 156 := And.intro at_155 rfl
theorem d_code_156 : D code 156 (.ifCond .eq 16) 3 159 := And.intro at_156 rfl
theorem d_code_172 : D code 172 (.lload 22) 2 174 := And.intro at_172 rfl
theorem d_code_174 : D code 174 (.lload 4) 2 176 := And.intro at_174 rfl
theorem d_code_176 : D code 176 (.lload 6) 2 178 := And.intro at_176 rfl
theorem d_code_178 : D code 178 (.lxor) 1 179 := And.intro at_178 rfl
theorem d_code_179 : D code 179 (.invokestatic 30) 3 182 := And.intro at_179 rfl
theorem d_code_159 : D code 159 (.lload 20) 2 161 := And.intro at_159 rfl
theorem d_code_161 : D code 161 (.lload 22) 2 163 := And.intro at_161 rfl
theorem d_code_163 : D code 163 (.lcmp) 1 164 := And.intro at_163 rfl
theorem d_code_164 : D code 164 (.ifCond .le 8) 3 167 := And.intro at_164 rfl
theorem d_code_167 : D code 167 (.lload 20) 2 169 := And.intro at_167 rfl
theorem d_code_169 : D code 169 (.goto 13) 3 172 := And.intro at_169 rfl
theorem d_code_182 : D code 182 (.lstore 24) 2 184 := And.intro at_182 rfl
theorem d_code_184 : D code 184 (.iload 8) 2 186 := And.intro at_184 rfl
theorem d_code_186 : D code 186 (.bipush 8) 2 188 := And.intro at_186 rfl
theorem d_code_188 : D code 188 (.iand) 1 189 := And.intro at_188 rfl
theorem d_code_189 : D code 189 (.ifCond .eq 9) 3 192 := And.intro at_189 rfl
theorem d_code_198 : D code 198 (.getstatic 40) 3 201 := And.intro at_198 rfl
theorem d_code_192 : D code 192 (.getstatic 34) 3 195 := And.intro at_192 rfl
theorem d_code_195 : D code 195 (.goto 6) 3 198 := And.intro at_195 rfl
theorem d_code_201 : D code 201 (.astore 26) 2 203 := And.intro at_201 rfl
theorem d_code_203 : D code 203 (.iload 8) 2 205 := And.intro at_203 rfl
theorem d_code_205 : D code 205 (.bipush 16) 2 207 := And.intro at_205 rfl
theorem d_code_207 : D code 207 (.iand) 1 208 := And.intro at_207 rfl
theorem d_code_208 : D code 208 (.ifCond .eq 9) 3 211 := And.intro at_208 rfl
theorem d_code_217 : D code 217 (.getstatic 40) 3 220 := And.intro at_217 rfl
theorem d_code_211 : D code 211 (.getstatic 34) 3 214 := And.intro at_211 rfl
theorem d_code_214 : D code 214 (.goto 6) 3 217 := And.intro at_214 rfl
theorem d_code_220 : D code 220 (.astore 27) 2 222 := And.intro at_220 rfl
theorem d_code_222 : D code 222 (.new 43) 3 225 := And.intro at_222 rfl
theorem d_code_225 : D code 225 (.dup) 1 226 := And.intro at_225 rfl
theorem d_code_226 : D code 226 (.aload 16) 2 228 := And.intro at_226 rfl
theorem d_code_228 : D code 228 (.lload 20) 2 230 := And.intro at_228 rfl
theorem d_code_230 : D code 230 (.lload 18) 2 232 := And.intro at_230 rfl
theorem d_code_232 : D code 232 (.aload 26) 2 234 := And.intro at_232 rfl
theorem d_code_234 : D code 234 (.invokespecial 45) 3 237 := And.intro at_234 rfl
theorem pd20 : parseMethodDescriptor "(Ljava/lang/String;JJLcom/example/lean_envelope/leanenvelope/check/ExceededLimit$Unit;)V" = some ⟨[(.object "java/lang/String"), .long, .long, (.object "com/example/lean_envelope/leanenvelope/check/ExceededLimit$Unit")], none⟩ := by decide +kernel
theorem d_code_237 : D code 237 (.astore 28) 2 239 := And.intro at_237 rfl
theorem d_code_239 : D code 239 (.new 43) 3 242 := And.intro at_239 rfl
theorem d_code_242 : D code 242 (.dup) 1 243 := And.intro at_242 rfl
theorem d_code_243 : D code 243 (.aload 17) 2 245 := And.intro at_243 rfl
theorem d_code_245 : D code 245 (.lload 24) 2 247 := And.intro at_245 rfl
theorem d_code_247 : D code 247 (.lload 22) 2 249 := And.intro at_247 rfl
theorem d_code_249 : D code 249 (.aload 27) 2 251 := And.intro at_249 rfl
theorem d_code_251 : D code 251 (.invokespecial 45) 3 254 := And.intro at_251 rfl
theorem d_code_254 : D code 254 (.astore 29) 2 256 := And.intro at_254 rfl
theorem d_code_256 : D code 256 (.iload 9) 2 258 := And.intro at_256 rfl
theorem d_code_258 : D code 258 (.iload 13) 2 260 := And.intro at_258 rfl
theorem d_code_260 : D code 260 (.if_icmp .ne 27) 3 263 := And.intro at_260 rfl
theorem d_code_263 : D code 263 (.iload 10) 2 265 := And.intro at_263 rfl
theorem d_code_265 : D code 265 (.iload 14) 2 267 := And.intro at_265 rfl
theorem d_code_267 : D code 267 (.if_icmp .ne 20) 3 270 := And.intro at_267 rfl
theorem d_code_287 : D code 287 (.iconst 0) 1 288 := And.intro at_287 rfl
theorem d_code_288 : D code 288 (.istore 30) 2 290 := And.intro at_288 rfl
theorem d_code_290 : D code 290 (.iload 30) 2 292 := And.intro at_290 rfl
theorem d_code_292 : D code 292 (.ifCond .eq 30) 3 295 := And.intro at_292 rfl
theorem d_code_322 : D code 322 (.iconst 0) 1 323 := And.intro at_322 rfl
theorem d_code_323 : D code 323 (.istore 31) 2 325 := And.intro at_323 rfl
theorem d_code_325 : D code 325 (.aload 28) 2 327 := And.intro at_325 rfl
theorem d_code_327 : D code 327 (.aload 29) 2 329 := And.intro at_327 rfl
theorem d_code_329 : D code 329 (.invokevirtual 48) 3 332 := And.intro at_329 rfl
theorem d_code_332 : D code 332 (.iload 31) 2 334 := And.intro at_332 rfl
theorem d_code_334 : D code 334 (.if_icmp .ne 61) 3 337 := And.intro at_334 rfl
theorem d_code_337 : D code 337 (.aload 29) 2 339 := And.intro at_337 rfl
theorem d_code_339 : D code 339 (.aload 28) 2 341 := And.intro at_339 rfl
theorem d_code_341 : D code 341 (.invokevirtual 48) 3 344 := And.intro at_341 rfl
theorem d_code_344 : D code 344 (.iload 31) 2 346 := And.intro at_344 rfl
theorem d_code_346 : D code 346 (.if_icmp .ne 49) 3 349 := And.intro at_346 rfl
theorem d_code_349 : D code 349 (.aload 28) 2 351 := And.intro at_349 rfl
theorem d_code_351 : D code 351 (.aload 28) 2 353 := And.intro at_351 rfl
theorem d_code_353 : D code 353 (.invokevirtual 48) 3 356 := And.intro at_353 rfl
theorem d_code_356 : D code 356 (.ifCond .eq 39) 3 359 := And.intro at_356 rfl
theorem d_code_359 : D code 359 (.aload 28) 2 361 := And.intro at_359 rfl
theorem d_code_361 : D code 361 (.aconst_null) 1 362 := And.intro at_361 rfl
theorem d_code_362 : D code 362 (.invokevirtual 48) 3 365 := And.intro at_362 rfl
theorem d_code_365 : D code 365 (.ifCond .ne 30) 3 368 := And.intro at_365 rfl
theorem d_code_368 : D code 368 (.aload 28) 2 370 := And.intro at_368 rfl
theorem d_code_370 : D code 370 (.aload 16) 2 372 := And.intro at_370 rfl
theorem d_code_372 : D code 372 (.invokevirtual 48) 3 375 := And.intro at_372 rfl
theorem d_code_375 : D code 375 (.ifCond .ne 20) 3 378 := And.intro at_375 rfl
theorem d_code_378 : D code 378 (.aload 28) 2 380 := And.intro at_378 rfl
theorem d_code_380 : D code 380 (.lload 20) 2 382 := And.intro at_380 rfl
theorem d_code_382 : D code 382 (.invokestatic 52) 3 385 := And.intro at_382 rfl
theorem pd21 : parseMethodDescriptor "(J)Ljava/lang/Long;" = some ⟨[.long], some (.object "java/lang/Long")⟩ := by decide +kernel
theorem d_code_385 : D code 385 (.invokevirtual 48) 3 388 := And.intro at_385 rfl
theorem d_code_388 : D code 388 (.ifCond .ne 7) 3 391 := And.intro at_388 rfl
theorem d_code_391 : D code 391 (.iconst 1) 1 392 := And.intro at_391 rfl
theorem d_code_392 : D code 392 (.goto 4) 3 395 := And.intro at_392 rfl
theorem d_code_396 : D code 396 (.ireturn) 1 397 := And.intro at_396 rfl
theorem d_code_270 : D code 270 (.iload 9) 2 272 := And.intro at_270 rfl
theorem d_code_272 : D code 272 (.iconst 1) 1 273 := And.intro at_272 rfl
theorem d_code_273 : D code 273 (.if_icmp .eq 10) 3 276 := And.intro at_273 rfl
theorem d_code_283 : D code 283 (.iconst 1) 1 284 := And.intro at_283 rfl
theorem d_code_284 : D code 284 (.goto 4) 3 287 := And.intro at_284 rfl
theorem d_code_295 : D code 295 (.lload 20) 2 297 := And.intro at_295 rfl
theorem d_code_297 : D code 297 (.lload 24) 2 299 := And.intro at_297 rfl
theorem d_code_299 : D code 299 (.lcmp) 1 300 := And.intro at_299 rfl
theorem d_code_300 : D code 300 (.ifCond .ne 22) 3 303 := And.intro at_300 rfl
theorem d_code_303 : D code 303 (.lload 18) 2 305 := And.intro at_303 rfl
theorem d_code_305 : D code 305 (.lload 22) 2 307 := And.intro at_305 rfl
theorem d_code_307 : D code 307 (.lcmp) 1 308 := And.intro at_307 rfl
theorem d_code_308 : D code 308 (.ifCond .ne 14) 3 311 := And.intro at_308 rfl
theorem d_code_311 : D code 311 (.aload 26) 2 313 := And.intro at_311 rfl
theorem d_code_313 : D code 313 (.aload 27) 2 315 := And.intro at_313 rfl
theorem d_code_315 : D code 315 (.if_acmp .ne 7) 3 318 := And.intro at_315 rfl
theorem d_code_318 : D code 318 (.iconst 1) 1 319 := And.intro at_318 rfl
theorem d_code_319 : D code 319 (.goto 4) 3 322 := And.intro at_319 rfl
theorem d_code_276 : D code 276 (.iload 11) 2 278 := And.intro at_276 rfl
theorem d_code_278 : D code 278 (.iload 15) 2 280 := And.intro at_278 rfl
theorem d_code_280 : D code 280 (.if_icmp .ne 7) 3 283 := And.intro at_280 rfl
theorem own_EW {Z : State} {a0 : Array Value} (hw : ∀ d ∈ tables_1, d.before a0 Z = true) : EW Z a0 own_EL := EW.nil
theorem wS {Z : State} {a0 : Array Value} (hw : ∀ d ∈ tables_1, d.before a0 Z = true) : ∀ a ∈ Bundle.stringAtoms, a.before a0 Z = true := fun a ha => hw a ((by decide +kernel : ∀ a ∈ Bundle.stringAtoms, a ∈ tables_1) a ha)
set_option maxRecDepth 65536 in
set_option maxHeartbeats 40000000 in
theorem ct_cmp5 (l : Launch) (Z : State) (a0 : Array Value) (hw : ∀ d ∈ tables_1, d.before a0 Z = true) (n0 : Nat) (h0 : Heap) (a b : Addr) (cs : List Int32) (vs : List Value) (A0 : Av Z h0 a .char (cs.map Value.int)) (B0 : Av Z h0 b .byte vs) (hlen : vs.length = cs.length) (hR : ∀ c ∈ cs, Rg c 256) : Ct l Z a0 own_EL false (⟨"java/lang/StringUTF16", "compress", "([CI[BII)I"⟩ : MethodName) jdk_52_method_21_code 7 (Option.some Jvm.ClassFile.FieldType.int) ({ frames := 0, cells := 0, slots := 0, locals := 0 } : Room) #[(.ref a), (.int (0 : Int32)), (.ref b), (.int (0 : Int32)), (.int (Int32.ofNat cs.length))] h0 [b] n0 (fun v h so => v = some (.int (Int32.ofNat cs.length)) ∧ Keep h0 h [b] ∧ Av Z h b .byte ((cs.map i2b).map Value.int)) := by
  refine Ct.body (plainFor_of_name pn0) ?_
  intro p e s m below meth c T W
  refine WP.cast (g' := (mkF m 0 #[.val (.ref a), .val (.int (0 : Int32)), .val (.ref b), .val (.int (0 : Int32)), .val (.int (Int32.ofNat cs.length)), .unset, .unset] [])) (by simp [entryFrame, mkF, argsToLocals, cat_i, cat_l, cat_r, cat_n]) ?_
  have hN : cs.length < 2147483648 := by have := A0.len; simpa using this
  have hab : a ≠ b := ne_av A0 B0 (by decide)
  refine k_iconst W d_jdk_52_21_0 (z := (0 : Int32)) rfl ?_
  refine k_istore W d_jdk_52_21_1 (L' := #[.val (.ref a), .val (.int (0 : Int32)), .val (.ref b), .val (.int (0 : Int32)), .val (.int (Int32.ofNat cs.length)), .val (.int (0 : Int32)), .unset]) rfl ?_
  have loop : ∀ (k i : Nat) (T : State) (h : Heap) (s6 : Slot), i + k = cs.length → (s6 = .unset ∨ ∃ w, s6 = .val w ∧ w.category = 1) → WS p l e ({ frames := 0, cells := 0, slots := 0, locals := 0 } : Room) s m #[(.ref a), (.int (0 : Int32)), (.ref b), (.int (0 : Int32)), (.int (Int32.ofNat cs.length))] below meth c Z a0 own_EL false n0 (⟨"java/lang/StringUTF16", "compress", "([CI[BII)I"⟩ : MethodName) jdk_52_method_21_code 7 (Option.some Jvm.ClassFile.FieldType.int) T h [b] 0 0 → Keep h0 h [b] → Av Z h b .byte (((cs.take i).map i2b).map Value.int ++ vs.drop i) → WP p e below (Fne s n0 Z own_EL false ({ frames := 0, cells := 0, slots := 0, locals := 0 } : Room) (fun v h so => v = some (.int (Int32.ofNat cs.length)) ∧ Keep h0 h [b] ∧ Av Z h b .byte ((cs.map i2b).map Value.int))) T (mkF m 3 #[.val (.ref a), .val (.int (Int32.ofNat i)), .val (.ref b), .val (.int (Int32.ofNat i)), .val (.int (Int32.ofNat cs.length)), .val (.int (Int32.ofNat i)), s6] []) := by
    intro k
    induction k with
    | zero =>
      intro i T h s6 hi h6 W KB AB
      obtain rfl : i = cs.length := by omega
      refine k_iload W d_jdk_52_21_3 rfl ?_
      refine k_iload W d_jdk_52_21_5 rfl ?_
      refine k_icY W 44 d_jdk_52_21_7 (by decide) (show ¬ (Int32.ofNat cs.length) < (Int32.ofNat cs.length) from (of_ge (Nat.le_refl _) hN)) ?_
      refine k_iload W d_jdk_52_21_44 rfl ?_
      exact k_ireturn W d_jdk_52_21_46 rfl [] (fun x hx => nomatch hx) (Nat.le_of_ble_eq_true rfl) (Nat.le_of_ble_eq_true rfl) ⟨rfl, KB, by rw [List.take_length, List.drop_eq_nil_of_le (by omega), List.append_nil] at AB; exact AB⟩
    | succ k ih =>
      intro i T h s6 hi h6 W KB AB
      have hlt : i < cs.length := by omega
      obtain ⟨ci, hci⟩ : ∃ c, cs[i]? = some c := ⟨_, List.getElem?_eq_getElem hlt⟩
      have hRi : Rg ci 256 := hR _ (List.mem_of_getElem? hci)
      refine k_iload W d_jdk_52_21_3 rfl ?_
      refine k_iload W d_jdk_52_21_5 rfl ?_
      refine k_icN W d_jdk_52_21_7 (show ¬ (¬ (Int32.ofNat i) < (Int32.ofNat cs.length)) from (fun q => q (of_lt hlt hN))) ?_
      refine k_aloadN W d_jdk_52_21_10 rfl rfl ?_
      refine k_iloadN W d_jdk_52_21_11 rfl ?_
      refine k_caload W (v := (.int ci)) i d_jdk_52_21_12 (A0.keep KB (nin1 hab)) (ix_of (by omega)) (by simp [hci]) ?_
      refine k_istore W d_jdk_52_21_13 (L' := #[.val (.ref a), .val (.int (Int32.ofNat i)), .val (.ref b), .val (.int (Int32.ofNat i)), .val (.int (Int32.ofNat cs.length)), .val (.int (Int32.ofNat i)), .val (.int ci)]) (XS.store1 rfl h6 rfl) ?_
      refine k_iload W d_jdk_52_21_15 rfl ?_
      refine k_sipush W d_jdk_52_21_17 (z := (255 : Int32)) rfl ?_
      refine k_icY W 26 d_jdk_52_21_20 (by decide) (show ¬ (255 : Int32) < ci from (Rg.le255 hRi)) ?_
      refine k_aloadN W d_jdk_52_21_26 rfl rfl ?_
      refine k_iloadN W d_jdk_52_21_27 rfl ?_
      refine k_iload W d_jdk_52_21_28 rfl ?_
      refine k_i2b W d_jdk_52_21_30 (z := (i2b ci)) rfl ?_
      refine k_bastore W (z := (i2b ci)) i d_jdk_52_21_31 (List.mem_of_getElem? (i := 0) rfl) AB (ix_of (by omega)) (by simp; omega) (nar_i2b _) (fits_i2b _) fun T h1 W Wr1 A1 => ?_
      have K1 : Keep h h1 [b] := Keep.of_wr Wr1
      refine k_iinc W d_jdk_52_21_32 rfl (z := (Int32.ofNat (i + 1))) (of_succ i) (L' := #[.val (.ref a), .val (.int (Int32.ofNat (i + 1))), .val (.ref b), .val (.int (Int32.ofNat i)), .val (.int (Int32.ofNat cs.length)), .val (.int (Int32.ofNat i)), .val (.int ci)]) rfl ?_
      refine k_iinc W d_jdk_52_21_35 rfl (z := (Int32.ofNat (i + 1))) (of_succ i) (L' := #[.val (.ref a), .val (.int (Int32.ofNat (i + 1))), .val (.ref b), .val (.int (Int32.ofNat (i + 1))), .val (.int (Int32.ofNat cs.length)), .val (.int (Int32.ofNat i)), .val (.int ci)]) rfl ?_
      refine k_iinc W d_jdk_52_21_38 rfl (z := (Int32.ofNat (i + 1))) (of_succ i) (L' := #[.val (.ref a), .val (.int (Int32.ofNat (i + 1))), .val (.ref b), .val (.int (Int32.ofNat (i + 1))), .val (.int (Int32.ofNat cs.length)), .val (.int (Int32.ofNat (i + 1))), .val (.int ci)]) rfl ?_
      refine k_goto W 3 d_jdk_52_21_41 (by decide) ?_
      refine ih (i + 1) T h1 _ (by omega) (Or.inr ⟨_, rfl, rfl⟩) W (KB.trans K1 (fun x hx => Or.inl hx)) ?_
      have hh := A1
      rw [cmp_step hci hlen] at hh; exact hh
  exact loop cs.length 0 T h0 .unset (by omega) (Or.inl rfl) W (Keep.refl _ _) (by simpa using B0)
set_option maxRecDepth 65536 in
set_option maxHeartbeats 40000000 in
theorem ct_cmp3 (l : Launch) (Z : State) (a0 : Array Value) (hw : ∀ d ∈ tables_1, d.before a0 Z = true) (n0 : Nat) (h0 : Heap) (a : Addr) (cs : List Int32) (N : Nat) (A0 : Av Z h0 a .char (cs.map Value.int)) (hR : ∀ c ∈ cs, Rg c 256) (hN : cs.length ≤ N) (hN2 : N ≤ 67108864) : Ct l Z a0 own_EL false (⟨"java/lang/StringUTF16", "compress", "([CII)[B"⟩ : MethodName) jdk_52_method_16_code 6 (Option.some (Jvm.ClassFile.FieldType.array Jvm.ClassFile.FieldType.byte)) ({ frames := 1, cells := 1, slots := N, locals := 18 } : Room) #[(.ref a), (.int (0 : Int32)), (.int (Int32.ofNat cs.length))] h0 [] n0 (fun v h so => ∃ b, v = some (.ref b) ∧ h0.size ≤ b ∧ Keep h0 h [] ∧ Av Z h b .byte ((cs.map i2b).map Value.int)) := by
  refine Ct.body (plainFor_of_name pn0) ?_
  intro p e s m below meth c T W
  refine WP.cast (g' := (mkF m 0 #[.val (.ref a), .val (.int (0 : Int32)), .val (.int (Int32.ofNat cs.length)), .unset, .unset, .unset] [])) (by simp [entryFrame, mkF, argsToLocals, cat_i, cat_l, cat_r, cat_n]) ?_
  refine k_iloadN W d_jdk_52_16_0 rfl ?_
  refine k_newarr W cs.length 1 (0 + cs.length) d_jdk_52_16_1 (w26 hw) (ix_of (by omega)) (by omega) ⟨rfl, Nat.le_of_ble_eq_true rfl⟩ ⟨rfl, (by show 0 + cs.length ≤ N; omega)⟩ fun T h2 a3 g3 W E3 A3 => ?_
  have K3 : Keep h0 h2 [] := keep_ext E3 []
  have A3 : Av Z h2 a3 .byte (List.replicate cs.length (defaultValue .byte)) := A3
  refine k_astoreN W d_jdk_52_16_3 rfl (L' := #[.val (.ref a), .val (.int (0 : Int32)), .val (.int (Int32.ofNat cs.length)), .val (.ref a3), .unset, .unset]) rfl ?_
  refine k_aloadN W d_jdk_52_16_4 rfl rfl ?_
  refine k_iloadN W d_jdk_52_16_5 rfl ?_
  refine k_aloadN W d_jdk_52_16_6 rfl rfl ?_
  refine k_iconst W d_jdk_52_16_7 (z := (0 : Int32)) rfl ?_
  refine k_iloadN W d_jdk_52_16_8 rfl ?_
  have f4 := (A0.keep K3 nin0)
  refine k_callS W 0 1 ((0 + cs.length) + 0) (argsL := [(.ref a), (.int (0 : Int32)), (.ref a3), (.int (0 : Int32)), (.int (Int32.ofNat cs.length))]) (rest := []) d_jdk_52_16_9 (w27 hw) (w28 hw) (by decide) (lenOf pd0 rfl) (ct_cmp5 l Z a0 hw n0 h2 a a3 cs (List.replicate cs.length (defaultValue .byte)) f4 A3 (by simp) hR) (w29 hw) (w24 hw) (fun x hx => hx) rfl (Nat.le_of_eq rfl) (Nat.le_of_ble_eq_true rfl) (Nat.le_of_ble_eq_true rfl) ⟨rfl, Nat.le_of_ble_eq_true rfl⟩ ⟨rfl, (by show 0 + cs.length ≤ N; omega)⟩ rfl (fun _ _ q => nomatch q.1) fun T h5 v so W hQ => ?_
  obtain ⟨hv, K5, B5⟩ := hQ
  obtain rfl := Option.some.inj hv
  refine k_istore W d_jdk_52_16_12 (L' := #[.val (.ref a), .val (.int (0 : Int32)), .val (.int (Int32.ofNat cs.length)), .val (.ref a3), .val (.int (Int32.ofNat cs.length)), .unset]) rfl ?_
  refine k_iload W d_jdk_52_16_14 rfl ?_
  refine k_iloadN W d_jdk_52_16_16 rfl ?_
  refine k_icY W 57 d_jdk_52_16_17 (by decide) (show (Int32.ofNat cs.length) = (Int32.ofNat cs.length) from rfl) ?_
  refine k_aloadN W d_jdk_52_16_57 rfl rfl ?_
  have KK6 : Keep h0 h2 [] := (Keep.refl h0 []).trans K3 all0
  have KK7 : Keep h0 h5 [] := KK6.trans K5 (allS (Or.inr (Nat.le_of_eq g3.symm)) all0)
  exact k_areturn W d_jdk_52_16_58 rfl rfl rfl [] (fun x hx => nomatch hx) (Nat.le_of_ble_eq_true rfl) (by show 0 + cs.length + 0 ≤ N; omega) ⟨_, rfl, (Nat.le_of_eq g3.symm), KK7, B5⟩
set_option maxRecDepth 65536 in
set_option maxHeartbeats 40000000 in
theorem ct_cfal (l : Launch) (Z : State) (a0 : Array Value) (hw : ∀ d ∈ tables_1, d.before a0 Z = true) (n0 : Nat) (h0 : Heap) (b : Addr) (vs : List Value) (B0 : Av Z h0 b .byte vs) : Ct l Z a0 own_EL false (⟨"java/lang/StringUTF16", "coderFromArrayLen", "([BI)B"⟩ : MethodName) jdk_52_method_15_code 2 (Option.some Jvm.ClassFile.FieldType.byte) ({ frames := 0, cells := 0, slots := 0, locals := 0 } : Room) #[(.ref b), (.int (Int32.ofNat vs.length))] h0 [] n0 (fun v h so => v = some (.int (0 : Int32)) ∧ h0 = h ∧ so = []) := by
  refine Ct.body (plainFor_of_name pn0) ?_
  intro p e s m below meth c T W
  refine WP.cast (g' := (mkF m 0 #[.val (.ref b), .val (.int (Int32.ofNat vs.length))] [])) (by simp [entryFrame, mkF, argsToLocals, cat_i, cat_l, cat_r, cat_n]) ?_
  refine k_iloadN W d_jdk_52_15_0 rfl ?_
  refine k_aloadN W d_jdk_52_15_1 rfl rfl ?_
  refine k_arraylength W (z := (Int32.ofNat vs.length)) d_jdk_52_15_2 B0 rfl ?_
  refine k_isub W d_jdk_52_15_3 (z := ((Int32.ofNat vs.length) - (Int32.ofNat vs.length))) rfl ?_
  refine k_bipush W d_jdk_52_15_4 (z := (31 : Int32)) rfl ?_
  obtain ⟨v8, ev8⟩ : ∃ z : Int32, z = (XT.ushr ((Int32.ofNat vs.length) - (Int32.ofNat vs.length)) (31 : Int32)) := ⟨_, rfl⟩
  refine k_iushr W d_jdk_52_15_6 ev8.symm ?_
  refine k_i2b W d_jdk_52_15_7 (z := (i2b v8)) rfl ?_
  exact k_retN W (t := .byte) (z' := (0 : Int32)) d_jdk_52_15_8 rfl (by simp) (by subst_vars; rw [Int32.sub_self]; decide) [] (fun x hx => nomatch hx) (Nat.le_of_ble_eq_true rfl) (Nat.le_of_ble_eq_true rfl) ⟨rfl, rfl, rfl⟩
set_option maxRecDepth 65536 in
set_option maxHeartbeats 40000000 in
theorem ct_sinit4 (l : Launch) (Z : State) (a0 : Array Value) (hw : ∀ d ∈ tables_1, d.before a0 Z = true) (n0 : Nat) (h0 : Heap) (x a : Addr) (cs : List Int32) (N : Nat) (zc : Int32) (v0 c0 : Value) (E0 : Exa Z h0 x "java/lang/String") (V0 : Fld Z h0 x "java/lang/String" "value" "[B" v0) (C0 : Fld Z h0 x "java/lang/String" "coder" "B" c0) (A0 : Av Z h0 a .char (cs.map Value.int)) (P0 : Sta Z h0 "java/lang/String" "COMPACT_STRINGS" "Z" (.int zc)) (hzc : zc ≠ 0) (hR : ∀ c ∈ cs, Rg c 256) (hp : 0 < cs.length) (hN : cs.length ≤ N) (hN2 : N ≤ 67108864) : Ct l Z a0 own_EL false (⟨"java/lang/String", "<init>", "([CIILjava/lang/Void;)V"⟩ : MethodName) jdk_42_method_149_code 6 (Option.none : Option Jvm.ClassFile.FieldType) ({ frames := 2, cells := 1, slots := N, locals := 35 } : Room) #[(.ref x), (.ref a), (.int (0 : Int32)), (.int (Int32.ofNat cs.length)), .null] h0 [x] n0 (fun v h so => v = none ∧ ∃ b, h0.size ≤ b ∧ Keep h0 h [x] ∧ St Z h x b (cs.map i2b)) := by
  refine Ct.body (plainFor_of_name pn1) ?_
  intro p e s m below meth c T W
  refine WP.cast (g' := (mkF m 0 #[.val (.ref x), .val (.ref a), .val (.int (0 : Int32)), .val (.int (Int32.ofNat cs.length)), .val .null, .unset] [])) (by simp [entryFrame, mkF, argsToLocals, cat_i, cat_l, cat_r, cat_n]) ?_
  have hL : cs.length < 2147483648 := by omega
  have hnz : ¬ Int32.ofNat cs.length = 0 := of_ne0 hp hL
  refine k_aloadN W d_jdk_42_149_0 rfl rfl ?_
  refine k_initO W 0 d_jdk_42_149_1 (w18 hw) (w19 hw) (w20 hw) rfl (Nat.le_of_eq rfl) (Nat.le_of_ble_eq_true rfl) (Nat.le_of_ble_eq_true rfl) fun T W => ?_
  refine k_iloadN W d_jdk_42_149_4 rfl ?_
  refine k_ifY W 27 d_jdk_42_149_5 (by decide) (show ¬ (Int32.ofNat cs.length) = 0 from hnz) ?_
  refine k_getS W d_jdk_42_149_27 (w21 hw) Via.refl P0 fun T W => ?_
  refine k_ifN W d_jdk_42_149_30 (show ¬ (zc = 0) from hzc) ?_
  refine k_aloadN W d_jdk_42_149_33 rfl rfl ?_
  refine k_iloadN W d_jdk_42_149_34 rfl ?_
  refine k_iloadN W d_jdk_42_149_35 rfl ?_
  refine k_callS W 0 1 (0 + N) (argsL := [(.ref a), (.int (0 : Int32)), (.int (Int32.ofNat cs.length))]) (rest := []) d_jdk_42_149_36 (w22 hw) (w23 hw) (by decide) (lenOf pd1 rfl) (ct_cmp3 l Z a0 hw n0 h0 a cs N A0 hR hN hN2) (w25 hw) (w24 hw) (fun x hx => nomatch hx) rfl (Nat.le_of_eq rfl) (Nat.le_of_ble_eq_true rfl) (Nat.le_of_ble_eq_true rfl) ⟨rfl, Nat.le_of_ble_eq_true rfl⟩ ⟨rfl, (by show 0 + N ≤ N; omega)⟩ rfl (fun _ _ ⟨_, q, _⟩ => nomatch q) fun T h9 v so W hQ => ?_
  obtain ⟨b9, hv, g9, K9, B9⟩ := hQ
  obtain rfl := Option.some.inj hv
  refine k_astore W d_jdk_42_149_39 rfl (L' := #[.val (.ref x), .val (.ref a), .val (.int (0 : Int32)), .val (.int (Int32.ofNat cs.length)), .val .null, .val (.ref b9)]) rfl ?_
  refine k_aloadN W d_jdk_42_149_41 rfl rfl ?_
  refine k_aload W d_jdk_42_149_42 rfl rfl ?_
  refine k_iloadN W d_jdk_42_149_44 rfl ?_
  have hvl : ((cs.map i2b).map Value.int).length = cs.length := by simp
  have hqc := ct_cfal l Z a0 hw n0 h9 b9 ((cs.map i2b).map Value.int) B9
  rw [hvl] at hqc
  refine k_callS W 1 1 ((0 + N) + 0) (argsL := [(.ref b9), (.int (Int32.ofNat cs.length))]) (rest := [(.ref x)]) d_jdk_42_149_45 (w30 hw) (w31 hw) (by decide) (lenOf pd2 rfl) hqc (w32 hw) (w24 hw) (fun x hx => nomatch hx) rfl (Nat.le_of_eq rfl) (Nat.le_of_ble_eq_true rfl) (Nat.le_of_ble_eq_true rfl) ⟨rfl, Nat.le_of_ble_eq_true rfl⟩ ⟨rfl, (by show 0 + N ≤ N; omega)⟩ rfl (fun _ _ q => nomatch q.1) fun T h10 v so W hQ => ?_
  obtain ⟨hv, rfl, -⟩ := hQ
  obtain rfl := Option.some.inj hv
  have f11 := (C0.keep K9 nin0)
  have f12 := (E0.keep K9)
  refine k_putF W d_jdk_42_149_48 (w33 hw) Via.refl (v' := (.int (0 : Int32))) (List.mem_of_getElem? (i := 0) rfl) f11 f12 (Or.inr ⟨(w34 hw), rfl, rfl⟩) (w9 hw) (ty := .byte) (by decide) (by decide) (by decide) fun T h13 W Wr13 => ?_
  have K13 : Keep h9 h13 [x] := Keep.of_wr Wr13
  refine k_aloadN W d_jdk_42_149_51 rfl rfl ?_
  refine k_aload W d_jdk_42_149_52 rfl rfl ?_
  have f14 := ((V0.keep K9 nin0).other Wr13 (Or.inr (slot_ne (Or.inr (w36 hw)) (Or.inr (w34 hw)) (by decide) (t := (.array .byte)) (t' := .byte) (by decide) (by decide))))
  have f15 := (f12.keep K13)
  refine k_putF W d_jdk_42_149_54 (w35 hw) Via.refl (v' := (.ref b9)) (List.mem_of_getElem? (i := 0) rfl) f14 f15 (Or.inr ⟨(w36 hw), rfl, rfl⟩) (w9 hw) (ty := (.array .byte)) (by decide) rfl rfl fun T h16 W Wr16 => ?_
  have K16 : Keep h13 h16 [x] := Keep.of_wr Wr16
  have KK17 : Keep h0 h9 [x] := (Keep.refl h0 [x]).trans K9 all0
  have KK18 : Keep h0 h13 [x] := KK17.trans K13 (allS (Or.inl (List.mem_of_getElem? (i := 0) rfl)) all0)
  have KK19 : Keep h0 h16 [x] := KK18.trans K16 (allS (Or.inl (List.mem_of_getElem? (i := 0) rfl)) all0)
  have f20 := (f15.keep K16)
  have f21 := ((Fld.same Wr13 f11).other Wr16 (Or.inr (slot_ne (Or.inr (w34 hw)) (Or.inr (w36 hw)) (by decide) (t := .byte) (t' := (.array .byte)) (by decide) (by decide))))
  have ne22 : b9 ≠ x := (Ne.symm (Nat.ne_of_lt (Nat.lt_of_lt_of_le E0.lt g9)))
  have f23 := ((B9.keep K13 (ninS ne22 nin0)).keep K16 (ninS ne22 nin0))
  exact k_ret W d_jdk_42_149_57 rfl [] (fun x hx => nomatch hx) (Nat.le_of_ble_eq_true rfl) (by show 0 + N ≤ N; omega) ⟨rfl, _, g9, KK19, f20, f21, (Fld.same Wr16 f14), f23⟩
set_option maxRecDepth 65536 in
set_option maxHeartbeats 40000000 in
theorem ct_sinit (l : Launch) (Z : State) (a0 : Array Value) (hw : ∀ d ∈ tables_1, d.before a0 Z = true) (n0 : Nat) (h0 : Heap) (x a : Addr) (cs : List Int32) (N : Nat) (zc : Int32) (v0 c0 : Value) (E0 : Exa Z h0 x "java/lang/String") (V0 : Fld Z h0 x "java/lang/String" "value" "[B" v0) (C0 : Fld Z h0 x "java/lang/String" "coder" "B" c0) (A0 : Av Z h0 a .char (cs.map Value.int)) (P0 : Sta Z h0 "java/lang/String" "COMPACT_STRINGS" "Z" (.int zc)) (hzc : zc ≠ 0) (hR : ∀ c ∈ cs, Rg c 256) (hp : 0 < cs.length) (hN : cs.length ≤ N) (hN2 : N ≤ 67108864) : Ct l Z a0 own_EL false (⟨"java/lang/String", "<init>", "([C)V"⟩ : MethodName) jdk_42_method_3_code 2 (Option.none : Option Jvm.ClassFile.FieldType) ({ frames := 3, cells := 1, slots := N, locals := 52 } : Room) #[(.ref x), (.ref a)] h0 [x] n0 (fun v h so => v = none ∧ ∃ b, h0.size ≤ b ∧ Keep h0 h [x] ∧ St Z h x b (cs.map i2b)) := by
  refine Ct.body (plainFor_of_name pn1) ?_
  intro p e s m below meth c T W
  refine WP.cast (g' := (mkF m 0 #[.val (.ref x), .val (.ref a)] [])) (by simp [entryFrame, mkF, argsToLocals, cat_i, cat_l, cat_r, cat_n]) ?_
  refine k_aloadN W d_jdk_42_3_0 rfl rfl ?_
  refine k_aloadN W d_jdk_42_3_1 rfl rfl ?_
  refine k_iconst W d_jdk_42_3_2 (z := (0 : Int32)) rfl ?_
  refine k_aloadN W d_jdk_42_3_3 rfl rfl ?_
  refine k_arraylength W (z := (Int32.ofNat cs.length)) d_jdk_42_3_4 A0 (by first | (rw [List.length_map]; done) | (rw [List.length_map]; rfl)) ?_
  refine k_aconst W d_jdk_42_3_5 ?_
  refine k_callI0 W 0 1 (0 + N) (argsL := [(.ref a), (.int (0 : Int32)), (.int (Int32.ofNat cs.length)), .null]) (rest := []) (a := x) d_jdk_42_3_6 rfl rfl (w14 hw) (w15 hw) (by decide) (lenOf pd3 rfl) (ct_sinit4 l Z a0 hw n0 h0 x a cs N zc v0 c0 E0 V0 C0 A0 P0 hzc hR hp hN hN2) (w17 hw) (w10 hw) (fun x hx => hx) rfl (Nat.le_of_eq rfl) (Nat.le_of_ble_eq_true rfl) (Nat.le_of_ble_eq_true rfl) ⟨rfl, Nat.le_of_ble_eq_true rfl⟩ ⟨rfl, (by show 0 + N ≤ N; omega)⟩ rfl (fun _ _ _ q => nomatch q.1) fun T h24 so W hQ => ?_
  have hq24 := hQ.2
  exact k_ret W d_jdk_42_3_9 rfl [] (fun x hx => nomatch hx) (Nat.le_of_ble_eq_true rfl) (by show 0 + N ≤ N; omega) ⟨rfl, hq24⟩
set_option maxRecDepth 65536 in
set_option maxHeartbeats 40000000 in
theorem ct_leq (l : Launch) (Z : State) (a0 : Array Value) (hw : ∀ d ∈ tables_1, d.before a0 Z = true) (n0 : Nat) (h0 : Heap) (a b : Addr) (as bs : List Int32) (A0 : Av Z h0 a .byte (as.map Value.int)) (B0 : Av Z h0 b .byte (bs.map Value.int)) : Ct l Z a0 own_EL false (⟨"java/lang/StringLatin1", "equals", "([B[B)Z"⟩ : MethodName) jdk_43_method_13_code 3 (Option.some Jvm.ClassFile.FieldType.boolean) ({ frames := 0, cells := 0, slots := 0, locals := 0 } : Room) #[(.ref a), (.ref b)] h0 [] n0 (fun v h so => ((as = bs ∧ v = some (.int (1 : Int32))) ∨ (as ≠ bs ∧ v = some (.int (0 : Int32)))) ∧ h0 = h) := by
  refine Ct.body (plainFor_of_name pn2) ?_
  intro p e s m below meth c T W
  refine WP.cast (g' := (mkF m 0 #[.val (.ref a), .val (.ref b), .unset] [])) (by simp [entryFrame, mkF, argsToLocals, cat_i, cat_l, cat_r, cat_n]) ?_
  have hA : as.length < 2147483648 := by have := A0.len; simpa using this
  have hB : bs.length < 2147483648 := by have := B0.len; simpa using this
  refine k_aloadN W d_jdk_43_13_0 rfl rfl ?_
  refine k_arraylength W (z := (Int32.ofNat as.length)) d_jdk_43_13_1 A0 (by first | (rw [List.length_map]; done) | (rw [List.length_map]; rfl)) ?_
  refine k_aloadN W d_jdk_43_13_2 rfl rfl ?_
  refine k_arraylength W (z := (Int32.ofNat bs.length)) d_jdk_43_13_3 B0 (by first | (rw [List.length_map]; done) | (rw [List.length_map]; rfl)) ?_
  refine k_ic W 34 d_jdk_43_13_4 (by decide) (fun (hc25 : ¬ (Int32.ofNat as.length) = (Int32.ofNat bs.length)) => ?_) (fun (hc25 : ¬ (¬ (Int32.ofNat as.length) = (Int32.ofNat bs.length))) => ?_)
  · --
    refine k_iconst W d_jdk_43_13_34 (z := (0 : Int32)) rfl ?_
    exact k_retN W (t := .boolean) (z' := (0 : Int32)) d_jdk_43_13_35 rfl (by simp) (by decide) [] (fun x hx => nomatch hx) (Nat.le_of_ble_eq_true rfl) (Nat.le_of_ble_eq_true rfl) ⟨Or.inr ⟨fun q => hc25 (by rw [q]), rfl⟩, rfl⟩
  · --
    have hl : as.length = bs.length := of_inj hA hB (Classical.not_not.mp hc25)
    refine k_iconst W d_jdk_43_13_7 (z := (0 : Int32)) rfl ?_
    refine k_istoreN W d_jdk_43_13_8 (L' := #[.val (.ref a), .val (.ref b), .val (.int (0 : Int32))]) rfl ?_
    have loop : ∀ (k i : Nat) (T : State), i + k = as.length → as.take i = bs.take i → WS p l e ({ frames := 0, cells := 0, slots := 0, locals := 0 } : Room) s m #[(.ref a), (.ref b)] below meth c Z a0 own_EL false n0 (⟨"java/lang/StringLatin1", "equals", "([B[B)Z"⟩ : MethodName) jdk_43_method_13_code 3 (Option.some Jvm.ClassFile.FieldType.boolean) T h0 [] 0 0 → WP p e below (Fne s n0 Z own_EL false ({ frames := 0, cells := 0, slots := 0, locals := 0 } : Room) (fun v h so => ((as = bs ∧ v = some (.int (1 : Int32))) ∨ (as ≠ bs ∧ v = some (.int (0 : Int32)))) ∧ h0 = h)) T (mkF m 9 #[.val (.ref a), .val (.ref b), .val (.int (Int32.ofNat i))] []) := by
      intro k
      induction k with
      | zero =>
        intro i T hi hE W
        obtain rfl : i = as.length := by omega
        refine k_iloadN W d_jdk_43_13_9 rfl ?_
        refine k_aloadN W d_jdk_43_13_10 rfl rfl ?_
        refine k_arraylength W (z := (Int32.ofNat as.length)) d_jdk_43_13_11 A0 (by first | (rw [List.length_map]; done) | (rw [List.length_map]; rfl)) ?_
        refine k_icY W 32 d_jdk_43_13_12 (by decide) (show ¬ (Int32.ofNat as.length) < (Int32.ofNat as.length) from (of_ge (Nat.le_refl _) hA)) ?_
        refine k_iconst W d_jdk_43_13_32 (z := (1 : Int32)) rfl ?_
        exact k_retN W (t := .boolean) (z' := (1 : Int32)) d_jdk_43_13_33 rfl (by simp) (by decide) [] (fun x hx => nomatch hx) (Nat.le_of_ble_eq_true rfl) (Nat.le_of_ble_eq_true rfl) ⟨Or.inl ⟨by rw [List.take_length, hl, List.take_length] at hE; exact hE, rfl⟩, rfl⟩
      | succ k ih =>
        intro i T hi hE W
        have h1 : i < as.length := by omega
        have h2 : i < bs.length := by omega
        obtain ⟨x, hx⟩ : ∃ c, as[i]? = some c := ⟨_, List.getElem?_eq_getElem h1⟩
        obtain ⟨y, hy⟩ : ∃ c, bs[i]? = some c := ⟨_, List.getElem?_eq_getElem h2⟩
        have hs : ∀ zs : List Int32, ∀ z, zs[i]? = some z → zs.take (i + 1) = zs.take i ++ [z] := fun zs z q => by rw [List.take_succ, q]; rfl
        refine k_iloadN W d_jdk_43_13_9 rfl ?_
        refine k_aloadN W d_jdk_43_13_10 rfl rfl ?_
        refine k_arraylength W (z := (Int32.ofNat as.length)) d_jdk_43_13_11 A0 (by first | (rw [List.length_map]; done) | (rw [List.length_map]; rfl)) ?_
        refine k_icN W d_jdk_43_13_12 (show ¬ (¬ (Int32.ofNat i) < (Int32.ofNat as.length)) from (fun q => q (of_lt h1 hA))) ?_
        refine k_aloadN W d_jdk_43_13_15 rfl rfl ?_
        refine k_iloadN W d_jdk_43_13_16 rfl ?_
        refine k_baload W (v := (.int x)) i d_jdk_43_13_17 A0 (ix_of (by omega)) (by simp [hx]) ?_
        refine k_aloadN W d_jdk_43_13_18 rfl rfl ?_
        refine k_iloadN W d_jdk_43_13_19 rfl ?_
        refine k_baload W (v := (.int y)) i d_jdk_43_13_20 B0 (ix_of (by omega)) (by simp [hy]) ?_
        refine k_ic W 26 d_jdk_43_13_21 (by decide) (fun (hc26 : x = y) => ?_) (fun (hc26 : ¬ (x = y)) => ?_)
        · -- pc 26
          refine k_iinc W d_jdk_43_13_26 rfl (z := (Int32.ofNat (i + 1))) (of_succ i) (L' := #[.val (.ref a), .val (.ref b), .val (.int (Int32.ofNat (i + 1)))]) rfl ?_
          refine k_goto W 9 d_jdk_43_13_29 (by decide) ?_
          exact ih (i + 1) T (by omega) (by rw [hs as x hx, hs bs y hy, hE, hc26]) W
        · -- pc 24
          refine k_iconst W d_jdk_43_13_24 (z := (0 : Int32)) rfl ?_
          exact k_retN W (t := .boolean) (z' := (0 : Int32)) d_jdk_43_13_25 rfl (by simp) (by decide) [] (fun x hx => nomatch hx) (Nat.le_of_ble_eq_true rfl) (Nat.le_of_ble_eq_true rfl) ⟨Or.inr ⟨fun q => hc26 (by rw [q, hy] at hx; exact (Option.some.inj hx).symm), rfl⟩, rfl⟩
    exact loop as.length 0 T (by omega) (by simp) W
set_option maxRecDepth 65536 in
set_option maxHeartbeats 40000000 in
theorem ct_seq (l : Launch) (Z : State) (a0 : Array Value) (hw : ∀ d ∈ tables_1, d.before a0 Z = true) (n0 : Nat) (h0 : Heap) (x a y b : Addr) (as bs : List Int32) (zc : Int32) (hne : x ≠ y) (S0 : St Z h0 x a as) (S1 : St Z h0 y b bs) (P0 : Sta Z h0 "java/lang/String" "COMPACT_STRINGS" "Z" (.int zc)) (hzc : zc ≠ 0) : Ct l Z a0 own_EL false (⟨"java/lang/String", "equals", "(Ljava/lang/Object;)Z"⟩ : MethodName) jdk_42_method_66_code 3 (Option.some Jvm.ClassFile.FieldType.boolean) ({ frames := 1, cells := 0, slots := 0, locals := 14 } : Room) #[(.ref x), (.ref y)] h0 [] n0 (fun v h so => ((as = bs ∧ v = some (.int (1 : Int32))) ∨ (as ≠ bs ∧ v = some (.int (0 : Int32)))) ∧ h0 = h) := by
  refine Ct.body (plainFor_of_name pn1) ?_
  intro p e s m below meth c T W
  refine WP.cast (g' := (mkF m 0 #[.val (.ref x), .val (.ref y), .unset] [])) (by simp [entryFrame, mkF, argsToLocals, cat_i, cat_l, cat_r, cat_n]) ?_
  refine k_aloadN W d_jdk_42_66_0 rfl rfl ?_
  refine k_aloadN W d_jdk_42_66_1 rfl rfl ?_
  refine k_acY W 7 d_jdk_42_66_2 rfl rfl (by decide) (fun q => hne (Value.ref.inj q)) ?_
  refine k_aloadN W d_jdk_42_66_7 rfl rfl ?_
  refine k_instY W d_jdk_42_66_8 (w127 hw) (Ins.self S1.1) fun T W => ?_
  refine k_ifN W d_jdk_42_66_11 (show ¬ ((1 : Int32) = 0) by decide) ?_
  refine k_aloadN W d_jdk_42_66_14 rfl rfl ?_
  refine k_cast W d_jdk_42_66_15 (w127 hw) (Ins.self S1.1) fun T W => ?_
  refine k_astoreN W d_jdk_42_66_18 rfl (L' := #[.val (.ref x), .val (.ref y), .val (.ref y)]) rfl ?_
  refine k_getS W d_jdk_42_66_19 (w21 hw) Via.refl P0 fun T W => ?_
  refine k_ifN W d_jdk_42_66_22 (show ¬ (zc = 0) from hzc) ?_
  refine k_aloadN W d_jdk_42_66_25 rfl rfl ?_
  refine k_getF W d_jdk_42_66_26 (host := "") (Or.inl (w33 hw)) Via.refl S0.2.1 fun T W => ?_
  refine k_aloadN W d_jdk_42_66_29 rfl rfl ?_
  refine k_getF W d_jdk_42_66_30 (host := "") (Or.inl (w33 hw)) Via.refl S1.2.1 fun T W => ?_
  refine k_icN W d_jdk_42_66_33 (show ¬ (¬ (0 : Int32) = (0 : Int32)) from (fun q => q rfl)) ?_
  refine k_aloadN W d_jdk_42_66_36 rfl rfl ?_
  refine k_getF W d_jdk_42_66_37 (host := "") (Or.inl (w35 hw)) Via.refl S0.2.2.1 fun T W => ?_
  refine k_aloadN W d_jdk_42_66_40 rfl rfl ?_
  refine k_getF W d_jdk_42_66_41 (host := "") (Or.inl (w35 hw)) Via.refl S1.2.2.1 fun T W => ?_
  refine k_callS W 0 0 0 (argsL := [(.ref a), (.ref b)]) (rest := []) d_jdk_42_66_44 (w128 hw) (w129 hw) (by decide) (lenOf pd4 rfl) (ct_leq l Z a0 hw n0 h0 a b as bs S0.2.2.2 S1.2.2.2) (w130 hw) (w79 hw) (fun x hx => hx) rfl (Nat.le_of_eq rfl) (Nat.le_of_ble_eq_true rfl) (Nat.le_of_ble_eq_true rfl) ⟨rfl, Nat.le_of_ble_eq_true rfl⟩ ⟨rfl, Nat.le_of_ble_eq_true rfl⟩ rfl (fun _ _ q => by rcases q.1 with ⟨_, u⟩ | ⟨_, u⟩ <;> cases u) fun T h27 v so W hQ => ?_
  obtain ⟨hQ, rfl⟩ := hQ
  rcases hQ with ⟨he, hv⟩ | ⟨he, hv⟩
  · --
    obtain rfl := Option.some.inj hv
    refine k_ifN W d_jdk_42_66_47 (show ¬ ((1 : Int32) = 0) by decide) ?_
    refine k_iconst W d_jdk_42_66_50 (z := (1 : Int32)) rfl ?_
    refine k_goto W 55 d_jdk_42_66_51 (by decide) ?_
    exact k_retN W (t := .boolean) (z' := (1 : Int32)) d_jdk_42_66_55 rfl (by simp) (by decide) [] (fun x hx => nomatch hx) (Nat.le_of_ble_eq_true rfl) (Nat.le_of_ble_eq_true rfl) ⟨Or.inl ⟨he, rfl⟩, rfl⟩
  · --
    obtain rfl := Option.some.inj hv
    refine k_ifY W 54 d_jdk_42_66_47 (by decide) (show (0 : Int32) = 0 by decide) ?_
    refine k_iconst W d_jdk_42_66_54 (z := (0 : Int32)) rfl ?_
    exact k_retN W (t := .boolean) (z' := (0 : Int32)) d_jdk_42_66_55 rfl (by simp) (by decide) [] (fun x hx => nomatch hx) (Nat.le_of_ble_eq_true rfl) (Nat.le_of_ble_eq_true rfl) ⟨Or.inr ⟨he, rfl⟩, rfl⟩
set_option maxRecDepth 65536 in
set_option maxHeartbeats 40000000 in
theorem ct_seqI (l : Launch) (Z : State) (a0 : Array Value) (hw : ∀ d ∈ tables_1, d.before a0 Z = true) (n0 : Nat) (h0 : Heap) (x : Addr) : Ct l Z a0 own_EL false (⟨"java/lang/String", "equals", "(Ljava/lang/Object;)Z"⟩ : MethodName) jdk_42_method_66_code 3 (Option.some Jvm.ClassFile.FieldType.boolean) ({ frames := 0, cells := 0, slots := 0, locals := 0 } : Room) #[(.ref x), (.ref x)] h0 [] n0 (fun v h so => v = some (.int (1 : Int32)) ∧ h0 = h ∧ so = []) := by
  refine Ct.body (plainFor_of_name pn1) ?_
  intro p e s m below meth c T W
  refine WP.cast (g' := (mkF m 0 #[.val (.ref x), .val (.ref x), .unset] [])) (by simp [entryFrame, mkF, argsToLocals, cat_i, cat_l, cat_r, cat_n]) ?_
  refine k_aloadN W d_jdk_42_66_0 rfl rfl ?_
  refine k_aloadN W d_jdk_42_66_1 rfl rfl ?_
  refine k_acN W d_jdk_42_66_2 rfl rfl (by decide) (fun q => q rfl) ?_
  refine k_iconst W d_jdk_42_66_5 (z := (1 : Int32)) rfl ?_
  exact k_retN W (t := .boolean) (z' := (1 : Int32)) d_jdk_42_66_6 rfl (by simp) (by decide) [] (fun x hx => nomatch hx) (Nat.le_of_ble_eq_true rfl) (Nat.le_of_ble_eq_true rfl) ⟨rfl, rfl, rfl⟩
set_option maxRecDepth 65536 in
set_option maxHeartbeats 40000000 in
theorem ct_isL1 (l : Launch) (Z : State) (a0 : Array Value) (hw : ∀ d ∈ tables_1, d.before a0 Z = true) (n0 : Nat) (h0 : Heap) (x b : Addr) (bs : List Int32) (zc : Int32) (S0 : St Z h0 x b bs) (P0 : Sta Z h0 "java/lang/String" "COMPACT_STRINGS" "Z" (.int zc)) (hzc : zc ≠ 0) : Ct l Z a0 own_EL false (⟨"java/lang/String", "isLatin1", "()Z"⟩ : MethodName) jdk_42_method_154_code 1 (Option.some Jvm.ClassFile.FieldType.boolean) ({ frames := 0, cells := 0, slots := 0, locals := 0 } : Room) #[(.ref x)] h0 [] n0 (fun v h so => v = some (.int (1 : Int32)) ∧ h0 = h ∧ so = []) := by
  refine Ct.body (plainFor_of_name pn1) ?_
  intro p e s m below meth c T W
  refine WP.cast (g' := (mkF m 0 #[.val (.ref x)] [])) (by simp [entryFrame, mkF, argsToLocals, cat_i, cat_l, cat_r, cat_n]) ?_
  refine k_getS W d_jdk_42_154_0 (w21 hw) Via.refl P0 fun T W => ?_
  refine k_ifN W d_jdk_42_154_3 (show ¬ (zc = 0) from hzc) ?_
  refine k_aloadN W d_jdk_42_154_6 rfl rfl ?_
  refine k_getF W d_jdk_42_154_7 (host := "") (Or.inl (w33 hw)) Via.refl S0.2.1 fun T W => ?_
  refine k_ifN W d_jdk_42_154_10 (show ¬ (¬ (0 : Int32) = 0) by decide) ?_
  refine k_iconst W d_jdk_42_154_13 (z := (1 : Int32)) rfl ?_
  refine k_goto W 18 d_jdk_42_154_14 (by decide) ?_
  exact k_retN W (t := .boolean) (z' := (1 : Int32)) d_jdk_42_154_18 rfl (by simp) (by decide) [] (fun x hx => nomatch hx) (Nat.le_of_ble_eq_true rfl) (Nat.le_of_ble_eq_true rfl) ⟨rfl, rfl, rfl⟩
set_option maxRecDepth 65536 in
set_option maxHeartbeats 40000000 in
theorem ct_coder (l : Launch) (Z : State) (a0 : Array Value) (hw : ∀ d ∈ tables_1, d.before a0 Z = true) (n0 : Nat) (h0 : Heap) (x b : Addr) (bs : List Int32) (zc : Int32) (S0 : St Z h0 x b bs) (P0 : Sta Z h0 "java/lang/String" "COMPACT_STRINGS" "Z" (.int zc)) (hzc : zc ≠ 0) : Ct l Z a0 own_EL false (⟨"java/lang/String", "coder", "()B"⟩ : MethodName) jdk_42_method_152_code 1 (Option.some Jvm.ClassFile.FieldType.byte) ({ frames := 0, cells := 0, slots := 0, locals := 0 } : Room) #[(.ref x)] h0 [] n0 (fun v h so => v = some (.int (0 : Int32)) ∧ h0 = h ∧ so = []) := by
  refine Ct.body (plainFor_of_name pn1) ?_
  intro p e s m below meth c T W
  refine WP.cast (g' := (mkF m 0 #[.val (.ref x)] [])) (by simp [entryFrame, mkF, argsToLocals, cat_i, cat_l, cat_r, cat_n]) ?_
  refine k_getS W d_jdk_42_152_0 (w21 hw) Via.refl P0 fun T W => ?_
  refine k_ifN W d_jdk_42_152_3 (show ¬ (zc = 0) from hzc) ?_
  refine k_aloadN W d_jdk_42_152_6 rfl rfl ?_
  refine k_getF W d_jdk_42_152_7 (host := "") (Or.inl (w33 hw)) Via.refl S0.2.1 fun T W => ?_
  refine k_goto W 14 d_jdk_42_152_10 (by decide) ?_
  exact k_retN W (t := .byte) (z' := (0 : Int32)) d_jdk_42_152_14 rfl (by simp) (by decide) [] (fun x hx => nomatch hx) (Nat.le_of_ble_eq_true rfl) (Nat.le_of_ble_eq_true rfl) ⟨rfl, rfl, rfl⟩
set_option maxRecDepth 65536 in
set_option maxHeartbeats 40000000 in
theorem ct_len (l : Launch) (Z : State) (a0 : Array Value) (hw : ∀ d ∈ tables_1, d.before a0 Z = true) (n0 : Nat) (h0 : Heap) (x b : Addr) (bs : List Int32) (zc : Int32) (S0 : St Z h0 x b bs) (P0 : Sta Z h0 "java/lang/String" "COMPACT_STRINGS" "Z" (.int zc)) (hzc : zc ≠ 0) : Ct l Z a0 own_EL false (⟨"java/lang/String", "length", "()I"⟩ : MethodName) jdk_42_method_54_code 1 (Option.some Jvm.ClassFile.FieldType.int) ({ frames := 1, cells := 0, slots := 0, locals := 13 } : Room) #[(.ref x)] h0 [] n0 (fun v h so => v = some (.int (Int32.ofNat bs.length)) ∧ h0 = h ∧ so = []) := by
  refine Ct.body (plainFor_of_name pn1) ?_
  intro p e s m below meth c T W
  refine WP.cast (g' := (mkF m 0 #[.val (.ref x)] [])) (by simp [entryFrame, mkF, argsToLocals, cat_i, cat_l, cat_r, cat_n]) ?_
  refine k_aloadN W d_jdk_42_54_0 rfl rfl ?_
  refine k_getF W d_jdk_42_54_1 (host := "") (Or.inl (w35 hw)) Via.refl S0.2.2.1 fun T W => ?_
  refine k_arraylength W (z := (Int32.ofNat bs.length)) d_jdk_42_54_4 S0.2.2.2 (by first | (rw [List.length_map]; done) | (rw [List.length_map]; rfl)) ?_
  refine k_aloadN W d_jdk_42_54_5 rfl rfl ?_
  refine k_callV W 1 0 0 (argsL := []) (rest := [(.int (Int32.ofNat bs.length))]) (a := x) (C := "java/lang/String") (z0 := (⟨"java/lang/String", "coder", "()B"⟩ : MethodName)) (z := (⟨"java/lang/String", "coder", "()B"⟩ : MethodName)) d_jdk_42_54_6 (w102 hw) (w103 hw) (nfSel (w105 hw)) (w105 hw) (w104 hw) (by decide) (lenOf pd5 rfl) S0.1 (ct_coder l Z a0 hw n0 h0 x b bs zc S0 P0 hzc) (w106 hw) (w10 hw) (fun x hx => hx) rfl (Nat.le_of_eq rfl) (Nat.le_of_ble_eq_true rfl) (Nat.le_of_ble_eq_true rfl) ⟨rfl, Nat.le_of_ble_eq_true rfl⟩ ⟨rfl, Nat.le_of_ble_eq_true rfl⟩ rfl (fun _ _ q => nomatch q.1) fun T h28 v so W hQ => ?_
  obtain ⟨hv, rfl, -⟩ := hQ
  obtain rfl := Option.some.inj hv
  refine k_ishr W d_jdk_42_54_9 (z := (Int32.ofNat bs.length)) (shr0 _) ?_
  exact k_ireturn W d_jdk_42_54_10 rfl [] (fun x hx => nomatch hx) (Nat.le_of_ble_eq_true rfl) (Nat.le_of_ble_eq_true rfl) ⟨rfl, rfl, rfl⟩
def own_props : List Int32 := [1207963663, 1207963663, 1207963663, 1207963663, 1207963663, 1207963663, 1207963663, 1207963663, 1207963663, 1476411407, 1342193679, 1476411407, 1610629135, 1342193679, 1207963663, 1207963663, 1207963663, 1207963663, 1207963663, 1207963663, 1207963663, 1207963663, 1207963663, 1207963663, 1207963663, 1207963663, 1207963663, 1207963663, 1342193679, 1342193679, 1342193679, 1476411407, 1610629132, 1744830488, 1744830488, 671088664, 671113242, 671088664, 1744830488, 1744830488, -402653163, -402653162, 1744830488, 536870937, 939524120, 536870932, 939524120, 939524120, 402667017, 402667017, 402667017, 402667017, 402667017, 402667017, 402667017, 402667017, 402667017, 402667017, 939524120, 1744830488, -402653159, 1744830489, -402653159, 1744830488, 1744830488, 8552417, 8552417, 8552417, 8552417, 8552417, 8552417, 8552417, 8552417, 8552417, 8552417, 8552417, 8552417, 8552417, 8552417, 8552417, 8552417, 8552417, 8552417, 8552417, 8552417, 8552417, 8552417, 8552417, 8552417, 8552417, 8552417, -402653163, 1744830488, -402653162, 1744830491, 1744850967, 1744830491, 8486882, 8486882, 8486882, 8486882, 8486882, 8486882, 8486882, 8486882, 8486882, 8486882, 8486882, 8486882, 8486882, 8486882, 8486882, 8486882, 8486882, 8486882, 8486882, 8486882, 8486882, 8486882, 8486882, 8486882, 8486882, 8486882, -402653163, 1744830489, -402653162, 1744830489, 1207963663, 1207963663, 1207963663, 1207963663, 1207963663, 1207963663, 1342181391, 1207963663, 1207963663, 1207963663, 1207963663, 1207963663, 1207963663, 1207963663, 1207963663, 1207963663, 1207963663, 1207963663, 1207963663, 1207963663, 1207963663, 1207963663, 1207963663, 1207963663, 1207963663, 1207963663, 1207963663, 1207963663, 1207963663, 1207963663, 1207963663, 1207963663, 1207963663, 939524108, 1744830488, 671113242, 671113242, 671113242, 671113242, 1744830492, 1744830488, 1744830491, 1744830492, 28677, -402653155, 1744830489, 1207963664, 1744830492, 1744830491, 671088668, 671088665, 402654731, 402654731, 1744830491, 134049794, 1744830488, 1744830488, 1744830491, 402654475, 28677, -402653154, 1744832523, 1744832523, 1744832523, 1744830488, 8548353, 8548353, 8548353, 8548353, 8548353, 8548353, 8548353, 8548353, 8548353, 8548353, 8548353, 8548353, 8548353, 8548353, 8548353, 8548353, 8548353, 8548353, 8548353, 8548353, 8548353, 8548353, 8548353, 1744830489, 8548353, 8548353, 8548353, 8548353, 8548353, 8548353, 8548353, 134049794, 8482818, 8482818, 8482818, 8482818, 8482818, 8482818, 8482818, 8482818, 8482818, 8482818, 8482818, 8482818, 8482818, 8482818, 8482818, 8482818, 8482818, 8482818, 8482818, 8482818, 8482818, 8482818, 8482818, 1744830489, 8482818, 8482818, 8482818, 8482818, 8482818, 8482818, 8482818, 102592514]
def own_NW (c : Int32) : Prop := Rg c 256 ∧ ¬ (9 ≤ c.toInt ∧ c.toInt ≤ 13) ∧ ¬ (28 ≤ c.toInt ∧ c.toInt ≤ 32)
theorem own_plen : own_props.length = 256 := by decide +kernel
theorem own_ws : ∀ k : Fin 256, own_props.getD k.val 0 &&& 28672 = 16384 → (9 ≤ k.val ∧ k.val ≤ 13) ∨ (28 ≤ k.val ∧ k.val ≤ 32) := by decide +kernel
theorem own_nws {c : Int32} (q : own_NW c) : ¬ own_props.getD c.toNatClampNeg 0 &&& 28672 = 16384 := fun h => by
  obtain ⟨⟨q1, q2⟩, q3, q4⟩ := q
  have hn : (c.toNatClampNeg : Int) = c.toInt := by unfold Int32.toNatClampNeg; omega
  rcases own_ws ⟨c.toNatClampNeg, by omega⟩ h with u | u
  · exact q3 ⟨by have := u.1; simp only at this; omega, by have := u.2; simp only at this; omega⟩
  · exact q4 ⟨by have := u.1; simp only at this; omega, by have := u.2; simp only at this; omega⟩
theorem own_nw_of {c : Int32} (h : 33 ≤ c.toInt ∧ c.toInt < 256) : own_NW c := ⟨⟨by omega, h.2⟩, by omega, by omega⟩
theorem own_low {y : Int32} (q : Rg y 64) : 33 ≤ ((33 : Int32) + y).toInt ∧ ((33 : Int32) + y).toInt < 256 := by
  have e : ((33 : Int32) + y).toInt = 33 + y.toInt := by
    have h1 := q.1; have h2 := q.2; have h33 : (33 : Int32).toInt = 33 := by decide
    rw [Int32.toInt_add, h33, Int.bmod_eq_of_le (by omega) (by omega)]
  rw [e]; have h1 := q.1; have h2 := q.2; omega
theorem own_pget {n : Nat} (h : n < 256) : (own_props.map Value.int)[n]? = some (.int (own_props.getD n 0)) := by
  have : n < own_props.length := by rw [own_plen]; exact h
  simp [this]
theorem own_rgix {c : Int32} (q : Rg c 256) : Ix c c.toNatClampNeg := by
  refine ⟨?_, rfl⟩
  have h0 : (0 : Int32).toInt = 0 := by decide
  rw [Int32.lt_iff_toInt_lt]; have := q.1; omega
theorem own_rgn {c : Int32} (q : Rg c 256) : c.toNatClampNeg < 256 := by unfold Int32.toNatClampNeg; have := q.1; have := q.2; omega
set_option maxRecDepth 65536 in
set_option maxHeartbeats 40000000 in
theorem ct_gprop (l : Launch) (Z : State) (a0 : Array Value) (hw : ∀ d ∈ tables_1, d.before a0 Z = true) (n0 : Nat) (h0 : Heap) (cd ca : Addr) (ch : Int32) (hr : Rg ch 256) (CI : Sta Z h0 "java/lang/CharacterDataLatin1" "instance" "Ljava/lang/CharacterDataLatin1;" (.ref cd)) (CX : Exa Z h0 cd "java/lang/CharacterDataLatin1") (CA : Sta Z h0 "java/lang/CharacterDataLatin1" "A" "[I" (.ref ca)) (CV : Av Z h0 ca .int (own_props.map Value.int)) : Ct l Z a0 own_EL false (⟨"java/lang/CharacterDataLatin1", "getProperties", "(I)I"⟩ : MethodName) jdk_116_method_1_code 4 (Option.some Jvm.ClassFile.FieldType.int) ({ frames := 0, cells := 0, slots := 0, locals := 0 } : Room) #[(.ref cd), (.int ch)] h0 [] n0 (fun v h so => v = some (.int (own_props.getD ch.toNatClampNeg 0)) ∧ h0 = h ∧ so = []) := by
  refine Ct.body (plainFor_of_name pn3) ?_
  intro p e s m below meth c T W
  refine WP.cast (g' := (mkF m 0 #[.val (.ref cd), .val (.int ch), .unset, .unset] [])) (by simp [entryFrame, mkF, argsToLocals, cat_i, cat_l, cat_r, cat_n]) ?_
  refine k_iloadN W d_jdk_116_1_0 rfl ?_
  refine k_i2c W d_jdk_116_1_1 (z := ch) (Rg.c (Rg.mono hr (by decide))) ?_
  refine k_istoreN W d_jdk_116_1_2 (L' := #[.val (.ref cd), .val (.int ch), .val (.int ch), .unset]) rfl ?_
  refine k_getS W d_jdk_116_1_3 (w96 hw) Via.refl CA fun T W => ?_
  refine k_iloadN W d_jdk_116_1_6 rfl ?_
  refine k_iaload W (v := (.int (own_props.getD ch.toNatClampNeg 0))) ch.toNatClampNeg d_jdk_116_1_7 CV (own_rgix hr) (own_pget (own_rgn hr)) ?_
  refine k_istoreN W d_jdk_116_1_8 (L' := #[.val (.ref cd), .val (.int ch), .val (.int ch), .val (.int (own_props.getD ch.toNatClampNeg 0))]) rfl ?_
  refine k_iloadN W d_jdk_116_1_9 rfl ?_
  exact k_ireturn W d_jdk_116_1_10 rfl [] (fun x hx => nomatch hx) (Nat.le_of_ble_eq_true rfl) (Nat.le_of_ble_eq_true rfl) ⟨rfl, rfl, rfl⟩
set_option maxRecDepth 65536 in
set_option maxHeartbeats 40000000 in
theorem ct_isws (l : Launch) (Z : State) (a0 : Array Value) (hw : ∀ d ∈ tables_1, d.before a0 Z = true) (n0 : Nat) (h0 : Heap) (cd ca : Addr) (ch : Int32) (hr : Rg ch 256) (CI : Sta Z h0 "java/lang/CharacterDataLatin1" "instance" "Ljava/lang/CharacterDataLatin1;" (.ref cd)) (CX : Exa Z h0 cd "java/lang/CharacterDataLatin1") (CA : Sta Z h0 "java/lang/CharacterDataLatin1" "A" "[I" (.ref ca)) (CV : Av Z h0 ca .int (own_props.map Value.int)) : Ct l Z a0 own_EL false (⟨"java/lang/CharacterDataLatin1", "isWhitespace", "(I)Z"⟩ : MethodName) jdk_116_method_26_code 3 (Option.some Jvm.ClassFile.FieldType.boolean) ({ frames := 1, cells := 0, slots := 0, locals := 15 } : Room) #[(.ref cd), (.int ch)] h0 [] n0 (fun v h so => ((own_props.getD ch.toNatClampNeg 0 &&& 28672 = 16384 ∧ v = some (.int (1 : Int32))) ∨ (¬ own_props.getD ch.toNatClampNeg 0 &&& 28672 = 16384 ∧ v = some (.int (0 : Int32)))) ∧ h0 = h) := by
  refine Ct.body (plainFor_of_name pn3) ?_
  intro p e s m below meth c T W
  refine WP.cast (g' := (mkF m 0 #[.val (.ref cd), .val (.int ch), .unset] [])) (by simp [entryFrame, mkF, argsToLocals, cat_i, cat_l, cat_r, cat_n]) ?_
  refine k_aloadN W d_jdk_116_26_0 rfl rfl ?_
  refine k_iloadN W d_jdk_116_26_1 rfl ?_
  refine k_callV W 0 0 0 (argsL := [(.int ch)]) (rest := []) (a := cd) (C := "java/lang/CharacterDataLatin1") (z0 := (⟨"java/lang/CharacterDataLatin1", "getProperties", "(I)I"⟩ : MethodName)) (z := (⟨"java/lang/CharacterDataLatin1", "getProperties", "(I)I"⟩ : MethodName)) d_jdk_116_26_2 (w91 hw) (w92 hw) (nfSel (w94 hw)) (w94 hw) (w93 hw) (by decide) (lenOf pd6 rfl) CX (ct_gprop l Z a0 hw n0 h0 cd ca ch hr CI CX CA CV) (w95 hw) (w85 hw) (fun x hx => hx) rfl (Nat.le_of_eq rfl) (Nat.le_of_ble_eq_true rfl) (Nat.le_of_ble_eq_true rfl) ⟨rfl, Nat.le_of_ble_eq_true rfl⟩ ⟨rfl, Nat.le_of_ble_eq_true rfl⟩ rfl (fun _ _ q => nomatch q.1) fun T h29 v so W hQ => ?_
  obtain ⟨hv, rfl, -⟩ := hQ
  obtain rfl := Option.some.inj hv
  refine k_istoreN W d_jdk_116_26_5 (L' := #[.val (.ref cd), .val (.int ch), .val (.int (own_props.getD ch.toNatClampNeg 0))]) rfl ?_
  refine k_iloadN W d_jdk_116_26_6 rfl ?_
  refine k_sipush W d_jdk_116_26_7 (z := (28672 : Int32)) rfl ?_
  refine k_iand W d_jdk_116_26_10 (z := ((own_props.getD ch.toNatClampNeg 0) &&& (28672 : Int32))) rfl ?_
  refine k_sipush W d_jdk_116_26_11 (z := (16384 : Int32)) rfl ?_
  refine k_ic W 21 d_jdk_116_26_14 (by decide) (fun (hc30 : ¬ ((own_props.getD ch.toNatClampNeg 0) &&& (28672 : Int32)) = (16384 : Int32)) => ?_) (fun (hc30 : ¬ (¬ ((own_props.getD ch.toNatClampNeg 0) &&& (28672 : Int32)) = (16384 : Int32))) => ?_)
  · -- pc 21
    refine k_iconst W d_jdk_116_26_21 (z := (0 : Int32)) rfl ?_
    exact k_retN W (t := .boolean) (z' := (0 : Int32)) d_jdk_116_26_22 rfl (by simp) (by decide) [] (fun x hx => nomatch hx) (Nat.le_of_ble_eq_true rfl) (Nat.le_of_ble_eq_true rfl) ⟨Or.inr ⟨hc30, rfl⟩, rfl⟩
  · -- pc 17
    refine k_iconst W d_jdk_116_26_17 (z := (1 : Int32)) rfl ?_
    refine k_goto W 22 d_jdk_116_26_18 (by decide) ?_
    exact k_retN W (t := .boolean) (z' := (1 : Int32)) d_jdk_116_26_22 rfl (by simp) (by decide) [] (fun x hx => nomatch hx) (Nat.le_of_ble_eq_true rfl) (Nat.le_of_ble_eq_true rfl) ⟨Or.inl ⟨Classical.not_not.mp hc30, rfl⟩, rfl⟩
set_option maxRecDepth 65536 in
set_option maxHeartbeats 40000000 in
theorem ct_gchar (l : Launch) (Z : State) (a0 : Array Value) (hw : ∀ d ∈ tables_1, d.before a0 Z = true) (n0 : Nat) (h0 : Heap) (b : Addr) (bs : List Int32) (i : Nat) (bi : Int32) (hi : bs[i]? = some bi) (hL : bs.length < 2147483648) (B0 : Av Z h0 b .byte (bs.map Value.int)) : Ct l Z a0 own_EL false (⟨"java/lang/StringLatin1", "getChar", "([BI)C"⟩ : MethodName) jdk_43_method_44_code 2 (Option.some Jvm.ClassFile.FieldType.char) ({ frames := 0, cells := 0, slots := 0, locals := 0 } : Room) #[(.ref b), (.int (Int32.ofNat i))] h0 [] n0 (fun v h so => v = some (.int (bi &&& 255)) ∧ h0 = h ∧ so = []) := by
  refine Ct.body (plainFor_of_name pn2) ?_
  intro p e s m below meth c T W
  refine WP.cast (g' := (mkF m 0 #[.val (.ref b), .val (.int (Int32.ofNat i))] [])) (by simp [entryFrame, mkF, argsToLocals, cat_i, cat_l, cat_r, cat_n]) ?_
  have hlt : i < bs.length := (List.getElem?_eq_some_iff.mp hi).1
  refine k_aloadN W d_jdk_43_44_0 rfl rfl ?_
  refine k_iloadN W d_jdk_43_44_1 rfl ?_
  refine k_baload W (v := (.int bi)) i d_jdk_43_44_2 B0 (ix_of (Nat.lt_trans hlt hL)) (by simp [hi]) ?_
  refine k_sipush W d_jdk_43_44_3 (z := (255 : Int32)) rfl ?_
  refine k_iand W d_jdk_43_44_6 (z := (bi &&& (255 : Int32))) rfl ?_
  refine k_i2c W d_jdk_43_44_7 (z := (bi &&& (255 : Int32))) (Rg.c (Rg.mono (Rg.and (n := 256) bi (255 : Int32) (by decide)) (by decide))) ?_
  exact k_retN W (t := .char) (z' := (bi &&& (255 : Int32))) d_jdk_43_44_8 rfl (by simp) (Rg.nar (Rg.mono (Rg.and (n := 256) bi (255 : Int32) (by decide)) (by decide))) [] (fun x hx => nomatch hx) (Nat.le_of_ble_eq_true rfl) (Nat.le_of_ble_eq_true rfl) ⟨rfl, rfl, rfl⟩
set_option maxRecDepth 65536 in
set_option maxHeartbeats 40000000 in
theorem ct_lnws (l : Launch) (Z : State) (a0 : Array Value) (hw : ∀ d ∈ tables_1, d.before a0 Z = true) (n0 : Nat) (h0 : Heap) (cd ca : Addr) (b : Addr) (bs : List Int32) (j : Nat) (bj : Int32) (hj : bs[j]? = some bj) (hnw : own_NW (bj &&& 255)) (B0 : Av Z h0 b .byte (bs.map Value.int)) (CI : Sta Z h0 "java/lang/CharacterDataLatin1" "instance" "Ljava/lang/CharacterDataLatin1;" (.ref cd)) (CX : Exa Z h0 cd "java/lang/CharacterDataLatin1") (CA : Sta Z h0 "java/lang/CharacterDataLatin1" "A" "[I" (.ref ca)) (CV : Av Z h0 ca .int (own_props.map Value.int)) : Ct l Z a0 own_EL false (⟨"java/lang/StringLatin1", "indexOfNonWhitespace", "([B)I"⟩ : MethodName) jdk_43_method_37_code 4 (Option.some Jvm.ClassFile.FieldType.int) ({ frames := 2, cells := 0, slots := 0, locals := 29 } : Room) #[(.ref b)] h0 [] n0 (fun v h so => ∃ i, i < bs.length ∧ v = some (.int (Int32.ofNat i)) ∧ h0 = h) := by
  refine Ct.body (plainFor_of_name pn2) ?_
  intro p e s m below meth c T W
  refine WP.cast (g' := (mkF m 0 #[.val (.ref b), .unset, .unset, .unset] [])) (by simp [entryFrame, mkF, argsToLocals, cat_i, cat_l, cat_r, cat_n]) ?_
  have hL : bs.length < 2147483648 := by have := B0.len; simpa using this
  have hjl : j < bs.length := (List.getElem?_eq_some_iff.mp hj).1
  refine k_aloadN W d_jdk_43_37_0 rfl rfl ?_
  refine k_arraylength W (z := (Int32.ofNat bs.length)) d_jdk_43_37_1 B0 (by first | (rw [List.length_map]; done) | (rw [List.length_map]; rfl)) ?_
  refine k_istoreN W d_jdk_43_37_2 (L' := #[.val (.ref b), .val (.int (Int32.ofNat bs.length)), .unset, .unset]) rfl ?_
  refine k_iconst W d_jdk_43_37_3 (z := (0 : Int32)) rfl ?_
  refine k_istoreN W d_jdk_43_37_4 (L' := #[.val (.ref b), .val (.int (Int32.ofNat bs.length)), .val (.int (0 : Int32)), .unset]) rfl ?_
  have loop : ∀ (k i : Nat) (T : State) (s3 : Slot), i + k = j → (s3 = .unset ∨ ∃ w, s3 = .val w ∧ w.category = 1) → WS p l e ({ frames := 2, cells := 0, slots := 0, locals := 29 } : Room) s m #[(.ref b)] below meth c Z a0 own_EL false n0 (⟨"java/lang/StringLatin1", "indexOfNonWhitespace", "([B)I"⟩ : MethodName) jdk_43_method_37_code 4 (Option.some Jvm.ClassFile.FieldType.int) T h0 [] 0 0 → WP p e below (Fne s n0 Z own_EL false ({ frames := 2, cells := 0, slots := 0, locals := 29 } : Room) (fun v h so => ∃ i, i < bs.length ∧ v = some (.int (Int32.ofNat i)) ∧ h0 = h)) T (mkF m 5 #[.val (.ref b), .val (.int (Int32.ofNat bs.length)), .val (.int (Int32.ofNat i)), s3] []) := by
    intro k
    induction k with
    | zero =>
      intro i T s3 hi h3 W
      have hil : i < bs.length := by omega
      obtain ⟨bi, hbi⟩ : ∃ c, bs[i]? = some c := ⟨_, List.getElem?_eq_getElem hil⟩
      obtain rfl : i = j := by omega
      obtain rfl : bj = bi := Option.some.inj (hj.symm.trans hbi)
      have hnb := hnw
      have hb : bj = bj := rfl
      have hn32 : ¬ bj &&& 255 = 32 := fun q => by rw [q] at hnb; exact absurd hnb (by unfold own_NW; decide)
      have hn9 : ¬ bj &&& 255 = 9 := fun q => by rw [q] at hnb; exact absurd hnb (by unfold own_NW; decide)
      refine k_iloadN W d_jdk_43_37_5 rfl ?_
      refine k_iloadN W d_jdk_43_37_6 rfl ?_
      refine k_icN W d_jdk_43_37_7 (show ¬ (¬ (Int32.ofNat i) < (Int32.ofNat bs.length)) from (fun q => q (of_lt hil hL))) ?_
      refine k_aloadN W d_jdk_43_37_10 rfl rfl ?_
      refine k_iloadN W d_jdk_43_37_11 rfl ?_
      refine k_callS W 0 0 0 (argsL := [(.ref b), (.int (Int32.ofNat i))]) (rest := []) d_jdk_43_37_12 (w81 hw) (w82 hw) (by decide) (lenOf pd7 rfl) (ct_gchar l Z a0 hw n0 h0 b bs i bj hj hL B0) (w83 hw) (w79 hw) (fun x hx => hx) rfl (Nat.le_of_eq rfl) (Nat.le_of_ble_eq_true rfl) (Nat.le_of_ble_eq_true rfl) ⟨rfl, Nat.le_of_ble_eq_true rfl⟩ ⟨rfl, Nat.le_of_ble_eq_true rfl⟩ rfl (fun _ _ q => nomatch q.1) fun T h31 v so W hQ => ?_
      obtain ⟨hv, rfl, -⟩ := hQ
      obtain rfl := Option.some.inj hv
      refine k_istoreN W d_jdk_43_37_15 (L' := #[.val (.ref b), .val (.int (Int32.ofNat bs.length)), .val (.int (Int32.ofNat i)), .val (.int (bj &&& (255 : Int32)))]) (XS.store1 rfl h3 rfl) ?_
      refine k_iloadN W d_jdk_43_37_16 rfl ?_
      refine k_bipush W d_jdk_43_37_17 (z := (32 : Int32)) rfl ?_
      refine k_icN W d_jdk_43_37_19 (show ¬ ((bj &&& (255 : Int32)) = (32 : Int32)) from hn32) ?_
      refine k_iloadN W d_jdk_43_37_22 rfl ?_
      refine k_bipush W d_jdk_43_37_23 (z := (9 : Int32)) rfl ?_
      refine k_icN W d_jdk_43_37_25 (show ¬ ((bj &&& (255 : Int32)) = (9 : Int32)) from hn9) ?_
      refine k_getS W d_jdk_43_37_28 (w84 hw) Via.refl CI fun T W => ?_
      refine k_iloadN W d_jdk_43_37_31 rfl ?_
      refine k_callV W 0 0 0 (argsL := [(.int (bj &&& (255 : Int32)))]) (rest := []) (a := cd) (C := "java/lang/CharacterDataLatin1") (z0 := (⟨"java/lang/CharacterDataLatin1", "isWhitespace", "(I)Z"⟩ : MethodName)) (z := (⟨"java/lang/CharacterDataLatin1", "isWhitespace", "(I)Z"⟩ : MethodName)) d_jdk_43_37_32 (w86 hw) (w87 hw) (nfSel (w89 hw)) (w89 hw) (w88 hw) (by decide) (lenOf pd8 rfl) CX (ct_isws l Z a0 hw n0 h0 cd ca (bj &&& (255 : Int32)) (Rg.and _ _ (by decide)) CI CX CA CV) (w90 hw) (w85 hw) (fun x hx => hx) rfl (Nat.le_of_eq rfl) (Nat.le_of_ble_eq_true rfl) (Nat.le_of_ble_eq_true rfl) ⟨rfl, Nat.le_of_ble_eq_true rfl⟩ ⟨rfl, Nat.le_of_ble_eq_true rfl⟩ rfl (fun _ _ q => by rcases q.1 with ⟨_, u⟩ | ⟨_, u⟩ <;> cases u) fun T h32 v so W hQ => ?_
      obtain ⟨hQ, rfl⟩ := hQ
      rcases hQ with ⟨hws, hv⟩ | ⟨hws, hv⟩
      · --
        exact absurd hws (own_nws hnb)
      · --
        obtain rfl := Option.some.inj hv
        refine k_ifN W d_jdk_43_37_35 (show ¬ (¬ (0 : Int32) = 0) by decide) ?_
        refine k_goto W 47 d_jdk_43_37_38 (by decide) ?_
        refine k_iloadN W d_jdk_43_37_47 rfl ?_
        exact k_ireturn W d_jdk_43_37_48 rfl [] (fun x hx => nomatch hx) (Nat.le_of_ble_eq_true rfl) (Nat.le_of_ble_eq_true rfl) ⟨i, hil, rfl, rfl⟩
    | succ k ih =>
      intro i T s3 hi h3 W
      have hil : i < bs.length := by omega
      obtain ⟨bi, hbi⟩ : ∃ c, bs[i]? = some c := ⟨_, List.getElem?_eq_getElem hil⟩
      refine k_iloadN W d_jdk_43_37_5 rfl ?_
      refine k_iloadN W d_jdk_43_37_6 rfl ?_
      refine k_icN W d_jdk_43_37_7 (show ¬ (¬ (Int32.ofNat i) < (Int32.ofNat bs.length)) from (fun q => q (of_lt hil hL))) ?_
      refine k_aloadN W d_jdk_43_37_10 rfl rfl ?_
      refine k_iloadN W d_jdk_43_37_11 rfl ?_
      refine k_callS W 0 0 0 (argsL := [(.ref b), (.int (Int32.ofNat i))]) (rest := []) d_jdk_43_37_12 (w81 hw) (w82 hw) (by decide) (lenOf pd7 rfl) (ct_gchar l Z a0 hw n0 h0 b bs i bi hbi hL B0) (w83 hw) (w79 hw) (fun x hx => hx) rfl (Nat.le_of_eq rfl) (Nat.le_of_ble_eq_true rfl) (Nat.le_of_ble_eq_true rfl) ⟨rfl, Nat.le_of_ble_eq_true rfl⟩ ⟨rfl, Nat.le_of_ble_eq_true rfl⟩ rfl (fun _ _ q => nomatch q.1) fun T h33 v so W hQ => ?_
      obtain ⟨hv, rfl, -⟩ := hQ
      obtain rfl := Option.some.inj hv
      refine k_istoreN W d_jdk_43_37_15 (L' := #[.val (.ref b), .val (.int (Int32.ofNat bs.length)), .val (.int (Int32.ofNat i)), .val (.int (bi &&& (255 : Int32)))]) (XS.store1 rfl h3 rfl) ?_
      refine k_iloadN W d_jdk_43_37_16 rfl ?_
      refine k_bipush W d_jdk_43_37_17 (z := (32 : Int32)) rfl ?_
      refine k_ic W 41 d_jdk_43_37_19 (by decide) (fun (hc34 : (bi &&& (255 : Int32)) = (32 : Int32)) => ?_) (fun (hc34 : ¬ ((bi &&& (255 : Int32)) = (32 : Int32))) => ?_)
      · -- pc 41
        refine k_iinc W d_jdk_43_37_41 rfl (z := (Int32.ofNat (i + 1))) (of_succ i) (L' := #[.val (.ref b), .val (.int (Int32.ofNat bs.length)), .val (.int (Int32.ofNat (i + 1))), .val (.int (bi &&& (255 : Int32)))]) rfl ?_
        refine k_goto W 5 d_jdk_43_37_44 (by decide) ?_
        exact ih (i + 1) T _ (by omega) (Or.inr ⟨_, rfl, rfl⟩) W
      · -- pc 22
        refine k_iloadN W d_jdk_43_37_22 rfl ?_
        refine k_bipush W d_jdk_43_37_23 (z := (9 : Int32)) rfl ?_
        refine k_ic W 41 d_jdk_43_37_25 (by decide) (fun (hc35 : (bi &&& (255 : Int32)) = (9 : Int32)) => ?_) (fun (hc35 : ¬ ((bi &&& (255 : Int32)) = (9 : Int32))) => ?_)
        · -- pc 41
          refine k_iinc W d_jdk_43_37_41 rfl (z := (Int32.ofNat (i + 1))) (of_succ i) (L' := #[.val (.ref b), .val (.int (Int32.ofNat bs.length)), .val (.int (Int32.ofNat (i + 1))), .val (.int (bi &&& (255 : Int32)))]) rfl ?_
          refine k_goto W 5 d_jdk_43_37_44 (by decide) ?_
          exact ih (i + 1) T _ (by omega) (Or.inr ⟨_, rfl, rfl⟩) W
        · -- pc 28
          refine k_getS W d_jdk_43_37_28 (w84 hw) Via.refl CI fun T W => ?_
          refine k_iloadN W d_jdk_43_37_31 rfl ?_
          refine k_callV W 0 0 0 (argsL := [(.int (bi &&& (255 : Int32)))]) (rest := []) (a := cd) (C := "java/lang/CharacterDataLatin1") (z0 := (⟨"java/lang/CharacterDataLatin1", "isWhitespace", "(I)Z"⟩ : MethodName)) (z := (⟨"java/lang/CharacterDataLatin1", "isWhitespace", "(I)Z"⟩ : MethodName)) d_jdk_43_37_32 (w86 hw) (w87 hw) (nfSel (w89 hw)) (w89 hw) (w88 hw) (by decide) (lenOf pd8 rfl) CX (ct_isws l Z a0 hw n0 h0 cd ca (bi &&& (255 : Int32)) (Rg.and _ _ (by decide)) CI CX CA CV) (w90 hw) (w85 hw) (fun x hx => hx) rfl (Nat.le_of_eq rfl) (Nat.le_of_ble_eq_true rfl) (Nat.le_of_ble_eq_true rfl) ⟨rfl, Nat.le_of_ble_eq_true rfl⟩ ⟨rfl, Nat.le_of_ble_eq_true rfl⟩ rfl (fun _ _ q => by rcases q.1 with ⟨_, u⟩ | ⟨_, u⟩ <;> cases u) fun T h36 v so W hQ => ?_
          obtain ⟨hQ, rfl⟩ := hQ
          rcases hQ with ⟨hws, hv⟩ | ⟨hws, hv⟩
          · --
            obtain rfl := Option.some.inj hv
            refine k_ifY W 41 d_jdk_43_37_35 (by decide) (show ¬ (1 : Int32) = 0 by decide) ?_
            refine k_iinc W d_jdk_43_37_41 rfl (z := (Int32.ofNat (i + 1))) (of_succ i) (L' := #[.val (.ref b), .val (.int (Int32.ofNat bs.length)), .val (.int (Int32.ofNat (i + 1))), .val (.int (bi &&& (255 : Int32)))]) rfl ?_
            refine k_goto W 5 d_jdk_43_37_44 (by decide) ?_
            exact ih (i + 1) T _ (by omega) (Or.inr ⟨_, rfl, rfl⟩) W
          · --
            obtain rfl := Option.some.inj hv
            refine k_ifN W d_jdk_43_37_35 (show ¬ (¬ (0 : Int32) = 0) by decide) ?_
            refine k_goto W 47 d_jdk_43_37_38 (by decide) ?_
            refine k_iloadN W d_jdk_43_37_47 rfl ?_
            exact k_ireturn W d_jdk_43_37_48 rfl [] (fun x hx => nomatch hx) (Nat.le_of_ble_eq_true rfl) (Nat.le_of_ble_eq_true rfl) ⟨i, hil, rfl, rfl⟩
  exact loop j 0 T .unset (by omega) (Or.inl rfl) W
set_option maxRecDepth 65536 in
set_option maxHeartbeats 40000000 in
theorem ct_snws (l : Launch) (Z : State) (a0 : Array Value) (hw : ∀ d ∈ tables_1, d.before a0 Z = true) (n0 : Nat) (h0 : Heap) (cd ca : Addr) (x b : Addr) (zc : Int32) (bs : List Int32) (j : Nat) (bj : Int32) (hj : bs[j]? = some bj) (hnw : own_NW (bj &&& 255)) (S0 : St Z h0 x b bs) (P0 : Sta Z h0 "java/lang/String" "COMPACT_STRINGS" "Z" (.int zc)) (hzc : zc ≠ 0) (CI : Sta Z h0 "java/lang/CharacterDataLatin1" "instance" "Ljava/lang/CharacterDataLatin1;" (.ref cd)) (CX : Exa Z h0 cd "java/lang/CharacterDataLatin1") (CA : Sta Z h0 "java/lang/CharacterDataLatin1" "A" "[I" (.ref ca)) (CV : Av Z h0 ca .int (own_props.map Value.int)) : Ct l Z a0 own_EL false (⟨"java/lang/String", "indexOfNonWhitespace", "()I"⟩ : MethodName) jdk_42_method_120_code 1 (Option.some Jvm.ClassFile.FieldType.int) ({ frames := 3, cells := 0, slots := 0, locals := 44 } : Room) #[(.ref x)] h0 [] n0 (fun v h so => ∃ i, i < bs.length ∧ v = some (.int (Int32.ofNat i)) ∧ h0 = h) := by
  refine Ct.body (plainFor_of_name pn1) ?_
  intro p e s m below meth c T W
  refine WP.cast (g' := (mkF m 0 #[.val (.ref x)] [])) (by simp [entryFrame, mkF, argsToLocals, cat_i, cat_l, cat_r, cat_n]) ?_
  refine k_aloadN W d_jdk_42_120_0 rfl rfl ?_
  refine k_callV W 0 0 0 (argsL := []) (rest := []) (a := x) (C := "java/lang/String") (z0 := (⟨"java/lang/String", "isLatin1", "()Z"⟩ : MethodName)) (z := (⟨"java/lang/String", "isLatin1", "()Z"⟩ : MethodName)) d_jdk_42_120_1 (w72 hw) (w73 hw) (nfSel (w75 hw)) (w75 hw) (w74 hw) (by decide) (lenOf pd9 rfl) S0.1 (ct_isL1 l Z a0 hw n0 h0 x b bs zc S0 P0 hzc) (w76 hw) (w10 hw) (fun x hx => hx) rfl (Nat.le_of_eq rfl) (Nat.le_of_ble_eq_true rfl) (Nat.le_of_ble_eq_true rfl) ⟨rfl, Nat.le_of_ble_eq_true rfl⟩ ⟨rfl, Nat.le_of_ble_eq_true rfl⟩ rfl (fun _ _ q => nomatch q.1) fun T h37 v so W hQ => ?_
  obtain ⟨hv, rfl, -⟩ := hQ
  obtain rfl := Option.some.inj hv
  refine k_ifN W d_jdk_42_120_4 (show ¬ ((1 : Int32) = 0) by decide) ?_
  refine k_aloadN W d_jdk_42_120_7 rfl rfl ?_
  refine k_getF W d_jdk_42_120_8 (host := "") (Or.inl (w35 hw)) Via.refl S0.2.2.1 fun T W => ?_
  refine k_callS W 0 0 0 (argsL := [(.ref b)]) (rest := []) d_jdk_42_120_11 (w77 hw) (w78 hw) (by decide) (lenOf pd10 rfl) (ct_lnws l Z a0 hw n0 h0 cd ca b bs j bj hj hnw S0.2.2.2 CI CX CA CV) (w80 hw) (w79 hw) (fun x hx => hx) rfl (Nat.le_of_eq rfl) (Nat.le_of_ble_eq_true rfl) (Nat.le_of_ble_eq_true rfl) ⟨rfl, Nat.le_of_ble_eq_true rfl⟩ ⟨rfl, Nat.le_of_ble_eq_true rfl⟩ rfl (fun _ _ ⟨_, _, q, _⟩ => nomatch q) fun T h38 v so W hQ => ?_
  obtain ⟨i, hi, hv, rfl⟩ := hQ
  obtain rfl := Option.some.inj hv
  refine k_goto W 24 d_jdk_42_120_14 (by decide) ?_
  exact k_ireturn W d_jdk_42_120_24 rfl [] (fun x hx => nomatch hx) (Nat.le_of_ble_eq_true rfl) (Nat.le_of_ble_eq_true rfl) ⟨i, hi, rfl, rfl⟩
set_option maxRecDepth 65536 in
set_option maxHeartbeats 40000000 in
theorem ct_blank (l : Launch) (Z : State) (a0 : Array Value) (hw : ∀ d ∈ tables_1, d.before a0 Z = true) (n0 : Nat) (h0 : Heap) (cd ca : Addr) (x b : Addr) (zc : Int32) (bs : List Int32) (j : Nat) (bj : Int32) (hj : bs[j]? = some bj) (hnw : own_NW (bj &&& 255)) (S0 : St Z h0 x b bs) (P0 : Sta Z h0 "java/lang/String" "COMPACT_STRINGS" "Z" (.int zc)) (hzc : zc ≠ 0) (CI : Sta Z h0 "java/lang/CharacterDataLatin1" "instance" "Ljava/lang/CharacterDataLatin1;" (.ref cd)) (CX : Exa Z h0 cd "java/lang/CharacterDataLatin1") (CA : Sta Z h0 "java/lang/CharacterDataLatin1" "A" "[I" (.ref ca)) (CV : Av Z h0 ca .int (own_props.map Value.int)) : Ct l Z a0 own_EL false (⟨"java/lang/String", "isBlank", "()Z"⟩ : MethodName) jdk_42_method_117_code 1 (Option.some Jvm.ClassFile.FieldType.boolean) ({ frames := 4, cells := 0, slots := 0, locals := 56 } : Room) #[(.ref x)] h0 [] n0 (fun v h so => v = some (.int (0 : Int32)) ∧ h0 = h ∧ so = []) := by
  refine Ct.body (plainFor_of_name pn1) ?_
  intro p e s m below meth c T W
  refine WP.cast (g' := (mkF m 0 #[.val (.ref x)] [])) (by simp [entryFrame, mkF, argsToLocals, cat_i, cat_l, cat_r, cat_n]) ?_
  have hL : bs.length < 2147483648 := by have := S0.2.2.2.len; simpa using this
  refine k_aloadN W d_jdk_42_117_0 rfl rfl ?_
  refine k_callP W 0 0 0 (argsL := []) (rest := []) (a := x) (C := "java/lang/String") d_jdk_42_117_1 (w67 hw) (w68 hw) (w70 hw) (w69 hw) (by decide) (lenOf pd11 rfl) S0.1 (ct_snws l Z a0 hw n0 h0 cd ca x b zc bs j bj hj hnw S0 P0 hzc CI CX CA CV) (w71 hw) (w10 hw) (fun x hx => hx) rfl (Nat.le_of_eq rfl) (Nat.le_of_ble_eq_true rfl) (Nat.le_of_ble_eq_true rfl) ⟨rfl, Nat.le_of_ble_eq_true rfl⟩ ⟨rfl, Nat.le_of_ble_eq_true rfl⟩ rfl (fun _ _ ⟨_, _, q, _⟩ => nomatch q) fun T h39 v so W hQ => ?_
  obtain ⟨i, hi, hv, rfl⟩ := hQ
  obtain rfl := Option.some.inj hv
  refine k_aloadN W d_jdk_42_117_4 rfl rfl ?_
  refine k_callV W 1 0 0 (argsL := []) (rest := [(.int (Int32.ofNat i))]) (a := x) (C := "java/lang/String") (z0 := (⟨"java/lang/String", "length", "()I"⟩ : MethodName)) (z := (⟨"java/lang/String", "length", "()I"⟩ : MethodName)) d_jdk_42_117_5 (w97 hw) (w98 hw) (nfSel (w100 hw)) (w100 hw) (w99 hw) (by decide) (lenOf pd11 rfl) S0.1 (ct_len l Z a0 hw n0 h0 x b bs zc S0 P0 hzc) (w101 hw) (w10 hw) (fun x hx => hx) rfl (Nat.le_of_eq rfl) (Nat.le_of_ble_eq_true rfl) (Nat.le_of_ble_eq_true rfl) ⟨rfl, Nat.le_of_ble_eq_true rfl⟩ ⟨rfl, Nat.le_of_ble_eq_true rfl⟩ rfl (fun _ _ q => nomatch q.1) fun T h40 v so W hQ => ?_
  obtain ⟨hv, rfl, -⟩ := hQ
  obtain rfl := Option.some.inj hv
  refine k_icY W 15 d_jdk_42_117_8 (by decide) (show ¬ (Int32.ofNat i) = (Int32.ofNat bs.length) from (fun q => by have := of_inj (by omega) hL q; omega)) ?_
  refine k_iconst W d_jdk_42_117_15 (z := (0 : Int32)) rfl ?_
  exact k_retN W (t := .boolean) (z' := (0 : Int32)) d_jdk_42_117_16 rfl (by simp) (by decide) [] (fun x hx => nomatch hx) (Nat.le_of_ble_eq_true rfl) (Nat.le_of_ble_eq_true rfl) ⟨rfl, rfl, rfl⟩
set_option maxRecDepth 65536 in
set_option maxHeartbeats 40000000 in
theorem ct_rnn (l : Launch) (Z : State) (a0 : Array Value) (hw : ∀ d ∈ tables_1, d.before a0 Z = true) (n0 : Nat) (h0 : Heap) (x q : Addr) : Ct l Z a0 own_EL false (⟨"java/util/Objects", "requireNonNull", "(Ljava/lang/Object;Ljava/lang/String;)Ljava/lang/Object;"⟩ : MethodName) jdk_31_method_11_code 2 (Option.some (Jvm.ClassFile.FieldType.object "java/lang/Object")) ({ frames := 0, cells := 0, slots := 0, locals := 0 } : Room) #[(.ref x), (.ref q)] h0 [] n0 (fun v h so => v = some (.ref x) ∧ h0 = h ∧ so = []) := by
  refine Ct.body (plainFor_of_name pn4) ?_
  intro p e s m below meth c T W
  refine WP.cast (g' := (mkF m 0 #[.val (.ref x), .val (.ref q)] [])) (by simp [entryFrame, mkF, argsToLocals, cat_i, cat_l, cat_r, cat_n]) ?_
  refine k_aloadN W d_jdk_31_11_0 rfl rfl ?_
  refine k_nnY W 13 d_jdk_31_11_1 (by decide) ?_
  refine k_aloadN W d_jdk_31_11_13 rfl rfl ?_
  exact k_areturn W d_jdk_31_11_14 rfl rfl rfl [] (fun x hx => nomatch hx) (Nat.le_of_ble_eq_true rfl) (Nat.le_of_ble_eq_true rfl) ⟨rfl, rfl, rfl⟩
theorem own_nonws1 {x : Int32} (q : Rg x 256) (h1 : x < 9 ∨ 13 < x) (h2 : x < 28 ∨ 32 < x) : own_NW x := by
  have e9 : (9 : Int32).toInt = 9 := by decide
  have e13 : (13 : Int32).toInt = 13 := by decide
  have e28 : (28 : Int32).toInt = 28 := by decide
  have e32 : (32 : Int32).toInt = 32 := by decide
  simp only [Int32.lt_iff_toInt_lt, e9, e13, e28, e32] at h1 h2
  exact ⟨q, by omega, by omega⟩
theorem own_nonws2 {x : Int32} (h : (¬ x < 9 ∧ ¬ 13 < x) ∨ (¬ x < 28 ∧ ¬ 32 < x)) : own_NW (x + 64) := by
  have e9 : (9 : Int32).toInt = 9 := by decide
  have e13 : (13 : Int32).toInt = 13 := by decide
  have e28 : (28 : Int32).toInt = 28 := by decide
  have e32 : (32 : Int32).toInt = 32 := by decide
  have e64 : (64 : Int32).toInt = 64 := by decide
  simp only [Int32.lt_iff_toInt_lt, e9, e13, e28, e32] at h
  have e : (x + 64).toInt = x.toInt + 64 := by rw [Int32.toInt_add, e64, Int.bmod_eq_of_le (by omega) (by omega)]
  refine ⟨⟨by omega, by omega⟩, by omega, by omega⟩
theorem own_mx {x : Int64} : 0 ≤ (x &&& 9223372036854775807).toInt := (toInt_land_nonneg x _ (by decide)).1
theorem own_mx1 {m : Int64} (h : m = 9223372036854775807) : 0 ≤ (m - 1).toInt ∧ (m - 1).toInt < 9223372036854775807 := by subst h; decide
theorem own_mx2 {m : Int64} (h : ¬ m = 9223372036854775807) : m.toInt < 9223372036854775807 := by
  have h1 : m.toInt < 2 ^ 63 := Int64.toInt_lt m
  have h2 : m.toInt ≠ 9223372036854775807 := fun q => h (Int64.toInt_inj.mp (q.trans (by decide)))
  omega
theorem own_span {m : Int64} (h : 0 ≤ m.toInt ∧ m.toInt < 9223372036854775807) : (9223372036854775807 - m).toInt = 9223372036854775807 - m.toInt := by
  have e : (9223372036854775807 : Int64).toInt = 9223372036854775807 := by decide
  rw [Int64.toInt_sub, e, Int.bmod_eq_of_le (by omega) (by omega)]
theorem own_spnz {m : Int64} (h : 0 ≤ m.toInt ∧ m.toInt < 9223372036854775807) : (9223372036854775807 - m : Int64) ≠ 0 := fun q => by
  have := own_span h; rw [q] at this; have e0 : (0 : Int64).toInt = 0 := by decide
  omega
theorem own_ac {m r : Int64} (h : 0 ≤ m.toInt ∧ m.toInt < 9223372036854775807) (q : 0 ≤ r.toInt ∧ r.toInt < (9223372036854775807 - m).toInt) : m < (m + 1) + r := by
  rw [own_span h] at q
  have e1 : (1 : Int64).toInt = 1 := by decide
  have e2 : (m + 1).toInt = m.toInt + 1 := by rw [Int64.toInt_add, e1, Int.bmod_eq_of_le (by omega) (by omega)]
  have e3 : ((m + 1) + r).toInt = m.toInt + 1 + r.toInt := by rw [Int64.toInt_add, e2, Int.bmod_eq_of_le (by omega) (by omega)]
  rw [Int64.lt_iff_toInt_lt, e3]; omega
def own_OK (m : Int64) : Prop := 0 ≤ m.toInt ∧ m.toInt < 9223372036854775807
theorem own_lix {a : Int64} (h1 : ¬ a < -128) (h2 : ¬ (127 : Int64) < a) : ∃ i, i < 256 ∧ Ix (a.toInt32 + 128) i := by
  have e1 : (-128 : Int64).toInt = -128 := by decide
  have e2 : (127 : Int64).toInt = 127 := by decide
  rw [Int64.lt_iff_toInt_lt] at h1 h2
  have e3 : (128 : Int32).toInt = 128 := by decide
  have e4 : a.toInt32.toInt = a.toInt := by rw [Int64.toInt_toInt32, Int.bmod_eq_of_le (by omega) (by omega)]
  have e5 : (a.toInt32 + 128).toInt = a.toInt + 128 := by rw [Int32.toInt_add, e4, e3, Int.bmod_eq_of_le (by omega) (by omega)]
  refine ⟨(a.toInt + 128).toNat, by omega, ?_, ?_⟩
  · have e0 : (0 : Int32).toInt = 0 := by decide
    rw [Int32.lt_iff_toInt_lt]; omega
  · show (a.toInt32 + 128).toInt.toNat = _; rw [e5]
set_option maxRecDepth 65536 in
set_option maxHeartbeats 40000000 in
theorem ct_nonws (l : Launch) (Z : State) (a0 : Array Value) (hw : ∀ d ∈ tables_1, d.before a0 Z = true) (n0 : Nat) (h0 : Heap) (p0 : Int32) : Ct l Z a0 own_EL false (⟨"com/example/lean_envelope/leanenvelope/check/ExceededLimitEqualsPinLaw", "nonWs", "(I)I"⟩ : MethodName) method_2_code 2 (Option.some Jvm.ClassFile.FieldType.int) ({ frames := 0, cells := 0, slots := 0, locals := 0 } : Room) #[(.int p0)] h0 [] n0 (fun v h so => ∃ c, v = some (.int c) ∧ own_NW c ∧ h0 = h) := by
  refine Ct.body (plainFor_of_name pn5) ?_
  intro p e s m below meth c T W
  refine WP.cast (g' := (mkF m 0 #[.val (.int p0), .unset] [])) (by simp [entryFrame, mkF, argsToLocals, cat_i, cat_l, cat_r, cat_n]) ?_
  refine k_iloadN W d_method_2_0 rfl ?_
  refine k_sipush W d_method_2_1 (z := (255 : Int32)) rfl ?_
  refine k_iand W d_method_2_4 (z := (p0 &&& (255 : Int32))) rfl ?_
  refine k_istoreN W d_method_2_5 (L' := #[.val (.int p0), .val (.int (p0 &&& (255 : Int32)))]) rfl ?_
  refine k_iloadN W d_method_2_6 rfl ?_
  refine k_bipush W d_method_2_7 (z := (9 : Int32)) rfl ?_
  refine k_ic W 18 d_method_2_9 (by decide) (fun (hc41 : (p0 &&& (255 : Int32)) < (9 : Int32)) => ?_) (fun (hc41 : ¬ ((p0 &&& (255 : Int32)) < (9 : Int32))) => ?_)
  · -- pc 18
    refine k_iloadN W d_method_2_18 rfl ?_
    refine k_bipush W d_method_2_19 (z := (28 : Int32)) rfl ?_
    refine k_ic W 35 d_method_2_21 (by decide) (fun (hc42 : (p0 &&& (255 : Int32)) < (28 : Int32)) => ?_) (fun (hc42 : ¬ ((p0 &&& (255 : Int32)) < (28 : Int32))) => ?_)
    · -- pc 35
      refine k_iloadN W d_method_2_35 rfl ?_
      exact k_ireturn W d_method_2_36 rfl [] (fun x hx => nomatch hx) (Nat.le_of_ble_eq_true rfl) (Nat.le_of_ble_eq_true rfl) ⟨_, rfl, own_nonws1 (Rg.and (n := 256) p0 (255 : Int32) (by decide)) (Or.inl hc41) (Or.inl hc42), rfl⟩
    · -- pc 24
      refine k_iloadN W d_method_2_24 rfl ?_
      refine k_bipush W d_method_2_25 (z := (32 : Int32)) rfl ?_
      refine k_ic W 35 d_method_2_27 (by decide) (fun (hc43 : (32 : Int32) < (p0 &&& (255 : Int32))) => ?_) (fun (hc43 : ¬ ((32 : Int32) < (p0 &&& (255 : Int32)))) => ?_)
      · -- pc 35
        refine k_iloadN W d_method_2_35 rfl ?_
        exact k_ireturn W d_method_2_36 rfl [] (fun x hx => nomatch hx) (Nat.le_of_ble_eq_true rfl) (Nat.le_of_ble_eq_true rfl) ⟨_, rfl, own_nonws1 (Rg.and (n := 256) p0 (255 : Int32) (by decide)) (Or.inl hc41) (Or.inr hc43), rfl⟩
      · -- pc 30
        refine k_iloadN W d_method_2_30 rfl ?_
        refine k_bipush W d_method_2_31 (z := (64 : Int32)) rfl ?_
        refine k_iadd W d_method_2_33 (z := ((p0 &&& (255 : Int32)) + (64 : Int32))) rfl ?_
        refine k_istoreN W d_method_2_34 (L' := #[.val (.int p0), .val (.int ((p0 &&& (255 : Int32)) + (64 : Int32)))]) rfl ?_
        refine k_iloadN W d_method_2_35 rfl ?_
        exact k_ireturn W d_method_2_36 rfl [] (fun x hx => nomatch hx) (Nat.le_of_ble_eq_true rfl) (Nat.le_of_ble_eq_true rfl) ⟨_, rfl, own_nonws2 (Or.inr ⟨hc42, hc43⟩), rfl⟩
  · -- pc 12
    refine k_iloadN W d_method_2_12 rfl ?_
    refine k_bipush W d_method_2_13 (z := (13 : Int32)) rfl ?_
    refine k_ic W 30 d_method_2_15 (by decide) (fun (hc44 : ¬ (13 : Int32) < (p0 &&& (255 : Int32))) => ?_) (fun (hc44 : ¬ (¬ (13 : Int32) < (p0 &&& (255 : Int32)))) => ?_)
    · -- pc 30
      refine k_iloadN W d_method_2_30 rfl ?_
      refine k_bipush W d_method_2_31 (z := (64 : Int32)) rfl ?_
      refine k_iadd W d_method_2_33 (z := ((p0 &&& (255 : Int32)) + (64 : Int32))) rfl ?_
      refine k_istoreN W d_method_2_34 (L' := #[.val (.int p0), .val (.int ((p0 &&& (255 : Int32)) + (64 : Int32)))]) rfl ?_
      refine k_iloadN W d_method_2_35 rfl ?_
      exact k_ireturn W d_method_2_36 rfl [] (fun x hx => nomatch hx) (Nat.le_of_ble_eq_true rfl) (Nat.le_of_ble_eq_true rfl) ⟨_, rfl, own_nonws2 (Or.inl ⟨hc41, hc44⟩), rfl⟩
    · -- pc 18
      refine k_iloadN W d_method_2_18 rfl ?_
      refine k_bipush W d_method_2_19 (z := (28 : Int32)) rfl ?_
      refine k_ic W 35 d_method_2_21 (by decide) (fun (hc45 : (p0 &&& (255 : Int32)) < (28 : Int32)) => ?_) (fun (hc45 : ¬ ((p0 &&& (255 : Int32)) < (28 : Int32))) => ?_)
      · -- pc 35
        refine k_iloadN W d_method_2_35 rfl ?_
        exact k_ireturn W d_method_2_36 rfl [] (fun x hx => nomatch hx) (Nat.le_of_ble_eq_true rfl) (Nat.le_of_ble_eq_true rfl) ⟨_, rfl, own_nonws1 (Rg.and (n := 256) p0 (255 : Int32) (by decide)) (Or.inr (Classical.not_not.mp hc44)) (Or.inl hc45), rfl⟩
      · -- pc 24
        refine k_iloadN W d_method_2_24 rfl ?_
        refine k_bipush W d_method_2_25 (z := (32 : Int32)) rfl ?_
        refine k_ic W 35 d_method_2_27 (by decide) (fun (hc46 : (32 : Int32) < (p0 &&& (255 : Int32))) => ?_) (fun (hc46 : ¬ ((32 : Int32) < (p0 &&& (255 : Int32)))) => ?_)
        · -- pc 35
          refine k_iloadN W d_method_2_35 rfl ?_
          exact k_ireturn W d_method_2_36 rfl [] (fun x hx => nomatch hx) (Nat.le_of_ble_eq_true rfl) (Nat.le_of_ble_eq_true rfl) ⟨_, rfl, own_nonws1 (Rg.and (n := 256) p0 (255 : Int32) (by decide)) (Or.inr (Classical.not_not.mp hc44)) (Or.inr hc46), rfl⟩
        · -- pc 30
          refine k_iloadN W d_method_2_30 rfl ?_
          refine k_bipush W d_method_2_31 (z := (64 : Int32)) rfl ?_
          refine k_iadd W d_method_2_33 (z := ((p0 &&& (255 : Int32)) + (64 : Int32))) rfl ?_
          refine k_istoreN W d_method_2_34 (L' := #[.val (.int p0), .val (.int ((p0 &&& (255 : Int32)) + (64 : Int32)))]) rfl ?_
          refine k_iloadN W d_method_2_35 rfl ?_
          exact k_ireturn W d_method_2_36 rfl [] (fun x hx => nomatch hx) (Nat.le_of_ble_eq_true rfl) (Nat.le_of_ble_eq_true rfl) ⟨_, rfl, own_nonws2 (Or.inr ⟨hc45, hc46⟩), rfl⟩
set_option maxRecDepth 65536 in
set_option maxHeartbeats 40000000 in
theorem ct_mk1 (l : Launch) (Z : State) (a0 : Array Value) (hw : ∀ d ∈ tables_1, d.before a0 Z = true) (n0 : Nat) (h0 : Heap) (c0 c1 zc : Int32) (r0 : Rg c0 256) (r1 : Rg c1 256) (P0 : Sta Z h0 "java/lang/String" "COMPACT_STRINGS" "Z" (.int zc)) (hzc : zc ≠ 0) : Ct l Z a0 own_EL false (⟨"com/example/lean_envelope/leanenvelope/check/ExceededLimitEqualsPinLaw", "mk", "(III)Ljava/lang/String;"⟩ : MethodName) method_3_code 4 (Option.some (Jvm.ClassFile.FieldType.object "java/lang/String")) ({ frames := 4, cells := 3, slots := 6, locals := 66 } : Room) #[(.int (1 : Int32)), (.int c0), (.int c1)] h0 [] n0 (fun v h so => ∃ x b, v = some (.ref x) ∧ h0.size ≤ x ∧ h0.size ≤ b ∧ Keep h0 h [] ∧ St Z h x b [(i2b c0)]) := by
  refine Ct.body (plainFor_of_name pn5) ?_
  intro p e s m below meth c T W
  refine WP.cast (g' := (mkF m 0 #[.val (.int (1 : Int32)), .val (.int c0), .val (.int c1), .unset] [])) (by simp [entryFrame, mkF, argsToLocals, cat_i, cat_l, cat_r, cat_n]) ?_
  refine k_iloadN W d_method_3_0 rfl ?_
  refine k_iconst W d_method_3_1 (z := (1 : Int32)) rfl ?_
  refine k_icN W d_method_3_2 (show ¬ (¬ (1 : Int32) = (1 : Int32)) by decide) ?_
  refine k_iconst W d_method_3_5 (z := (1 : Int32)) rfl ?_
  refine k_newarr W 1 1 1 d_method_3_6 (w7 hw) (by decide) (by decide) ⟨rfl, Nat.le_of_ble_eq_true rfl⟩ ⟨rfl, Nat.le_of_ble_eq_true rfl⟩ fun T h47 a48 g48 W E48 A48 => ?_
  have K48 : Keep h0 h47 [] := keep_ext E48 []
  have A48 : Av Z h47 a48 .char [(.int (0 : Int32))] := A48
  refine k_astoreN W d_method_3_8 rfl (L' := #[.val (.int (1 : Int32)), .val (.int c0), .val (.int c1), .val (.ref a48)]) rfl ?_
  refine k_aloadN W d_method_3_9 rfl rfl ?_
  refine k_iconst W d_method_3_10 (z := (0 : Int32)) rfl ?_
  refine k_iloadN W d_method_3_11 rfl ?_
  refine k_i2c W d_method_3_12 (z := c0) (Rg.c (Rg.mono r0 (by decide))) ?_
  refine k_castore W (z := c0) 0 d_method_3_13 (List.mem_of_getElem? (i := 0) rfl) A48 (by decide) (Nat.le_of_ble_eq_true rfl) (Rg.nar (Rg.mono r0 (by decide))) (Rg.fits (Rg.mono r0 (by decide))) fun T h49 W Wr49 A49 => ?_
  have K49 : Keep h47 h49 [a48] := Keep.of_wr Wr49
  have A49 : Av Z h49 a48 .char [(.int c0)] := A49
  refine k_new W 2 5 d_method_3_14 (w8 hw) (w9 hw) (w10 hw) ⟨rfl, Nat.le_of_ble_eq_true rfl⟩ ⟨rfl, Nat.le_of_ble_eq_true rfl⟩ fun T h50 a51 g51 W E51 X51 D51 => ?_
  have K51 : Keep h49 h50 [] := keep_ext E51 []
  refine k_dup W d_method_3_17 rfl ?_
  refine k_aloadN W d_method_3_18 rfl rfl ?_
  have f52 := (A49.keep K51 nin0)
  have f53 := (Sta.keep (Sta.keep (Sta.keep P0 K48 ns0) K49 (nsS (Av.plain A48) ns0)) K51 ns0)
  refine k_callI0 W 1 3 6 (argsL := [(.ref a48)]) (rest := [(.ref a51)]) (a := a51) d_method_3_19 rfl rfl (w11 hw) (w12 hw) (by decide) (lenOf pd12 rfl) (ct_sinit l Z a0 hw n0 h50 a51 a48 [c0] 1 zc .null (.int (0 : Int32)) X51 (D51 (Or.inr (w36 hw)) (ty := (.array .byte)) (by decide)) (D51 (Or.inr (w34 hw)) (ty := .byte) (by decide)) f52 f53 hzc (rgS r0 (fun _ q => nomatch q)) (Nat.le_of_ble_eq_true rfl) (Nat.le_of_ble_eq_true rfl) (by decide)) (w13 hw) (w10 hw) (fun x hx => by simp only [List.mem_cons, List.not_mem_nil, or_false] at hx; rcases hx with rfl; all_goals first | exact (List.mem_of_getElem? (i := 0) rfl)) rfl (Nat.le_of_eq rfl) (Nat.le_of_ble_eq_true rfl) (Nat.le_of_ble_eq_true rfl) ⟨rfl, Nat.le_of_ble_eq_true rfl⟩ ⟨rfl, Nat.le_of_ble_eq_true rfl⟩ rfl (fun _ _ _ q => nomatch q.1) fun T h54 so W hQ => ?_
  obtain ⟨-, b54, g54, K54, S54⟩ := hQ
  have S54 : St Z h54 a51 b54 [(i2b c0)] := S54
  have KK55 : Keep h0 h47 [] := (Keep.refl h0 []).trans K48 all0
  have KK56 : Keep h0 h49 [] := KK55.trans K49 (allS (Or.inr (Nat.le_of_eq g48.symm)) all0)
  have KK57 : Keep h0 h50 [] := KK56.trans K51 all0
  have KK58 : Keep h0 h54 [] := KK57.trans K54 (allS (Or.inr (Nat.le_trans (Nat.le_trans E48.1 K49.1) (Nat.le_of_eq g51.symm))) all0)
  exact k_areturn W d_method_3_22 rfl rfl rfl [] (fun x hx => nomatch hx) (Nat.le_of_ble_eq_true rfl) (Nat.le_of_ble_eq_true rfl) ⟨_, _, rfl, (Nat.le_trans (Nat.le_trans E48.1 K49.1) (Nat.le_of_eq g51.symm)), (Nat.le_trans (Nat.le_trans (Nat.le_trans E48.1 K49.1) E51.1) g54), KK58, S54⟩
set_option maxRecDepth 65536 in
set_option maxHeartbeats 40000000 in
theorem ct_mk2 (l : Launch) (Z : State) (a0 : Array Value) (hw : ∀ d ∈ tables_1, d.before a0 Z = true) (n0 : Nat) (h0 : Heap) (c0 c1 zc : Int32) (r0 : Rg c0 256) (r1 : Rg c1 256) (P0 : Sta Z h0 "java/lang/String" "COMPACT_STRINGS" "Z" (.int zc)) (hzc : zc ≠ 0) : Ct l Z a0 own_EL false (⟨"com/example/lean_envelope/leanenvelope/check/ExceededLimitEqualsPinLaw", "mk", "(III)Ljava/lang/String;"⟩ : MethodName) method_3_code 4 (Option.some (Jvm.ClassFile.FieldType.object "java/lang/String")) ({ frames := 4, cells := 3, slots := 8, locals := 66 } : Room) #[(.int (2 : Int32)), (.int c0), (.int c1)] h0 [] n0 (fun v h so => ∃ x b, v = some (.ref x) ∧ h0.size ≤ x ∧ h0.size ≤ b ∧ Keep h0 h [] ∧ St Z h x b [(i2b c0), (i2b c1)]) := by
  refine Ct.body (plainFor_of_name pn5) ?_
  intro p e s m below meth c T W
  refine WP.cast (g' := (mkF m 0 #[.val (.int (2 : Int32)), .val (.int c0), .val (.int c1), .unset] [])) (by simp [entryFrame, mkF, argsToLocals, cat_i, cat_l, cat_r, cat_n]) ?_
  refine k_iloadN W d_method_3_0 rfl ?_
  refine k_iconst W d_method_3_1 (z := (1 : Int32)) rfl ?_
  refine k_icY W 23 d_method_3_2 (by decide) (show ¬ (2 : Int32) = (1 : Int32) by decide) ?_
  refine k_iconst W d_method_3_23 (z := (2 : Int32)) rfl ?_
  refine k_newarr W 2 1 2 d_method_3_24 (w7 hw) (by decide) (by decide) ⟨rfl, Nat.le_of_ble_eq_true rfl⟩ ⟨rfl, Nat.le_of_ble_eq_true rfl⟩ fun T h59 a60 g60 W E60 A60 => ?_
  have K60 : Keep h0 h59 [] := keep_ext E60 []
  have A60 : Av Z h59 a60 .char [(.int (0 : Int32)), (.int (0 : Int32))] := A60
  refine k_astoreN W d_method_3_26 rfl (L' := #[.val (.int (2 : Int32)), .val (.int c0), .val (.int c1), .val (.ref a60)]) rfl ?_
  refine k_aloadN W d_method_3_27 rfl rfl ?_
  refine k_iconst W d_method_3_28 (z := (0 : Int32)) rfl ?_
  refine k_iloadN W d_method_3_29 rfl ?_
  refine k_i2c W d_method_3_30 (z := c0) (Rg.c (Rg.mono r0 (by decide))) ?_
  refine k_castore W (z := c0) 0 d_method_3_31 (List.mem_of_getElem? (i := 0) rfl) A60 (by decide) (Nat.le_of_ble_eq_true rfl) (Rg.nar (Rg.mono r0 (by decide))) (Rg.fits (Rg.mono r0 (by decide))) fun T h61 W Wr61 A61 => ?_
  have K61 : Keep h59 h61 [a60] := Keep.of_wr Wr61
  have A61 : Av Z h61 a60 .char [(.int c0), (.int (0 : Int32))] := A61
  refine k_aloadN W d_method_3_32 rfl rfl ?_
  refine k_iconst W d_method_3_33 (z := (1 : Int32)) rfl ?_
  refine k_iloadN W d_method_3_34 rfl ?_
  refine k_i2c W d_method_3_35 (z := c1) (Rg.c (Rg.mono r1 (by decide))) ?_
  refine k_castore W (z := c1) 1 d_method_3_36 (List.mem_of_getElem? (i := 0) rfl) A61 (by decide) (Nat.le_of_ble_eq_true rfl) (Rg.nar (Rg.mono r1 (by decide))) (Rg.fits (Rg.mono r1 (by decide))) fun T h62 W Wr62 A62 => ?_
  have K62 : Keep h61 h62 [a60] := Keep.of_wr Wr62
  have A62 : Av Z h62 a60 .char [(.int c0), (.int c1)] := A62
  refine k_new W 2 6 d_method_3_37 (w8 hw) (w9 hw) (w10 hw) ⟨rfl, Nat.le_of_ble_eq_true rfl⟩ ⟨rfl, Nat.le_of_ble_eq_true rfl⟩ fun T h63 a64 g64 W E64 X64 D64 => ?_
  have K64 : Keep h62 h63 [] := keep_ext E64 []
  refine k_dup W d_method_3_40 rfl ?_
  refine k_aloadN W d_method_3_41 rfl rfl ?_
  have f65 := (A62.keep K64 nin0)
  have f66 := (Sta.keep (Sta.keep (Sta.keep (Sta.keep P0 K60 ns0) K61 (nsS (Av.plain A60) ns0)) K62 (nsS (Av.plain A61) ns0)) K64 ns0)
  refine k_callI0 W 1 3 8 (argsL := [(.ref a60)]) (rest := [(.ref a64)]) (a := a64) d_method_3_42 rfl rfl (w11 hw) (w12 hw) (by decide) (lenOf pd12 rfl) (ct_sinit l Z a0 hw n0 h63 a64 a60 [c0, c1] 2 zc .null (.int (0 : Int32)) X64 (D64 (Or.inr (w36 hw)) (ty := (.array .byte)) (by decide)) (D64 (Or.inr (w34 hw)) (ty := .byte) (by decide)) f65 f66 hzc (rgS r0 (rgS r1 (fun _ q => nomatch q))) (Nat.le_of_ble_eq_true rfl) (Nat.le_of_ble_eq_true rfl) (by decide)) (w13 hw) (w10 hw) (fun x hx => by simp only [List.mem_cons, List.not_mem_nil, or_false] at hx; rcases hx with rfl; all_goals first | exact (List.mem_of_getElem? (i := 0) rfl)) rfl (Nat.le_of_eq rfl) (Nat.le_of_ble_eq_true rfl) (Nat.le_of_ble_eq_true rfl) ⟨rfl, Nat.le_of_ble_eq_true rfl⟩ ⟨rfl, Nat.le_of_ble_eq_true rfl⟩ rfl (fun _ _ _ q => nomatch q.1) fun T h67 so W hQ => ?_
  obtain ⟨-, b67, g67, K67, S67⟩ := hQ
  have S67 : St Z h67 a64 b67 [(i2b c0), (i2b c1)] := S67
  have KK68 : Keep h0 h59 [] := (Keep.refl h0 []).trans K60 all0
  have KK69 : Keep h0 h61 [] := KK68.trans K61 (allS (Or.inr (Nat.le_of_eq g60.symm)) all0)
  have KK70 : Keep h0 h62 [] := KK69.trans K62 (allS (Or.inr (Nat.le_of_eq g60.symm)) all0)
  have KK71 : Keep h0 h63 [] := KK70.trans K64 all0
  have KK72 : Keep h0 h67 [] := KK71.trans K67 (allS (Or.inr (Nat.le_trans (Nat.le_trans (Nat.le_trans E60.1 K61.1) K62.1) (Nat.le_of_eq g64.symm))) all0)
  exact k_areturn W d_method_3_45 rfl rfl rfl [] (fun x hx => nomatch hx) (Nat.le_of_ble_eq_true rfl) (Nat.le_of_ble_eq_true rfl) ⟨_, _, rfl, (Nat.le_trans (Nat.le_trans (Nat.le_trans E60.1 K61.1) K62.1) (Nat.le_of_eq g64.symm)), (Nat.le_trans (Nat.le_trans (Nat.le_trans (Nat.le_trans E60.1 K61.1) K62.1) E64.1) g67), KK72, S67⟩
set_option maxRecDepth 65536 in
set_option maxHeartbeats 40000000 in
theorem ct_mx (l : Launch) (Z : State) (a0 : Array Value) (hw : ∀ d ∈ tables_1, d.before a0 Z = true) (n0 : Nat) (h0 : Heap) (q0 : Int64) : Ct l Z a0 own_EL false (⟨"com/example/lean_envelope/leanenvelope/check/ExceededLimitEqualsPinLaw", "mx", "(J)J"⟩ : MethodName) method_4_code 4 (Option.some Jvm.ClassFile.FieldType.long) ({ frames := 0, cells := 0, slots := 0, locals := 0 } : Room) #[(.long q0)] h0 [] n0 (fun v h so => ∃ z, v = some (.long z) ∧ own_OK z ∧ h0 = h) := by
  refine Ct.body (plainFor_of_name pn5) ?_
  intro p e s m below meth c T W
  refine WP.cast (g' := (mkF m 0 #[.val (.long q0), .second, .unset, .unset] [])) (by simp [entryFrame, mkF, argsToLocals, cat_i, cat_l, cat_r, cat_n]) ?_
  refine k_lloadN W d_method_4_0 rfl ?_
  refine k_ldc2J W d_method_4_1 (w40 hw) ?_
  refine k_land W d_method_4_4 (z := (q0 &&& (9223372036854775807 : Int64))) rfl ?_
  refine k_lstoreN W d_method_4_5 (L' := #[.val (.long q0), .second, .val (.long (q0 &&& (9223372036854775807 : Int64))), .second]) rfl ?_
  refine k_lloadN W d_method_4_6 rfl ?_
  refine k_ldc2J W d_method_4_7 (w40 hw) ?_
  obtain ⟨v73, ev73⟩ : ∃ z : Int32, z = (XT.cmpL (q0 &&& (9223372036854775807 : Int64)) (9223372036854775807 : Int64)) := ⟨_, rfl⟩
  refine k_lcmp W d_method_4_10 ev73.symm ?_
  refine k_if W 18 d_method_4_11 (by decide) (fun (hc74 : ¬ v73 = 0) => ?_) (fun (hc74 : ¬ (¬ v73 = 0)) => ?_)
  · -- pc 18
    refine k_lloadN W d_method_4_18 rfl ?_
    exact k_lreturn W d_method_4_19 rfl [] (fun x hx => nomatch hx) (Nat.le_of_ble_eq_true rfl) (Nat.le_of_ble_eq_true rfl) ⟨_, rfl, ⟨own_mx, own_mx2 (fun q => hc74 (by rw [ev73]; exact cmpL_eq.mpr q))⟩, rfl⟩
  · -- pc 14
    refine k_lloadN W d_method_4_14 rfl ?_
    refine k_lconst W d_method_4_15 (z := (1 : Int64)) rfl ?_
    refine k_lsub W d_method_4_16 (z := ((q0 &&& (9223372036854775807 : Int64)) - (1 : Int64))) rfl ?_
    refine k_lstoreN W d_method_4_17 (L' := #[.val (.long q0), .second, .val (.long ((q0 &&& (9223372036854775807 : Int64)) - (1 : Int64))), .second]) rfl ?_
    refine k_lloadN W d_method_4_18 rfl ?_
    exact k_lreturn W d_method_4_19 rfl [] (fun x hx => nomatch hx) (Nat.le_of_ble_eq_true rfl) (Nat.le_of_ble_eq_true rfl) ⟨_, rfl, own_mx1 (cmpL_eq.mp (by have := Classical.not_not.mp hc74; rw [ev73] at this; exact this)), rfl⟩
set_option maxRecDepth 65536 in
set_option maxHeartbeats 40000000 in
theorem ct_ac (l : Launch) (Z : State) (a0 : Array Value) (hw : ∀ d ∈ tables_1, d.before a0 Z = true) (n0 : Nat) (h0 : Heap) (q0 q1 : Int64) (hq : own_OK q0) : Ct l Z a0 own_EL false (⟨"com/example/lean_envelope/leanenvelope/check/ExceededLimitEqualsPinLaw", "ac", "(JJ)J"⟩ : MethodName) method_5_code 6 (Option.some Jvm.ClassFile.FieldType.long) ({ frames := 0, cells := 0, slots := 0, locals := 0 } : Room) #[(.long q0), (.long q1)] h0 [] n0 (fun v h so => ∃ z, v = some (.long z) ∧ q0 < z ∧ h0 = h) := by
  refine Ct.body (plainFor_of_name pn5) ?_
  intro p e s m below meth c T W
  refine WP.cast (g' := (mkF m 0 #[.val (.long q0), .second, .val (.long q1), .second, .unset, .unset] [])) (by simp [entryFrame, mkF, argsToLocals, cat_i, cat_l, cat_r, cat_n]) ?_
  refine k_ldc2J W d_method_5_0 (w40 hw) ?_
  refine k_lloadN W d_method_5_3 rfl ?_
  refine k_lsub W d_method_5_4 (z := ((9223372036854775807 : Int64) - q0)) rfl ?_
  refine k_lstore W d_method_5_5 (L' := #[.val (.long q0), .second, .val (.long q1), .second, .val (.long ((9223372036854775807 : Int64) - q0)), .second]) rfl ?_
  refine k_lloadN W d_method_5_7 rfl ?_
  refine k_lconst W d_method_5_8 (z := (1 : Int64)) rfl ?_
  refine k_ladd W d_method_5_9 (z := (q0 + (1 : Int64))) rfl ?_
  refine k_lloadN W d_method_5_10 rfl ?_
  refine k_ldc2J W d_method_5_11 (w40 hw) ?_
  refine k_land W d_method_5_14 (z := (q1 &&& (9223372036854775807 : Int64))) rfl ?_
  refine k_lload W d_method_5_15 rfl ?_
  obtain ⟨v75, ev75⟩ : ∃ z : Int64, z = ((q1 &&& (9223372036854775807 : Int64)) - ((q1 &&& (9223372036854775807 : Int64)) / ((9223372036854775807 : Int64) - q0)) * ((9223372036854775807 : Int64) - q0)) := ⟨_, rfl⟩
  refine k_lrem W d_method_5_17 (own_spnz hq) ev75.symm ?_
  refine k_ladd W d_method_5_18 (z := ((q0 + (1 : Int64)) + v75)) rfl ?_
  exact k_lreturn W d_method_5_19 rfl [] (fun x hx => nomatch hx) (Nat.le_of_ble_eq_true rfl) (Nat.le_of_ble_eq_true rfl) ⟨_, rfl, by subst_vars; exact own_ac hq (lrem_rg own_mx (by rw [own_span hq]; have := hq.2; omega)), rfl⟩
set_option maxRecDepth 65536 in
set_option maxHeartbeats 40000000 in
theorem ct_num (l : Launch) (Z : State) (a0 : Array Value) (hw : ∀ d ∈ tables_1, d.before a0 Z = true) (n0 : Nat) (h0 : Heap) (x : Addr) : Ct l Z a0 own_EL false (⟨"java/lang/Number", "<init>", "()V"⟩ : MethodName) jdk_18_method_1_code 1 (Option.none : Option Jvm.ClassFile.FieldType) ({ frames := 1, cells := 0, slots := 0, locals := 12 } : Room) #[(.ref x)] h0 [] n0 (fun v h so => v = none ∧ h0 = h ∧ so = []) := by
  refine Ct.body (plainFor_of_name pn6) ?_
  intro p e s m below meth c T W
  refine WP.cast (g' := (mkF m 0 #[.val (.ref x)] [])) (by simp [entryFrame, mkF, argsToLocals, cat_i, cat_l, cat_r, cat_n]) ?_
  refine k_aloadN W d_jdk_18_1_0 rfl rfl ?_
  refine k_initO W 0 d_jdk_18_1_1 (w151 hw) (w19 hw) (w20 hw) rfl (Nat.le_of_eq rfl) (Nat.le_of_ble_eq_true rfl) (Nat.le_of_ble_eq_true rfl) fun T W => ?_
  exact k_ret W d_jdk_18_1_4 rfl [] (fun x hx => nomatch hx) (Nat.le_of_ble_eq_true rfl) (Nat.le_of_ble_eq_true rfl) ⟨rfl, rfl, rfl⟩
set_option maxRecDepth 65536 in
set_option maxHeartbeats 40000000 in
theorem ct_linit (l : Launch) (Z : State) (a0 : Array Value) (hw : ∀ d ∈ tables_1, d.before a0 Z = true) (n0 : Nat) (h0 : Heap) (x : Addr) (q0 : Int64) (E0 : Exa Z h0 x "java/lang/Long") (F0 : Fld Z h0 x "java/lang/Long" "value" "J" (.long 0)) : Ct l Z a0 own_EL false (⟨"java/lang/Long", "<init>", "(J)V"⟩ : MethodName) jdk_35_method_26_code 3 (Option.none : Option Jvm.ClassFile.FieldType) ({ frames := 2, cells := 0, slots := 0, locals := 24 } : Room) #[(.ref x), (.long q0)] h0 [x] n0 (fun v h so => v = none ∧ Keep h0 h [x]) := by
  refine Ct.body (plainFor_of_name pn7) ?_
  intro p e s m below meth c T W
  refine WP.cast (g' := (mkF m 0 #[.val (.ref x), .val (.long q0), .second] [])) (by simp [entryFrame, mkF, argsToLocals, cat_i, cat_l, cat_r, cat_n]) ?_
  refine k_aloadN W d_jdk_35_26_0 rfl rfl ?_
  refine k_callI0 W 0 0 0 (argsL := []) (rest := []) (a := x) d_jdk_35_26_1 rfl rfl (w145 hw) (w146 hw) (by decide) (lenOf pd13 rfl) (ct_num l Z a0 hw n0 h0 x) (w150 hw) (w149 hw) (fun x hx => nomatch hx) rfl (Nat.le_of_eq rfl) (Nat.le_of_ble_eq_true rfl) (Nat.le_of_ble_eq_true rfl) ⟨rfl, Nat.le_of_ble_eq_true rfl⟩ ⟨rfl, Nat.le_of_ble_eq_true rfl⟩ rfl (fun _ _ _ q => nomatch q.1) fun T h76 so W hQ => ?_
  obtain ⟨-, rfl, -⟩ := hQ
  refine k_aloadN W d_jdk_35_26_4 rfl rfl ?_
  refine k_lloadN W d_jdk_35_26_5 rfl ?_
  refine k_putF W d_jdk_35_26_6 (w152 hw) Via.refl (v' := (.long q0)) (List.mem_of_getElem? (i := 0) rfl) F0 E0 (Or.inr ⟨(w153 hw), rfl, rfl⟩) (w140 hw) (ty := .long) (by decide) rfl rfl fun T h77 W Wr77 => ?_
  have K77 : Keep h0 h77 [x] := Keep.of_wr Wr77
  have KK78 : Keep h0 h77 [x] := (Keep.refl h0 [x]).trans K77 (allS (Or.inl (List.mem_of_getElem? (i := 0) rfl)) all0)
  exact k_ret W d_jdk_35_26_9 rfl [] (fun x hx => nomatch hx) (Nat.le_of_ble_eq_true rfl) (Nat.le_of_ble_eq_true rfl) ⟨rfl, KK78⟩
set_option maxRecDepth 65536 in
set_option maxHeartbeats 40000000 in
theorem ct_lval (l : Launch) (Z : State) (a0 : Array Value) (hw : ∀ d ∈ tables_1, d.before a0 Z = true) (n0 : Nat) (h0 : Heap) (q0 : Int64) (lc : Addr) (lvs : List Value) (LS : Sta Z h0 "java/lang/Long$LongCache" "cache" "[Ljava/lang/Long;" (.ref lc)) (LV : Av Z h0 lc (.object "java/lang/Long") lvs) (LX : AllExa Z h0 "java/lang/Long" lvs) (hlv : lvs.length = 256) : Ct l Z a0 own_EL false (⟨"java/lang/Long", "valueOf", "(J)Ljava/lang/Long;"⟩ : MethodName) jdk_35_method_24_code 3 (Option.some (Jvm.ClassFile.FieldType.object "java/lang/Long")) ({ frames := 3, cells := 1, slots := 1, locals := 39 } : Room) #[(.long q0)] h0 [] n0 (fun v h so => ∃ r, v = some (.ref r) ∧ Keep h0 h [] ∧ Exa Z h r "java/lang/Long") := by
  refine Ct.body (plainFor_of_name pn7) ?_
  intro p e s m below meth c T W
  refine WP.cast (g' := (mkF m 0 #[.val (.long q0), .second, .unset] [])) (by simp [entryFrame, mkF, argsToLocals, cat_i, cat_l, cat_r, cat_n]) ?_
  refine k_sipush W d_jdk_35_24_0 (z := (128 : Int32)) rfl ?_
  refine k_istoreN W d_jdk_35_24_3 (L' := #[.val (.long q0), .second, .val (.int (128 : Int32))]) rfl ?_
  refine k_lloadN W d_jdk_35_24_4 rfl ?_
  refine k_ldc2J W d_jdk_35_24_5 (w137 hw) ?_
  refine k_lcmp W d_jdk_35_24_8 (z := (XT.cmpL q0 (-128 : Int64))) rfl ?_
  refine k_if W 31 d_jdk_35_24_9 (by decide) (fun (hc79 : (XT.cmpL q0 (-128 : Int64)) < 0) => ?_) (fun (hc79 : ¬ ((XT.cmpL q0 (-128 : Int64)) < 0)) => ?_)
  · -- pc 31
    refine k_new W 1 1 d_jdk_35_24_31 (w139 hw) (w140 hw) (w135 hw) ⟨rfl, Nat.le_of_ble_eq_true rfl⟩ ⟨rfl, Nat.le_of_ble_eq_true rfl⟩ fun T h80 a81 g81 W E81 X81 D81 => ?_
    have K81 : Keep h0 h80 [] := keep_ext E81 []
    refine k_dup W d_jdk_35_24_34 rfl ?_
    refine k_lloadN W d_jdk_35_24_35 rfl ?_
    refine k_callI0 W 1 1 1 (argsL := [(.long q0)]) (rest := [(.ref a81)]) (a := a81) d_jdk_35_24_36 rfl rfl (w141 hw) (w142 hw) (by decide) (lenOf pd14 rfl) (ct_linit l Z a0 hw n0 h80 a81 q0 X81 (D81 (Or.inr (w153 hw)) (ty := .long) (by decide))) (w144 hw) (w135 hw) (fun x hx => hx) rfl (Nat.le_of_eq rfl) (Nat.le_of_ble_eq_true rfl) (Nat.le_of_ble_eq_true rfl) ⟨rfl, Nat.le_of_ble_eq_true rfl⟩ ⟨rfl, Nat.le_of_ble_eq_true rfl⟩ rfl (fun _ _ _ q => nomatch q.1) fun T h82 so W hQ => ?_
    have K82 := hQ.2
    have KK83 : Keep h0 h80 [] := (Keep.refl h0 []).trans K81 all0
    have KK84 : Keep h0 h82 [] := KK83.trans K82 (allS (Or.inr (Nat.le_of_eq g81.symm)) all0)
    have f85 := (X81.keep K82)
    exact k_areturn W d_jdk_35_24_39 rfl rfl rfl [] (fun x hx => nomatch hx) (Nat.le_of_ble_eq_true rfl) (Nat.le_of_ble_eq_true rfl) ⟨_, rfl, KK84, f85⟩
  · -- pc 12
    refine k_lloadN W d_jdk_35_24_12 rfl ?_
    refine k_ldc2J W d_jdk_35_24_13 (w138 hw) ?_
    refine k_lcmp W d_jdk_35_24_16 (z := (XT.cmpL q0 (127 : Int64))) rfl ?_
    refine k_if W 31 d_jdk_35_24_17 (by decide) (fun (hc86 : 0 < (XT.cmpL q0 (127 : Int64))) => ?_) (fun (hc86 : ¬ (0 < (XT.cmpL q0 (127 : Int64)))) => ?_)
    · -- pc 31
      refine k_new W 1 1 d_jdk_35_24_31 (w139 hw) (w140 hw) (w135 hw) ⟨rfl, Nat.le_of_ble_eq_true rfl⟩ ⟨rfl, Nat.le_of_ble_eq_true rfl⟩ fun T h87 a88 g88 W E88 X88 D88 => ?_
      have K88 : Keep h0 h87 [] := keep_ext E88 []
      refine k_dup W d_jdk_35_24_34 rfl ?_
      refine k_lloadN W d_jdk_35_24_35 rfl ?_
      refine k_callI0 W 1 1 1 (argsL := [(.long q0)]) (rest := [(.ref a88)]) (a := a88) d_jdk_35_24_36 rfl rfl (w141 hw) (w142 hw) (by decide) (lenOf pd14 rfl) (ct_linit l Z a0 hw n0 h87 a88 q0 X88 (D88 (Or.inr (w153 hw)) (ty := .long) (by decide))) (w144 hw) (w135 hw) (fun x hx => hx) rfl (Nat.le_of_eq rfl) (Nat.le_of_ble_eq_true rfl) (Nat.le_of_ble_eq_true rfl) ⟨rfl, Nat.le_of_ble_eq_true rfl⟩ ⟨rfl, Nat.le_of_ble_eq_true rfl⟩ rfl (fun _ _ _ q => nomatch q.1) fun T h89 so W hQ => ?_
      have K89 := hQ.2
      have KK90 : Keep h0 h87 [] := (Keep.refl h0 []).trans K88 all0
      have KK91 : Keep h0 h89 [] := KK90.trans K89 (allS (Or.inr (Nat.le_of_eq g88.symm)) all0)
      have f92 := (X88.keep K89)
      exact k_areturn W d_jdk_35_24_39 rfl rfl rfl [] (fun x hx => nomatch hx) (Nat.le_of_ble_eq_true rfl) (Nat.le_of_ble_eq_true rfl) ⟨_, rfl, KK91, f92⟩
    · -- pc 20
      obtain ⟨li, hli, hix⟩ := own_lix (fun q => hc79 (cmpL_lt.mpr q)) (fun q => hc86 (cmpL_gt.mpr q))
      obtain ⟨lr, elr, XLR⟩ := LX _ (List.getElem_mem (by rw [hlv]; exact hli : li < lvs.length))
      have hlr : lvs[li]? = some (.ref lr) := by rw [← elr]; exact List.getElem?_eq_getElem _
      refine k_getS W d_jdk_35_24_20 (w158 hw) Via.refl LS fun T W => ?_
      refine k_lloadN W d_jdk_35_24_23 rfl ?_
      refine k_l2i W d_jdk_35_24_24 (z := (q0.toInt32)) rfl ?_
      refine k_sipush W d_jdk_35_24_25 (z := (128 : Int32)) rfl ?_
      refine k_iadd W d_jdk_35_24_28 (z := ((q0.toInt32) + (128 : Int32))) rfl ?_
      refine k_aaload W (v := (.ref lr)) li d_jdk_35_24_29 LV rfl hix hlr ?_
      exact k_areturn W d_jdk_35_24_30 rfl rfl rfl [] (fun x hx => nomatch hx) (Nat.le_of_ble_eq_true rfl) (Nat.le_of_ble_eq_true rfl) ⟨_, rfl, (Keep.refl h0 []), XLR⟩
theorem own_nneg {m : Int64} (h : own_OK m) : ¬ m < 0 := by
  rw [Int64.lt_iff_toInt_lt]; have h0 : (0 : Int64).toInt = 0 := by decide
  have := h.1; omega
set_option maxRecDepth 65536 in
set_option maxHeartbeats 40000000 in
theorem ct_exinit (l : Launch) (Z : State) (a0 : Array Value) (hw : ∀ d ∈ tables_1, d.before a0 Z = true) (n0 : Nat) (h0 : Heap) (cd ca x p_ pb u : Addr) (ps : List Int32) (ja jm : Int64) (zc : Int32) (j : Nat) (bj : Int32) (hj : ps[j]? = some bj) (hnw : own_NW (bj &&& 255)) (hm : own_OK jm) (hlt : jm < ja) (E0 : Exa Z h0 x "com/example/lean_envelope/leanenvelope/check/ExceededLimit") (F0 : Fld Z h0 x "com/example/lean_envelope/leanenvelope/check/ExceededLimit" "field" "Ljava/lang/String;" .null) (F1 : Fld Z h0 x "com/example/lean_envelope/leanenvelope/check/ExceededLimit" "actual" "J" (.long 0)) (F2 : Fld Z h0 x "com/example/lean_envelope/leanenvelope/check/ExceededLimit" "maximum" "J" (.long 0)) (F3 : Fld Z h0 x "com/example/lean_envelope/leanenvelope/check/ExceededLimit" "unit" "Lcom/example/lean_envelope/leanenvelope/check/ExceededLimit$Unit;" .null) (SP : St Z h0 p_ pb ps) (P0 : Sta Z h0 "java/lang/String" "COMPACT_STRINGS" "Z" (.int zc)) (hzc : zc ≠ 0) (CI : Sta Z h0 "java/lang/CharacterDataLatin1" "instance" "Ljava/lang/CharacterDataLatin1;" (.ref cd)) (CX : Exa Z h0 cd "java/lang/CharacterDataLatin1") (CA : Sta Z h0 "java/lang/CharacterDataLatin1" "A" "[I" (.ref ca)) (CV : Av Z h0 ca .int (own_props.map Value.int)) : Ct l Z a0 own_EL false (⟨"com/example/lean_envelope/leanenvelope/check/ExceededLimit", "<init>", "(Ljava/lang/String;JJLcom/example/lean_envelope/leanenvelope/check/ExceededLimit$Unit;)V"⟩ : MethodName) prog_2_method_1_code 7 (Option.none : Option Jvm.ClassFile.FieldType) ({ frames := 5, cells := 4, slots := 44, locals := 68 } : Room) #[(.ref x), (.ref p_), (.long ja), (.long jm), (.ref u)] h0 [x] n0 (fun v h so => v = none ∧ Keep h0 h [x] ∧ Fld Z h x "com/example/lean_envelope/leanenvelope/check/ExceededLimit" "field" "Ljava/lang/String;" (.ref p_) ∧ Fld Z h x "com/example/lean_envelope/leanenvelope/check/ExceededLimit" "actual" "J" (.long ja) ∧ Fld Z h x "com/example/lean_envelope/leanenvelope/check/ExceededLimit" "maximum" "J" (.long jm) ∧ Fld Z h x "com/example/lean_envelope/leanenvelope/check/ExceededLimit" "unit" "Lcom/example/lean_envelope/leanenvelope/check/ExceededLimit$Unit;" (.ref u)) := by
  refine Ct.body (plainFor_of_name pn8) ?_
  intro p e s m below meth c T W
  refine WP.cast (g' := (mkF m 0 #[.val (.ref x), .val (.ref p_), .val (.long ja), .second, .val (.long jm), .second, .val (.ref u)] [])) (by simp [entryFrame, mkF, argsToLocals, cat_i, cat_l, cat_r, cat_n]) ?_
  refine k_aloadN W d_prog_2_1_0 rfl rfl ?_
  refine k_initO W 0 d_prog_2_1_1 (w53 hw) (w19 hw) (w20 hw) rfl (Nat.le_of_eq rfl) (Nat.le_of_ble_eq_true rfl) (Nat.le_of_ble_eq_true rfl) fun T W => ?_
  refine k_aloadN W d_prog_2_1_4 rfl rfl ?_
  refine k_ldcO W 20 2 24 rfl d_prog_2_1_5 (w54 hw) (wS hw) ⟨by decide, by decide⟩ ⟨rfl, Nat.le_of_ble_eq_true rfl⟩ ⟨rfl, Nat.le_of_ble_eq_true rfl⟩ fun T h93 a93 W E93 => ?_
  have K93 : Keep h0 h93 [] := keep_ext E93 []
  refine k_callS W 0 2 24 (argsL := [(.ref p_), (.ref a93)]) (rest := []) d_prog_2_1_7 (w57 hw) (w58 hw) (by decide) (lenOf pd15 rfl) (ct_rnn l Z a0 hw n0 h93 p_ a93) (w60 hw) (w59 hw) (fun x hx => nomatch hx) rfl (Nat.le_of_eq rfl) (Nat.le_of_ble_eq_true rfl) (Nat.le_of_ble_eq_true rfl) ⟨rfl, Nat.le_of_ble_eq_true rfl⟩ ⟨rfl, Nat.le_of_ble_eq_true rfl⟩ rfl (fun _ _ q => nomatch q.1) fun T h94 v so W hQ => ?_
  obtain ⟨hv, rfl, -⟩ := hQ
  obtain rfl := Option.some.inj hv
  refine k_pop W d_prog_2_1_10 rfl ?_
  refine k_aload W d_prog_2_1_11 rfl rfl ?_
  refine k_ldcO W 16 4 44 rfl d_prog_2_1_13 (w61 hw) (wS hw) ⟨by decide, by decide⟩ ⟨rfl, Nat.le_of_ble_eq_true rfl⟩ ⟨rfl, Nat.le_of_ble_eq_true rfl⟩ fun T h95 a95 W E95 => ?_
  have K95 : Keep h93 h95 [] := keep_ext E95 []
  refine k_callS W 0 4 44 (argsL := [(.ref u), (.ref a95)]) (rest := []) d_prog_2_1_15 (w57 hw) (w58 hw) (by decide) (lenOf pd15 rfl) (ct_rnn l Z a0 hw n0 h95 u a95) (w60 hw) (w59 hw) (fun x hx => nomatch hx) rfl (Nat.le_of_eq rfl) (Nat.le_of_ble_eq_true rfl) (Nat.le_of_ble_eq_true rfl) ⟨rfl, Nat.le_of_ble_eq_true rfl⟩ ⟨rfl, Nat.le_of_ble_eq_true rfl⟩ rfl (fun _ _ q => nomatch q.1) fun T h96 v so W hQ => ?_
  obtain ⟨hv, rfl, -⟩ := hQ
  obtain rfl := Option.some.inj hv
  refine k_pop W d_prog_2_1_18 rfl ?_
  refine k_aloadN W d_prog_2_1_19 rfl rfl ?_
  have f97 := ((SP.keep K93 nin0 nin0).keep K95 nin0 nin0)
  have f98 := (Sta.keep (Sta.keep P0 K93 ns0) K95 ns0)
  have f99 := (Sta.keep (Sta.keep CI K93 ns0) K95 ns0)
  have f100 := ((CX.keep K93).keep K95)
  have f101 := (Sta.keep (Sta.keep CA K93 ns0) K95 ns0)
  have f102 := ((CV.keep K93 nin0).keep K95 nin0)
  refine k_callV W 0 4 44 (argsL := []) (rest := []) (a := p_) (C := "java/lang/String") (z0 := (⟨"java/lang/String", "isBlank", "()Z"⟩ : MethodName)) (z := (⟨"java/lang/String", "isBlank", "()Z"⟩ : MethodName)) d_prog_2_1_20 (w62 hw) (w63 hw) (nfSel (w65 hw)) (w65 hw) (w64 hw) (by decide) (lenOf pd9 rfl) f97.1 (ct_blank l Z a0 hw n0 h95 cd ca p_ pb zc ps j bj hj hnw f97 f98 hzc f99 f100 f101 f102) (w66 hw) (w10 hw) (fun x hx => nomatch hx) rfl (Nat.le_of_eq rfl) (Nat.le_of_ble_eq_true rfl) (Nat.le_of_ble_eq_true rfl) ⟨rfl, Nat.le_of_ble_eq_true rfl⟩ ⟨rfl, Nat.le_of_ble_eq_true rfl⟩ rfl (fun _ _ q => nomatch q.1) fun T h103 v so W hQ => ?_
  obtain ⟨hv, rfl, -⟩ := hQ
  obtain rfl := Option.some.inj hv
  refine k_ifY W 36 d_prog_2_1_23 (by decide) (show (0 : Int32) = 0 by decide) ?_
  refine k_lload W d_prog_2_1_36 rfl ?_
  refine k_lconst W d_prog_2_1_38 (z := (0 : Int64)) rfl ?_
  refine k_lcmp W d_prog_2_1_39 (z := (XT.cmpL jm (0 : Int64))) rfl ?_
  refine k_ifN W d_prog_2_1_40 (show ¬ ((XT.cmpL jm (0 : Int64)) < 0) from (fun q => own_nneg hm (cmpL_lt.mp q))) ?_
  refine k_lloadN W d_prog_2_1_43 rfl ?_
  refine k_lload W d_prog_2_1_44 rfl ?_
  refine k_lcmp W d_prog_2_1_46 (z := (XT.cmpL ja jm)) rfl ?_
  refine k_ifY W 71 d_prog_2_1_47 (by decide) (show 0 < (XT.cmpL ja jm) from (cmpL_gt.mpr hlt)) ?_
  refine k_aloadN W d_prog_2_1_71 rfl rfl ?_
  refine k_aloadN W d_prog_2_1_72 rfl rfl ?_
  have f104 := ((F0.keep K93 nin0).keep K95 nin0)
  have f105 := ((E0.keep K93).keep K95)
  refine k_putF W d_prog_2_1_73 (w107 hw) Via.refl (v' := (.ref p_)) (List.mem_of_getElem? (i := 0) rfl) f104 f105 (Or.inr ⟨(w108 hw), rfl, rfl⟩) (w48 hw) (ty := (.object "java/lang/String")) (by decide) rfl rfl fun T h106 W Wr106 => ?_
  have K106 : Keep h95 h106 [x] := Keep.of_wr Wr106
  refine k_aloadN W d_prog_2_1_76 rfl rfl ?_
  refine k_lloadN W d_prog_2_1_77 rfl ?_
  have f107 := (((F1.keep K93 nin0).keep K95 nin0).other Wr106 (Or.inr (slot_ne (Or.inr (w110 hw)) (Or.inr (w108 hw)) (by decide) (t := .long) (t' := (.object "java/lang/String")) (by decide) (by decide))))
  have f108 := (f105.keep K106)
  refine k_putF W d_prog_2_1_78 (w109 hw) Via.refl (v' := (.long ja)) (List.mem_of_getElem? (i := 0) rfl) f107 f108 (Or.inr ⟨(w110 hw), rfl, rfl⟩) (w48 hw) (ty := .long) (by decide) rfl rfl fun T h109 W Wr109 => ?_
  have K109 : Keep h106 h109 [x] := Keep.of_wr Wr109
  refine k_aloadN W d_prog_2_1_81 rfl rfl ?_
  refine k_lload W d_prog_2_1_82 rfl ?_
  have f110 := ((((F2.keep K93 nin0).keep K95 nin0).other Wr106 (Or.inr (slot_ne (Or.inr (w112 hw)) (Or.inr (w108 hw)) (by decide) (t := .long) (t' := (.object "java/lang/String")) (by decide) (by decide)))).other Wr109 (Or.inr (slot_ne (Or.inr (w112 hw)) (Or.inr (w110 hw)) (by decide) (t := .long) (t' := .long) (by decide) (by decide))))
  have f111 := (f108.keep K109)
  refine k_putF W d_prog_2_1_84 (w111 hw) Via.refl (v' := (.long jm)) (List.mem_of_getElem? (i := 0) rfl) f110 f111 (Or.inr ⟨(w112 hw), rfl, rfl⟩) (w48 hw) (ty := .long) (by decide) rfl rfl fun T h112 W Wr112 => ?_
  have K112 : Keep h109 h112 [x] := Keep.of_wr Wr112
  refine k_aloadN W d_prog_2_1_87 rfl rfl ?_
  refine k_aload W d_prog_2_1_88 rfl rfl ?_
  have f113 := (((((F3.keep K93 nin0).keep K95 nin0).other Wr106 (Or.inr (slot_ne (Or.inr (w114 hw)) (Or.inr (w108 hw)) (by decide) (t := (.object "com/example/lean_envelope/leanenvelope/check/ExceededLimit$Unit")) (t' := (.object "java/lang/String")) (by decide) (by decide)))).other Wr109 (Or.inr (slot_ne (Or.inr (w114 hw)) (Or.inr (w110 hw)) (by decide) (t := (.object "com/example/lean_envelope/leanenvelope/check/ExceededLimit$Unit")) (t' := .long) (by decide) (by decide)))).other Wr112 (Or.inr (slot_ne (Or.inr (w114 hw)) (Or.inr (w112 hw)) (by decide) (t := (.object "com/example/lean_envelope/leanenvelope/check/ExceededLimit$Unit")) (t' := .long) (by decide) (by decide))))
  have f114 := (f111.keep K112)
  refine k_putF W d_prog_2_1_90 (w113 hw) Via.refl (v' := (.ref u)) (List.mem_of_getElem? (i := 0) rfl) f113 f114 (Or.inr ⟨(w114 hw), rfl, rfl⟩) (w48 hw) (ty := (.object "com/example/lean_envelope/leanenvelope/check/ExceededLimit$Unit")) (by decide) rfl rfl fun T h115 W Wr115 => ?_
  have K115 : Keep h112 h115 [x] := Keep.of_wr Wr115
  have KK116 : Keep h0 h93 [x] := (Keep.refl h0 [x]).trans K93 all0
  have KK117 : Keep h0 h95 [x] := KK116.trans K95 all0
  have KK118 : Keep h0 h106 [x] := KK117.trans K106 (allS (Or.inl (List.mem_of_getElem? (i := 0) rfl)) all0)
  have KK119 : Keep h0 h109 [x] := KK118.trans K109 (allS (Or.inl (List.mem_of_getElem? (i := 0) rfl)) all0)
  have KK120 : Keep h0 h112 [x] := KK119.trans K112 (allS (Or.inl (List.mem_of_getElem? (i := 0) rfl)) all0)
  have KK121 : Keep h0 h115 [x] := KK120.trans K115 (allS (Or.inl (List.mem_of_getElem? (i := 0) rfl)) all0)
  have f122 := ((((Fld.same Wr106 f104).other Wr109 (Or.inr (slot_ne (Or.inr (w108 hw)) (Or.inr (w110 hw)) (by decide) (t := (.object "java/lang/String")) (t' := .long) (by decide) (by decide)))).other Wr112 (Or.inr (slot_ne (Or.inr (w108 hw)) (Or.inr (w112 hw)) (by decide) (t := (.object "java/lang/String")) (t' := .long) (by decide) (by decide)))).other Wr115 (Or.inr (slot_ne (Or.inr (w108 hw)) (Or.inr (w114 hw)) (by decide) (t := (.object "java/lang/String")) (t' := (.object "com/example/lean_envelope/leanenvelope/check/ExceededLimit$Unit")) (by decide) (by decide))))
  have f123 := (((Fld.same Wr109 f107).other Wr112 (Or.inr (slot_ne (Or.inr (w110 hw)) (Or.inr (w112 hw)) (by decide) (t := .long) (t' := .long) (by decide) (by decide)))).other Wr115 (Or.inr (slot_ne (Or.inr (w110 hw)) (Or.inr (w114 hw)) (by decide) (t := .long) (t' := (.object "com/example/lean_envelope/leanenvelope/check/ExceededLimit$Unit")) (by decide) (by decide))))
  have f124 := ((Fld.same Wr112 f110).other Wr115 (Or.inr (slot_ne (Or.inr (w112 hw)) (Or.inr (w114 hw)) (by decide) (t := .long) (t' := (.object "com/example/lean_envelope/leanenvelope/check/ExceededLimit$Unit")) (by decide) (by decide))))
  exact k_ret W d_prog_2_1_93 rfl [] (fun x hx => nomatch hx) (Nat.le_of_ble_eq_true rfl) (Nat.le_of_ble_eq_true rfl) ⟨rfl, KK121, f122, f123, f124, (Fld.same Wr115 f113)⟩
set_option maxRecDepth 65536 in
set_option maxHeartbeats 40000000 in
theorem ct_xeqI (l : Launch) (Z : State) (a0 : Array Value) (hw : ∀ d ∈ tables_1, d.before a0 Z = true) (n0 : Nat) (h0 : Heap) (x : Addr) : Ct l Z a0 own_EL false (⟨"com/example/lean_envelope/leanenvelope/check/ExceededLimit", "equals", "(Ljava/lang/Object;)Z"⟩ : MethodName) prog_2_method_6_code 4 (Option.some Jvm.ClassFile.FieldType.boolean) ({ frames := 0, cells := 0, slots := 0, locals := 0 } : Room) #[(.ref x), (.ref x)] h0 [] n0 (fun v h so => v = some (.int (1 : Int32)) ∧ h0 = h ∧ so = []) := by
  refine Ct.body (plainFor_of_name pn8) ?_
  intro p e s m below meth c T W
  refine WP.cast (g' := (mkF m 0 #[.val (.ref x), .val (.ref x), .unset, .unset] [])) (by simp [entryFrame, mkF, argsToLocals, cat_i, cat_l, cat_r, cat_n]) ?_
  refine k_iconst W d_prog_2_6_0 (z := (0 : Int32)) rfl ?_
  refine k_istoreN W d_prog_2_6_1 (L' := #[.val (.ref x), .val (.ref x), .val (.int (0 : Int32)), .unset]) rfl ?_
  refine k_aloadN W d_prog_2_6_2 rfl rfl ?_
  refine k_aloadN W d_prog_2_6_3 rfl rfl ?_
  refine k_acN W d_prog_2_6_4 rfl rfl (by decide) (fun q => q rfl) ?_
  refine k_iconst W d_prog_2_6_7 (z := (1 : Int32)) rfl ?_
  refine k_istoreN W d_prog_2_6_8 (L' := #[.val (.ref x), .val (.ref x), .val (.int (1 : Int32)), .unset]) rfl ?_
  refine k_goto W 79 d_prog_2_6_9 (by decide) ?_
  refine k_iloadN W d_prog_2_6_79 rfl ?_
  exact k_retN W (t := .boolean) (z' := (1 : Int32)) d_prog_2_6_80 rfl (by simp) (by decide) [] (fun x hx => nomatch hx) (Nat.le_of_ble_eq_true rfl) (Nat.le_of_ble_eq_true rfl) ⟨rfl, rfl, rfl⟩
set_option maxRecDepth 65536 in
set_option maxHeartbeats 40000000 in
theorem ct_xeqN (l : Launch) (Z : State) (a0 : Array Value) (hw : ∀ d ∈ tables_1, d.before a0 Z = true) (n0 : Nat) (h0 : Heap) (x : Addr) : Ct l Z a0 own_EL false (⟨"com/example/lean_envelope/leanenvelope/check/ExceededLimit", "equals", "(Ljava/lang/Object;)Z"⟩ : MethodName) prog_2_method_6_code 4 (Option.some Jvm.ClassFile.FieldType.boolean) ({ frames := 0, cells := 0, slots := 0, locals := 0 } : Room) #[(.ref x), .null] h0 [] n0 (fun v h so => v = some (.int (0 : Int32)) ∧ h0 = h ∧ so = []) := by
  refine Ct.body (plainFor_of_name pn8) ?_
  intro p e s m below meth c T W
  refine WP.cast (g' := (mkF m 0 #[.val (.ref x), .val .null, .unset, .unset] [])) (by simp [entryFrame, mkF, argsToLocals, cat_i, cat_l, cat_r, cat_n]) ?_
  refine k_iconst W d_prog_2_6_0 (z := (0 : Int32)) rfl ?_
  refine k_istoreN W d_prog_2_6_1 (L' := #[.val (.ref x), .val .null, .val (.int (0 : Int32)), .unset]) rfl ?_
  refine k_aloadN W d_prog_2_6_2 rfl rfl ?_
  refine k_aloadN W d_prog_2_6_3 rfl rfl ?_
  refine k_acY W 12 d_prog_2_6_4 rfl rfl (by decide) (fun q => nomatch q) ?_
  refine k_aloadN W d_prog_2_6_12 rfl rfl ?_
  refine k_instNull W d_prog_2_6_13 ?_
  refine k_ifY W 79 d_prog_2_6_16 (by decide) (show (0 : Int32) = 0 by decide) ?_
  refine k_iloadN W d_prog_2_6_79 rfl ?_
  exact k_retN W (t := .boolean) (z' := (0 : Int32)) d_prog_2_6_80 rfl (by simp) (by decide) [] (fun x hx => nomatch hx) (Nat.le_of_ble_eq_true rfl) (Nat.le_of_ble_eq_true rfl) ⟨rfl, rfl, rfl⟩
set_option maxRecDepth 65536 in
set_option maxHeartbeats 40000000 in
theorem ct_xeqS (l : Launch) (Z : State) (a0 : Array Value) (hw : ∀ d ∈ tables_1, d.before a0 Z = true) (n0 : Nat) (h0 : Heap) (x q : Addr) (EX : Exa Z h0 x "com/example/lean_envelope/leanenvelope/check/ExceededLimit") (EQ : Exa Z h0 q "java/lang/String") : Ct l Z a0 own_EL false (⟨"com/example/lean_envelope/leanenvelope/check/ExceededLimit", "equals", "(Ljava/lang/Object;)Z"⟩ : MethodName) prog_2_method_6_code 4 (Option.some Jvm.ClassFile.FieldType.boolean) ({ frames := 0, cells := 0, slots := 0, locals := 0 } : Room) #[(.ref x), (.ref q)] h0 [] n0 (fun v h so => v = some (.int (0 : Int32)) ∧ h0 = h ∧ so = []) := by
  refine Ct.body (plainFor_of_name pn8) ?_
  intro p e s m below meth c T W
  refine WP.cast (g' := (mkF m 0 #[.val (.ref x), .val (.ref q), .unset, .unset] [])) (by simp [entryFrame, mkF, argsToLocals, cat_i, cat_l, cat_r, cat_n]) ?_
  refine k_iconst W d_prog_2_6_0 (z := (0 : Int32)) rfl ?_
  refine k_istoreN W d_prog_2_6_1 (L' := #[.val (.ref x), .val (.ref q), .val (.int (0 : Int32)), .unset]) rfl ?_
  refine k_aloadN W d_prog_2_6_2 rfl rfl ?_
  refine k_aloadN W d_prog_2_6_3 rfl rfl ?_
  have ne125 : x ≠ q := (ne_exa EX EQ (by decide))
  refine k_acY W 12 d_prog_2_6_4 rfl rfl (by decide) (fun q => ne125 (Value.ref.inj q)) ?_
  refine k_aloadN W d_prog_2_6_12 rfl rfl ?_
  refine k_instN W d_prog_2_6_13 (w120 hw) EQ (nsNo (w131 hw) (w48 hw) (NS.step (w131 hw) (nsRoot (w132 hw) (w48 hw) (by decide)) (by decide)) (by decide)) fun T W => ?_
  refine k_ifY W 79 d_prog_2_6_16 (by decide) (show (0 : Int32) = 0 by decide) ?_
  refine k_iloadN W d_prog_2_6_79 rfl ?_
  exact k_retN W (t := .boolean) (z' := (0 : Int32)) d_prog_2_6_80 rfl (by simp) (by decide) [] (fun x hx => nomatch hx) (Nat.le_of_ble_eq_true rfl) (Nat.le_of_ble_eq_true rfl) ⟨rfl, rfl, rfl⟩
set_option maxRecDepth 65536 in
set_option maxHeartbeats 40000000 in
theorem ct_xeqL (l : Launch) (Z : State) (a0 : Array Value) (hw : ∀ d ∈ tables_1, d.before a0 Z = true) (n0 : Nat) (h0 : Heap) (x q : Addr) (EX : Exa Z h0 x "com/example/lean_envelope/leanenvelope/check/ExceededLimit") (EQ : Exa Z h0 q "java/lang/Long") : Ct l Z a0 own_EL false (⟨"com/example/lean_envelope/leanenvelope/check/ExceededLimit", "equals", "(Ljava/lang/Object;)Z"⟩ : MethodName) prog_2_method_6_code 4 (Option.some Jvm.ClassFile.FieldType.boolean) ({ frames := 0, cells := 0, slots := 0, locals := 0 } : Room) #[(.ref x), (.ref q)] h0 [] n0 (fun v h so => v = some (.int (0 : Int32)) ∧ h0 = h ∧ so = []) := by
  refine Ct.body (plainFor_of_name pn8) ?_
  intro p e s m below meth c T W
  refine WP.cast (g' := (mkF m 0 #[.val (.ref x), .val (.ref q), .unset, .unset] [])) (by simp [entryFrame, mkF, argsToLocals, cat_i, cat_l, cat_r, cat_n]) ?_
  refine k_iconst W d_prog_2_6_0 (z := (0 : Int32)) rfl ?_
  refine k_istoreN W d_prog_2_6_1 (L' := #[.val (.ref x), .val (.ref q), .val (.int (0 : Int32)), .unset]) rfl ?_
  refine k_aloadN W d_prog_2_6_2 rfl rfl ?_
  refine k_aloadN W d_prog_2_6_3 rfl rfl ?_
  have ne126 : x ≠ q := (ne_exa EX EQ (by decide))
  refine k_acY W 12 d_prog_2_6_4 rfl rfl (by decide) (fun q => ne126 (Value.ref.inj q)) ?_
  refine k_aloadN W d_prog_2_6_12 rfl rfl ?_
  refine k_instN W d_prog_2_6_13 (w120 hw) EQ (nsNo (w154 hw) (w48 hw) (NS.step (w154 hw) (NS.step (w155 hw) (nsRoot (w132 hw) (w48 hw) (by decide)) (by decide)) (by decide)) (by decide)) fun T W => ?_
  refine k_ifY W 79 d_prog_2_6_16 (by decide) (show (0 : Int32) = 0 by decide) ?_
  refine k_iloadN W d_prog_2_6_79 rfl ?_
  exact k_retN W (t := .boolean) (z' := (0 : Int32)) d_prog_2_6_80 rfl (by simp) (by decide) [] (fun x hx => nomatch hx) (Nat.le_of_ble_eq_true rfl) (Nat.le_of_ble_eq_true rfl) ⟨rfl, rfl, rfl⟩
set_option maxRecDepth 65536 in
set_option maxHeartbeats 40000000 in
theorem ct_xeq (l : Launch) (Z : State) (a0 : Array Value) (hw : ∀ d ∈ tables_1, d.before a0 Z = true) (n0 : Nat) (h0 : Heap) (x y p1 b1 p2 b2 ua ub : Addr) (as cs : List Int32) (ja jb ma mb : Int64) (zc : Int32) (hne : x ≠ y) (hnp : p1 ≠ p2) (Ex : Exa Z h0 x "com/example/lean_envelope/leanenvelope/check/ExceededLimit") (F0x : Fld Z h0 x "com/example/lean_envelope/leanenvelope/check/ExceededLimit" "field" "Ljava/lang/String;" (.ref p1)) (F1x : Fld Z h0 x "com/example/lean_envelope/leanenvelope/check/ExceededLimit" "actual" "J" (.long ja)) (F2x : Fld Z h0 x "com/example/lean_envelope/leanenvelope/check/ExceededLimit" "maximum" "J" (.long ma)) (F3x : Fld Z h0 x "com/example/lean_envelope/leanenvelope/check/ExceededLimit" "unit" "Lcom/example/lean_envelope/leanenvelope/check/ExceededLimit$Unit;" (.ref ua)) (Ey : Exa Z h0 y "com/example/lean_envelope/leanenvelope/check/ExceededLimit") (F0y : Fld Z h0 y "com/example/lean_envelope/leanenvelope/check/ExceededLimit" "field" "Ljava/lang/String;" (.ref p2)) (F1y : Fld Z h0 y "com/example/lean_envelope/leanenvelope/check/ExceededLimit" "actual" "J" (.long jb)) (F2y : Fld Z h0 y "com/example/lean_envelope/leanenvelope/check/ExceededLimit" "maximum" "J" (.long mb)) (F3y : Fld Z h0 y "com/example/lean_envelope/leanenvelope/check/ExceededLimit" "unit" "Lcom/example/lean_envelope/leanenvelope/check/ExceededLimit$Unit;" (.ref ub)) (SA : St Z h0 p1 b1 as) (SC : St Z h0 p2 b2 cs) (P0 : Sta Z h0 "java/lang/String" "COMPACT_STRINGS" "Z" (.int zc)) (hzc : zc ≠ 0) : Ct l Z a0 own_EL false (⟨"com/example/lean_envelope/leanenvelope/check/ExceededLimit", "equals", "(Ljava/lang/Object;)Z"⟩ : MethodName) prog_2_method_6_code 4 (Option.some Jvm.ClassFile.FieldType.boolean) ({ frames := 2, cells := 0, slots := 0, locals := 28 } : Room) #[(.ref x), (.ref y)] h0 [] n0 (fun v h so => (((as = cs ∧ ja = jb ∧ ma = mb ∧ ua = ub) ∧ v = some (.int (1 : Int32))) ∨ (¬ (as = cs ∧ ja = jb ∧ ma = mb ∧ ua = ub) ∧ v = some (.int (0 : Int32)))) ∧ h0 = h) := by
  refine Ct.body (plainFor_of_name pn8) ?_
  intro p e s m below meth c T W
  refine WP.cast (g' := (mkF m 0 #[.val (.ref x), .val (.ref y), .unset, .unset] [])) (by simp [entryFrame, mkF, argsToLocals, cat_i, cat_l, cat_r, cat_n]) ?_
  refine k_iconst W d_prog_2_6_0 (z := (0 : Int32)) rfl ?_
  refine k_istoreN W d_prog_2_6_1 (L' := #[.val (.ref x), .val (.ref y), .val (.int (0 : Int32)), .unset]) rfl ?_
  refine k_aloadN W d_prog_2_6_2 rfl rfl ?_
  refine k_aloadN W d_prog_2_6_3 rfl rfl ?_
  refine k_acY W 12 d_prog_2_6_4 rfl rfl (by decide) (fun q => hne (Value.ref.inj q)) ?_
  refine k_aloadN W d_prog_2_6_12 rfl rfl ?_
  refine k_instY W d_prog_2_6_13 (w120 hw) (Ins.self Ey) fun T W => ?_
  refine k_ifN W d_prog_2_6_16 (show ¬ ((1 : Int32) = 0) by decide) ?_
  refine k_aloadN W d_prog_2_6_19 rfl rfl ?_
  refine k_cast W d_prog_2_6_20 (w120 hw) (Ins.self Ey) fun T W => ?_
  refine k_astoreN W d_prog_2_6_23 rfl (L' := #[.val (.ref x), .val (.ref y), .val (.int (0 : Int32)), .val (.ref y)]) rfl ?_
  refine k_aloadN W d_prog_2_6_24 rfl rfl ?_
  refine k_getF W d_prog_2_6_25 (host := "") (Or.inl (w107 hw)) Via.refl F0x fun T W => ?_
  refine k_aloadN W d_prog_2_6_28 rfl rfl ?_
  refine k_getF W d_prog_2_6_29 (host := "") (Or.inl (w107 hw)) Via.refl F0y fun T W => ?_
  refine k_callV W 0 0 0 (argsL := [(.ref p2)]) (rest := []) (a := p1) (C := "java/lang/String") (z0 := (⟨"java/lang/String", "equals", "(Ljava/lang/Object;)Z"⟩ : MethodName)) (z := (⟨"java/lang/String", "equals", "(Ljava/lang/Object;)Z"⟩ : MethodName)) d_prog_2_6_32 (w122 hw) (w123 hw) (nfSel (w125 hw)) (w125 hw) (w124 hw) (by decide) (lenOf pd16 rfl) SA.1 (ct_seq l Z a0 hw n0 h0 p1 b1 p2 b2 as cs zc hnp SA SC P0 hzc) (w126 hw) (w10 hw) (fun x hx => hx) rfl (Nat.le_of_eq rfl) (Nat.le_of_ble_eq_true rfl) (Nat.le_of_ble_eq_true rfl) ⟨rfl, Nat.le_of_ble_eq_true rfl⟩ ⟨rfl, Nat.le_of_ble_eq_true rfl⟩ rfl (fun _ _ q => by rcases q.1 with ⟨_, u⟩ | ⟨_, u⟩ <;> cases u) fun T h128 v so W hQ => ?_
  obtain ⟨hQ, rfl⟩ := hQ
  rcases hQ with ⟨heq127, hv⟩ | ⟨heq127, hv⟩
  · --
    obtain rfl := Option.some.inj hv
    refine k_ifN W d_prog_2_6_35 (show ¬ ((1 : Int32) = 0) by decide) ?_
    refine k_aloadN W d_prog_2_6_38 rfl rfl ?_
    refine k_getF W d_prog_2_6_39 (host := "") (Or.inl (w109 hw)) Via.refl F1x fun T W => ?_
    refine k_aloadN W d_prog_2_6_42 rfl rfl ?_
    refine k_getF W d_prog_2_6_43 (host := "") (Or.inl (w109 hw)) Via.refl F1y fun T W => ?_
    refine k_lcmp W d_prog_2_6_46 (z := (XT.cmpL ja jb)) rfl ?_
    refine k_if W 77 d_prog_2_6_47 (by decide) (fun (hc129 : ¬ (XT.cmpL ja jb) = 0) => ?_) (fun (hc129 : ¬ (¬ (XT.cmpL ja jb) = 0)) => ?_)
    · -- pc 77
      refine k_iconst W d_prog_2_6_77 (z := (0 : Int32)) rfl ?_
      refine k_istoreN W d_prog_2_6_78 (L' := #[.val (.ref x), .val (.ref y), .val (.int (0 : Int32)), .val (.ref y)]) rfl ?_
      refine k_iloadN W d_prog_2_6_79 rfl ?_
      exact k_retN W (t := .boolean) (z' := (0 : Int32)) d_prog_2_6_80 rfl (by simp) (by decide) [] (fun x hx => nomatch hx) (Nat.le_of_ble_eq_true rfl) (Nat.le_of_ble_eq_true rfl) ⟨Or.inr ⟨fun q => hc129 (cmpL_eq.mpr q.2.1), rfl⟩, rfl⟩
    · -- pc 50
      refine k_aloadN W d_prog_2_6_50 rfl rfl ?_
      refine k_getF W d_prog_2_6_51 (host := "") (Or.inl (w111 hw)) Via.refl F2x fun T W => ?_
      refine k_aloadN W d_prog_2_6_54 rfl rfl ?_
      refine k_getF W d_prog_2_6_55 (host := "") (Or.inl (w111 hw)) Via.refl F2y fun T W => ?_
      refine k_lcmp W d_prog_2_6_58 (z := (XT.cmpL ma mb)) rfl ?_
      refine k_if W 77 d_prog_2_6_59 (by decide) (fun (hc130 : ¬ (XT.cmpL ma mb) = 0) => ?_) (fun (hc130 : ¬ (¬ (XT.cmpL ma mb) = 0)) => ?_)
      · -- pc 77
        refine k_iconst W d_prog_2_6_77 (z := (0 : Int32)) rfl ?_
        refine k_istoreN W d_prog_2_6_78 (L' := #[.val (.ref x), .val (.ref y), .val (.int (0 : Int32)), .val (.ref y)]) rfl ?_
        refine k_iloadN W d_prog_2_6_79 rfl ?_
        exact k_retN W (t := .boolean) (z' := (0 : Int32)) d_prog_2_6_80 rfl (by simp) (by decide) [] (fun x hx => nomatch hx) (Nat.le_of_ble_eq_true rfl) (Nat.le_of_ble_eq_true rfl) ⟨Or.inr ⟨fun q => hc130 (cmpL_eq.mpr q.2.2.1), rfl⟩, rfl⟩
      · -- pc 62
        refine k_aloadN W d_prog_2_6_62 rfl rfl ?_
        refine k_getF W d_prog_2_6_63 (host := "") (Or.inl (w113 hw)) Via.refl F3x fun T W => ?_
        refine k_aloadN W d_prog_2_6_66 rfl rfl ?_
        refine k_getF W d_prog_2_6_67 (host := "") (Or.inl (w113 hw)) Via.refl F3y fun T W => ?_
        by_cases hu : ua = ub
        · --
          subst hu
          refine k_acN W d_prog_2_6_70 rfl rfl (by decide) (fun q => q rfl) ?_
          refine k_iconst W d_prog_2_6_73 (z := (1 : Int32)) rfl ?_
          refine k_goto W 78 d_prog_2_6_74 (by decide) ?_
          refine k_istoreN W d_prog_2_6_78 (L' := #[.val (.ref x), .val (.ref y), .val (.int (1 : Int32)), .val (.ref y)]) rfl ?_
          refine k_iloadN W d_prog_2_6_79 rfl ?_
          exact k_retN W (t := .boolean) (z' := (1 : Int32)) d_prog_2_6_80 rfl (by simp) (by decide) [] (fun x hx => nomatch hx) (Nat.le_of_ble_eq_true rfl) (Nat.le_of_ble_eq_true rfl) ⟨Or.inl ⟨⟨heq127, (cmpL_eq.mp (Classical.not_not.mp hc129)), (cmpL_eq.mp (Classical.not_not.mp hc130)), rfl⟩, rfl⟩, rfl⟩
        · --
          refine k_acY W 77 d_prog_2_6_70 rfl rfl (by decide) (fun q => hu (Value.ref.inj q)) ?_
          refine k_iconst W d_prog_2_6_77 (z := (0 : Int32)) rfl ?_
          refine k_istoreN W d_prog_2_6_78 (L' := #[.val (.ref x), .val (.ref y), .val (.int (0 : Int32)), .val (.ref y)]) rfl ?_
          refine k_iloadN W d_prog_2_6_79 rfl ?_
          exact k_retN W (t := .boolean) (z' := (0 : Int32)) d_prog_2_6_80 rfl (by simp) (by decide) [] (fun x hx => nomatch hx) (Nat.le_of_ble_eq_true rfl) (Nat.le_of_ble_eq_true rfl) ⟨Or.inr ⟨fun q => hu q.2.2.2, rfl⟩, rfl⟩
  · --
    obtain rfl := Option.some.inj hv
    refine k_ifY W 77 d_prog_2_6_35 (by decide) (show (0 : Int32) = 0 by decide) ?_
    refine k_iconst W d_prog_2_6_77 (z := (0 : Int32)) rfl ?_
    refine k_istoreN W d_prog_2_6_78 (L' := #[.val (.ref x), .val (.ref y), .val (.int (0 : Int32)), .val (.ref y)]) rfl ?_
    refine k_iloadN W d_prog_2_6_79 rfl ?_
    exact k_retN W (t := .boolean) (z' := (0 : Int32)) d_prog_2_6_80 rfl (by simp) (by decide) [] (fun x hx => nomatch hx) (Nat.le_of_ble_eq_true rfl) (Nat.le_of_ble_eq_true rfl) ⟨Or.inr ⟨fun q => heq127 q.1, rfl⟩, rfl⟩
set_option maxRecDepth 65536 in
set_option maxHeartbeats 40000000 in
theorem rm0 (l : Launch) (Z : State) (a0 : Array Value) (hw : ∀ d ∈ tables_1, d.before a0 Z = true) (n0 : Nat) (h0 : Heap) (p0 p1 : Int32) (q2 q3 q4 : Int64) (p5 : Int32) (cd ca uB uJ lc : Addr) (lvs : List Value) (zc : Int32) (P0 : Sta Z h0 "java/lang/String" "COMPACT_STRINGS" "Z" (.int zc)) (hzc : zc ≠ 0) (CI : Sta Z h0 "java/lang/CharacterDataLatin1" "instance" "Ljava/lang/CharacterDataLatin1;" (.ref cd)) (CX : Exa Z h0 cd "java/lang/CharacterDataLatin1") (CA : Sta Z h0 "java/lang/CharacterDataLatin1" "A" "[I" (.ref ca)) (CV : Av Z h0 ca .int (own_props.map Value.int)) (LS : Sta Z h0 "java/lang/Long$LongCache" "cache" "[Ljava/lang/Long;" (.ref lc)) (LV : Av Z h0 lc (.object "java/lang/Long") lvs) (LX : AllExa Z h0 "java/lang/Long" lvs) (hlv : lvs.length = 256) (UuB : Sta Z h0 "com/example/lean_envelope/leanenvelope/check/ExceededLimit$Unit" "BYTES" "Lcom/example/lean_envelope/leanenvelope/check/ExceededLimit$Unit;" (.ref uB)) (UuJ : Sta Z h0 "com/example/lean_envelope/leanenvelope/check/ExceededLimit$Unit" "JOBS" "Lcom/example/lean_envelope/leanenvelope/check/ExceededLimit$Unit;" (.ref uJ)) : Ct l Z a0 own_EL false x code maxLocals ret room_1 #[(.int p0), (.int p1), (.long q2), (.long q3), (.long q4), (.int p5)] h0 [] n0 (fun v h so => v = some (.int 1)) := by
  refine Ct.body (plainFor_of_name pn5) ?_
  intro p e s m below meth c T W
  refine WP.cast (g' := (mkF m 0 #[.val (.int p0), .val (.int p1), .val (.long q2), .second, .val (.long q3), .second, .val (.long q4), .second, .val (.int p5), .unset, .unset, .unset, .unset, .unset, .unset, .unset, .unset, .unset, .unset, .unset, .unset, .unset, .unset, .unset, .unset, .unset, .unset, .unset, .unset, .unset, .unset, .unset] [])) (by simp [entryFrame, mkF, argsToLocals, cat_i, cat_l, cat_r, cat_n, maxLocals]) ?_
  refine k_iloadN W d_code_0 rfl ?_
  refine k_bipush W d_code_1 (z := (16 : Int32)) rfl ?_
  refine k_iushr W d_code_3 (z := (XT.ushr p0 (16 : Int32))) rfl ?_
  refine k_iconst W d_code_4 (z := (1 : Int32)) rfl ?_
  refine k_iand W d_code_5 (z := ((XT.ushr p0 (16 : Int32)) &&& (1 : Int32))) rfl ?_
  refine k_iconst W d_code_6 (z := (1 : Int32)) rfl ?_
  refine k_iadd W d_code_7 (z := (((XT.ushr p0 (16 : Int32)) &&& (1 : Int32)) + (1 : Int32))) rfl ?_
  suffices hJln1 : ∀ (ln1 : Int32), (ln1 = 1 ∨ ln1 = 2) → WP p e below (Fne s n0 Z own_EL false room_1 (fun v h so => v = some (.int 1))) T (mkF m 8 #[.val (.int p0), .val (.int p1), .val (.long q2), .second, .val (.long q3), .second, .val (.long q4), .second, .val (.int p5), .unset, .unset, .unset, .unset, .unset, .unset, .unset, .unset, .unset, .unset, .unset, .unset, .unset, .unset, .unset, .unset, .unset, .unset, .unset, .unset, .unset, .unset, .unset] [(.int ln1)]) from hJln1 _ (by rcases bit01 (Rg.and (n := 2) (XT.ushr p0 (16 : Int32)) (1 : Int32) (by decide)) with h | h <;> rw [h] <;> decide)
  intro ln1 rln1
  refine k_istore W d_code_8 (L' := #[.val (.int p0), .val (.int p1), .val (.long q2), .second, .val (.long q3), .second, .val (.long q4), .second, .val (.int p5), .val (.int ln1), .unset, .unset, .unset, .unset, .unset, .unset, .unset, .unset, .unset, .unset, .unset, .unset, .unset, .unset, .unset, .unset, .unset, .unset, .unset, .unset, .unset, .unset]) rfl ?_
  refine k_iloadN W d_code_10 rfl ?_
  refine k_callS W 0 0 0 (argsL := [(.int p0)]) (rest := []) d_code_11 (w0 hw) (w1 hw) (by decide) (lenOf pd6 rfl) (ct_nonws l Z a0 hw n0 h0 p0) (w3 hw) (w2 hw) (fun x hx => hx) rfl (Nat.le_of_eq rfl) (Nat.le_of_ble_eq_true rfl) (Nat.le_of_ble_eq_true rfl) ⟨rfl, Nat.le_of_ble_eq_true rfl⟩ ⟨rfl, Nat.le_of_ble_eq_true rfl⟩ rfl (fun _ _ ⟨_, q, _⟩ => nomatch q) fun T h131 v so W hQ => ?_
  obtain ⟨c131, hv, r131, rfl⟩ := hQ
  obtain rfl := Option.some.inj hv
  refine k_istore W d_code_14 (L' := #[.val (.int p0), .val (.int p1), .val (.long q2), .second, .val (.long q3), .second, .val (.long q4), .second, .val (.int p5), .val (.int ln1), .val (.int c131), .unset, .unset, .unset, .unset, .unset, .unset, .unset, .unset, .unset, .unset, .unset, .unset, .unset, .unset, .unset, .unset, .unset, .unset, .unset, .unset, .unset]) rfl ?_
  refine k_iloadN W d_code_16 rfl ?_
  refine k_bipush W d_code_17 (z := (8 : Int32)) rfl ?_
  refine k_iushr W d_code_19 (z := (XT.ushr p0 (8 : Int32))) rfl ?_
  refine k_sipush W d_code_20 (z := (255 : Int32)) rfl ?_
  refine k_iand W d_code_23 (z := ((XT.ushr p0 (8 : Int32)) &&& (255 : Int32))) rfl ?_
  refine k_istore W d_code_24 (L' := #[.val (.int p0), .val (.int p1), .val (.long q2), .second, .val (.long q3), .second, .val (.long q4), .second, .val (.int p5), .val (.int ln1), .val (.int c131), .val (.int ((XT.ushr p0 (8 : Int32)) &&& (255 : Int32))), .unset, .unset, .unset, .unset, .unset, .unset, .unset, .unset, .unset, .unset, .unset, .unset, .unset, .unset, .unset, .unset, .unset, .unset, .unset, .unset]) rfl ?_
  refine k_iload W d_code_26 rfl ?_
  refine k_iconst W d_code_28 (z := (1 : Int32)) rfl ?_
  refine k_iand W d_code_29 (z := (p5 &&& (1 : Int32))) rfl ?_
  suffices hJsm : ∀ (T : State) (sm : Int32), WS p l e room_1 s m #[(.int p0), (.int p1), (.long q2), (.long q3), (.long q4), (.int p5)] below meth c Z a0 own_EL false n0 x code maxLocals ret T h0 [] 0 0 → (sm = 0 ∨ sm = 1) → WP p e below (Fne s n0 Z own_EL false room_1 (fun v h so => v = some (.int 1))) T (mkF m 38 #[.val (.int p0), .val (.int p1), .val (.long q2), .second, .val (.long q3), .second, .val (.long q4), .second, .val (.int p5), .val (.int ln1), .val (.int c131), .val (.int ((XT.ushr p0 (8 : Int32)) &&& (255 : Int32))), .unset, .unset, .unset, .unset, .unset, .unset, .unset, .unset, .unset, .unset, .unset, .unset, .unset, .unset, .unset, .unset, .unset, .unset, .unset, .unset] [(.int sm)]) by
    refine k_if W 37 d_code_30 (by decide) (fun (hc132 : (p5 &&& (1 : Int32)) = 0) => ?_) (fun (hc132 : ¬ ((p5 &&& (1 : Int32)) = 0)) => ?_)
    · -- pc 37
      refine k_iconst W d_code_37 (z := (0 : Int32)) rfl ?_
      exact hJsm T (0 : Int32) W (by decide)
    · -- pc 33
      refine k_iconst W d_code_33 (z := (1 : Int32)) rfl ?_
      refine k_goto W 38 d_code_34 (by decide) ?_
      exact hJsm T (1 : Int32) W (by decide)
  intro T sm W rsm
  refine k_istore W d_code_38 (L' := #[.val (.int p0), .val (.int p1), .val (.long q2), .second, .val (.long q3), .second, .val (.long q4), .second, .val (.int p5), .val (.int ln1), .val (.int c131), .val (.int ((XT.ushr p0 (8 : Int32)) &&& (255 : Int32))), .val (.int sm), .unset, .unset, .unset, .unset, .unset, .unset, .unset, .unset, .unset, .unset, .unset, .unset, .unset, .unset, .unset, .unset, .unset, .unset, .unset]) rfl ?_
  refine k_iload W d_code_40 rfl ?_
  suffices hJln2 : ∀ (T : State) (ln2 : Int32), WS p l e room_1 s m #[(.int p0), (.int p1), (.long q2), (.long q3), (.long q4), (.int p5)] below meth c Z a0 own_EL false n0 x code maxLocals ret T h0 [] 0 0 → (ln2 = 1 ∨ ln2 = 2) → WP p e below (Fne s n0 Z own_EL false room_1 (fun v h so => v = some (.int 1))) T (mkF m 58 #[.val (.int p0), .val (.int p1), .val (.long q2), .second, .val (.long q3), .second, .val (.long q4), .second, .val (.int p5), .val (.int ln1), .val (.int c131), .val (.int ((XT.ushr p0 (8 : Int32)) &&& (255 : Int32))), .val (.int sm), .unset, .unset, .unset, .unset, .unset, .unset, .unset, .unset, .unset, .unset, .unset, .unset, .unset, .unset, .unset, .unset, .unset, .unset, .unset] [(.int ln2)]) by
    refine k_if W 50 d_code_42 (by decide) (fun (hc133 : sm = 0) => ?_) (fun (hc133 : ¬ (sm = 0)) => ?_)
    · -- pc 50
      refine k_iloadN W d_code_50 rfl ?_
      refine k_bipush W d_code_51 (z := (16 : Int32)) rfl ?_
      refine k_iushr W d_code_53 (z := (XT.ushr p1 (16 : Int32))) rfl ?_
      refine k_iconst W d_code_54 (z := (1 : Int32)) rfl ?_
      refine k_iand W d_code_55 (z := ((XT.ushr p1 (16 : Int32)) &&& (1 : Int32))) rfl ?_
      refine k_iconst W d_code_56 (z := (1 : Int32)) rfl ?_
      refine k_iadd W d_code_57 (z := (((XT.ushr p1 (16 : Int32)) &&& (1 : Int32)) + (1 : Int32))) rfl ?_
      exact hJln2 T (((XT.ushr p1 (16 : Int32)) &&& (1 : Int32)) + (1 : Int32)) W (by rcases bit01 (Rg.and (n := 2) (XT.ushr p1 (16 : Int32)) (1 : Int32) (by decide)) with h | h <;> rw [h] <;> decide)
    · -- pc 45
      refine k_iload W d_code_45 rfl ?_
      refine k_goto W 58 d_code_47 (by decide) ?_
      exact hJln2 T ln1 W rln1
  intro T ln2 W rln2
  refine k_istore W d_code_58 (L' := #[.val (.int p0), .val (.int p1), .val (.long q2), .second, .val (.long q3), .second, .val (.long q4), .second, .val (.int p5), .val (.int ln1), .val (.int c131), .val (.int ((XT.ushr p0 (8 : Int32)) &&& (255 : Int32))), .val (.int sm), .val (.int ln2), .unset, .unset, .unset, .unset, .unset, .unset, .unset, .unset, .unset, .unset, .unset, .unset, .unset, .unset, .unset, .unset, .unset, .unset]) rfl ?_
  refine k_iload W d_code_60 rfl ?_
  suffices hJd0 : ∀ (T : State) (d0 : Int32), WS p l e room_1 s m #[(.int p0), (.int p1), (.long q2), (.long q3), (.long q4), (.int p5)] below meth c Z a0 own_EL false n0 x code maxLocals ret T h0 [] 0 0 → own_NW d0 → WP p e below (Fne s n0 Z own_EL false room_1 (fun v h so => v = some (.int 1))) T (mkF m 74 #[.val (.int p0), .val (.int p1), .val (.long q2), .second, .val (.long q3), .second, .val (.long q4), .second, .val (.int p5), .val (.int ln1), .val (.int c131), .val (.int ((XT.ushr p0 (8 : Int32)) &&& (255 : Int32))), .val (.int sm), .val (.int ln2), .unset, .unset, .unset, .unset, .unset, .unset, .unset, .unset, .unset, .unset, .unset, .unset, .unset, .unset, .unset, .unset, .unset, .unset] [(.int d0)]) by
    refine k_if W 70 d_code_62 (by decide) (fun (hc134 : sm = 0) => ?_) (fun (hc134 : ¬ (sm = 0)) => ?_)
    · -- pc 70
      refine k_iloadN W d_code_70 rfl ?_
      refine k_callS W 0 0 0 (argsL := [(.int p1)]) (rest := []) d_code_71 (w0 hw) (w1 hw) (by decide) (lenOf pd6 rfl) (ct_nonws l Z a0 hw n0 h0 p1) (w3 hw) (w2 hw) (fun x hx => hx) rfl (Nat.le_of_eq rfl) (Nat.le_of_ble_eq_true rfl) (Nat.le_of_ble_eq_true rfl) ⟨rfl, Nat.le_of_ble_eq_true rfl⟩ ⟨rfl, Nat.le_of_ble_eq_true rfl⟩ rfl (fun _ _ ⟨_, q, _⟩ => nomatch q) fun T h135 v so W hQ => ?_
      obtain ⟨c135, hv, r135, rfl⟩ := hQ
      obtain rfl := Option.some.inj hv
      exact hJd0 T c135 W r135
    · -- pc 65
      refine k_iload W d_code_65 rfl ?_
      refine k_goto W 74 d_code_67 (by decide) ?_
      exact hJd0 T c131 W r131
  intro T d0 W rd0
  refine k_istore W d_code_74 (L' := #[.val (.int p0), .val (.int p1), .val (.long q2), .second, .val (.long q3), .second, .val (.long q4), .second, .val (.int p5), .val (.int ln1), .val (.int c131), .val (.int ((XT.ushr p0 (8 : Int32)) &&& (255 : Int32))), .val (.int sm), .val (.int ln2), .val (.int d0), .unset, .unset, .unset, .unset, .unset, .unset, .unset, .unset, .unset, .unset, .unset, .unset, .unset, .unset, .unset, .unset, .unset]) rfl ?_
  refine k_iload W d_code_76 rfl ?_
  suffices hJd1 : ∀ (T : State) (d1 : Int32), WS p l e room_1 s m #[(.int p0), (.int p1), (.long q2), (.long q3), (.long q4), (.int p5)] below meth c Z a0 own_EL false n0 x code maxLocals ret T h0 [] 0 0 → Rg d1 256 → WP p e below (Fne s n0 Z own_EL false room_1 (fun v h so => v = some (.int 1))) T (mkF m 94 #[.val (.int p0), .val (.int p1), .val (.long q2), .second, .val (.long q3), .second, .val (.long q4), .second, .val (.int p5), .val (.int ln1), .val (.int c131), .val (.int ((XT.ushr p0 (8 : Int32)) &&& (255 : Int32))), .val (.int sm), .val (.int ln2), .val (.int d0), .unset, .unset, .unset, .unset, .unset, .unset, .unset, .unset, .unset, .unset, .unset, .unset, .unset, .unset, .unset, .unset, .unset] [(.int d1)]) by
    refine k_if W 86 d_code_78 (by decide) (fun (hc136 : sm = 0) => ?_) (fun (hc136 : ¬ (sm = 0)) => ?_)
    · -- pc 86
      refine k_iloadN W d_code_86 rfl ?_
      refine k_bipush W d_code_87 (z := (8 : Int32)) rfl ?_
      refine k_iushr W d_code_89 (z := (XT.ushr p1 (8 : Int32))) rfl ?_
      refine k_sipush W d_code_90 (z := (255 : Int32)) rfl ?_
      refine k_iand W d_code_93 (z := ((XT.ushr p1 (8 : Int32)) &&& (255 : Int32))) rfl ?_
      exact hJd1 T ((XT.ushr p1 (8 : Int32)) &&& (255 : Int32)) W (Rg.and (n := 256) (XT.ushr p1 (8 : Int32)) (255 : Int32) (by decide))
    · -- pc 81
      refine k_iload W d_code_81 rfl ?_
      refine k_goto W 94 d_code_83 (by decide) ?_
      exact hJd1 T ((XT.ushr p0 (8 : Int32)) &&& (255 : Int32)) W (Rg.and (n := 256) (XT.ushr p0 (8 : Int32)) (255 : Int32) (by decide))
  intro T d1 W rd1
  refine k_istore W d_code_94 (L' := #[.val (.int p0), .val (.int p1), .val (.long q2), .second, .val (.long q3), .second, .val (.long q4), .second, .val (.int p5), .val (.int ln1), .val (.int c131), .val (.int ((XT.ushr p0 (8 : Int32)) &&& (255 : Int32))), .val (.int sm), .val (.int ln2), .val (.int d0), .val (.int d1), .unset, .unset, .unset, .unset, .unset, .unset, .unset, .unset, .unset, .unset, .unset, .unset, .unset, .unset, .unset, .unset]) rfl ?_
  rcases rln1 with rfl | rfl
  · --
    rcases rln2 with rfl | rfl
    · --
      refine k_iload W d_code_96 rfl ?_
      refine k_iload W d_code_98 rfl ?_
      refine k_iload W d_code_100 rfl ?_
      refine k_callS W 0 3 6 (argsL := [(.int (1 : Int32)), (.int c131), (.int ((XT.ushr p0 (8 : Int32)) &&& (255 : Int32)))]) (rest := []) d_code_102 (w4 hw) (w5 hw) (by decide) (lenOf pd17 rfl) (ct_mk1 l Z a0 hw n0 h0 c131 ((XT.ushr p0 (8 : Int32)) &&& (255 : Int32)) zc r131.1 (Rg.and (n := 256) (XT.ushr p0 (8 : Int32)) (255 : Int32) (by decide)) P0 hzc) (w6 hw) (w2 hw) (fun x hx => hx) rfl (Nat.le_of_eq rfl) (Nat.le_of_ble_eq_true rfl) (Nat.le_of_ble_eq_true rfl) ⟨rfl, Nat.le_of_ble_eq_true rfl⟩ ⟨rfl, Nat.le_of_ble_eq_true rfl⟩ rfl (fun _ _ ⟨_, _, q, _⟩ => nomatch q) fun T h137 v so W hQ => ?_
      obtain ⟨x137, b137, hv, gx137, gb137, K137, S137⟩ := hQ
      obtain rfl := Option.some.inj hv
      refine k_astore W d_code_105 rfl (L' := #[.val (.int p0), .val (.int p1), .val (.long q2), .second, .val (.long q3), .second, .val (.long q4), .second, .val (.int p5), .val (.int (1 : Int32)), .val (.int c131), .val (.int ((XT.ushr p0 (8 : Int32)) &&& (255 : Int32))), .val (.int sm), .val (.int (1 : Int32)), .val (.int d0), .val (.int d1), .val (.ref x137), .unset, .unset, .unset, .unset, .unset, .unset, .unset, .unset, .unset, .unset, .unset, .unset, .unset, .unset, .unset]) rfl ?_
      refine k_iload W d_code_107 rfl ?_
      refine k_iload W d_code_109 rfl ?_
      refine k_iload W d_code_111 rfl ?_
      have f138 := (Sta.keep P0 K137 ns0)
      refine k_callS W 0 6 12 (argsL := [(.int (1 : Int32)), (.int d0), (.int d1)]) (rest := []) d_code_113 (w4 hw) (w5 hw) (by decide) (lenOf pd17 rfl) (ct_mk1 l Z a0 hw n0 h137 d0 d1 zc rd0.1 rd1 f138 hzc) (w6 hw) (w2 hw) (fun x hx => hx) rfl (Nat.le_of_eq rfl) (Nat.le_of_ble_eq_true rfl) (Nat.le_of_ble_eq_true rfl) ⟨rfl, Nat.le_of_ble_eq_true rfl⟩ ⟨rfl, Nat.le_of_ble_eq_true rfl⟩ rfl (fun _ _ ⟨_, _, q, _⟩ => nomatch q) fun T h139 v so W hQ => ?_
      obtain ⟨x139, b139, hv, gx139, gb139, K139, S139⟩ := hQ
      obtain rfl := Option.some.inj hv
      refine k_astore W d_code_116 rfl (L' := #[.val (.int p0), .val (.int p1), .val (.long q2), .second, .val (.long q3), .second, .val (.long q4), .second, .val (.int p5), .val (.int (1 : Int32)), .val (.int c131), .val (.int ((XT.ushr p0 (8 : Int32)) &&& (255 : Int32))), .val (.int sm), .val (.int (1 : Int32)), .val (.int d0), .val (.int d1), .val (.ref x137), .val (.ref x139), .unset, .unset, .unset, .unset, .unset, .unset, .unset, .unset, .unset, .unset, .unset, .unset, .unset, .unset]) rfl ?_
      refine k_lloadN W d_code_118 rfl ?_
      refine k_callS W 0 6 12 (argsL := [(.long q2)]) (rest := []) d_code_119 (w37 hw) (w38 hw) (by decide) (lenOf pd18 rfl) (ct_mx l Z a0 hw n0 h139 q2) (w39 hw) (w2 hw) (fun x hx => hx) rfl (Nat.le_of_eq rfl) (Nat.le_of_ble_eq_true rfl) (Nat.le_of_ble_eq_true rfl) ⟨rfl, Nat.le_of_ble_eq_true rfl⟩ ⟨rfl, Nat.le_of_ble_eq_true rfl⟩ rfl (fun _ _ ⟨_, q, _⟩ => nomatch q) fun T h140 v so W hQ => ?_
      obtain ⟨j140, hv, r140, rfl⟩ := hQ
      obtain rfl := Option.some.inj hv
      refine k_lstore W d_code_122 (L' := #[.val (.int p0), .val (.int p1), .val (.long q2), .second, .val (.long q3), .second, .val (.long q4), .second, .val (.int p5), .val (.int (1 : Int32)), .val (.int c131), .val (.int ((XT.ushr p0 (8 : Int32)) &&& (255 : Int32))), .val (.int sm), .val (.int (1 : Int32)), .val (.int d0), .val (.int d1), .val (.ref x137), .val (.ref x139), .val (.long j140), .second, .unset, .unset, .unset, .unset, .unset, .unset, .unset, .unset, .unset, .unset, .unset, .unset]) rfl ?_
      refine k_lload W d_code_124 rfl ?_
      refine k_lload W d_code_126 rfl ?_
      refine k_callS W 0 6 12 (argsL := [(.long j140), (.long q3)]) (rest := []) d_code_128 (w41 hw) (w42 hw) (by decide) (lenOf pd19 rfl) (ct_ac l Z a0 hw n0 h139 j140 q3 r140) (w43 hw) (w2 hw) (fun x hx => hx) rfl (Nat.le_of_eq rfl) (Nat.le_of_ble_eq_true rfl) (Nat.le_of_ble_eq_true rfl) ⟨rfl, Nat.le_of_ble_eq_true rfl⟩ ⟨rfl, Nat.le_of_ble_eq_true rfl⟩ rfl (fun _ _ ⟨_, q, _⟩ => nomatch q) fun T h141 v so W hQ => ?_
      obtain ⟨j141, hv, r141, rfl⟩ := hQ
      obtain rfl := Option.some.inj hv
      refine k_lstore W d_code_131 (L' := #[.val (.int p0), .val (.int p1), .val (.long q2), .second, .val (.long q3), .second, .val (.long q4), .second, .val (.int p5), .val (.int (1 : Int32)), .val (.int c131), .val (.int ((XT.ushr p0 (8 : Int32)) &&& (255 : Int32))), .val (.int sm), .val (.int (1 : Int32)), .val (.int d0), .val (.int d1), .val (.ref x137), .val (.ref x139), .val (.long j140), .second, .val (.long j141), .second, .unset, .unset, .unset, .unset, .unset, .unset, .unset, .unset, .unset, .unset]) rfl ?_
      refine k_iload W d_code_133 rfl ?_
      refine k_iconst W d_code_135 (z := (2 : Int32)) rfl ?_
      refine k_iand W d_code_136 (z := (p5 &&& (2 : Int32))) rfl ?_
      suffices hJjm142 : ∀ (T : State) (jm142 : Int64), WS p l e room_1 s m #[(.int p0), (.int p1), (.long q2), (.long q3), (.long q4), (.int p5)] below meth c Z a0 own_EL false n0 x code maxLocals ret T h139 [] 6 12 → own_OK jm142 → WP p e below (Fne s n0 Z own_EL false room_1 (fun v h so => v = some (.int 1))) T (mkF m 150 #[.val (.int p0), .val (.int p1), .val (.long q2), .second, .val (.long q3), .second, .val (.long q4), .second, .val (.int p5), .val (.int (1 : Int32)), .val (.int c131), .val (.int ((XT.ushr p0 (8 : Int32)) &&& (255 : Int32))), .val (.int sm), .val (.int (1 : Int32)), .val (.int d0), .val (.int d1), .val (.ref x137), .val (.ref x139), .val (.long j140), .second, .val (.long j141), .second, .unset, .unset, .unset, .unset, .unset, .unset, .unset, .unset, .unset, .unset] [(.long jm142)]) by
        refine k_if W 145 d_code_137 (by decide) (fun (hc143 : (p5 &&& (2 : Int32)) = 0) => ?_) (fun (hc143 : ¬ ((p5 &&& (2 : Int32)) = 0)) => ?_)
        · -- pc 145
          refine k_lload W d_code_145 rfl ?_
          refine k_callS W 0 6 12 (argsL := [(.long q4)]) (rest := []) d_code_147 (w37 hw) (w38 hw) (by decide) (lenOf pd18 rfl) (ct_mx l Z a0 hw n0 h139 q4) (w39 hw) (w2 hw) (fun x hx => hx) rfl (Nat.le_of_eq rfl) (Nat.le_of_ble_eq_true rfl) (Nat.le_of_ble_eq_true rfl) ⟨rfl, Nat.le_of_ble_eq_true rfl⟩ ⟨rfl, Nat.le_of_ble_eq_true rfl⟩ rfl (fun _ _ ⟨_, q, _⟩ => nomatch q) fun T h144 v so W hQ => ?_
          obtain ⟨j144, hv, r144, rfl⟩ := hQ
          obtain rfl := Option.some.inj hv
          exact hJjm142 T j144 W r144
        · -- pc 140
          refine k_lload W d_code_140 rfl ?_
          refine k_goto W 150 d_code_142 (by decide) ?_
          exact hJjm142 T j140 W r140
      intro T jm142 W rjm142
      refine k_lstore W d_code_150 (L' := #[.val (.int p0), .val (.int p1), .val (.long q2), .second, .val (.long q3), .second, .val (.long q4), .second, .val (.int p5), .val (.int (1 : Int32)), .val (.int c131), .val (.int ((XT.ushr p0 (8 : Int32)) &&& (255 : Int32))), .val (.int sm), .val (.int (1 : Int32)), .val (.int d0), .val (.int d1), .val (.ref x137), .val (.ref x139), .val (.long j140), .second, .val (.long j141), .second, .val (.long jm142), .second, .unset, .unset, .unset, .unset, .unset, .unset, .unset, .unset]) rfl ?_
      refine k_iload W d_code_152 rfl ?_
      refine k_iconst W d_code_154 (z := (4 : Int32)) rfl ?_
      refine k_iand W d_code_155 (z := (p5 &&& (4 : Int32))) rfl ?_
      suffices hJja145 : ∀ (T : State) (ja145 : Int64), WS p l e room_1 s m #[(.int p0), (.int p1), (.long q2), (.long q3), (.long q4), (.int p5)] below meth c Z a0 own_EL false n0 x code maxLocals ret T h139 [] 6 12 → jm142 < ja145 → WP p e below (Fne s n0 Z own_EL false room_1 (fun v h so => v = some (.int 1))) T (mkF m 182 #[.val (.int p0), .val (.int p1), .val (.long q2), .second, .val (.long q3), .second, .val (.long q4), .second, .val (.int p5), .val (.int (1 : Int32)), .val (.int c131), .val (.int ((XT.ushr p0 (8 : Int32)) &&& (255 : Int32))), .val (.int sm), .val (.int (1 : Int32)), .val (.int d0), .val (.int d1), .val (.ref x137), .val (.ref x139), .val (.long j140), .second, .val (.long j141), .second, .val (.long jm142), .second, .unset, .unset, .unset, .unset, .unset, .unset, .unset, .unset] [(.long ja145)]) by
        refine k_if W 172 d_code_156 (by decide) (fun (hc146 : (p5 &&& (4 : Int32)) = 0) => ?_) (fun (hc146 : ¬ ((p5 &&& (4 : Int32)) = 0)) => ?_)
        · -- pc 172
          refine k_lload W d_code_172 rfl ?_
          refine k_lload W d_code_174 rfl ?_
          refine k_lload W d_code_176 rfl ?_
          refine k_lxor W d_code_178 (z := (q3 ^^^ q4)) rfl ?_
          refine k_callS W 0 6 12 (argsL := [(.long jm142), (.long (q3 ^^^ q4))]) (rest := []) d_code_179 (w41 hw) (w42 hw) (by decide) (lenOf pd19 rfl) (ct_ac l Z a0 hw n0 h139 jm142 (q3 ^^^ q4) rjm142) (w43 hw) (w2 hw) (fun x hx => hx) rfl (Nat.le_of_eq rfl) (Nat.le_of_ble_eq_true rfl) (Nat.le_of_ble_eq_true rfl) ⟨rfl, Nat.le_of_ble_eq_true rfl⟩ ⟨rfl, Nat.le_of_ble_eq_true rfl⟩ rfl (fun _ _ ⟨_, q, _⟩ => nomatch q) fun T h147 v so W hQ => ?_
          obtain ⟨j147, hv, r147, rfl⟩ := hQ
          obtain rfl := Option.some.inj hv
          exact hJja145 T j147 W r147
        · -- pc 159
          refine k_lload W d_code_159 rfl ?_
          refine k_lload W d_code_161 rfl ?_
          refine k_lcmp W d_code_163 (z := (XT.cmpL j141 jm142)) rfl ?_
          refine k_if W 172 d_code_164 (by decide) (fun (hc148 : ¬ 0 < (XT.cmpL j141 jm142)) => ?_) (fun (hc148 : ¬ (¬ 0 < (XT.cmpL j141 jm142))) => ?_)
          · -- pc 172
            refine k_lload W d_code_172 rfl ?_
            refine k_lload W d_code_174 rfl ?_
            refine k_lload W d_code_176 rfl ?_
            refine k_lxor W d_code_178 (z := (q3 ^^^ q4)) rfl ?_
            refine k_callS W 0 6 12 (argsL := [(.long jm142), (.long (q3 ^^^ q4))]) (rest := []) d_code_179 (w41 hw) (w42 hw) (by decide) (lenOf pd19 rfl) (ct_ac l Z a0 hw n0 h139 jm142 (q3 ^^^ q4) rjm142) (w43 hw) (w2 hw) (fun x hx => hx) rfl (Nat.le_of_eq rfl) (Nat.le_of_ble_eq_true rfl) (Nat.le_of_ble_eq_true rfl) ⟨rfl, Nat.le_of_ble_eq_true rfl⟩ ⟨rfl, Nat.le_of_ble_eq_true rfl⟩ rfl (fun _ _ ⟨_, q, _⟩ => nomatch q) fun T h149 v so W hQ => ?_
            obtain ⟨j149, hv, r149, rfl⟩ := hQ
            obtain rfl := Option.some.inj hv
            exact hJja145 T j149 W r149
          · -- pc 167
            refine k_lload W d_code_167 rfl ?_
            refine k_goto W 182 d_code_169 (by decide) ?_
            exact hJja145 T j141 W (cmpL_gt.mp (Classical.not_not.mp hc148))
      intro T ja145 W rja145
      refine k_lstore W d_code_182 (L' := #[.val (.int p0), .val (.int p1), .val (.long q2), .second, .val (.long q3), .second, .val (.long q4), .second, .val (.int p5), .val (.int (1 : Int32)), .val (.int c131), .val (.int ((XT.ushr p0 (8 : Int32)) &&& (255 : Int32))), .val (.int sm), .val (.int (1 : Int32)), .val (.int d0), .val (.int d1), .val (.ref x137), .val (.ref x139), .val (.long j140), .second, .val (.long j141), .second, .val (.long jm142), .second, .val (.long ja145), .second, .unset, .unset, .unset, .unset, .unset, .unset]) rfl ?_
      refine k_iload W d_code_184 rfl ?_
      refine k_bipush W d_code_186 (z := (8 : Int32)) rfl ?_
      refine k_iand W d_code_188 (z := (p5 &&& (8 : Int32))) rfl ?_
      suffices hJu1150 : ∀ (T : State) (u1150 : Addr), WS p l e room_1 s m #[(.int p0), (.int p1), (.long q2), (.long q3), (.long q4), (.int p5)] below meth c Z a0 own_EL false n0 x code maxLocals ret T h139 [] 6 12 → WP p e below (Fne s n0 Z own_EL false room_1 (fun v h so => v = some (.int 1))) T (mkF m 201 #[.val (.int p0), .val (.int p1), .val (.long q2), .second, .val (.long q3), .second, .val (.long q4), .second, .val (.int p5), .val (.int (1 : Int32)), .val (.int c131), .val (.int ((XT.ushr p0 (8 : Int32)) &&& (255 : Int32))), .val (.int sm), .val (.int (1 : Int32)), .val (.int d0), .val (.int d1), .val (.ref x137), .val (.ref x139), .val (.long j140), .second, .val (.long j141), .second, .val (.long jm142), .second, .val (.long ja145), .second, .unset, .unset, .unset, .unset, .unset, .unset] [(.ref u1150)]) by
        refine k_if W 198 d_code_189 (by decide) (fun (hc151 : (p5 &&& (8 : Int32)) = 0) => ?_) (fun (hc151 : ¬ ((p5 &&& (8 : Int32)) = 0)) => ?_)
        · -- pc 198
          have f152 := (Sta.keep (Sta.keep UuB K137 ns0) K139 ns0)
          refine k_getS W d_code_198 (w44 hw) Via.refl f152 fun T W => ?_
          exact hJu1150 T uB W 
        · -- pc 192
          have f153 := (Sta.keep (Sta.keep UuJ K137 ns0) K139 ns0)
          refine k_getS W d_code_192 (w156 hw) Via.refl f153 fun T W => ?_
          refine k_goto W 201 d_code_195 (by decide) ?_
          exact hJu1150 T uJ W 
      intro T u1150 W
      refine k_astore W d_code_201 rfl (L' := #[.val (.int p0), .val (.int p1), .val (.long q2), .second, .val (.long q3), .second, .val (.long q4), .second, .val (.int p5), .val (.int (1 : Int32)), .val (.int c131), .val (.int ((XT.ushr p0 (8 : Int32)) &&& (255 : Int32))), .val (.int sm), .val (.int (1 : Int32)), .val (.int d0), .val (.int d1), .val (.ref x137), .val (.ref x139), .val (.long j140), .second, .val (.long j141), .second, .val (.long jm142), .second, .val (.long ja145), .second, .val (.ref u1150), .unset, .unset, .unset, .unset, .unset]) rfl ?_
      refine k_iload W d_code_203 rfl ?_
      refine k_bipush W d_code_205 (z := (16 : Int32)) rfl ?_
      refine k_iand W d_code_207 (z := (p5 &&& (16 : Int32))) rfl ?_
      suffices hJu2154 : ∀ (T : State) (u2154 : Addr), WS p l e room_1 s m #[(.int p0), (.int p1), (.long q2), (.long q3), (.long q4), (.int p5)] below meth c Z a0 own_EL false n0 x code maxLocals ret T h139 [] 6 12 → WP p e below (Fne s n0 Z own_EL false room_1 (fun v h so => v = some (.int 1))) T (mkF m 220 #[.val (.int p0), .val (.int p1), .val (.long q2), .second, .val (.long q3), .second, .val (.long q4), .second, .val (.int p5), .val (.int (1 : Int32)), .val (.int c131), .val (.int ((XT.ushr p0 (8 : Int32)) &&& (255 : Int32))), .val (.int sm), .val (.int (1 : Int32)), .val (.int d0), .val (.int d1), .val (.ref x137), .val (.ref x139), .val (.long j140), .second, .val (.long j141), .second, .val (.long jm142), .second, .val (.long ja145), .second, .val (.ref u1150), .unset, .unset, .unset, .unset, .unset] [(.ref u2154)]) by
        refine k_if W 217 d_code_208 (by decide) (fun (hc155 : (p5 &&& (16 : Int32)) = 0) => ?_) (fun (hc155 : ¬ ((p5 &&& (16 : Int32)) = 0)) => ?_)
        · -- pc 217
          have f156 := (Sta.keep (Sta.keep UuB K137 ns0) K139 ns0)
          refine k_getS W d_code_217 (w44 hw) Via.refl f156 fun T W => ?_
          exact hJu2154 T uB W 
        · -- pc 211
          have f157 := (Sta.keep (Sta.keep UuJ K137 ns0) K139 ns0)
          refine k_getS W d_code_211 (w156 hw) Via.refl f157 fun T W => ?_
          refine k_goto W 220 d_code_214 (by decide) ?_
          exact hJu2154 T uJ W 
      intro T u2154 W
      refine k_astore W d_code_220 rfl (L' := #[.val (.int p0), .val (.int p1), .val (.long q2), .second, .val (.long q3), .second, .val (.long q4), .second, .val (.int p5), .val (.int (1 : Int32)), .val (.int c131), .val (.int ((XT.ushr p0 (8 : Int32)) &&& (255 : Int32))), .val (.int sm), .val (.int (1 : Int32)), .val (.int d0), .val (.int d1), .val (.ref x137), .val (.ref x139), .val (.long j140), .second, .val (.long j141), .second, .val (.long jm142), .second, .val (.long ja145), .second, .val (.ref u1150), .val (.ref u2154), .unset, .unset, .unset, .unset]) rfl ?_
      refine k_new W 7 16 d_code_222 (w47 hw) (w48 hw) (w49 hw) ⟨rfl, Nat.le_of_ble_eq_true rfl⟩ ⟨rfl, Nat.le_of_ble_eq_true rfl⟩ fun T h158 a159 g159 W E159 X159 D159 => ?_
      have K159 : Keep h139 h158 [] := keep_ext E159 []
      refine k_dup W d_code_225 rfl ?_
      refine k_aload W d_code_226 rfl rfl ?_
      refine k_lload W d_code_228 rfl ?_
      refine k_lload W d_code_230 rfl ?_
      refine k_aload W d_code_232 rfl rfl ?_
      have f160 := ((S137.keep K139 nin0 nin0).keep K159 nin0 nin0)
      have f161 := (Sta.keep (Sta.keep f138 K139 ns0) K159 ns0)
      have f163 := (Sta.keep (Sta.keep (Sta.keep CI K137 ns0) K139 ns0) K159 ns0)
      have f164 := (((CX.keep K137).keep K139).keep K159)
      have f165 := (Sta.keep (Sta.keep (Sta.keep CA K137 ns0) K139 ns0) K159 ns0)
      have f166 := (((CV.keep K137 nin0).keep K139 nin0).keep K159 nin0)
      refine k_callI0 W 1 11 60 (argsL := [(.ref x137), (.long j141), (.long j140), (.ref u1150)]) (rest := [(.ref a159)]) (a := a159) d_code_234 rfl rfl (w50 hw) (w51 hw) (by decide) (lenOf pd20 rfl) (ct_exinit l Z a0 hw n0 h158 cd ca a159 x137 b137 u1150 [(i2b c131)] j141 j140 zc 0 (i2b c131) rfl (by rw [lo_i2b r131.1]; exact r131) r140 r141 X159 (D159 (Or.inr (w108 hw)) (ty := (.object "java/lang/String")) (by decide)) (D159 (Or.inr (w110 hw)) (ty := .long) (by decide)) (D159 (Or.inr (w112 hw)) (ty := .long) (by decide)) (D159 (Or.inr (w114 hw)) (ty := (.object "com/example/lean_envelope/leanenvelope/check/ExceededLimit$Unit")) (by decide)) f160 f161 hzc f163 f164 f165 f166) (w52 hw) (w49 hw) (fun x hx => hx) rfl (Nat.le_of_eq rfl) (Nat.le_of_ble_eq_true rfl) (Nat.le_of_ble_eq_true rfl) ⟨rfl, Nat.le_of_ble_eq_true rfl⟩ ⟨rfl, Nat.le_of_ble_eq_true rfl⟩ rfl (fun _ _ _ q => nomatch q.1) fun T h162 so W hQ => ?_
      obtain ⟨-, K162, G0_162, G1_162, G2_162, G3_162⟩ := hQ
      refine k_astore W d_code_237 rfl (L' := #[.val (.int p0), .val (.int p1), .val (.long q2), .second, .val (.long q3), .second, .val (.long q4), .second, .val (.int p5), .val (.int (1 : Int32)), .val (.int c131), .val (.int ((XT.ushr p0 (8 : Int32)) &&& (255 : Int32))), .val (.int sm), .val (.int (1 : Int32)), .val (.int d0), .val (.int d1), .val (.ref x137), .val (.ref x139), .val (.long j140), .second, .val (.long j141), .second, .val (.long jm142), .second, .val (.long ja145), .second, .val (.ref u1150), .val (.ref u2154), .val (.ref a159), .unset, .unset, .unset]) rfl ?_
      refine k_new W 12 64 d_code_239 (w47 hw) (w48 hw) (w49 hw) ⟨rfl, Nat.le_of_ble_eq_true rfl⟩ ⟨rfl, Nat.le_of_ble_eq_true rfl⟩ fun T h167 a168 g168 W E168 X168 D168 => ?_
      have K168 : Keep h162 h167 [] := keep_ext E168 []
      refine k_dup W d_code_242 rfl ?_
      refine k_aload W d_code_243 rfl rfl ?_
      refine k_lload W d_code_245 rfl ?_
      refine k_lload W d_code_247 rfl ?_
      refine k_aload W d_code_249 rfl rfl ?_
      have ne169 : x139 ≠ a159 := (Nat.ne_of_lt (Nat.lt_of_lt_of_le S139.1.lt (Nat.le_of_eq g159.symm)))
      have ne170 : b139 ≠ a159 := (Nat.ne_of_lt (Nat.lt_of_lt_of_le S139.2.2.2.lt (Nat.le_of_eq g159.symm)))
      have f171 := (((S139.keep K159 nin0 nin0).keep K162 (ninS ne169 nin0) (ninS ne170 nin0)).keep K168 nin0 nin0)
      have f172 := (Sta.keep (Sta.keep f161 K162 (nsS (Exa.plain X159) ns0)) K168 ns0)
      have f174 := (Sta.keep (Sta.keep f163 K162 (nsS (Exa.plain X159) ns0)) K168 ns0)
      have f175 := ((f164.keep K162).keep K168)
      have f176 := (Sta.keep (Sta.keep f165 K162 (nsS (Exa.plain X159) ns0)) K168 ns0)
      have ne177 : ca ≠ a159 := (Nat.ne_of_lt (Nat.lt_of_lt_of_le (Nat.lt_of_lt_of_le CV.lt (Nat.le_trans K137.1 K139.1)) (Nat.le_of_eq g159.symm)))
      have f178 := ((f166.keep K162 (ninS ne177 nin0)).keep K168 nin0)
      refine k_callI0 W 1 16 108 (argsL := [(.ref x139), (.long ja145), (.long jm142), (.ref u2154)]) (rest := [(.ref a168)]) (a := a168) d_code_251 rfl rfl (w50 hw) (w51 hw) (by decide) (lenOf pd20 rfl) (ct_exinit l Z a0 hw n0 h167 cd ca a168 x139 b139 u2154 [(i2b d0)] ja145 jm142 zc 0 (i2b d0) rfl (by rw [lo_i2b rd0.1]; exact rd0) rjm142 rja145 X168 (D168 (Or.inr (w108 hw)) (ty := (.object "java/lang/String")) (by decide)) (D168 (Or.inr (w110 hw)) (ty := .long) (by decide)) (D168 (Or.inr (w112 hw)) (ty := .long) (by decide)) (D168 (Or.inr (w114 hw)) (ty := (.object "com/example/lean_envelope/leanenvelope/check/ExceededLimit$Unit")) (by decide)) f171 f172 hzc f174 f175 f176 f178) (w52 hw) (w49 hw) (fun x hx => by simp only [List.mem_cons, List.not_mem_nil, or_false] at hx; rcases hx with rfl; all_goals first | exact (List.mem_of_getElem? (i := 0) rfl)) rfl (Nat.le_of_eq rfl) (Nat.le_of_ble_eq_true rfl) (Nat.le_of_ble_eq_true rfl) ⟨rfl, Nat.le_of_ble_eq_true rfl⟩ ⟨rfl, Nat.le_of_ble_eq_true rfl⟩ rfl (fun _ _ _ q => nomatch q.1) fun T h173 so W hQ => ?_
      obtain ⟨-, K173, G0_173, G1_173, G2_173, G3_173⟩ := hQ
      refine k_astore W d_code_254 rfl (L' := #[.val (.int p0), .val (.int p1), .val (.long q2), .second, .val (.long q3), .second, .val (.long q4), .second, .val (.int p5), .val (.int (1 : Int32)), .val (.int c131), .val (.int ((XT.ushr p0 (8 : Int32)) &&& (255 : Int32))), .val (.int sm), .val (.int (1 : Int32)), .val (.int d0), .val (.int d1), .val (.ref x137), .val (.ref x139), .val (.long j140), .second, .val (.long j141), .second, .val (.long jm142), .second, .val (.long ja145), .second, .val (.ref u1150), .val (.ref u2154), .val (.ref a159), .val (.ref a168), .unset, .unset]) rfl ?_
      refine k_iload W d_code_256 rfl ?_
      refine k_iload W d_code_258 rfl ?_
      refine k_icN W d_code_260 (show ¬ (¬ (1 : Int32) = (1 : Int32)) by decide) ?_
      refine k_iload W d_code_263 rfl ?_
      refine k_iload W d_code_265 rfl ?_
      refine k_ic W 287 d_code_267 (by decide) (fun (hc179 : ¬ c131 = d0) => ?_) (fun (hc179 : ¬ (¬ c131 = d0)) => ?_)
      · -- pc 287
        refine k_iconst W d_code_287 (z := (0 : Int32)) rfl ?_
        refine k_istore W d_code_288 (L' := #[.val (.int p0), .val (.int p1), .val (.long q2), .second, .val (.long q3), .second, .val (.long q4), .second, .val (.int p5), .val (.int (1 : Int32)), .val (.int c131), .val (.int ((XT.ushr p0 (8 : Int32)) &&& (255 : Int32))), .val (.int sm), .val (.int (1 : Int32)), .val (.int d0), .val (.int d1), .val (.ref x137), .val (.ref x139), .val (.long j140), .second, .val (.long j141), .second, .val (.long jm142), .second, .val (.long ja145), .second, .val (.ref u1150), .val (.ref u2154), .val (.ref a159), .val (.ref a168), .val (.int (0 : Int32)), .unset]) rfl ?_
        refine k_iload W d_code_290 rfl ?_
        refine k_ifY W 322 d_code_292 (by decide) (show (0 : Int32) = 0 by decide) ?_
        refine k_iconst W d_code_322 (z := (0 : Int32)) rfl ?_
        refine k_istore W d_code_323 (L' := #[.val (.int p0), .val (.int p1), .val (.long q2), .second, .val (.long q3), .second, .val (.long q4), .second, .val (.int p5), .val (.int (1 : Int32)), .val (.int c131), .val (.int ((XT.ushr p0 (8 : Int32)) &&& (255 : Int32))), .val (.int sm), .val (.int (1 : Int32)), .val (.int d0), .val (.int d1), .val (.ref x137), .val (.ref x139), .val (.long j140), .second, .val (.long j141), .second, .val (.long jm142), .second, .val (.long ja145), .second, .val (.ref u1150), .val (.ref u2154), .val (.ref a159), .val (.ref a168), .val (.int (0 : Int32)), .val (.int (0 : Int32))]) rfl ?_
        refine k_aload W d_code_325 rfl rfl ?_
        refine k_aload W d_code_327 rfl rfl ?_
        have f180 := (X168.keep K173)
        have ne181 : a159 ≠ a168 := (Nat.ne_of_lt (Nat.lt_of_lt_of_le G0_162.lt (Nat.le_of_eq g168.symm)))
        have f182 := ((G0_162.keep K168 nin0).keep K173 (ninS ne181 nin0))
        have f183 := ((G1_162.keep K168 nin0).keep K173 (ninS ne181 nin0))
        have f184 := ((G2_162.keep K168 nin0).keep K173 (ninS ne181 nin0))
        have f185 := ((G3_162.keep K168 nin0).keep K173 (ninS ne181 nin0))
        have ne186 : x137 ≠ a159 := (Nat.ne_of_lt (Nat.lt_of_lt_of_le (Nat.lt_of_lt_of_le S137.1.lt K139.1) (Nat.le_of_eq g159.symm)))
        have ne187 : b137 ≠ a159 := (Nat.ne_of_lt (Nat.lt_of_lt_of_le (Nat.lt_of_lt_of_le S137.2.2.2.lt K139.1) (Nat.le_of_eq g159.symm)))
        have ne188 : x137 ≠ a168 := (Nat.ne_of_lt (Nat.lt_of_lt_of_le (Nat.lt_of_lt_of_le f160.1.lt K162.1) (Nat.le_of_eq g168.symm)))
        have ne189 : b137 ≠ a168 := (Nat.ne_of_lt (Nat.lt_of_lt_of_le (Nat.lt_of_lt_of_le f160.2.2.2.lt K162.1) (Nat.le_of_eq g168.symm)))
        have f190 := (((f160.keep K162 (ninS ne186 nin0) (ninS ne187 nin0)).keep K168 nin0 nin0).keep K173 (ninS ne188 nin0) (ninS ne189 nin0))
        have ne191 : x139 ≠ a168 := (Nat.ne_of_lt (Nat.lt_of_lt_of_le (Nat.lt_of_lt_of_le S139.1.lt (Nat.le_trans E159.1 K162.1)) (Nat.le_of_eq g168.symm)))
        have ne192 : b139 ≠ a168 := (Nat.ne_of_lt (Nat.lt_of_lt_of_le (Nat.lt_of_lt_of_le S139.2.2.2.lt (Nat.le_trans E159.1 K162.1)) (Nat.le_of_eq g168.symm)))
        have f193 := (f171.keep K173 (ninS ne191 nin0) (ninS ne192 nin0))
        have f194 := (Sta.keep f172 K173 (nsS (Exa.plain X168) ns0))
        have ne196 : x137 ≠ x139 := (Nat.ne_of_lt (Nat.lt_of_lt_of_le S137.1.lt gx139))
        have f197 := (((X159.keep K162).keep K168).keep K173)
        refine k_callV W 0 16 108 (argsL := [(.ref a168)]) (rest := []) (a := a159) (C := "com/example/lean_envelope/leanenvelope/check/ExceededLimit") (z0 := (⟨"com/example/lean_envelope/leanenvelope/check/ExceededLimit", "equals", "(Ljava/lang/Object;)Z"⟩ : MethodName)) (z := (⟨"com/example/lean_envelope/leanenvelope/check/ExceededLimit", "equals", "(Ljava/lang/Object;)Z"⟩ : MethodName)) d_code_329 (w115 hw) (w116 hw) (nfSel (w118 hw)) (w118 hw) (w117 hw) (by decide) (lenOf pd16 rfl) f197 (ct_xeq l Z a0 hw n0 h173 a159 a168 x137 b137 x139 b139 u1150 u2154 [(i2b c131)] [(i2b d0)] j141 ja145 j140 jm142 zc ne181 ne196 f197 f182 f183 f184 f185 f180 G0_173 G1_173 G2_173 G3_173 f190 f193 f194 hzc) (w119 hw) (w49 hw) (fun x hx => nomatch hx) rfl (Nat.le_of_eq rfl) (Nat.le_of_ble_eq_true rfl) (Nat.le_of_ble_eq_true rfl) ⟨rfl, Nat.le_of_ble_eq_true rfl⟩ ⟨rfl, Nat.le_of_ble_eq_true rfl⟩ rfl (fun _ _ q => by rcases q.1 with ⟨_, u⟩ | ⟨_, u⟩ <;> cases u) fun T h198 v so W hQ => ?_
        obtain ⟨hQ, rfl⟩ := hQ
        rcases hQ with ⟨hP195, hv⟩ | ⟨hP195, hv⟩
        · --
          obtain ⟨e1, e2, e3, e4⟩ := hP195
          have q0 : (i2b c131) = (i2b d0) := by simpa using congrArg (fun l => l.getD 0 0) e1
          exact absurd (i2b_inj r131.1 rd0.1 q0) hc179
        · --
          obtain rfl := Option.some.inj hv
          refine k_iload W d_code_332 rfl ?_
          refine k_icN W d_code_334 (show ¬ (¬ (0 : Int32) = (0 : Int32)) by decide) ?_
          refine k_aload W d_code_337 rfl rfl ?_
          refine k_aload W d_code_339 rfl rfl ?_
          refine k_callV W 0 16 108 (argsL := [(.ref a159)]) (rest := []) (a := a168) (C := "com/example/lean_envelope/leanenvelope/check/ExceededLimit") (z0 := (⟨"com/example/lean_envelope/leanenvelope/check/ExceededLimit", "equals", "(Ljava/lang/Object;)Z"⟩ : MethodName)) (z := (⟨"com/example/lean_envelope/leanenvelope/check/ExceededLimit", "equals", "(Ljava/lang/Object;)Z"⟩ : MethodName)) d_code_341 (w115 hw) (w116 hw) (nfSel (w118 hw)) (w118 hw) (w117 hw) (by decide) (lenOf pd16 rfl) f180 (ct_xeq l Z a0 hw n0 h173 a168 a159 x139 b139 x137 b137 u2154 u1150 [(i2b d0)] [(i2b c131)] ja145 j141 jm142 j140 zc (Ne.symm ne181) (Ne.symm ne196) f180 G0_173 G1_173 G2_173 G3_173 f197 f182 f183 f184 f185 f193 f190 f194 hzc) (w119 hw) (w49 hw) (fun x hx => nomatch hx) rfl (Nat.le_of_eq rfl) (Nat.le_of_ble_eq_true rfl) (Nat.le_of_ble_eq_true rfl) ⟨rfl, Nat.le_of_ble_eq_true rfl⟩ ⟨rfl, Nat.le_of_ble_eq_true rfl⟩ rfl (fun _ _ q => by rcases q.1 with ⟨_, u⟩ | ⟨_, u⟩ <;> cases u) fun T h200 v so W hQ => ?_
          obtain ⟨hQ, rfl⟩ := hQ
          rcases hQ with ⟨hP199, hv⟩ | ⟨hP199, hv⟩
          · --
            obtain ⟨e1, e2, e3, e4⟩ := hP199
            have q0 : (i2b d0) = (i2b c131) := by simpa using congrArg (fun l => l.getD 0 0) e1
            exact absurd ((i2b_inj rd0.1 r131.1 q0).symm) hc179
          · --
            obtain rfl := Option.some.inj hv
            refine k_iload W d_code_344 rfl ?_
            refine k_icN W d_code_346 (show ¬ (¬ (0 : Int32) = (0 : Int32)) by decide) ?_
            refine k_aload W d_code_349 rfl rfl ?_
            refine k_aload W d_code_351 rfl rfl ?_
            refine k_callV W 0 16 108 (argsL := [(.ref a159)]) (rest := []) (a := a159) (C := "com/example/lean_envelope/leanenvelope/check/ExceededLimit") (z0 := (⟨"com/example/lean_envelope/leanenvelope/check/ExceededLimit", "equals", "(Ljava/lang/Object;)Z"⟩ : MethodName)) (z := (⟨"com/example/lean_envelope/leanenvelope/check/ExceededLimit", "equals", "(Ljava/lang/Object;)Z"⟩ : MethodName)) d_code_353 (w115 hw) (w116 hw) (nfSel (w118 hw)) (w118 hw) (w117 hw) (by decide) (lenOf pd16 rfl) f197 (ct_xeqI l Z a0 hw n0 h173 a159) (w119 hw) (w49 hw) (fun x hx => nomatch hx) rfl (Nat.le_of_eq rfl) (Nat.le_of_ble_eq_true rfl) (Nat.le_of_ble_eq_true rfl) ⟨rfl, Nat.le_of_ble_eq_true rfl⟩ ⟨rfl, Nat.le_of_ble_eq_true rfl⟩ rfl (fun _ _ q => nomatch q.1) fun T h201 v so W hQ => ?_
            obtain ⟨hv, rfl, -⟩ := hQ
            obtain rfl := Option.some.inj hv
            refine k_ifN W d_code_356 (show ¬ ((1 : Int32) = 0) by decide) ?_
            refine k_aload W d_code_359 rfl rfl ?_
            refine k_aconst W d_code_361 ?_
            refine k_callV W 0 16 108 (argsL := [.null]) (rest := []) (a := a159) (C := "com/example/lean_envelope/leanenvelope/check/ExceededLimit") (z0 := (⟨"com/example/lean_envelope/leanenvelope/check/ExceededLimit", "equals", "(Ljava/lang/Object;)Z"⟩ : MethodName)) (z := (⟨"com/example/lean_envelope/leanenvelope/check/ExceededLimit", "equals", "(Ljava/lang/Object;)Z"⟩ : MethodName)) d_code_362 (w115 hw) (w116 hw) (nfSel (w118 hw)) (w118 hw) (w117 hw) (by decide) (lenOf pd16 rfl) f197 (ct_xeqN l Z a0 hw n0 h173 a159) (w119 hw) (w49 hw) (fun x hx => nomatch hx) rfl (Nat.le_of_eq rfl) (Nat.le_of_ble_eq_true rfl) (Nat.le_of_ble_eq_true rfl) ⟨rfl, Nat.le_of_ble_eq_true rfl⟩ ⟨rfl, Nat.le_of_ble_eq_true rfl⟩ rfl (fun _ _ q => nomatch q.1) fun T h202 v so W hQ => ?_
            obtain ⟨hv, rfl, -⟩ := hQ
            obtain rfl := Option.some.inj hv
            refine k_ifN W d_code_365 (show ¬ (¬ (0 : Int32) = 0) by decide) ?_
            refine k_aload W d_code_368 rfl rfl ?_
            refine k_aload W d_code_370 rfl rfl ?_
            refine k_callV W 0 16 108 (argsL := [(.ref x137)]) (rest := []) (a := a159) (C := "com/example/lean_envelope/leanenvelope/check/ExceededLimit") (z0 := (⟨"com/example/lean_envelope/leanenvelope/check/ExceededLimit", "equals", "(Ljava/lang/Object;)Z"⟩ : MethodName)) (z := (⟨"com/example/lean_envelope/leanenvelope/check/ExceededLimit", "equals", "(Ljava/lang/Object;)Z"⟩ : MethodName)) d_code_372 (w115 hw) (w116 hw) (nfSel (w118 hw)) (w118 hw) (w117 hw) (by decide) (lenOf pd16 rfl) f197 (ct_xeqS l Z a0 hw n0 h173 a159 x137 f197 f190.1) (w119 hw) (w49 hw) (fun x hx => nomatch hx) rfl (Nat.le_of_eq rfl) (Nat.le_of_ble_eq_true rfl) (Nat.le_of_ble_eq_true rfl) ⟨rfl, Nat.le_of_ble_eq_true rfl⟩ ⟨rfl, Nat.le_of_ble_eq_true rfl⟩ rfl (fun _ _ q => nomatch q.1) fun T h203 v so W hQ => ?_
            obtain ⟨hv, rfl, -⟩ := hQ
            obtain rfl := Option.some.inj hv
            refine k_ifN W d_code_375 (show ¬ (¬ (0 : Int32) = 0) by decide) ?_
            refine k_aload W d_code_378 rfl rfl ?_
            refine k_lload W d_code_380 rfl ?_
            have f205 := (Sta.keep (Sta.keep (Sta.keep (Sta.keep (Sta.keep (Sta.keep LS K137 ns0) K139 ns0) K159 ns0) K162 (nsS (Exa.plain X159) ns0)) K168 ns0) K173 (nsS (Exa.plain X168) ns0))
            have ne206 : lc ≠ a159 := (Nat.ne_of_lt (Nat.lt_of_lt_of_le (Nat.lt_of_lt_of_le LV.lt (Nat.le_trans K137.1 K139.1)) (Nat.le_of_eq g159.symm)))
            have ne207 : lc ≠ a168 := (Nat.ne_of_lt (Nat.lt_of_lt_of_le (Nat.lt_of_lt_of_le LV.lt (Nat.le_trans (Nat.le_trans (Nat.le_trans K137.1 K139.1) E159.1) K162.1)) (Nat.le_of_eq g168.symm)))
            have f208 := ((((((LV.keep K137 nin0).keep K139 nin0).keep K159 nin0).keep K162 (ninS ne206 nin0)).keep K168 nin0).keep K173 (ninS ne207 nin0))
            have f209 := ((((((LX.keep K137).keep K139).keep K159).keep K162).keep K168).keep K173)
            refine k_callS W 1 17 109 (argsL := [(.long j141)]) (rest := [(.ref a159)]) d_code_382 (w133 hw) (w134 hw) (by decide) (lenOf pd21 rfl) (ct_lval l Z a0 hw n0 h173 j141 lc lvs f205 f208 f209 hlv) (w136 hw) (w135 hw) (fun x hx => nomatch hx) rfl (Nat.le_of_eq rfl) (Nat.le_of_ble_eq_true rfl) (Nat.le_of_ble_eq_true rfl) ⟨rfl, Nat.le_of_ble_eq_true rfl⟩ ⟨rfl, Nat.le_of_ble_eq_true rfl⟩ rfl (fun _ _ ⟨_, q, _⟩ => nomatch q) fun T h204 v so W hQ => ?_
            obtain ⟨x204, hv, K204, X204⟩ := hQ
            obtain rfl := Option.some.inj hv
            have f210 := (f197.keep K204)
            refine k_callV W 0 17 109 (argsL := [(.ref x204)]) (rest := []) (a := a159) (C := "com/example/lean_envelope/leanenvelope/check/ExceededLimit") (z0 := (⟨"com/example/lean_envelope/leanenvelope/check/ExceededLimit", "equals", "(Ljava/lang/Object;)Z"⟩ : MethodName)) (z := (⟨"com/example/lean_envelope/leanenvelope/check/ExceededLimit", "equals", "(Ljava/lang/Object;)Z"⟩ : MethodName)) d_code_385 (w115 hw) (w116 hw) (nfSel (w118 hw)) (w118 hw) (w117 hw) (by decide) (lenOf pd16 rfl) f210 (ct_xeqL l Z a0 hw n0 h204 a159 x204 f210 X204) (w119 hw) (w49 hw) (fun x hx => nomatch hx) rfl (Nat.le_of_eq rfl) (Nat.le_of_ble_eq_true rfl) (Nat.le_of_ble_eq_true rfl) ⟨rfl, Nat.le_of_ble_eq_true rfl⟩ ⟨rfl, Nat.le_of_ble_eq_true rfl⟩ rfl (fun _ _ q => nomatch q.1) fun T h211 v so W hQ => ?_
            obtain ⟨hv, rfl, -⟩ := hQ
            obtain rfl := Option.some.inj hv
            refine k_ifN W d_code_388 (show ¬ (¬ (0 : Int32) = 0) by decide) ?_
            refine k_iconst W d_code_391 (z := (1 : Int32)) rfl ?_
            refine k_goto W 396 d_code_392 (by decide) ?_
            exact k_retN W (t := .boolean) (z' := (1 : Int32)) d_code_396 rfl (by simp) (by decide) [] (fun x hx => nomatch hx) (Nat.le_of_ble_eq_true rfl) (Nat.le_of_ble_eq_true rfl) rfl
      · -- pc 270
        refine k_iload W d_code_270 rfl ?_
        refine k_iconst W d_code_272 (z := (1 : Int32)) rfl ?_
        refine k_icY W 283 d_code_273 (by decide) (show (1 : Int32) = (1 : Int32) by decide) ?_
        refine k_iconst W d_code_283 (z := (1 : Int32)) rfl ?_
        refine k_goto W 288 d_code_284 (by decide) ?_
        refine k_istore W d_code_288 (L' := #[.val (.int p0), .val (.int p1), .val (.long q2), .second, .val (.long q3), .second, .val (.long q4), .second, .val (.int p5), .val (.int (1 : Int32)), .val (.int c131), .val (.int ((XT.ushr p0 (8 : Int32)) &&& (255 : Int32))), .val (.int sm), .val (.int (1 : Int32)), .val (.int d0), .val (.int d1), .val (.ref x137), .val (.ref x139), .val (.long j140), .second, .val (.long j141), .second, .val (.long jm142), .second, .val (.long ja145), .second, .val (.ref u1150), .val (.ref u2154), .val (.ref a159), .val (.ref a168), .val (.int (1 : Int32)), .unset]) rfl ?_
        refine k_iload W d_code_290 rfl ?_
        refine k_ifN W d_code_292 (show ¬ ((1 : Int32) = 0) by decide) ?_
        refine k_lload W d_code_295 rfl ?_
        refine k_lload W d_code_297 rfl ?_
        refine k_lcmp W d_code_299 (z := (XT.cmpL j141 ja145)) rfl ?_
        refine k_if W 322 d_code_300 (by decide) (fun (hc212 : ¬ (XT.cmpL j141 ja145) = 0) => ?_) (fun (hc212 : ¬ (¬ (XT.cmpL j141 ja145) = 0)) => ?_)
        · -- pc 322
          refine k_iconst W d_code_322 (z := (0 : Int32)) rfl ?_
          refine k_istore W d_code_323 (L' := #[.val (.int p0), .val (.int p1), .val (.long q2), .second, .val (.long q3), .second, .val (.long q4), .second, .val (.int p5), .val (.int (1 : Int32)), .val (.int c131), .val (.int ((XT.ushr p0 (8 : Int32)) &&& (255 : Int32))), .val (.int sm), .val (.int (1 : Int32)), .val (.int d0), .val (.int d1), .val (.ref x137), .val (.ref x139), .val (.long j140), .second, .val (.long j141), .second, .val (.long jm142), .second, .val (.long ja145), .second, .val (.ref u1150), .val (.ref u2154), .val (.ref a159), .val (.ref a168), .val (.int (1 : Int32)), .val (.int (0 : Int32))]) rfl ?_
          refine k_aload W d_code_325 rfl rfl ?_
          refine k_aload W d_code_327 rfl rfl ?_
          have f213 := (X168.keep K173)
          have ne214 : a159 ≠ a168 := (Nat.ne_of_lt (Nat.lt_of_lt_of_le G0_162.lt (Nat.le_of_eq g168.symm)))
          have f215 := ((G0_162.keep K168 nin0).keep K173 (ninS ne214 nin0))
          have f216 := ((G1_162.keep K168 nin0).keep K173 (ninS ne214 nin0))
          have f217 := ((G2_162.keep K168 nin0).keep K173 (ninS ne214 nin0))
          have f218 := ((G3_162.keep K168 nin0).keep K173 (ninS ne214 nin0))
          have ne219 : x137 ≠ a159 := (Nat.ne_of_lt (Nat.lt_of_lt_of_le (Nat.lt_of_lt_of_le S137.1.lt K139.1) (Nat.le_of_eq g159.symm)))
          have ne220 : b137 ≠ a159 := (Nat.ne_of_lt (Nat.lt_of_lt_of_le (Nat.lt_of_lt_of_le S137.2.2.2.lt K139.1) (Nat.le_of_eq g159.symm)))
          have ne221 : x137 ≠ a168 := (Nat.ne_of_lt (Nat.lt_of_lt_of_le (Nat.lt_of_lt_of_le f160.1.lt K162.1) (Nat.le_of_eq g168.symm)))
          have ne222 : b137 ≠ a168 := (Nat.ne_of_lt (Nat.lt_of_lt_of_le (Nat.lt_of_lt_of_le f160.2.2.2.lt K162.1) (Nat.le_of_eq g168.symm)))
          have f223 := (((f160.keep K162 (ninS ne219 nin0) (ninS ne220 nin0)).keep K168 nin0 nin0).keep K173 (ninS ne221 nin0) (ninS ne222 nin0))
          have ne224 : x139 ≠ a168 := (Nat.ne_of_lt (Nat.lt_of_lt_of_le (Nat.lt_of_lt_of_le S139.1.lt (Nat.le_trans E159.1 K162.1)) (Nat.le_of_eq g168.symm)))
          have ne225 : b139 ≠ a168 := (Nat.ne_of_lt (Nat.lt_of_lt_of_le (Nat.lt_of_lt_of_le S139.2.2.2.lt (Nat.le_trans E159.1 K162.1)) (Nat.le_of_eq g168.symm)))
          have f226 := (f171.keep K173 (ninS ne224 nin0) (ninS ne225 nin0))
          have f227 := (Sta.keep f172 K173 (nsS (Exa.plain X168) ns0))
          have ne229 : x137 ≠ x139 := (Nat.ne_of_lt (Nat.lt_of_lt_of_le S137.1.lt gx139))
          have f230 := (((X159.keep K162).keep K168).keep K173)
          refine k_callV W 0 16 108 (argsL := [(.ref a168)]) (rest := []) (a := a159) (C := "com/example/lean_envelope/leanenvelope/check/ExceededLimit") (z0 := (⟨"com/example/lean_envelope/leanenvelope/check/ExceededLimit", "equals", "(Ljava/lang/Object;)Z"⟩ : MethodName)) (z := (⟨"com/example/lean_envelope/leanenvelope/check/ExceededLimit", "equals", "(Ljava/lang/Object;)Z"⟩ : MethodName)) d_code_329 (w115 hw) (w116 hw) (nfSel (w118 hw)) (w118 hw) (w117 hw) (by decide) (lenOf pd16 rfl) f230 (ct_xeq l Z a0 hw n0 h173 a159 a168 x137 b137 x139 b139 u1150 u2154 [(i2b c131)] [(i2b d0)] j141 ja145 j140 jm142 zc ne214 ne229 f230 f215 f216 f217 f218 f213 G0_173 G1_173 G2_173 G3_173 f223 f226 f227 hzc) (w119 hw) (w49 hw) (fun x hx => nomatch hx) rfl (Nat.le_of_eq rfl) (Nat.le_of_ble_eq_true rfl) (Nat.le_of_ble_eq_true rfl) ⟨rfl, Nat.le_of_ble_eq_true rfl⟩ ⟨rfl, Nat.le_of_ble_eq_true rfl⟩ rfl (fun _ _ q => by rcases q.1 with ⟨_, u⟩ | ⟨_, u⟩ <;> cases u) fun T h231 v so W hQ => ?_
          obtain ⟨hQ, rfl⟩ := hQ
          rcases hQ with ⟨hP228, hv⟩ | ⟨hP228, hv⟩
          · --
            obtain ⟨e1, e2, e3, e4⟩ := hP228
            exact absurd (cmpL_eq.mpr e2) hc212
          · --
            obtain rfl := Option.some.inj hv
            refine k_iload W d_code_332 rfl ?_
            refine k_icN W d_code_334 (show ¬ (¬ (0 : Int32) = (0 : Int32)) by decide) ?_
            refine k_aload W d_code_337 rfl rfl ?_
            refine k_aload W d_code_339 rfl rfl ?_
            refine k_callV W 0 16 108 (argsL := [(.ref a159)]) (rest := []) (a := a168) (C := "com/example/lean_envelope/leanenvelope/check/ExceededLimit") (z0 := (⟨"com/example/lean_envelope/leanenvelope/check/ExceededLimit", "equals", "(Ljava/lang/Object;)Z"⟩ : MethodName)) (z := (⟨"com/example/lean_envelope/leanenvelope/check/ExceededLimit", "equals", "(Ljava/lang/Object;)Z"⟩ : MethodName)) d_code_341 (w115 hw) (w116 hw) (nfSel (w118 hw)) (w118 hw) (w117 hw) (by decide) (lenOf pd16 rfl) f213 (ct_xeq l Z a0 hw n0 h173 a168 a159 x139 b139 x137 b137 u2154 u1150 [(i2b d0)] [(i2b c131)] ja145 j141 jm142 j140 zc (Ne.symm ne214) (Ne.symm ne229) f213 G0_173 G1_173 G2_173 G3_173 f230 f215 f216 f217 f218 f226 f223 f227 hzc) (w119 hw) (w49 hw) (fun x hx => nomatch hx) rfl (Nat.le_of_eq rfl) (Nat.le_of_ble_eq_true rfl) (Nat.le_of_ble_eq_true rfl) ⟨rfl, Nat.le_of_ble_eq_true rfl⟩ ⟨rfl, Nat.le_of_ble_eq_true rfl⟩ rfl (fun _ _ q => by rcases q.1 with ⟨_, u⟩ | ⟨_, u⟩ <;> cases u) fun T h233 v so W hQ => ?_
            obtain ⟨hQ, rfl⟩ := hQ
            rcases hQ with ⟨hP232, hv⟩ | ⟨hP232, hv⟩
            · --
              obtain ⟨e1, e2, e3, e4⟩ := hP232
              exact absurd (cmpL_eq.mpr e2.symm) hc212
            · --
              obtain rfl := Option.some.inj hv
              refine k_iload W d_code_344 rfl ?_
              refine k_icN W d_code_346 (show ¬ (¬ (0 : Int32) = (0 : Int32)) by decide) ?_
              refine k_aload W d_code_349 rfl rfl ?_
              refine k_aload W d_code_351 rfl rfl ?_
              refine k_callV W 0 16 108 (argsL := [(.ref a159)]) (rest := []) (a := a159) (C := "com/example/lean_envelope/leanenvelope/check/ExceededLimit") (z0 := (⟨"com/example/lean_envelope/leanenvelope/check/ExceededLimit", "equals", "(Ljava/lang/Object;)Z"⟩ : MethodName)) (z := (⟨"com/example/lean_envelope/leanenvelope/check/ExceededLimit", "equals", "(Ljava/lang/Object;)Z"⟩ : MethodName)) d_code_353 (w115 hw) (w116 hw) (nfSel (w118 hw)) (w118 hw) (w117 hw) (by decide) (lenOf pd16 rfl) f230 (ct_xeqI l Z a0 hw n0 h173 a159) (w119 hw) (w49 hw) (fun x hx => nomatch hx) rfl (Nat.le_of_eq rfl) (Nat.le_of_ble_eq_true rfl) (Nat.le_of_ble_eq_true rfl) ⟨rfl, Nat.le_of_ble_eq_true rfl⟩ ⟨rfl, Nat.le_of_ble_eq_true rfl⟩ rfl (fun _ _ q => nomatch q.1) fun T h234 v so W hQ => ?_
              obtain ⟨hv, rfl, -⟩ := hQ
              obtain rfl := Option.some.inj hv
              refine k_ifN W d_code_356 (show ¬ ((1 : Int32) = 0) by decide) ?_
              refine k_aload W d_code_359 rfl rfl ?_
              refine k_aconst W d_code_361 ?_
              refine k_callV W 0 16 108 (argsL := [.null]) (rest := []) (a := a159) (C := "com/example/lean_envelope/leanenvelope/check/ExceededLimit") (z0 := (⟨"com/example/lean_envelope/leanenvelope/check/ExceededLimit", "equals", "(Ljava/lang/Object;)Z"⟩ : MethodName)) (z := (⟨"com/example/lean_envelope/leanenvelope/check/ExceededLimit", "equals", "(Ljava/lang/Object;)Z"⟩ : MethodName)) d_code_362 (w115 hw) (w116 hw) (nfSel (w118 hw)) (w118 hw) (w117 hw) (by decide) (lenOf pd16 rfl) f230 (ct_xeqN l Z a0 hw n0 h173 a159) (w119 hw) (w49 hw) (fun x hx => nomatch hx) rfl (Nat.le_of_eq rfl) (Nat.le_of_ble_eq_true rfl) (Nat.le_of_ble_eq_true rfl) ⟨rfl, Nat.le_of_ble_eq_true rfl⟩ ⟨rfl, Nat.le_of_ble_eq_true rfl⟩ rfl (fun _ _ q => nomatch q.1) fun T h235 v so W hQ => ?_
              obtain ⟨hv, rfl, -⟩ := hQ
              obtain rfl := Option.some.inj hv
              refine k_ifN W d_code_365 (show ¬ (¬ (0 : Int32) = 0) by decide) ?_
              refine k_aload W d_code_368 rfl rfl ?_
              refine k_aload W d_code_370 rfl rfl ?_
              refine k_callV W 0 16 108 (argsL := [(.ref x137)]) (rest := []) (a := a159) (C := "com/example/lean_envelope/leanenvelope/check/ExceededLimit") (z0 := (⟨"com/example/lean_envelope/leanenvelope/check/ExceededLimit", "equals", "(Ljava/lang/Object;)Z"⟩ : MethodName)) (z := (⟨"com/example/lean_envelope/leanenvelope/check/ExceededLimit", "equals", "(Ljava/lang/Object;)Z"⟩ : MethodName)) d_code_372 (w115 hw) (w116 hw) (nfSel (w118 hw)) (w118 hw) (w117 hw) (by decide) (lenOf pd16 rfl) f230 (ct_xeqS l Z a0 hw n0 h173 a159 x137 f230 f223.1) (w119 hw) (w49 hw) (fun x hx => nomatch hx) rfl (Nat.le_of_eq rfl) (Nat.le_of_ble_eq_true rfl) (Nat.le_of_ble_eq_true rfl) ⟨rfl, Nat.le_of_ble_eq_true rfl⟩ ⟨rfl, Nat.le_of_ble_eq_true rfl⟩ rfl (fun _ _ q => nomatch q.1) fun T h236 v so W hQ => ?_
              obtain ⟨hv, rfl, -⟩ := hQ
              obtain rfl := Option.some.inj hv
              refine k_ifN W d_code_375 (show ¬ (¬ (0 : Int32) = 0) by decide) ?_
              refine k_aload W d_code_378 rfl rfl ?_
              refine k_lload W d_code_380 rfl ?_
              have f238 := (Sta.keep (Sta.keep (Sta.keep (Sta.keep (Sta.keep (Sta.keep LS K137 ns0) K139 ns0) K159 ns0) K162 (nsS (Exa.plain X159) ns0)) K168 ns0) K173 (nsS (Exa.plain X168) ns0))
              have ne239 : lc ≠ a159 := (Nat.ne_of_lt (Nat.lt_of_lt_of_le (Nat.lt_of_lt_of_le LV.lt (Nat.le_trans K137.1 K139.1)) (Nat.le_of_eq g159.symm)))
              have ne240 : lc ≠ a168 := (Nat.ne_of_lt (Nat.lt_of_lt_of_le (Nat.lt_of_lt_of_le LV.lt (Nat.le_trans (Nat.le_trans (Nat.le_trans K137.1 K139.1) E159.1) K162.1)) (Nat.le_of_eq g168.symm)))
              have f241 := ((((((LV.keep K137 nin0).keep K139 nin0).keep K159 nin0).keep K162 (ninS ne239 nin0)).keep K168 nin0).keep K173 (ninS ne240 nin0))
              have f242 := ((((((LX.keep K137).keep K139).keep K159).keep K162).keep K168).keep K173)
              refine k_callS W 1 17 109 (argsL := [(.long j141)]) (rest := [(.ref a159)]) d_code_382 (w133 hw) (w134 hw) (by decide) (lenOf pd21 rfl) (ct_lval l Z a0 hw n0 h173 j141 lc lvs f238 f241 f242 hlv) (w136 hw) (w135 hw) (fun x hx => nomatch hx) rfl (Nat.le_of_eq rfl) (Nat.le_of_ble_eq_true rfl) (Nat.le_of_ble_eq_true rfl) ⟨rfl, Nat.le_of_ble_eq_true rfl⟩ ⟨rfl, Nat.le_of_ble_eq_true rfl⟩ rfl (fun _ _ ⟨_, q, _⟩ => nomatch q) fun T h237 v so W hQ => ?_
              obtain ⟨x237, hv, K237, X237⟩ := hQ
              obtain rfl := Option.some.inj hv
              have f243 := (f230.keep K237)
              refine k_callV W 0 17 109 (argsL := [(.ref x237)]) (rest := []) (a := a159) (C := "com/example/lean_envelope/leanenvelope/check/ExceededLimit") (z0 := (⟨"com/example/lean_envelope/leanenvelope/check/ExceededLimit", "equals", "(Ljava/lang/Object;)Z"⟩ : MethodName)) (z := (⟨"com/example/lean_envelope/leanenvelope/check/ExceededLimit", "equals", "(Ljava/lang/Object;)Z"⟩ : MethodName)) d_code_385 (w115 hw) (w116 hw) (nfSel (w118 hw)) (w118 hw) (w117 hw) (by decide) (lenOf pd16 rfl) f243 (ct_xeqL l Z a0 hw n0 h237 a159 x237 f243 X237) (w119 hw) (w49 hw) (fun x hx => nomatch hx) rfl (Nat.le_of_eq rfl) (Nat.le_of_ble_eq_true rfl) (Nat.le_of_ble_eq_true rfl) ⟨rfl, Nat.le_of_ble_eq_true rfl⟩ ⟨rfl, Nat.le_of_ble_eq_true rfl⟩ rfl (fun _ _ q => nomatch q.1) fun T h244 v so W hQ => ?_
              obtain ⟨hv, rfl, -⟩ := hQ
              obtain rfl := Option.some.inj hv
              refine k_ifN W d_code_388 (show ¬ (¬ (0 : Int32) = 0) by decide) ?_
              refine k_iconst W d_code_391 (z := (1 : Int32)) rfl ?_
              refine k_goto W 396 d_code_392 (by decide) ?_
              exact k_retN W (t := .boolean) (z' := (1 : Int32)) d_code_396 rfl (by simp) (by decide) [] (fun x hx => nomatch hx) (Nat.le_of_ble_eq_true rfl) (Nat.le_of_ble_eq_true rfl) rfl
        · -- pc 303
          refine k_lload W d_code_303 rfl ?_
          refine k_lload W d_code_305 rfl ?_
          refine k_lcmp W d_code_307 (z := (XT.cmpL j140 jm142)) rfl ?_
          refine k_if W 322 d_code_308 (by decide) (fun (hc245 : ¬ (XT.cmpL j140 jm142) = 0) => ?_) (fun (hc245 : ¬ (¬ (XT.cmpL j140 jm142) = 0)) => ?_)
          · -- pc 322
            refine k_iconst W d_code_322 (z := (0 : Int32)) rfl ?_
            refine k_istore W d_code_323 (L' := #[.val (.int p0), .val (.int p1), .val (.long q2), .second, .val (.long q3), .second, .val (.long q4), .second, .val (.int p5), .val (.int (1 : Int32)), .val (.int c131), .val (.int ((XT.ushr p0 (8 : Int32)) &&& (255 : Int32))), .val (.int sm), .val (.int (1 : Int32)), .val (.int d0), .val (.int d1), .val (.ref x137), .val (.ref x139), .val (.long j140), .second, .val (.long j141), .second, .val (.long jm142), .second, .val (.long ja145), .second, .val (.ref u1150), .val (.ref u2154), .val (.ref a159), .val (.ref a168), .val (.int (1 : Int32)), .val (.int (0 : Int32))]) rfl ?_
            refine k_aload W d_code_325 rfl rfl ?_
            refine k_aload W d_code_327 rfl rfl ?_
            have f246 := (X168.keep K173)
            have ne247 : a159 ≠ a168 := (Nat.ne_of_lt (Nat.lt_of_lt_of_le G0_162.lt (Nat.le_of_eq g168.symm)))
            have f248 := ((G0_162.keep K168 nin0).keep K173 (ninS ne247 nin0))
            have f249 := ((G1_162.keep K168 nin0).keep K173 (ninS ne247 nin0))
            have f250 := ((G2_162.keep K168 nin0).keep K173 (ninS ne247 nin0))
            have f251 := ((G3_162.keep K168 nin0).keep K173 (ninS ne247 nin0))
            have ne252 : x137 ≠ a159 := (Nat.ne_of_lt (Nat.lt_of_lt_of_le (Nat.lt_of_lt_of_le S137.1.lt K139.1) (Nat.le_of_eq g159.symm)))
            have ne253 : b137 ≠ a159 := (Nat.ne_of_lt (Nat.lt_of_lt_of_le (Nat.lt_of_lt_of_le S137.2.2.2.lt K139.1) (Nat.le_of_eq g159.symm)))
            have ne254 : x137 ≠ a168 := (Nat.ne_of_lt (Nat.lt_of_lt_of_le (Nat.lt_of_lt_of_le f160.1.lt K162.1) (Nat.le_of_eq g168.symm)))
            have ne255 : b137 ≠ a168 := (Nat.ne_of_lt (Nat.lt_of_lt_of_le (Nat.lt_of_lt_of_le f160.2.2.2.lt K162.1) (Nat.le_of_eq g168.symm)))
            have f256 := (((f160.keep K162 (ninS ne252 nin0) (ninS ne253 nin0)).keep K168 nin0 nin0).keep K173 (ninS ne254 nin0) (ninS ne255 nin0))
            have ne257 : x139 ≠ a168 := (Nat.ne_of_lt (Nat.lt_of_lt_of_le (Nat.lt_of_lt_of_le S139.1.lt (Nat.le_trans E159.1 K162.1)) (Nat.le_of_eq g168.symm)))
            have ne258 : b139 ≠ a168 := (Nat.ne_of_lt (Nat.lt_of_lt_of_le (Nat.lt_of_lt_of_le S139.2.2.2.lt (Nat.le_trans E159.1 K162.1)) (Nat.le_of_eq g168.symm)))
            have f259 := (f171.keep K173 (ninS ne257 nin0) (ninS ne258 nin0))
            have f260 := (Sta.keep f172 K173 (nsS (Exa.plain X168) ns0))
            have ne262 : x137 ≠ x139 := (Nat.ne_of_lt (Nat.lt_of_lt_of_le S137.1.lt gx139))
            have f263 := (((X159.keep K162).keep K168).keep K173)
            refine k_callV W 0 16 108 (argsL := [(.ref a168)]) (rest := []) (a := a159) (C := "com/example/lean_envelope/leanenvelope/check/ExceededLimit") (z0 := (⟨"com/example/lean_envelope/leanenvelope/check/ExceededLimit", "equals", "(Ljava/lang/Object;)Z"⟩ : MethodName)) (z := (⟨"com/example/lean_envelope/leanenvelope/check/ExceededLimit", "equals", "(Ljava/lang/Object;)Z"⟩ : MethodName)) d_code_329 (w115 hw) (w116 hw) (nfSel (w118 hw)) (w118 hw) (w117 hw) (by decide) (lenOf pd16 rfl) f263 (ct_xeq l Z a0 hw n0 h173 a159 a168 x137 b137 x139 b139 u1150 u2154 [(i2b c131)] [(i2b d0)] j141 ja145 j140 jm142 zc ne247 ne262 f263 f248 f249 f250 f251 f246 G0_173 G1_173 G2_173 G3_173 f256 f259 f260 hzc) (w119 hw) (w49 hw) (fun x hx => nomatch hx) rfl (Nat.le_of_eq rfl) (Nat.le_of_ble_eq_true rfl) (Nat.le_of_ble_eq_true rfl) ⟨rfl, Nat.le_of_ble_eq_true rfl⟩ ⟨rfl, Nat.le_of_ble_eq_true rfl⟩ rfl (fun _ _ q => by rcases q.1 with ⟨_, u⟩ | ⟨_, u⟩ <;> cases u) fun T h264 v so W hQ => ?_
            obtain ⟨hQ, rfl⟩ := hQ
            rcases hQ with ⟨hP261, hv⟩ | ⟨hP261, hv⟩
            · --
              obtain ⟨e1, e2, e3, e4⟩ := hP261
              exact absurd (cmpL_eq.mpr e3) hc245
            · --
              obtain rfl := Option.some.inj hv
              refine k_iload W d_code_332 rfl ?_
              refine k_icN W d_code_334 (show ¬ (¬ (0 : Int32) = (0 : Int32)) by decide) ?_
              refine k_aload W d_code_337 rfl rfl ?_
              refine k_aload W d_code_339 rfl rfl ?_
              refine k_callV W 0 16 108 (argsL := [(.ref a159)]) (rest := []) (a := a168) (C := "com/example/lean_envelope/leanenvelope/check/ExceededLimit") (z0 := (⟨"com/example/lean_envelope/leanenvelope/check/ExceededLimit", "equals", "(Ljava/lang/Object;)Z"⟩ : MethodName)) (z := (⟨"com/example/lean_envelope/leanenvelope/check/ExceededLimit", "equals", "(Ljava/lang/Object;)Z"⟩ : MethodName)) d_code_341 (w115 hw) (w116 hw) (nfSel (w118 hw)) (w118 hw) (w117 hw) (by decide) (lenOf pd16 rfl) f246 (ct_xeq l Z a0 hw n0 h173 a168 a159 x139 b139 x137 b137 u2154 u1150 [(i2b d0)] [(i2b c131)] ja145 j141 jm142 j140 zc (Ne.symm ne247) (Ne.symm ne262) f246 G0_173 G1_173 G2_173 G3_173 f263 f248 f249 f250 f251 f259 f256 f260 hzc) (w119 hw) (w49 hw) (fun x hx => nomatch hx) rfl (Nat.le_of_eq rfl) (Nat.le_of_ble_eq_true rfl) (Nat.le_of_ble_eq_true rfl) ⟨rfl, Nat.le_of_ble_eq_true rfl⟩ ⟨rfl, Nat.le_of_ble_eq_true rfl⟩ rfl (fun _ _ q => by rcases q.1 with ⟨_, u⟩ | ⟨_, u⟩ <;> cases u) fun T h266 v so W hQ => ?_
              obtain ⟨hQ, rfl⟩ := hQ
              rcases hQ with ⟨hP265, hv⟩ | ⟨hP265, hv⟩
              · --
                obtain ⟨e1, e2, e3, e4⟩ := hP265
                exact absurd (cmpL_eq.mpr e3.symm) hc245
              · --
                obtain rfl := Option.some.inj hv
                refine k_iload W d_code_344 rfl ?_
                refine k_icN W d_code_346 (show ¬ (¬ (0 : Int32) = (0 : Int32)) by decide) ?_
                refine k_aload W d_code_349 rfl rfl ?_
                refine k_aload W d_code_351 rfl rfl ?_
                refine k_callV W 0 16 108 (argsL := [(.ref a159)]) (rest := []) (a := a159) (C := "com/example/lean_envelope/leanenvelope/check/ExceededLimit") (z0 := (⟨"com/example/lean_envelope/leanenvelope/check/ExceededLimit", "equals", "(Ljava/lang/Object;)Z"⟩ : MethodName)) (z := (⟨"com/example/lean_envelope/leanenvelope/check/ExceededLimit", "equals", "(Ljava/lang/Object;)Z"⟩ : MethodName)) d_code_353 (w115 hw) (w116 hw) (nfSel (w118 hw)) (w118 hw) (w117 hw) (by decide) (lenOf pd16 rfl) f263 (ct_xeqI l Z a0 hw n0 h173 a159) (w119 hw) (w49 hw) (fun x hx => nomatch hx) rfl (Nat.le_of_eq rfl) (Nat.le_of_ble_eq_true rfl) (Nat.le_of_ble_eq_true rfl) ⟨rfl, Nat.le_of_ble_eq_true rfl⟩ ⟨rfl, Nat.le_of_ble_eq_true rfl⟩ rfl (fun _ _ q => nomatch q.1) fun T h267 v so W hQ => ?_
                obtain ⟨hv, rfl, -⟩ := hQ
                obtain rfl := Option.some.inj hv
                refine k_ifN W d_code_356 (show ¬ ((1 : Int32) = 0) by decide) ?_
                refine k_aload W d_code_359 rfl rfl ?_
                refine k_aconst W d_code_361 ?_
                refine k_callV W 0 16 108 (argsL := [.null]) (rest := []) (a := a159) (C := "com/example/lean_envelope/leanenvelope/check/ExceededLimit") (z0 := (⟨"com/example/lean_envelope/leanenvelope/check/ExceededLimit", "equals", "(Ljava/lang/Object;)Z"⟩ : MethodName)) (z := (⟨"com/example/lean_envelope/leanenvelope/check/ExceededLimit", "equals", "(Ljava/lang/Object;)Z"⟩ : MethodName)) d_code_362 (w115 hw) (w116 hw) (nfSel (w118 hw)) (w118 hw) (w117 hw) (by decide) (lenOf pd16 rfl) f263 (ct_xeqN l Z a0 hw n0 h173 a159) (w119 hw) (w49 hw) (fun x hx => nomatch hx) rfl (Nat.le_of_eq rfl) (Nat.le_of_ble_eq_true rfl) (Nat.le_of_ble_eq_true rfl) ⟨rfl, Nat.le_of_ble_eq_true rfl⟩ ⟨rfl, Nat.le_of_ble_eq_true rfl⟩ rfl (fun _ _ q => nomatch q.1) fun T h268 v so W hQ => ?_
                obtain ⟨hv, rfl, -⟩ := hQ
                obtain rfl := Option.some.inj hv
                refine k_ifN W d_code_365 (show ¬ (¬ (0 : Int32) = 0) by decide) ?_
                refine k_aload W d_code_368 rfl rfl ?_
                refine k_aload W d_code_370 rfl rfl ?_
                refine k_callV W 0 16 108 (argsL := [(.ref x137)]) (rest := []) (a := a159) (C := "com/example/lean_envelope/leanenvelope/check/ExceededLimit") (z0 := (⟨"com/example/lean_envelope/leanenvelope/check/ExceededLimit", "equals", "(Ljava/lang/Object;)Z"⟩ : MethodName)) (z := (⟨"com/example/lean_envelope/leanenvelope/check/ExceededLimit", "equals", "(Ljava/lang/Object;)Z"⟩ : MethodName)) d_code_372 (w115 hw) (w116 hw) (nfSel (w118 hw)) (w118 hw) (w117 hw) (by decide) (lenOf pd16 rfl) f263 (ct_xeqS l Z a0 hw n0 h173 a159 x137 f263 f256.1) (w119 hw) (w49 hw) (fun x hx => nomatch hx) rfl (Nat.le_of_eq rfl) (Nat.le_of_ble_eq_true rfl) (Nat.le_of_ble_eq_true rfl) ⟨rfl, Nat.le_of_ble_eq_true rfl⟩ ⟨rfl, Nat.le_of_ble_eq_true rfl⟩ rfl (fun _ _ q => nomatch q.1) fun T h269 v so W hQ => ?_
                obtain ⟨hv, rfl, -⟩ := hQ
                obtain rfl := Option.some.inj hv
                refine k_ifN W d_code_375 (show ¬ (¬ (0 : Int32) = 0) by decide) ?_
                refine k_aload W d_code_378 rfl rfl ?_
                refine k_lload W d_code_380 rfl ?_
                have f271 := (Sta.keep (Sta.keep (Sta.keep (Sta.keep (Sta.keep (Sta.keep LS K137 ns0) K139 ns0) K159 ns0) K162 (nsS (Exa.plain X159) ns0)) K168 ns0) K173 (nsS (Exa.plain X168) ns0))
                have ne272 : lc ≠ a159 := (Nat.ne_of_lt (Nat.lt_of_lt_of_le (Nat.lt_of_lt_of_le LV.lt (Nat.le_trans K137.1 K139.1)) (Nat.le_of_eq g159.symm)))
                have ne273 : lc ≠ a168 := (Nat.ne_of_lt (Nat.lt_of_lt_of_le (Nat.lt_of_lt_of_le LV.lt (Nat.le_trans (Nat.le_trans (Nat.le_trans K137.1 K139.1) E159.1) K162.1)) (Nat.le_of_eq g168.symm)))
                have f274 := ((((((LV.keep K137 nin0).keep K139 nin0).keep K159 nin0).keep K162 (ninS ne272 nin0)).keep K168 nin0).keep K173 (ninS ne273 nin0))
                have f275 := ((((((LX.keep K137).keep K139).keep K159).keep K162).keep K168).keep K173)
                refine k_callS W 1 17 109 (argsL := [(.long j141)]) (rest := [(.ref a159)]) d_code_382 (w133 hw) (w134 hw) (by decide) (lenOf pd21 rfl) (ct_lval l Z a0 hw n0 h173 j141 lc lvs f271 f274 f275 hlv) (w136 hw) (w135 hw) (fun x hx => nomatch hx) rfl (Nat.le_of_eq rfl) (Nat.le_of_ble_eq_true rfl) (Nat.le_of_ble_eq_true rfl) ⟨rfl, Nat.le_of_ble_eq_true rfl⟩ ⟨rfl, Nat.le_of_ble_eq_true rfl⟩ rfl (fun _ _ ⟨_, q, _⟩ => nomatch q) fun T h270 v so W hQ => ?_
                obtain ⟨x270, hv, K270, X270⟩ := hQ
                obtain rfl := Option.some.inj hv
                have f276 := (f263.keep K270)
                refine k_callV W 0 17 109 (argsL := [(.ref x270)]) (rest := []) (a := a159) (C := "com/example/lean_envelope/leanenvelope/check/ExceededLimit") (z0 := (⟨"com/example/lean_envelope/leanenvelope/check/ExceededLimit", "equals", "(Ljava/lang/Object;)Z"⟩ : MethodName)) (z := (⟨"com/example/lean_envelope/leanenvelope/check/ExceededLimit", "equals", "(Ljava/lang/Object;)Z"⟩ : MethodName)) d_code_385 (w115 hw) (w116 hw) (nfSel (w118 hw)) (w118 hw) (w117 hw) (by decide) (lenOf pd16 rfl) f276 (ct_xeqL l Z a0 hw n0 h270 a159 x270 f276 X270) (w119 hw) (w49 hw) (fun x hx => nomatch hx) rfl (Nat.le_of_eq rfl) (Nat.le_of_ble_eq_true rfl) (Nat.le_of_ble_eq_true rfl) ⟨rfl, Nat.le_of_ble_eq_true rfl⟩ ⟨rfl, Nat.le_of_ble_eq_true rfl⟩ rfl (fun _ _ q => nomatch q.1) fun T h277 v so W hQ => ?_
                obtain ⟨hv, rfl, -⟩ := hQ
                obtain rfl := Option.some.inj hv
                refine k_ifN W d_code_388 (show ¬ (¬ (0 : Int32) = 0) by decide) ?_
                refine k_iconst W d_code_391 (z := (1 : Int32)) rfl ?_
                refine k_goto W 396 d_code_392 (by decide) ?_
                exact k_retN W (t := .boolean) (z' := (1 : Int32)) d_code_396 rfl (by simp) (by decide) [] (fun x hx => nomatch hx) (Nat.le_of_ble_eq_true rfl) (Nat.le_of_ble_eq_true rfl) rfl
          · -- pc 311
            refine k_aload W d_code_311 rfl rfl ?_
            refine k_aload W d_code_313 rfl rfl ?_
            by_cases hu : u1150 = u2154
            · --
              subst hu
              refine k_acN W d_code_315 rfl rfl (by decide) (fun q => q rfl) ?_
              refine k_iconst W d_code_318 (z := (1 : Int32)) rfl ?_
              refine k_goto W 323 d_code_319 (by decide) ?_
              refine k_istore W d_code_323 (L' := #[.val (.int p0), .val (.int p1), .val (.long q2), .second, .val (.long q3), .second, .val (.long q4), .second, .val (.int p5), .val (.int (1 : Int32)), .val (.int c131), .val (.int ((XT.ushr p0 (8 : Int32)) &&& (255 : Int32))), .val (.int sm), .val (.int (1 : Int32)), .val (.int d0), .val (.int d1), .val (.ref x137), .val (.ref x139), .val (.long j140), .second, .val (.long j141), .second, .val (.long jm142), .second, .val (.long ja145), .second, .val (.ref u1150), .val (.ref u1150), .val (.ref a159), .val (.ref a168), .val (.int (1 : Int32)), .val (.int (1 : Int32))]) rfl ?_
              refine k_aload W d_code_325 rfl rfl ?_
              refine k_aload W d_code_327 rfl rfl ?_
              have f278 := (X168.keep K173)
              have ne279 : a159 ≠ a168 := (Nat.ne_of_lt (Nat.lt_of_lt_of_le G0_162.lt (Nat.le_of_eq g168.symm)))
              have f280 := ((G0_162.keep K168 nin0).keep K173 (ninS ne279 nin0))
              have f281 := ((G1_162.keep K168 nin0).keep K173 (ninS ne279 nin0))
              have f282 := ((G2_162.keep K168 nin0).keep K173 (ninS ne279 nin0))
              have f283 := ((G3_162.keep K168 nin0).keep K173 (ninS ne279 nin0))
              have ne284 : x137 ≠ a159 := (Nat.ne_of_lt (Nat.lt_of_lt_of_le (Nat.lt_of_lt_of_le S137.1.lt K139.1) (Nat.le_of_eq g159.symm)))
              have ne285 : b137 ≠ a159 := (Nat.ne_of_lt (Nat.lt_of_lt_of_le (Nat.lt_of_lt_of_le S137.2.2.2.lt K139.1) (Nat.le_of_eq g159.symm)))
              have ne286 : x137 ≠ a168 := (Nat.ne_of_lt (Nat.lt_of_lt_of_le (Nat.lt_of_lt_of_le f160.1.lt K162.1) (Nat.le_of_eq g168.symm)))
              have ne287 : b137 ≠ a168 := (Nat.ne_of_lt (Nat.lt_of_lt_of_le (Nat.lt_of_lt_of_le f160.2.2.2.lt K162.1) (Nat.le_of_eq g168.symm)))
              have f288 := (((f160.keep K162 (ninS ne284 nin0) (ninS ne285 nin0)).keep K168 nin0 nin0).keep K173 (ninS ne286 nin0) (ninS ne287 nin0))
              have ne289 : x139 ≠ a168 := (Nat.ne_of_lt (Nat.lt_of_lt_of_le (Nat.lt_of_lt_of_le S139.1.lt (Nat.le_trans E159.1 K162.1)) (Nat.le_of_eq g168.symm)))
              have ne290 : b139 ≠ a168 := (Nat.ne_of_lt (Nat.lt_of_lt_of_le (Nat.lt_of_lt_of_le S139.2.2.2.lt (Nat.le_trans E159.1 K162.1)) (Nat.le_of_eq g168.symm)))
              have f291 := (f171.keep K173 (ninS ne289 nin0) (ninS ne290 nin0))
              have f292 := (Sta.keep f172 K173 (nsS (Exa.plain X168) ns0))
              have ne294 : x137 ≠ x139 := (Nat.ne_of_lt (Nat.lt_of_lt_of_le S137.1.lt gx139))
              have f295 := (((X159.keep K162).keep K168).keep K173)
              refine k_callV W 0 16 108 (argsL := [(.ref a168)]) (rest := []) (a := a159) (C := "com/example/lean_envelope/leanenvelope/check/ExceededLimit") (z0 := (⟨"com/example/lean_envelope/leanenvelope/check/ExceededLimit", "equals", "(Ljava/lang/Object;)Z"⟩ : MethodName)) (z := (⟨"com/example/lean_envelope/leanenvelope/check/ExceededLimit", "equals", "(Ljava/lang/Object;)Z"⟩ : MethodName)) d_code_329 (w115 hw) (w116 hw) (nfSel (w118 hw)) (w118 hw) (w117 hw) (by decide) (lenOf pd16 rfl) f295 (ct_xeq l Z a0 hw n0 h173 a159 a168 x137 b137 x139 b139 u1150 u1150 [(i2b c131)] [(i2b d0)] j141 ja145 j140 jm142 zc ne279 ne294 f295 f280 f281 f282 f283 f278 G0_173 G1_173 G2_173 G3_173 f288 f291 f292 hzc) (w119 hw) (w49 hw) (fun x hx => nomatch hx) rfl (Nat.le_of_eq rfl) (Nat.le_of_ble_eq_true rfl) (Nat.le_of_ble_eq_true rfl) ⟨rfl, Nat.le_of_ble_eq_true rfl⟩ ⟨rfl, Nat.le_of_ble_eq_true rfl⟩ rfl (fun _ _ q => by rcases q.1 with ⟨_, u⟩ | ⟨_, u⟩ <;> cases u) fun T h296 v so W hQ => ?_
              obtain ⟨hQ, rfl⟩ := hQ
              rcases hQ with ⟨hP293, hv⟩ | ⟨hP293, hv⟩
              · --
                obtain rfl := Option.some.inj hv
                refine k_iload W d_code_332 rfl ?_
                refine k_icN W d_code_334 (show ¬ (¬ (1 : Int32) = (1 : Int32)) by decide) ?_
                refine k_aload W d_code_337 rfl rfl ?_
                refine k_aload W d_code_339 rfl rfl ?_
                refine k_callV W 0 16 108 (argsL := [(.ref a159)]) (rest := []) (a := a168) (C := "com/example/lean_envelope/leanenvelope/check/ExceededLimit") (z0 := (⟨"com/example/lean_envelope/leanenvelope/check/ExceededLimit", "equals", "(Ljava/lang/Object;)Z"⟩ : MethodName)) (z := (⟨"com/example/lean_envelope/leanenvelope/check/ExceededLimit", "equals", "(Ljava/lang/Object;)Z"⟩ : MethodName)) d_code_341 (w115 hw) (w116 hw) (nfSel (w118 hw)) (w118 hw) (w117 hw) (by decide) (lenOf pd16 rfl) f278 (ct_xeq l Z a0 hw n0 h173 a168 a159 x139 b139 x137 b137 u1150 u1150 [(i2b d0)] [(i2b c131)] ja145 j141 jm142 j140 zc (Ne.symm ne279) (Ne.symm ne294) f278 G0_173 G1_173 G2_173 G3_173 f295 f280 f281 f282 f283 f291 f288 f292 hzc) (w119 hw) (w49 hw) (fun x hx => nomatch hx) rfl (Nat.le_of_eq rfl) (Nat.le_of_ble_eq_true rfl) (Nat.le_of_ble_eq_true rfl) ⟨rfl, Nat.le_of_ble_eq_true rfl⟩ ⟨rfl, Nat.le_of_ble_eq_true rfl⟩ rfl (fun _ _ q => by rcases q.1 with ⟨_, u⟩ | ⟨_, u⟩ <;> cases u) fun T h298 v so W hQ => ?_
                obtain ⟨hQ, rfl⟩ := hQ
                rcases hQ with ⟨hP297, hv⟩ | ⟨hP297, hv⟩
                · --
                  obtain rfl := Option.some.inj hv
                  refine k_iload W d_code_344 rfl ?_
                  refine k_icN W d_code_346 (show ¬ (¬ (1 : Int32) = (1 : Int32)) by decide) ?_
                  refine k_aload W d_code_349 rfl rfl ?_
                  refine k_aload W d_code_351 rfl rfl ?_
                  refine k_callV W 0 16 108 (argsL := [(.ref a159)]) (rest := []) (a := a159) (C := "com/example/lean_envelope/leanenvelope/check/ExceededLimit") (z0 := (⟨"com/example/lean_envelope/leanenvelope/check/ExceededLimit", "equals", "(Ljava/lang/Object;)Z"⟩ : MethodName)) (z := (⟨"com/example/lean_envelope/leanenvelope/check/ExceededLimit", "equals", "(Ljava/lang/Object;)Z"⟩ : MethodName)) d_code_353 (w115 hw) (w116 hw) (nfSel (w118 hw)) (w118 hw) (w117 hw) (by decide) (lenOf pd16 rfl) f295 (ct_xeqI l Z a0 hw n0 h173 a159) (w119 hw) (w49 hw) (fun x hx => nomatch hx) rfl (Nat.le_of_eq rfl) (Nat.le_of_ble_eq_true rfl) (Nat.le_of_ble_eq_true rfl) ⟨rfl, Nat.le_of_ble_eq_true rfl⟩ ⟨rfl, Nat.le_of_ble_eq_true rfl⟩ rfl (fun _ _ q => nomatch q.1) fun T h299 v so W hQ => ?_
                  obtain ⟨hv, rfl, -⟩ := hQ
                  obtain rfl := Option.some.inj hv
                  refine k_ifN W d_code_356 (show ¬ ((1 : Int32) = 0) by decide) ?_
                  refine k_aload W d_code_359 rfl rfl ?_
                  refine k_aconst W d_code_361 ?_
                  refine k_callV W 0 16 108 (argsL := [.null]) (rest := []) (a := a159) (C := "com/example/lean_envelope/leanenvelope/check/ExceededLimit") (z0 := (⟨"com/example/lean_envelope/leanenvelope/check/ExceededLimit", "equals", "(Ljava/lang/Object;)Z"⟩ : MethodName)) (z := (⟨"com/example/lean_envelope/leanenvelope/check/ExceededLimit", "equals", "(Ljava/lang/Object;)Z"⟩ : MethodName)) d_code_362 (w115 hw) (w116 hw) (nfSel (w118 hw)) (w118 hw) (w117 hw) (by decide) (lenOf pd16 rfl) f295 (ct_xeqN l Z a0 hw n0 h173 a159) (w119 hw) (w49 hw) (fun x hx => nomatch hx) rfl (Nat.le_of_eq rfl) (Nat.le_of_ble_eq_true rfl) (Nat.le_of_ble_eq_true rfl) ⟨rfl, Nat.le_of_ble_eq_true rfl⟩ ⟨rfl, Nat.le_of_ble_eq_true rfl⟩ rfl (fun _ _ q => nomatch q.1) fun T h300 v so W hQ => ?_
                  obtain ⟨hv, rfl, -⟩ := hQ
                  obtain rfl := Option.some.inj hv
                  refine k_ifN W d_code_365 (show ¬ (¬ (0 : Int32) = 0) by decide) ?_
                  refine k_aload W d_code_368 rfl rfl ?_
                  refine k_aload W d_code_370 rfl rfl ?_
                  refine k_callV W 0 16 108 (argsL := [(.ref x137)]) (rest := []) (a := a159) (C := "com/example/lean_envelope/leanenvelope/check/ExceededLimit") (z0 := (⟨"com/example/lean_envelope/leanenvelope/check/ExceededLimit", "equals", "(Ljava/lang/Object;)Z"⟩ : MethodName)) (z := (⟨"com/example/lean_envelope/leanenvelope/check/ExceededLimit", "equals", "(Ljava/lang/Object;)Z"⟩ : MethodName)) d_code_372 (w115 hw) (w116 hw) (nfSel (w118 hw)) (w118 hw) (w117 hw) (by decide) (lenOf pd16 rfl) f295 (ct_xeqS l Z a0 hw n0 h173 a159 x137 f295 f288.1) (w119 hw) (w49 hw) (fun x hx => nomatch hx) rfl (Nat.le_of_eq rfl) (Nat.le_of_ble_eq_true rfl) (Nat.le_of_ble_eq_true rfl) ⟨rfl, Nat.le_of_ble_eq_true rfl⟩ ⟨rfl, Nat.le_of_ble_eq_true rfl⟩ rfl (fun _ _ q => nomatch q.1) fun T h301 v so W hQ => ?_
                  obtain ⟨hv, rfl, -⟩ := hQ
                  obtain rfl := Option.some.inj hv
                  refine k_ifN W d_code_375 (show ¬ (¬ (0 : Int32) = 0) by decide) ?_
                  refine k_aload W d_code_378 rfl rfl ?_
                  refine k_lload W d_code_380 rfl ?_
                  have f303 := (Sta.keep (Sta.keep (Sta.keep (Sta.keep (Sta.keep (Sta.keep LS K137 ns0) K139 ns0) K159 ns0) K162 (nsS (Exa.plain X159) ns0)) K168 ns0) K173 (nsS (Exa.plain X168) ns0))
                  have ne304 : lc ≠ a159 := (Nat.ne_of_lt (Nat.lt_of_lt_of_le (Nat.lt_of_lt_of_le LV.lt (Nat.le_trans K137.1 K139.1)) (Nat.le_of_eq g159.symm)))
                  have ne305 : lc ≠ a168 := (Nat.ne_of_lt (Nat.lt_of_lt_of_le (Nat.lt_of_lt_of_le LV.lt (Nat.le_trans (Nat.le_trans (Nat.le_trans K137.1 K139.1) E159.1) K162.1)) (Nat.le_of_eq g168.symm)))
                  have f306 := ((((((LV.keep K137 nin0).keep K139 nin0).keep K159 nin0).keep K162 (ninS ne304 nin0)).keep K168 nin0).keep K173 (ninS ne305 nin0))
                  have f307 := ((((((LX.keep K137).keep K139).keep K159).keep K162).keep K168).keep K173)
                  refine k_callS W 1 17 109 (argsL := [(.long j141)]) (rest := [(.ref a159)]) d_code_382 (w133 hw) (w134 hw) (by decide) (lenOf pd21 rfl) (ct_lval l Z a0 hw n0 h173 j141 lc lvs f303 f306 f307 hlv) (w136 hw) (w135 hw) (fun x hx => nomatch hx) rfl (Nat.le_of_eq rfl) (Nat.le_of_ble_eq_true rfl) (Nat.le_of_ble_eq_true rfl) ⟨rfl, Nat.le_of_ble_eq_true rfl⟩ ⟨rfl, Nat.le_of_ble_eq_true rfl⟩ rfl (fun _ _ ⟨_, q, _⟩ => nomatch q) fun T h302 v so W hQ => ?_
                  obtain ⟨x302, hv, K302, X302⟩ := hQ
                  obtain rfl := Option.some.inj hv
                  have f308 := (f295.keep K302)
                  refine k_callV W 0 17 109 (argsL := [(.ref x302)]) (rest := []) (a := a159) (C := "com/example/lean_envelope/leanenvelope/check/ExceededLimit") (z0 := (⟨"com/example/lean_envelope/leanenvelope/check/ExceededLimit", "equals", "(Ljava/lang/Object;)Z"⟩ : MethodName)) (z := (⟨"com/example/lean_envelope/leanenvelope/check/ExceededLimit", "equals", "(Ljava/lang/Object;)Z"⟩ : MethodName)) d_code_385 (w115 hw) (w116 hw) (nfSel (w118 hw)) (w118 hw) (w117 hw) (by decide) (lenOf pd16 rfl) f308 (ct_xeqL l Z a0 hw n0 h302 a159 x302 f308 X302) (w119 hw) (w49 hw) (fun x hx => nomatch hx) rfl (Nat.le_of_eq rfl) (Nat.le_of_ble_eq_true rfl) (Nat.le_of_ble_eq_true rfl) ⟨rfl, Nat.le_of_ble_eq_true rfl⟩ ⟨rfl, Nat.le_of_ble_eq_true rfl⟩ rfl (fun _ _ q => nomatch q.1) fun T h309 v so W hQ => ?_
                  obtain ⟨hv, rfl, -⟩ := hQ
                  obtain rfl := Option.some.inj hv
                  refine k_ifN W d_code_388 (show ¬ (¬ (0 : Int32) = 0) by decide) ?_
                  refine k_iconst W d_code_391 (z := (1 : Int32)) rfl ?_
                  refine k_goto W 396 d_code_392 (by decide) ?_
                  exact k_retN W (t := .boolean) (z' := (1 : Int32)) d_code_396 rfl (by simp) (by decide) [] (fun x hx => nomatch hx) (Nat.le_of_ble_eq_true rfl) (Nat.le_of_ble_eq_true rfl) rfl
                · --
                  exact absurd ⟨by rw [Classical.not_not.mp hc179], (cmpL_eq.mp (Classical.not_not.mp hc212)).symm, (cmpL_eq.mp (Classical.not_not.mp hc245)).symm, rfl⟩ hP297
              · --
                exact absurd ⟨by rw [Classical.not_not.mp hc179], cmpL_eq.mp (Classical.not_not.mp hc212), cmpL_eq.mp (Classical.not_not.mp hc245), rfl⟩ hP293
            · --
              refine k_acY W 322 d_code_315 rfl rfl (by decide) (fun q => hu (Value.ref.inj q)) ?_
              refine k_iconst W d_code_322 (z := (0 : Int32)) rfl ?_
              refine k_istore W d_code_323 (L' := #[.val (.int p0), .val (.int p1), .val (.long q2), .second, .val (.long q3), .second, .val (.long q4), .second, .val (.int p5), .val (.int (1 : Int32)), .val (.int c131), .val (.int ((XT.ushr p0 (8 : Int32)) &&& (255 : Int32))), .val (.int sm), .val (.int (1 : Int32)), .val (.int d0), .val (.int d1), .val (.ref x137), .val (.ref x139), .val (.long j140), .second, .val (.long j141), .second, .val (.long jm142), .second, .val (.long ja145), .second, .val (.ref u1150), .val (.ref u2154), .val (.ref a159), .val (.ref a168), .val (.int (1 : Int32)), .val (.int (0 : Int32))]) rfl ?_
              refine k_aload W d_code_325 rfl rfl ?_
              refine k_aload W d_code_327 rfl rfl ?_
              have f310 := (X168.keep K173)
              have ne311 : a159 ≠ a168 := (Nat.ne_of_lt (Nat.lt_of_lt_of_le G0_162.lt (Nat.le_of_eq g168.symm)))
              have f312 := ((G0_162.keep K168 nin0).keep K173 (ninS ne311 nin0))
              have f313 := ((G1_162.keep K168 nin0).keep K173 (ninS ne311 nin0))
              have f314 := ((G2_162.keep K168 nin0).keep K173 (ninS ne311 nin0))
              have f315 := ((G3_162.keep K168 nin0).keep K173 (ninS ne311 nin0))
              have ne316 : x137 ≠ a159 := (Nat.ne_of_lt (Nat.lt_of_lt_of_le (Nat.lt_of_lt_of_le S137.1.lt K139.1) (Nat.le_of_eq g159.symm)))
              have ne317 : b137 ≠ a159 := (Nat.ne_of_lt (Nat.lt_of_lt_of_le (Nat.lt_of_lt_of_le S137.2.2.2.lt K139.1) (Nat.le_of_eq g159.symm)))
              have ne318 : x137 ≠ a168 := (Nat.ne_of_lt (Nat.lt_of_lt_of_le (Nat.lt_of_lt_of_le f160.1.lt K162.1) (Nat.le_of_eq g168.symm)))
              have ne319 : b137 ≠ a168 := (Nat.ne_of_lt (Nat.lt_of_lt_of_le (Nat.lt_of_lt_of_le f160.2.2.2.lt K162.1) (Nat.le_of_eq g168.symm)))
              have f320 := (((f160.keep K162 (ninS ne316 nin0) (ninS ne317 nin0)).keep K168 nin0 nin0).keep K173 (ninS ne318 nin0) (ninS ne319 nin0))
              have ne321 : x139 ≠ a168 := (Nat.ne_of_lt (Nat.lt_of_lt_of_le (Nat.lt_of_lt_of_le S139.1.lt (Nat.le_trans E159.1 K162.1)) (Nat.le_of_eq g168.symm)))
              have ne322 : b139 ≠ a168 := (Nat.ne_of_lt (Nat.lt_of_lt_of_le (Nat.lt_of_lt_of_le S139.2.2.2.lt (Nat.le_trans E159.1 K162.1)) (Nat.le_of_eq g168.symm)))
              have f323 := (f171.keep K173 (ninS ne321 nin0) (ninS ne322 nin0))
              have f324 := (Sta.keep f172 K173 (nsS (Exa.plain X168) ns0))
              have ne326 : x137 ≠ x139 := (Nat.ne_of_lt (Nat.lt_of_lt_of_le S137.1.lt gx139))
              have f327 := (((X159.keep K162).keep K168).keep K173)
              refine k_callV W 0 16 108 (argsL := [(.ref a168)]) (rest := []) (a := a159) (C := "com/example/lean_envelope/leanenvelope/check/ExceededLimit") (z0 := (⟨"com/example/lean_envelope/leanenvelope/check/ExceededLimit", "equals", "(Ljava/lang/Object;)Z"⟩ : MethodName)) (z := (⟨"com/example/lean_envelope/leanenvelope/check/ExceededLimit", "equals", "(Ljava/lang/Object;)Z"⟩ : MethodName)) d_code_329 (w115 hw) (w116 hw) (nfSel (w118 hw)) (w118 hw) (w117 hw) (by decide) (lenOf pd16 rfl) f327 (ct_xeq l Z a0 hw n0 h173 a159 a168 x137 b137 x139 b139 u1150 u2154 [(i2b c131)] [(i2b d0)] j141 ja145 j140 jm142 zc ne311 ne326 f327 f312 f313 f314 f315 f310 G0_173 G1_173 G2_173 G3_173 f320 f323 f324 hzc) (w119 hw) (w49 hw) (fun x hx => nomatch hx) rfl (Nat.le_of_eq rfl) (Nat.le_of_ble_eq_true rfl) (Nat.le_of_ble_eq_true rfl) ⟨rfl, Nat.le_of_ble_eq_true rfl⟩ ⟨rfl, Nat.le_of_ble_eq_true rfl⟩ rfl (fun _ _ q => by rcases q.1 with ⟨_, u⟩ | ⟨_, u⟩ <;> cases u) fun T h328 v so W hQ => ?_
              obtain ⟨hQ, rfl⟩ := hQ
              rcases hQ with ⟨hP325, hv⟩ | ⟨hP325, hv⟩
              · --
                obtain ⟨e1, e2, e3, e4⟩ := hP325
                exact absurd e4 hu
              · --
                obtain rfl := Option.some.inj hv
                refine k_iload W d_code_332 rfl ?_
                refine k_icN W d_code_334 (show ¬ (¬ (0 : Int32) = (0 : Int32)) by decide) ?_
                refine k_aload W d_code_337 rfl rfl ?_
                refine k_aload W d_code_339 rfl rfl ?_
                refine k_callV W 0 16 108 (argsL := [(.ref a159)]) (rest := []) (a := a168) (C := "com/example/lean_envelope/leanenvelope/check/ExceededLimit") (z0 := (⟨"com/example/lean_envelope/leanenvelope/check/ExceededLimit", "equals", "(Ljava/lang/Object;)Z"⟩ : MethodName)) (z := (⟨"com/example/lean_envelope/leanenvelope/check/ExceededLimit", "equals", "(Ljava/lang/Object;)Z"⟩ : MethodName)) d_code_341 (w115 hw) (w116 hw) (nfSel (w118 hw)) (w118 hw) (w117 hw) (by decide) (lenOf pd16 rfl) f310 (ct_xeq l Z a0 hw n0 h173 a168 a159 x139 b139 x137 b137 u2154 u1150 [(i2b d0)] [(i2b c131)] ja145 j141 jm142 j140 zc (Ne.symm ne311) (Ne.symm ne326) f310 G0_173 G1_173 G2_173 G3_173 f327 f312 f313 f314 f315 f323 f320 f324 hzc) (w119 hw) (w49 hw) (fun x hx => nomatch hx) rfl (Nat.le_of_eq rfl) (Nat.le_of_ble_eq_true rfl) (Nat.le_of_ble_eq_true rfl) ⟨rfl, Nat.le_of_ble_eq_true rfl⟩ ⟨rfl, Nat.le_of_ble_eq_true rfl⟩ rfl (fun _ _ q => by rcases q.1 with ⟨_, u⟩ | ⟨_, u⟩ <;> cases u) fun T h330 v so W hQ => ?_
                obtain ⟨hQ, rfl⟩ := hQ
                rcases hQ with ⟨hP329, hv⟩ | ⟨hP329, hv⟩
                · --
                  obtain ⟨e1, e2, e3, e4⟩ := hP329
                  exact absurd e4.symm hu
                · --
                  obtain rfl := Option.some.inj hv
                  refine k_iload W d_code_344 rfl ?_
                  refine k_icN W d_code_346 (show ¬ (¬ (0 : Int32) = (0 : Int32)) by decide) ?_
                  refine k_aload W d_code_349 rfl rfl ?_
                  refine k_aload W d_code_351 rfl rfl ?_
                  refine k_callV W 0 16 108 (argsL := [(.ref a159)]) (rest := []) (a := a159) (C := "com/example/lean_envelope/leanenvelope/check/ExceededLimit") (z0 := (⟨"com/example/lean_envelope/leanenvelope/check/ExceededLimit", "equals", "(Ljava/lang/Object;)Z"⟩ : MethodName)) (z := (⟨"com/example/lean_envelope/leanenvelope/check/ExceededLimit", "equals", "(Ljava/lang/Object;)Z"⟩ : MethodName)) d_code_353 (w115 hw) (w116 hw) (nfSel (w118 hw)) (w118 hw) (w117 hw) (by decide) (lenOf pd16 rfl) f327 (ct_xeqI l Z a0 hw n0 h173 a159) (w119 hw) (w49 hw) (fun x hx => nomatch hx) rfl (Nat.le_of_eq rfl) (Nat.le_of_ble_eq_true rfl) (Nat.le_of_ble_eq_true rfl) ⟨rfl, Nat.le_of_ble_eq_true rfl⟩ ⟨rfl, Nat.le_of_ble_eq_true rfl⟩ rfl (fun _ _ q => nomatch q.1) fun T h331 v so W hQ => ?_
                  obtain ⟨hv, rfl, -⟩ := hQ
                  obtain rfl := Option.some.inj hv
                  refine k_ifN W d_code_356 (show ¬ ((1 : Int32) = 0) by decide) ?_
                  refine k_aload W d_code_359 rfl rfl ?_
                  refine k_aconst W d_code_361 ?_
                  refine k_callV W 0 16 108 (argsL := [.null]) (rest := []) (a := a159) (C := "com/example/lean_envelope/leanenvelope/check/ExceededLimit") (z0 := (⟨"com/example/lean_envelope/leanenvelope/check/ExceededLimit", "equals", "(Ljava/lang/Object;)Z"⟩ : MethodName)) (z := (⟨"com/example/lean_envelope/leanenvelope/check/ExceededLimit", "equals", "(Ljava/lang/Object;)Z"⟩ : MethodName)) d_code_362 (w115 hw) (w116 hw) (nfSel (w118 hw)) (w118 hw) (w117 hw) (by decide) (lenOf pd16 rfl) f327 (ct_xeqN l Z a0 hw n0 h173 a159) (w119 hw) (w49 hw) (fun x hx => nomatch hx) rfl (Nat.le_of_eq rfl) (Nat.le_of_ble_eq_true rfl) (Nat.le_of_ble_eq_true rfl) ⟨rfl, Nat.le_of_ble_eq_true rfl⟩ ⟨rfl, Nat.le_of_ble_eq_true rfl⟩ rfl (fun _ _ q => nomatch q.1) fun T h332 v so W hQ => ?_
                  obtain ⟨hv, rfl, -⟩ := hQ
                  obtain rfl := Option.some.inj hv
                  refine k_ifN W d_code_365 (show ¬ (¬ (0 : Int32) = 0) by decide) ?_
                  refine k_aload W d_code_368 rfl rfl ?_
                  refine k_aload W d_code_370 rfl rfl ?_
                  refine k_callV W 0 16 108 (argsL := [(.ref x137)]) (rest := []) (a := a159) (C := "com/example/lean_envelope/leanenvelope/check/ExceededLimit") (z0 := (⟨"com/example/lean_envelope/leanenvelope/check/ExceededLimit", "equals", "(Ljava/lang/Object;)Z"⟩ : MethodName)) (z := (⟨"com/example/lean_envelope/leanenvelope/check/ExceededLimit", "equals", "(Ljava/lang/Object;)Z"⟩ : MethodName)) d_code_372 (w115 hw) (w116 hw) (nfSel (w118 hw)) (w118 hw) (w117 hw) (by decide) (lenOf pd16 rfl) f327 (ct_xeqS l Z a0 hw n0 h173 a159 x137 f327 f320.1) (w119 hw) (w49 hw) (fun x hx => nomatch hx) rfl (Nat.le_of_eq rfl) (Nat.le_of_ble_eq_true rfl) (Nat.le_of_ble_eq_true rfl) ⟨rfl, Nat.le_of_ble_eq_true rfl⟩ ⟨rfl, Nat.le_of_ble_eq_true rfl⟩ rfl (fun _ _ q => nomatch q.1) fun T h333 v so W hQ => ?_
                  obtain ⟨hv, rfl, -⟩ := hQ
                  obtain rfl := Option.some.inj hv
                  refine k_ifN W d_code_375 (show ¬ (¬ (0 : Int32) = 0) by decide) ?_
                  refine k_aload W d_code_378 rfl rfl ?_
                  refine k_lload W d_code_380 rfl ?_
                  have f335 := (Sta.keep (Sta.keep (Sta.keep (Sta.keep (Sta.keep (Sta.keep LS K137 ns0) K139 ns0) K159 ns0) K162 (nsS (Exa.plain X159) ns0)) K168 ns0) K173 (nsS (Exa.plain X168) ns0))
                  have ne336 : lc ≠ a159 := (Nat.ne_of_lt (Nat.lt_of_lt_of_le (Nat.lt_of_lt_of_le LV.lt (Nat.le_trans K137.1 K139.1)) (Nat.le_of_eq g159.symm)))
                  have ne337 : lc ≠ a168 := (Nat.ne_of_lt (Nat.lt_of_lt_of_le (Nat.lt_of_lt_of_le LV.lt (Nat.le_trans (Nat.le_trans (Nat.le_trans K137.1 K139.1) E159.1) K162.1)) (Nat.le_of_eq g168.symm)))
                  have f338 := ((((((LV.keep K137 nin0).keep K139 nin0).keep K159 nin0).keep K162 (ninS ne336 nin0)).keep K168 nin0).keep K173 (ninS ne337 nin0))
                  have f339 := ((((((LX.keep K137).keep K139).keep K159).keep K162).keep K168).keep K173)
                  refine k_callS W 1 17 109 (argsL := [(.long j141)]) (rest := [(.ref a159)]) d_code_382 (w133 hw) (w134 hw) (by decide) (lenOf pd21 rfl) (ct_lval l Z a0 hw n0 h173 j141 lc lvs f335 f338 f339 hlv) (w136 hw) (w135 hw) (fun x hx => nomatch hx) rfl (Nat.le_of_eq rfl) (Nat.le_of_ble_eq_true rfl) (Nat.le_of_ble_eq_true rfl) ⟨rfl, Nat.le_of_ble_eq_true rfl⟩ ⟨rfl, Nat.le_of_ble_eq_true rfl⟩ rfl (fun _ _ ⟨_, q, _⟩ => nomatch q) fun T h334 v so W hQ => ?_
                  obtain ⟨x334, hv, K334, X334⟩ := hQ
                  obtain rfl := Option.some.inj hv
                  have f340 := (f327.keep K334)
                  refine k_callV W 0 17 109 (argsL := [(.ref x334)]) (rest := []) (a := a159) (C := "com/example/lean_envelope/leanenvelope/check/ExceededLimit") (z0 := (⟨"com/example/lean_envelope/leanenvelope/check/ExceededLimit", "equals", "(Ljava/lang/Object;)Z"⟩ : MethodName)) (z := (⟨"com/example/lean_envelope/leanenvelope/check/ExceededLimit", "equals", "(Ljava/lang/Object;)Z"⟩ : MethodName)) d_code_385 (w115 hw) (w116 hw) (nfSel (w118 hw)) (w118 hw) (w117 hw) (by decide) (lenOf pd16 rfl) f340 (ct_xeqL l Z a0 hw n0 h334 a159 x334 f340 X334) (w119 hw) (w49 hw) (fun x hx => nomatch hx) rfl (Nat.le_of_eq rfl) (Nat.le_of_ble_eq_true rfl) (Nat.le_of_ble_eq_true rfl) ⟨rfl, Nat.le_of_ble_eq_true rfl⟩ ⟨rfl, Nat.le_of_ble_eq_true rfl⟩ rfl (fun _ _ q => nomatch q.1) fun T h341 v so W hQ => ?_
                  obtain ⟨hv, rfl, -⟩ := hQ
                  obtain rfl := Option.some.inj hv
                  refine k_ifN W d_code_388 (show ¬ (¬ (0 : Int32) = 0) by decide) ?_
                  refine k_iconst W d_code_391 (z := (1 : Int32)) rfl ?_
                  refine k_goto W 396 d_code_392 (by decide) ?_
                  exact k_retN W (t := .boolean) (z' := (1 : Int32)) d_code_396 rfl (by simp) (by decide) [] (fun x hx => nomatch hx) (Nat.le_of_ble_eq_true rfl) (Nat.le_of_ble_eq_true rfl) rfl
    · --
      refine k_iload W d_code_96 rfl ?_
      refine k_iload W d_code_98 rfl ?_
      refine k_iload W d_code_100 rfl ?_
      refine k_callS W 0 3 6 (argsL := [(.int (1 : Int32)), (.int c131), (.int ((XT.ushr p0 (8 : Int32)) &&& (255 : Int32)))]) (rest := []) d_code_102 (w4 hw) (w5 hw) (by decide) (lenOf pd17 rfl) (ct_mk1 l Z a0 hw n0 h0 c131 ((XT.ushr p0 (8 : Int32)) &&& (255 : Int32)) zc r131.1 (Rg.and (n := 256) (XT.ushr p0 (8 : Int32)) (255 : Int32) (by decide)) P0 hzc) (w6 hw) (w2 hw) (fun x hx => hx) rfl (Nat.le_of_eq rfl) (Nat.le_of_ble_eq_true rfl) (Nat.le_of_ble_eq_true rfl) ⟨rfl, Nat.le_of_ble_eq_true rfl⟩ ⟨rfl, Nat.le_of_ble_eq_true rfl⟩ rfl (fun _ _ ⟨_, _, q, _⟩ => nomatch q) fun T h342 v so W hQ => ?_
      obtain ⟨x342, b342, hv, gx342, gb342, K342, S342⟩ := hQ
      obtain rfl := Option.some.inj hv
      refine k_astore W d_code_105 rfl (L' := #[.val (.int p0), .val (.int p1), .val (.long q2), .second, .val (.long q3), .second, .val (.long q4), .second, .val (.int p5), .val (.int (1 : Int32)), .val (.int c131), .val (.int ((XT.ushr p0 (8 : Int32)) &&& (255 : Int32))), .val (.int sm), .val (.int (2 : Int32)), .val (.int d0), .val (.int d1), .val (.ref x342), .unset, .unset, .unset, .unset, .unset, .unset, .unset, .unset, .unset, .unset, .unset, .unset, .unset, .unset, .unset]) rfl ?_
      refine k_iload W d_code_107 rfl ?_
      refine k_iload W d_code_109 rfl ?_
      refine k_iload W d_code_111 rfl ?_
      have f343 := (Sta.keep P0 K342 ns0)
      refine k_callS W 0 6 14 (argsL := [(.int (2 : Int32)), (.int d0), (.int d1)]) (rest := []) d_code_113 (w4 hw) (w5 hw) (by decide) (lenOf pd17 rfl) (ct_mk2 l Z a0 hw n0 h342 d0 d1 zc rd0.1 rd1 f343 hzc) (w6 hw) (w2 hw) (fun x hx => hx) rfl (Nat.le_of_eq rfl) (Nat.le_of_ble_eq_true rfl) (Nat.le_of_ble_eq_true rfl) ⟨rfl, Nat.le_of_ble_eq_true rfl⟩ ⟨rfl, Nat.le_of_ble_eq_true rfl⟩ rfl (fun _ _ ⟨_, _, q, _⟩ => nomatch q) fun T h344 v so W hQ => ?_
      obtain ⟨x344, b344, hv, gx344, gb344, K344, S344⟩ := hQ
      obtain rfl := Option.some.inj hv
      refine k_astore W d_code_116 rfl (L' := #[.val (.int p0), .val (.int p1), .val (.long q2), .second, .val (.long q3), .second, .val (.long q4), .second, .val (.int p5), .val (.int (1 : Int32)), .val (.int c131), .val (.int ((XT.ushr p0 (8 : Int32)) &&& (255 : Int32))), .val (.int sm), .val (.int (2 : Int32)), .val (.int d0), .val (.int d1), .val (.ref x342), .val (.ref x344), .unset, .unset, .unset, .unset, .unset, .unset, .unset, .unset, .unset, .unset, .unset, .unset, .unset, .unset]) rfl ?_
      refine k_lloadN W d_code_118 rfl ?_
      refine k_callS W 0 6 14 (argsL := [(.long q2)]) (rest := []) d_code_119 (w37 hw) (w38 hw) (by decide) (lenOf pd18 rfl) (ct_mx l Z a0 hw n0 h344 q2) (w39 hw) (w2 hw) (fun x hx => hx) rfl (Nat.le_of_eq rfl) (Nat.le_of_ble_eq_true rfl) (Nat.le_of_ble_eq_true rfl) ⟨rfl, Nat.le_of_ble_eq_true rfl⟩ ⟨rfl, Nat.le_of_ble_eq_true rfl⟩ rfl (fun _ _ ⟨_, q, _⟩ => nomatch q) fun T h345 v so W hQ => ?_
      obtain ⟨j345, hv, r345, rfl⟩ := hQ
      obtain rfl := Option.some.inj hv
      refine k_lstore W d_code_122 (L' := #[.val (.int p0), .val (.int p1), .val (.long q2), .second, .val (.long q3), .second, .val (.long q4), .second, .val (.int p5), .val (.int (1 : Int32)), .val (.int c131), .val (.int ((XT.ushr p0 (8 : Int32)) &&& (255 : Int32))), .val (.int sm), .val (.int (2 : Int32)), .val (.int d0), .val (.int d1), .val (.ref x342), .val (.ref x344), .val (.long j345), .second, .unset, .unset, .unset, .unset, .unset, .unset, .unset, .unset, .unset, .unset, .unset, .unset]) rfl ?_
      refine k_lload W d_code_124 rfl ?_
      refine k_lload W d_code_126 rfl ?_
      refine k_callS W 0 6 14 (argsL := [(.long j345), (.long q3)]) (rest := []) d_code_128 (w41 hw) (w42 hw) (by decide) (lenOf pd19 rfl) (ct_ac l Z a0 hw n0 h344 j345 q3 r345) (w43 hw) (w2 hw) (fun x hx => hx) rfl (Nat.le_of_eq rfl) (Nat.le_of_ble_eq_true rfl) (Nat.le_of_ble_eq_true rfl) ⟨rfl, Nat.le_of_ble_eq_true rfl⟩ ⟨rfl, Nat.le_of_ble_eq_true rfl⟩ rfl (fun _ _ ⟨_, q, _⟩ => nomatch q) fun T h346 v so W hQ => ?_
      obtain ⟨j346, hv, r346, rfl⟩ := hQ
      obtain rfl := Option.some.inj hv
      refine k_lstore W d_code_131 (L' := #[.val (.int p0), .val (.int p1), .val (.long q2), .second, .val (.long q3), .second, .val (.long q4), .second, .val (.int p5), .val (.int (1 : Int32)), .val (.int c131), .val (.int ((XT.ushr p0 (8 : Int32)) &&& (255 : Int32))), .val (.int sm), .val (.int (2 : Int32)), .val (.int d0), .val (.int d1), .val (.ref x342), .val (.ref x344), .val (.long j345), .second, .val (.long j346), .second, .unset, .unset, .unset, .unset, .unset, .unset, .unset, .unset, .unset, .unset]) rfl ?_
      refine k_iload W d_code_133 rfl ?_
      refine k_iconst W d_code_135 (z := (2 : Int32)) rfl ?_
      refine k_iand W d_code_136 (z := (p5 &&& (2 : Int32))) rfl ?_
      suffices hJjm347 : ∀ (T : State) (jm347 : Int64), WS p l e room_1 s m #[(.int p0), (.int p1), (.long q2), (.long q3), (.long q4), (.int p5)] below meth c Z a0 own_EL false n0 x code maxLocals ret T h344 [] 6 14 → own_OK jm347 → WP p e below (Fne s n0 Z own_EL false room_1 (fun v h so => v = some (.int 1))) T (mkF m 150 #[.val (.int p0), .val (.int p1), .val (.long q2), .second, .val (.long q3), .second, .val (.long q4), .second, .val (.int p5), .val (.int (1 : Int32)), .val (.int c131), .val (.int ((XT.ushr p0 (8 : Int32)) &&& (255 : Int32))), .val (.int sm), .val (.int (2 : Int32)), .val (.int d0), .val (.int d1), .val (.ref x342), .val (.ref x344), .val (.long j345), .second, .val (.long j346), .second, .unset, .unset, .unset, .unset, .unset, .unset, .unset, .unset, .unset, .unset] [(.long jm347)]) by
        refine k_if W 145 d_code_137 (by decide) (fun (hc348 : (p5 &&& (2 : Int32)) = 0) => ?_) (fun (hc348 : ¬ ((p5 &&& (2 : Int32)) = 0)) => ?_)
        · -- pc 145
          refine k_lload W d_code_145 rfl ?_
          refine k_callS W 0 6 14 (argsL := [(.long q4)]) (rest := []) d_code_147 (w37 hw) (w38 hw) (by decide) (lenOf pd18 rfl) (ct_mx l Z a0 hw n0 h344 q4) (w39 hw) (w2 hw) (fun x hx => hx) rfl (Nat.le_of_eq rfl) (Nat.le_of_ble_eq_true rfl) (Nat.le_of_ble_eq_true rfl) ⟨rfl, Nat.le_of_ble_eq_true rfl⟩ ⟨rfl, Nat.le_of_ble_eq_true rfl⟩ rfl (fun _ _ ⟨_, q, _⟩ => nomatch q) fun T h349 v so W hQ => ?_
          obtain ⟨j349, hv, r349, rfl⟩ := hQ
          obtain rfl := Option.some.inj hv
          exact hJjm347 T j349 W r349
        · -- pc 140
          refine k_lload W d_code_140 rfl ?_
          refine k_goto W 150 d_code_142 (by decide) ?_
          exact hJjm347 T j345 W r345
      intro T jm347 W rjm347
      refine k_lstore W d_code_150 (L' := #[.val (.int p0), .val (.int p1), .val (.long q2), .second, .val (.long q3), .second, .val (.long q4), .second, .val (.int p5), .val (.int (1 : Int32)), .val (.int c131), .val (.int ((XT.ushr p0 (8 : Int32)) &&& (255 : Int32))), .val (.int sm), .val (.int (2 : Int32)), .val (.int d0), .val (.int d1), .val (.ref x342), .val (.ref x344), .val (.long j345), .second, .val (.long j346), .second, .val (.long jm347), .second, .unset, .unset, .unset, .unset, .unset, .unset, .unset, .unset]) rfl ?_
      refine k_iload W d_code_152 rfl ?_
      refine k_iconst W d_code_154 (z := (4 : Int32)) rfl ?_
      refine k_iand W d_code_155 (z := (p5 &&& (4 : Int32))) rfl ?_
      suffices hJja350 : ∀ (T : State) (ja350 : Int64), WS p l e room_1 s m #[(.int p0), (.int p1), (.long q2), (.long q3), (.long q4), (.int p5)] below meth c Z a0 own_EL false n0 x code maxLocals ret T h344 [] 6 14 → jm347 < ja350 → WP p e below (Fne s n0 Z own_EL false room_1 (fun v h so => v = some (.int 1))) T (mkF m 182 #[.val (.int p0), .val (.int p1), .val (.long q2), .second, .val (.long q3), .second, .val (.long q4), .second, .val (.int p5), .val (.int (1 : Int32)), .val (.int c131), .val (.int ((XT.ushr p0 (8 : Int32)) &&& (255 : Int32))), .val (.int sm), .val (.int (2 : Int32)), .val (.int d0), .val (.int d1), .val (.ref x342), .val (.ref x344), .val (.long j345), .second, .val (.long j346), .second, .val (.long jm347), .second, .unset, .unset, .unset, .unset, .unset, .unset, .unset, .unset] [(.long ja350)]) by
        refine k_if W 172 d_code_156 (by decide) (fun (hc351 : (p5 &&& (4 : Int32)) = 0) => ?_) (fun (hc351 : ¬ ((p5 &&& (4 : Int32)) = 0)) => ?_)
        · -- pc 172
          refine k_lload W d_code_172 rfl ?_
          refine k_lload W d_code_174 rfl ?_
          refine k_lload W d_code_176 rfl ?_
          refine k_lxor W d_code_178 (z := (q3 ^^^ q4)) rfl ?_
          refine k_callS W 0 6 14 (argsL := [(.long jm347), (.long (q3 ^^^ q4))]) (rest := []) d_code_179 (w41 hw) (w42 hw) (by decide) (lenOf pd19 rfl) (ct_ac l Z a0 hw n0 h344 jm347 (q3 ^^^ q4) rjm347) (w43 hw) (w2 hw) (fun x hx => hx) rfl (Nat.le_of_eq rfl) (Nat.le_of_ble_eq_true rfl) (Nat.le_of_ble_eq_true rfl) ⟨rfl, Nat.le_of_ble_eq_true rfl⟩ ⟨rfl, Nat.le_of_ble_eq_true rfl⟩ rfl (fun _ _ ⟨_, q, _⟩ => nomatch q) fun T h352 v so W hQ => ?_
          obtain ⟨j352, hv, r352, rfl⟩ := hQ
          obtain rfl := Option.some.inj hv
          exact hJja350 T j352 W r352
        · -- pc 159
          refine k_lload W d_code_159 rfl ?_
          refine k_lload W d_code_161 rfl ?_
          refine k_lcmp W d_code_163 (z := (XT.cmpL j346 jm347)) rfl ?_
          refine k_if W 172 d_code_164 (by decide) (fun (hc353 : ¬ 0 < (XT.cmpL j346 jm347)) => ?_) (fun (hc353 : ¬ (¬ 0 < (XT.cmpL j346 jm347))) => ?_)
          · -- pc 172
            refine k_lload W d_code_172 rfl ?_
            refine k_lload W d_code_174 rfl ?_
            refine k_lload W d_code_176 rfl ?_
            refine k_lxor W d_code_178 (z := (q3 ^^^ q4)) rfl ?_
            refine k_callS W 0 6 14 (argsL := [(.long jm347), (.long (q3 ^^^ q4))]) (rest := []) d_code_179 (w41 hw) (w42 hw) (by decide) (lenOf pd19 rfl) (ct_ac l Z a0 hw n0 h344 jm347 (q3 ^^^ q4) rjm347) (w43 hw) (w2 hw) (fun x hx => hx) rfl (Nat.le_of_eq rfl) (Nat.le_of_ble_eq_true rfl) (Nat.le_of_ble_eq_true rfl) ⟨rfl, Nat.le_of_ble_eq_true rfl⟩ ⟨rfl, Nat.le_of_ble_eq_true rfl⟩ rfl (fun _ _ ⟨_, q, _⟩ => nomatch q) fun T h354 v so W hQ => ?_
            obtain ⟨j354, hv, r354, rfl⟩ := hQ
            obtain rfl := Option.some.inj hv
            exact hJja350 T j354 W r354
          · -- pc 167
            refine k_lload W d_code_167 rfl ?_
            refine k_goto W 182 d_code_169 (by decide) ?_
            exact hJja350 T j346 W (cmpL_gt.mp (Classical.not_not.mp hc353))
      intro T ja350 W rja350
      refine k_lstore W d_code_182 (L' := #[.val (.int p0), .val (.int p1), .val (.long q2), .second, .val (.long q3), .second, .val (.long q4), .second, .val (.int p5), .val (.int (1 : Int32)), .val (.int c131), .val (.int ((XT.ushr p0 (8 : Int32)) &&& (255 : Int32))), .val (.int sm), .val (.int (2 : Int32)), .val (.int d0), .val (.int d1), .val (.ref x342), .val (.ref x344), .val (.long j345), .second, .val (.long j346), .second, .val (.long jm347), .second, .val (.long ja350), .second, .unset, .unset, .unset, .unset, .unset, .unset]) rfl ?_
      refine k_iload W d_code_184 rfl ?_
      refine k_bipush W d_code_186 (z := (8 : Int32)) rfl ?_
      refine k_iand W d_code_188 (z := (p5 &&& (8 : Int32))) rfl ?_
      suffices hJu1355 : ∀ (T : State) (u1355 : Addr), WS p l e room_1 s m #[(.int p0), (.int p1), (.long q2), (.long q3), (.long q4), (.int p5)] below meth c Z a0 own_EL false n0 x code maxLocals ret T h344 [] 6 14 → WP p e below (Fne s n0 Z own_EL false room_1 (fun v h so => v = some (.int 1))) T (mkF m 201 #[.val (.int p0), .val (.int p1), .val (.long q2), .second, .val (.long q3), .second, .val (.long q4), .second, .val (.int p5), .val (.int (1 : Int32)), .val (.int c131), .val (.int ((XT.ushr p0 (8 : Int32)) &&& (255 : Int32))), .val (.int sm), .val (.int (2 : Int32)), .val (.int d0), .val (.int d1), .val (.ref x342), .val (.ref x344), .val (.long j345), .second, .val (.long j346), .second, .val (.long jm347), .second, .val (.long ja350), .second, .unset, .unset, .unset, .unset, .unset, .unset] [(.ref u1355)]) by
        refine k_if W 198 d_code_189 (by decide) (fun (hc356 : (p5 &&& (8 : Int32)) = 0) => ?_) (fun (hc356 : ¬ ((p5 &&& (8 : Int32)) = 0)) => ?_)
        · -- pc 198
          have f357 := (Sta.keep (Sta.keep UuB K342 ns0) K344 ns0)
          refine k_getS W d_code_198 (w44 hw) Via.refl f357 fun T W => ?_
          exact hJu1355 T uB W 
        · -- pc 192
          have f358 := (Sta.keep (Sta.keep UuJ K342 ns0) K344 ns0)
          refine k_getS W d_code_192 (w156 hw) Via.refl f358 fun T W => ?_
          refine k_goto W 201 d_code_195 (by decide) ?_
          exact hJu1355 T uJ W 
      intro T u1355 W
      refine k_astore W d_code_201 rfl (L' := #[.val (.int p0), .val (.int p1), .val (.long q2), .second, .val (.long q3), .second, .val (.long q4), .second, .val (.int p5), .val (.int (1 : Int32)), .val (.int c131), .val (.int ((XT.ushr p0 (8 : Int32)) &&& (255 : Int32))), .val (.int sm), .val (.int (2 : Int32)), .val (.int d0), .val (.int d1), .val (.ref x342), .val (.ref x344), .val (.long j345), .second, .val (.long j346), .second, .val (.long jm347), .second, .val (.long ja350), .second, .val (.ref u1355), .unset, .unset, .unset, .unset, .unset]) rfl ?_
      refine k_iload W d_code_203 rfl ?_
      refine k_bipush W d_code_205 (z := (16 : Int32)) rfl ?_
      refine k_iand W d_code_207 (z := (p5 &&& (16 : Int32))) rfl ?_
      suffices hJu2359 : ∀ (T : State) (u2359 : Addr), WS p l e room_1 s m #[(.int p0), (.int p1), (.long q2), (.long q3), (.long q4), (.int p5)] below meth c Z a0 own_EL false n0 x code maxLocals ret T h344 [] 6 14 → WP p e below (Fne s n0 Z own_EL false room_1 (fun v h so => v = some (.int 1))) T (mkF m 220 #[.val (.int p0), .val (.int p1), .val (.long q2), .second, .val (.long q3), .second, .val (.long q4), .second, .val (.int p5), .val (.int (1 : Int32)), .val (.int c131), .val (.int ((XT.ushr p0 (8 : Int32)) &&& (255 : Int32))), .val (.int sm), .val (.int (2 : Int32)), .val (.int d0), .val (.int d1), .val (.ref x342), .val (.ref x344), .val (.long j345), .second, .val (.long j346), .second, .val (.long jm347), .second, .val (.long ja350), .second, .val (.ref u1355), .unset, .unset, .unset, .unset, .unset] [(.ref u2359)]) by
        refine k_if W 217 d_code_208 (by decide) (fun (hc360 : (p5 &&& (16 : Int32)) = 0) => ?_) (fun (hc360 : ¬ ((p5 &&& (16 : Int32)) = 0)) => ?_)
        · -- pc 217
          have f361 := (Sta.keep (Sta.keep UuB K342 ns0) K344 ns0)
          refine k_getS W d_code_217 (w44 hw) Via.refl f361 fun T W => ?_
          exact hJu2359 T uB W 
        · -- pc 211
          have f362 := (Sta.keep (Sta.keep UuJ K342 ns0) K344 ns0)
          refine k_getS W d_code_211 (w156 hw) Via.refl f362 fun T W => ?_
          refine k_goto W 220 d_code_214 (by decide) ?_
          exact hJu2359 T uJ W 
      intro T u2359 W
      refine k_astore W d_code_220 rfl (L' := #[.val (.int p0), .val (.int p1), .val (.long q2), .second, .val (.long q3), .second, .val (.long q4), .second, .val (.int p5), .val (.int (1 : Int32)), .val (.int c131), .val (.int ((XT.ushr p0 (8 : Int32)) &&& (255 : Int32))), .val (.int sm), .val (.int (2 : Int32)), .val (.int d0), .val (.int d1), .val (.ref x342), .val (.ref x344), .val (.long j345), .second, .val (.long j346), .second, .val (.long jm347), .second, .val (.long ja350), .second, .val (.ref u1355), .val (.ref u2359), .unset, .unset, .unset, .unset]) rfl ?_
      refine k_new W 7 18 d_code_222 (w47 hw) (w48 hw) (w49 hw) ⟨rfl, Nat.le_of_ble_eq_true rfl⟩ ⟨rfl, Nat.le_of_ble_eq_true rfl⟩ fun T h363 a364 g364 W E364 X364 D364 => ?_
      have K364 : Keep h344 h363 [] := keep_ext E364 []
      refine k_dup W d_code_225 rfl ?_
      refine k_aload W d_code_226 rfl rfl ?_
      refine k_lload W d_code_228 rfl ?_
      refine k_lload W d_code_230 rfl ?_
      refine k_aload W d_code_232 rfl rfl ?_
      have f365 := ((S342.keep K344 nin0 nin0).keep K364 nin0 nin0)
      have f366 := (Sta.keep (Sta.keep f343 K344 ns0) K364 ns0)
      have f368 := (Sta.keep (Sta.keep (Sta.keep CI K342 ns0) K344 ns0) K364 ns0)
      have f369 := (((CX.keep K342).keep K344).keep K364)
      have f370 := (Sta.keep (Sta.keep (Sta.keep CA K342 ns0) K344 ns0) K364 ns0)
      have f371 := (((CV.keep K342 nin0).keep K344 nin0).keep K364 nin0)
      refine k_callI0 W 1 11 62 (argsL := [(.ref x342), (.long j346), (.long j345), (.ref u1355)]) (rest := [(.ref a364)]) (a := a364) d_code_234 rfl rfl (w50 hw) (w51 hw) (by decide) (lenOf pd20 rfl) (ct_exinit l Z a0 hw n0 h363 cd ca a364 x342 b342 u1355 [(i2b c131)] j346 j345 zc 0 (i2b c131) rfl (by rw [lo_i2b r131.1]; exact r131) r345 r346 X364 (D364 (Or.inr (w108 hw)) (ty := (.object "java/lang/String")) (by decide)) (D364 (Or.inr (w110 hw)) (ty := .long) (by decide)) (D364 (Or.inr (w112 hw)) (ty := .long) (by decide)) (D364 (Or.inr (w114 hw)) (ty := (.object "com/example/lean_envelope/leanenvelope/check/ExceededLimit$Unit")) (by decide)) f365 f366 hzc f368 f369 f370 f371) (w52 hw) (w49 hw) (fun x hx => hx) rfl (Nat.le_of_eq rfl) (Nat.le_of_ble_eq_true rfl) (Nat.le_of_ble_eq_true rfl) ⟨rfl, Nat.le_of_ble_eq_true rfl⟩ ⟨rfl, Nat.le_of_ble_eq_true rfl⟩ rfl (fun _ _ _ q => nomatch q.1) fun T h367 so W hQ => ?_
      obtain ⟨-, K367, G0_367, G1_367, G2_367, G3_367⟩ := hQ
      refine k_astore W d_code_237 rfl (L' := #[.val (.int p0), .val (.int p1), .val (.long q2), .second, .val (.long q3), .second, .val (.long q4), .second, .val (.int p5), .val (.int (1 : Int32)), .val (.int c131), .val (.int ((XT.ushr p0 (8 : Int32)) &&& (255 : Int32))), .val (.int sm), .val (.int (2 : Int32)), .val (.int d0), .val (.int d1), .val (.ref x342), .val (.ref x344), .val (.long j345), .second, .val (.long j346), .second, .val (.long jm347), .second, .val (.long ja350), .second, .val (.ref u1355), .val (.ref u2359), .val (.ref a364), .unset, .unset, .unset]) rfl ?_
      refine k_new W 12 66 d_code_239 (w47 hw) (w48 hw) (w49 hw) ⟨rfl, Nat.le_of_ble_eq_true rfl⟩ ⟨rfl, Nat.le_of_ble_eq_true rfl⟩ fun T h372 a373 g373 W E373 X373 D373 => ?_
      have K373 : Keep h367 h372 [] := keep_ext E373 []
      refine k_dup W d_code_242 rfl ?_
      refine k_aload W d_code_243 rfl rfl ?_
      refine k_lload W d_code_245 rfl ?_
      refine k_lload W d_code_247 rfl ?_
      refine k_aload W d_code_249 rfl rfl ?_
      have ne374 : x344 ≠ a364 := (Nat.ne_of_lt (Nat.lt_of_lt_of_le S344.1.lt (Nat.le_of_eq g364.symm)))
      have ne375 : b344 ≠ a364 := (Nat.ne_of_lt (Nat.lt_of_lt_of_le S344.2.2.2.lt (Nat.le_of_eq g364.symm)))
      have f376 := (((S344.keep K364 nin0 nin0).keep K367 (ninS ne374 nin0) (ninS ne375 nin0)).keep K373 nin0 nin0)
      have f377 := (Sta.keep (Sta.keep f366 K367 (nsS (Exa.plain X364) ns0)) K373 ns0)
      have f379 := (Sta.keep (Sta.keep f368 K367 (nsS (Exa.plain X364) ns0)) K373 ns0)
      have f380 := ((f369.keep K367).keep K373)
      have f381 := (Sta.keep (Sta.keep f370 K367 (nsS (Exa.plain X364) ns0)) K373 ns0)
      have ne382 : ca ≠ a364 := (Nat.ne_of_lt (Nat.lt_of_lt_of_le (Nat.lt_of_lt_of_le CV.lt (Nat.le_trans K342.1 K344.1)) (Nat.le_of_eq g364.symm)))
      have f383 := ((f371.keep K367 (ninS ne382 nin0)).keep K373 nin0)
      refine k_callI0 W 1 16 110 (argsL := [(.ref x344), (.long ja350), (.long jm347), (.ref u2359)]) (rest := [(.ref a373)]) (a := a373) d_code_251 rfl rfl (w50 hw) (w51 hw) (by decide) (lenOf pd20 rfl) (ct_exinit l Z a0 hw n0 h372 cd ca a373 x344 b344 u2359 [(i2b d0), (i2b d1)] ja350 jm347 zc 0 (i2b d0) rfl (by rw [lo_i2b rd0.1]; exact rd0) rjm347 rja350 X373 (D373 (Or.inr (w108 hw)) (ty := (.object "java/lang/String")) (by decide)) (D373 (Or.inr (w110 hw)) (ty := .long) (by decide)) (D373 (Or.inr (w112 hw)) (ty := .long) (by decide)) (D373 (Or.inr (w114 hw)) (ty := (.object "com/example/lean_envelope/leanenvelope/check/ExceededLimit$Unit")) (by decide)) f376 f377 hzc f379 f380 f381 f383) (w52 hw) (w49 hw) (fun x hx => by simp only [List.mem_cons, List.not_mem_nil, or_false] at hx; rcases hx with rfl; all_goals first | exact (List.mem_of_getElem? (i := 0) rfl)) rfl (Nat.le_of_eq rfl) (Nat.le_of_ble_eq_true rfl) (Nat.le_of_ble_eq_true rfl) ⟨rfl, Nat.le_of_ble_eq_true rfl⟩ ⟨rfl, Nat.le_of_ble_eq_true rfl⟩ rfl (fun _ _ _ q => nomatch q.1) fun T h378 so W hQ => ?_
      obtain ⟨-, K378, G0_378, G1_378, G2_378, G3_378⟩ := hQ
      refine k_astore W d_code_254 rfl (L' := #[.val (.int p0), .val (.int p1), .val (.long q2), .second, .val (.long q3), .second, .val (.long q4), .second, .val (.int p5), .val (.int (1 : Int32)), .val (.int c131), .val (.int ((XT.ushr p0 (8 : Int32)) &&& (255 : Int32))), .val (.int sm), .val (.int (2 : Int32)), .val (.int d0), .val (.int d1), .val (.ref x342), .val (.ref x344), .val (.long j345), .second, .val (.long j346), .second, .val (.long jm347), .second, .val (.long ja350), .second, .val (.ref u1355), .val (.ref u2359), .val (.ref a364), .val (.ref a373), .unset, .unset]) rfl ?_
      refine k_iload W d_code_256 rfl ?_
      refine k_iload W d_code_258 rfl ?_
      refine k_icY W 287 d_code_260 (by decide) (show ¬ (1 : Int32) = (2 : Int32) by decide) ?_
      refine k_iconst W d_code_287 (z := (0 : Int32)) rfl ?_
      refine k_istore W d_code_288 (L' := #[.val (.int p0), .val (.int p1), .val (.long q2), .second, .val (.long q3), .second, .val (.long q4), .second, .val (.int p5), .val (.int (1 : Int32)), .val (.int c131), .val (.int ((XT.ushr p0 (8 : Int32)) &&& (255 : Int32))), .val (.int sm), .val (.int (2 : Int32)), .val (.int d0), .val (.int d1), .val (.ref x342), .val (.ref x344), .val (.long j345), .second, .val (.long j346), .second, .val (.long jm347), .second, .val (.long ja350), .second, .val (.ref u1355), .val (.ref u2359), .val (.ref a364), .val (.ref a373), .val (.int (0 : Int32)), .unset]) rfl ?_
      refine k_iload W d_code_290 rfl ?_
      refine k_ifY W 322 d_code_292 (by decide) (show (0 : Int32) = 0 by decide) ?_
      refine k_iconst W d_code_322 (z := (0 : Int32)) rfl ?_
      refine k_istore W d_code_323 (L' := #[.val (.int p0), .val (.int p1), .val (.long q2), .second, .val (.long q3), .second, .val (.long q4), .second, .val (.int p5), .val (.int (1 : Int32)), .val (.int c131), .val (.int ((XT.ushr p0 (8 : Int32)) &&& (255 : Int32))), .val (.int sm), .val (.int (2 : Int32)), .val (.int d0), .val (.int d1), .val (.ref x342), .val (.ref x344), .val (.long j345), .second, .val (.long j346), .second, .val (.long jm347), .second, .val (.long ja350), .second, .val (.ref u1355), .val (.ref u2359), .val (.ref a364), .val (.ref a373), .val (.int (0 : Int32)), .val (.int (0 : Int32))]) rfl ?_
      refine k_aload W d_code_325 rfl rfl ?_
      refine k_aload W d_code_327 rfl rfl ?_
      have f384 := (X373.keep K378)
      have ne385 : a364 ≠ a373 := (Nat.ne_of_lt (Nat.lt_of_lt_of_le G0_367.lt (Nat.le_of_eq g373.symm)))
      have f386 := ((G0_367.keep K373 nin0).keep K378 (ninS ne385 nin0))
      have f387 := ((G1_367.keep K373 nin0).keep K378 (ninS ne385 nin0))
      have f388 := ((G2_367.keep K373 nin0).keep K378 (ninS ne385 nin0))
      have f389 := ((G3_367.keep K373 nin0).keep K378 (ninS ne385 nin0))
      have ne390 : x342 ≠ a364 := (Nat.ne_of_lt (Nat.lt_of_lt_of_le (Nat.lt_of_lt_of_le S342.1.lt K344.1) (Nat.le_of_eq g364.symm)))
      have ne391 : b342 ≠ a364 := (Nat.ne_of_lt (Nat.lt_of_lt_of_le (Nat.lt_of_lt_of_le S342.2.2.2.lt K344.1) (Nat.le_of_eq g364.symm)))
      have ne392 : x342 ≠ a373 := (Nat.ne_of_lt (Nat.lt_of_lt_of_le (Nat.lt_of_lt_of_le f365.1.lt K367.1) (Nat.le_of_eq g373.symm)))
      have ne393 : b342 ≠ a373 := (Nat.ne_of_lt (Nat.lt_of_lt_of_le (Nat.lt_of_lt_of_le f365.2.2.2.lt K367.1) (Nat.le_of_eq g373.symm)))
      have f394 := (((f365.keep K367 (ninS ne390 nin0) (ninS ne391 nin0)).keep K373 nin0 nin0).keep K378 (ninS ne392 nin0) (ninS ne393 nin0))
      have ne395 : x344 ≠ a373 := (Nat.ne_of_lt (Nat.lt_of_lt_of_le (Nat.lt_of_lt_of_le S344.1.lt (Nat.le_trans E364.1 K367.1)) (Nat.le_of_eq g373.symm)))
      have ne396 : b344 ≠ a373 := (Nat.ne_of_lt (Nat.lt_of_lt_of_le (Nat.lt_of_lt_of_le S344.2.2.2.lt (Nat.le_trans E364.1 K367.1)) (Nat.le_of_eq g373.symm)))
      have f397 := (f376.keep K378 (ninS ne395 nin0) (ninS ne396 nin0))
      have f398 := (Sta.keep f377 K378 (nsS (Exa.plain X373) ns0))
      have ne400 : x342 ≠ x344 := (Nat.ne_of_lt (Nat.lt_of_lt_of_le S342.1.lt gx344))
      have f401 := (((X364.keep K367).keep K373).keep K378)
      refine k_callV W 0 16 110 (argsL := [(.ref a373)]) (rest := []) (a := a364) (C := "com/example/lean_envelope/leanenvelope/check/ExceededLimit") (z0 := (⟨"com/example/lean_envelope/leanenvelope/check/ExceededLimit", "equals", "(Ljava/lang/Object;)Z"⟩ : MethodName)) (z := (⟨"com/example/lean_envelope/leanenvelope/check/ExceededLimit", "equals", "(Ljava/lang/Object;)Z"⟩ : MethodName)) d_code_329 (w115 hw) (w116 hw) (nfSel (w118 hw)) (w118 hw) (w117 hw) (by decide) (lenOf pd16 rfl) f401 (ct_xeq l Z a0 hw n0 h378 a364 a373 x342 b342 x344 b344 u1355 u2359 [(i2b c131)] [(i2b d0), (i2b d1)] j346 ja350 j345 jm347 zc ne385 ne400 f401 f386 f387 f388 f389 f384 G0_378 G1_378 G2_378 G3_378 f394 f397 f398 hzc) (w119 hw) (w49 hw) (fun x hx => nomatch hx) rfl (Nat.le_of_eq rfl) (Nat.le_of_ble_eq_true rfl) (Nat.le_of_ble_eq_true rfl) ⟨rfl, Nat.le_of_ble_eq_true rfl⟩ ⟨rfl, Nat.le_of_ble_eq_true rfl⟩ rfl (fun _ _ q => by rcases q.1 with ⟨_, u⟩ | ⟨_, u⟩ <;> cases u) fun T h402 v so W hQ => ?_
      obtain ⟨hQ, rfl⟩ := hQ
      rcases hQ with ⟨hP399, hv⟩ | ⟨hP399, hv⟩
      · --
        obtain ⟨e1, e2, e3, e4⟩ := hP399
        exact absurd (congrArg List.length e1) (by simp)
      · --
        obtain rfl := Option.some.inj hv
        refine k_iload W d_code_332 rfl ?_
        refine k_icN W d_code_334 (show ¬ (¬ (0 : Int32) = (0 : Int32)) by decide) ?_
        refine k_aload W d_code_337 rfl rfl ?_
        refine k_aload W d_code_339 rfl rfl ?_
        refine k_callV W 0 16 110 (argsL := [(.ref a364)]) (rest := []) (a := a373) (C := "com/example/lean_envelope/leanenvelope/check/ExceededLimit") (z0 := (⟨"com/example/lean_envelope/leanenvelope/check/ExceededLimit", "equals", "(Ljava/lang/Object;)Z"⟩ : MethodName)) (z := (⟨"com/example/lean_envelope/leanenvelope/check/ExceededLimit", "equals", "(Ljava/lang/Object;)Z"⟩ : MethodName)) d_code_341 (w115 hw) (w116 hw) (nfSel (w118 hw)) (w118 hw) (w117 hw) (by decide) (lenOf pd16 rfl) f384 (ct_xeq l Z a0 hw n0 h378 a373 a364 x344 b344 x342 b342 u2359 u1355 [(i2b d0), (i2b d1)] [(i2b c131)] ja350 j346 jm347 j345 zc (Ne.symm ne385) (Ne.symm ne400) f384 G0_378 G1_378 G2_378 G3_378 f401 f386 f387 f388 f389 f397 f394 f398 hzc) (w119 hw) (w49 hw) (fun x hx => nomatch hx) rfl (Nat.le_of_eq rfl) (Nat.le_of_ble_eq_true rfl) (Nat.le_of_ble_eq_true rfl) ⟨rfl, Nat.le_of_ble_eq_true rfl⟩ ⟨rfl, Nat.le_of_ble_eq_true rfl⟩ rfl (fun _ _ q => by rcases q.1 with ⟨_, u⟩ | ⟨_, u⟩ <;> cases u) fun T h404 v so W hQ => ?_
        obtain ⟨hQ, rfl⟩ := hQ
        rcases hQ with ⟨hP403, hv⟩ | ⟨hP403, hv⟩
        · --
          obtain ⟨e1, e2, e3, e4⟩ := hP403
          exact absurd (congrArg List.length e1) (by simp)
        · --
          obtain rfl := Option.some.inj hv
          refine k_iload W d_code_344 rfl ?_
          refine k_icN W d_code_346 (show ¬ (¬ (0 : Int32) = (0 : Int32)) by decide) ?_
          refine k_aload W d_code_349 rfl rfl ?_
          refine k_aload W d_code_351 rfl rfl ?_
          refine k_callV W 0 16 110 (argsL := [(.ref a364)]) (rest := []) (a := a364) (C := "com/example/lean_envelope/leanenvelope/check/ExceededLimit") (z0 := (⟨"com/example/lean_envelope/leanenvelope/check/ExceededLimit", "equals", "(Ljava/lang/Object;)Z"⟩ : MethodName)) (z := (⟨"com/example/lean_envelope/leanenvelope/check/ExceededLimit", "equals", "(Ljava/lang/Object;)Z"⟩ : MethodName)) d_code_353 (w115 hw) (w116 hw) (nfSel (w118 hw)) (w118 hw) (w117 hw) (by decide) (lenOf pd16 rfl) f401 (ct_xeqI l Z a0 hw n0 h378 a364) (w119 hw) (w49 hw) (fun x hx => nomatch hx) rfl (Nat.le_of_eq rfl) (Nat.le_of_ble_eq_true rfl) (Nat.le_of_ble_eq_true rfl) ⟨rfl, Nat.le_of_ble_eq_true rfl⟩ ⟨rfl, Nat.le_of_ble_eq_true rfl⟩ rfl (fun _ _ q => nomatch q.1) fun T h405 v so W hQ => ?_
          obtain ⟨hv, rfl, -⟩ := hQ
          obtain rfl := Option.some.inj hv
          refine k_ifN W d_code_356 (show ¬ ((1 : Int32) = 0) by decide) ?_
          refine k_aload W d_code_359 rfl rfl ?_
          refine k_aconst W d_code_361 ?_
          refine k_callV W 0 16 110 (argsL := [.null]) (rest := []) (a := a364) (C := "com/example/lean_envelope/leanenvelope/check/ExceededLimit") (z0 := (⟨"com/example/lean_envelope/leanenvelope/check/ExceededLimit", "equals", "(Ljava/lang/Object;)Z"⟩ : MethodName)) (z := (⟨"com/example/lean_envelope/leanenvelope/check/ExceededLimit", "equals", "(Ljava/lang/Object;)Z"⟩ : MethodName)) d_code_362 (w115 hw) (w116 hw) (nfSel (w118 hw)) (w118 hw) (w117 hw) (by decide) (lenOf pd16 rfl) f401 (ct_xeqN l Z a0 hw n0 h378 a364) (w119 hw) (w49 hw) (fun x hx => nomatch hx) rfl (Nat.le_of_eq rfl) (Nat.le_of_ble_eq_true rfl) (Nat.le_of_ble_eq_true rfl) ⟨rfl, Nat.le_of_ble_eq_true rfl⟩ ⟨rfl, Nat.le_of_ble_eq_true rfl⟩ rfl (fun _ _ q => nomatch q.1) fun T h406 v so W hQ => ?_
          obtain ⟨hv, rfl, -⟩ := hQ
          obtain rfl := Option.some.inj hv
          refine k_ifN W d_code_365 (show ¬ (¬ (0 : Int32) = 0) by decide) ?_
          refine k_aload W d_code_368 rfl rfl ?_
          refine k_aload W d_code_370 rfl rfl ?_
          refine k_callV W 0 16 110 (argsL := [(.ref x342)]) (rest := []) (a := a364) (C := "com/example/lean_envelope/leanenvelope/check/ExceededLimit") (z0 := (⟨"com/example/lean_envelope/leanenvelope/check/ExceededLimit", "equals", "(Ljava/lang/Object;)Z"⟩ : MethodName)) (z := (⟨"com/example/lean_envelope/leanenvelope/check/ExceededLimit", "equals", "(Ljava/lang/Object;)Z"⟩ : MethodName)) d_code_372 (w115 hw) (w116 hw) (nfSel (w118 hw)) (w118 hw) (w117 hw) (by decide) (lenOf pd16 rfl) f401 (ct_xeqS l Z a0 hw n0 h378 a364 x342 f401 f394.1) (w119 hw) (w49 hw) (fun x hx => nomatch hx) rfl (Nat.le_of_eq rfl) (Nat.le_of_ble_eq_true rfl) (Nat.le_of_ble_eq_true rfl) ⟨rfl, Nat.le_of_ble_eq_true rfl⟩ ⟨rfl, Nat.le_of_ble_eq_true rfl⟩ rfl (fun _ _ q => nomatch q.1) fun T h407 v so W hQ => ?_
          obtain ⟨hv, rfl, -⟩ := hQ
          obtain rfl := Option.some.inj hv
          refine k_ifN W d_code_375 (show ¬ (¬ (0 : Int32) = 0) by decide) ?_
          refine k_aload W d_code_378 rfl rfl ?_
          refine k_lload W d_code_380 rfl ?_
          have f409 := (Sta.keep (Sta.keep (Sta.keep (Sta.keep (Sta.keep (Sta.keep LS K342 ns0) K344 ns0) K364 ns0) K367 (nsS (Exa.plain X364) ns0)) K373 ns0) K378 (nsS (Exa.plain X373) ns0))
          have ne410 : lc ≠ a364 := (Nat.ne_of_lt (Nat.lt_of_lt_of_le (Nat.lt_of_lt_of_le LV.lt (Nat.le_trans K342.1 K344.1)) (Nat.le_of_eq g364.symm)))
          have ne411 : lc ≠ a373 := (Nat.ne_of_lt (Nat.lt_of_lt_of_le (Nat.lt_of_lt_of_le LV.lt (Nat.le_trans (Nat.le_trans (Nat.le_trans K342.1 K344.1) E364.1) K367.1)) (Nat.le_of_eq g373.symm)))
          have f412 := ((((((LV.keep K342 nin0).keep K344 nin0).keep K364 nin0).keep K367 (ninS ne410 nin0)).keep K373 nin0).keep K378 (ninS ne411 nin0))
          have f413 := ((((((LX.keep K342).keep K344).keep K364).keep K367).keep K373).keep K378)
          refine k_callS W 1 17 111 (argsL := [(.long j346)]) (rest := [(.ref a364)]) d_code_382 (w133 hw) (w134 hw) (by decide) (lenOf pd21 rfl) (ct_lval l Z a0 hw n0 h378 j346 lc lvs f409 f412 f413 hlv) (w136 hw) (w135 hw) (fun x hx => nomatch hx) rfl (Nat.le_of_eq rfl) (Nat.le_of_ble_eq_true rfl) (Nat.le_of_ble_eq_true rfl) ⟨rfl, Nat.le_of_ble_eq_true rfl⟩ ⟨rfl, Nat.le_of_ble_eq_true rfl⟩ rfl (fun _ _ ⟨_, q, _⟩ => nomatch q) fun T h408 v so W hQ => ?_
          obtain ⟨x408, hv, K408, X408⟩ := hQ
          obtain rfl := Option.some.inj hv
          have f414 := (f401.keep K408)
          refine k_callV W 0 17 111 (argsL := [(.ref x408)]) (rest := []) (a := a364) (C := "com/example/lean_envelope/leanenvelope/check/ExceededLimit") (z0 := (⟨"com/example/lean_envelope/leanenvelope/check/ExceededLimit", "equals", "(Ljava/lang/Object;)Z"⟩ : MethodName)) (z := (⟨"com/example/lean_envelope/leanenvelope/check/ExceededLimit", "equals", "(Ljava/lang/Object;)Z"⟩ : MethodName)) d_code_385 (w115 hw) (w116 hw) (nfSel (w118 hw)) (w118 hw) (w117 hw) (by decide) (lenOf pd16 rfl) f414 (ct_xeqL l Z a0 hw n0 h408 a364 x408 f414 X408) (w119 hw) (w49 hw) (fun x hx => nomatch hx) rfl (Nat.le_of_eq rfl) (Nat.le_of_ble_eq_true rfl) (Nat.le_of_ble_eq_true rfl) ⟨rfl, Nat.le_of_ble_eq_true rfl⟩ ⟨rfl, Nat.le_of_ble_eq_true rfl⟩ rfl (fun _ _ q => nomatch q.1) fun T h415 v so W hQ => ?_
          obtain ⟨hv, rfl, -⟩ := hQ
          obtain rfl := Option.some.inj hv
          refine k_ifN W d_code_388 (show ¬ (¬ (0 : Int32) = 0) by decide) ?_
          refine k_iconst W d_code_391 (z := (1 : Int32)) rfl ?_
          refine k_goto W 396 d_code_392 (by decide) ?_
          exact k_retN W (t := .boolean) (z' := (1 : Int32)) d_code_396 rfl (by simp) (by decide) [] (fun x hx => nomatch hx) (Nat.le_of_ble_eq_true rfl) (Nat.le_of_ble_eq_true rfl) rfl
  · --
    rcases rln2 with rfl | rfl
    · --
      refine k_iload W d_code_96 rfl ?_
      refine k_iload W d_code_98 rfl ?_
      refine k_iload W d_code_100 rfl ?_
      refine k_callS W 0 3 8 (argsL := [(.int (2 : Int32)), (.int c131), (.int ((XT.ushr p0 (8 : Int32)) &&& (255 : Int32)))]) (rest := []) d_code_102 (w4 hw) (w5 hw) (by decide) (lenOf pd17 rfl) (ct_mk2 l Z a0 hw n0 h0 c131 ((XT.ushr p0 (8 : Int32)) &&& (255 : Int32)) zc r131.1 (Rg.and (n := 256) (XT.ushr p0 (8 : Int32)) (255 : Int32) (by decide)) P0 hzc) (w6 hw) (w2 hw) (fun x hx => hx) rfl (Nat.le_of_eq rfl) (Nat.le_of_ble_eq_true rfl) (Nat.le_of_ble_eq_true rfl) ⟨rfl, Nat.le_of_ble_eq_true rfl⟩ ⟨rfl, Nat.le_of_ble_eq_true rfl⟩ rfl (fun _ _ ⟨_, _, q, _⟩ => nomatch q) fun T h416 v so W hQ => ?_
      obtain ⟨x416, b416, hv, gx416, gb416, K416, S416⟩ := hQ
      obtain rfl := Option.some.inj hv
      refine k_astore W d_code_105 rfl (L' := #[.val (.int p0), .val (.int p1), .val (.long q2), .second, .val (.long q3), .second, .val (.long q4), .second, .val (.int p5), .val (.int (2 : Int32)), .val (.int c131), .val (.int ((XT.ushr p0 (8 : Int32)) &&& (255 : Int32))), .val (.int sm), .val (.int (1 : Int32)), .val (.int d0), .val (.int d1), .val (.ref x416), .unset, .unset, .unset, .unset, .unset, .unset, .unset, .unset, .unset, .unset, .unset, .unset, .unset, .unset, .unset]) rfl ?_
      refine k_iload W d_code_107 rfl ?_
      refine k_iload W d_code_109 rfl ?_
      refine k_iload W d_code_111 rfl ?_
      have f417 := (Sta.keep P0 K416 ns0)
      refine k_callS W 0 6 14 (argsL := [(.int (1 : Int32)), (.int d0), (.int d1)]) (rest := []) d_code_113 (w4 hw) (w5 hw) (by decide) (lenOf pd17 rfl) (ct_mk1 l Z a0 hw n0 h416 d0 d1 zc rd0.1 rd1 f417 hzc) (w6 hw) (w2 hw) (fun x hx => hx) rfl (Nat.le_of_eq rfl) (Nat.le_of_ble_eq_true rfl) (Nat.le_of_ble_eq_true rfl) ⟨rfl, Nat.le_of_ble_eq_true rfl⟩ ⟨rfl, Nat.le_of_ble_eq_true rfl⟩ rfl (fun _ _ ⟨_, _, q, _⟩ => nomatch q) fun T h418 v so W hQ => ?_
      obtain ⟨x418, b418, hv, gx418, gb418, K418, S418⟩ := hQ
      obtain rfl := Option.some.inj hv
      refine k_astore W d_code_116 rfl (L' := #[.val (.int p0), .val (.int p1), .val (.long q2), .second, .val (.long q3), .second, .val (.long q4), .second, .val (.int p5), .val (.int (2 : Int32)), .val (.int c131), .val (.int ((XT.ushr p0 (8 : Int32)) &&& (255 : Int32))), .val (.int sm), .val (.int (1 : Int32)), .val (.int d0), .val (.int d1), .val (.ref x416), .val (.ref x418), .unset, .unset, .unset, .unset, .unset, .unset, .unset, .unset, .unset, .unset, .unset, .unset, .unset, .unset]) rfl ?_
      refine k_lloadN W d_code_118 rfl ?_
      refine k_callS W 0 6 14 (argsL := [(.long q2)]) (rest := []) d_code_119 (w37 hw) (w38 hw) (by decide) (lenOf pd18 rfl) (ct_mx l Z a0 hw n0 h418 q2) (w39 hw) (w2 hw) (fun x hx => hx) rfl (Nat.le_of_eq rfl) (Nat.le_of_ble_eq_true rfl) (Nat.le_of_ble_eq_true rfl) ⟨rfl, Nat.le_of_ble_eq_true rfl⟩ ⟨rfl, Nat.le_of_ble_eq_true rfl⟩ rfl (fun _ _ ⟨_, q, _⟩ => nomatch q) fun T h419 v so W hQ => ?_
      obtain ⟨j419, hv, r419, rfl⟩ := hQ
      obtain rfl := Option.some.inj hv
      refine k_lstore W d_code_122 (L' := #[.val (.int p0), .val (.int p1), .val (.long q2), .second, .val (.long q3), .second, .val (.long q4), .second, .val (.int p5), .val (.int (2 : Int32)), .val (.int c131), .val (.int ((XT.ushr p0 (8 : Int32)) &&& (255 : Int32))), .val (.int sm), .val (.int (1 : Int32)), .val (.int d0), .val (.int d1), .val (.ref x416), .val (.ref x418), .val (.long j419), .second, .unset, .unset, .unset, .unset, .unset, .unset, .unset, .unset, .unset, .unset, .unset, .unset]) rfl ?_
      refine k_lload W d_code_124 rfl ?_
      refine k_lload W d_code_126 rfl ?_
      refine k_callS W 0 6 14 (argsL := [(.long j419), (.long q3)]) (rest := []) d_code_128 (w41 hw) (w42 hw) (by decide) (lenOf pd19 rfl) (ct_ac l Z a0 hw n0 h418 j419 q3 r419) (w43 hw) (w2 hw) (fun x hx => hx) rfl (Nat.le_of_eq rfl) (Nat.le_of_ble_eq_true rfl) (Nat.le_of_ble_eq_true rfl) ⟨rfl, Nat.le_of_ble_eq_true rfl⟩ ⟨rfl, Nat.le_of_ble_eq_true rfl⟩ rfl (fun _ _ ⟨_, q, _⟩ => nomatch q) fun T h420 v so W hQ => ?_
      obtain ⟨j420, hv, r420, rfl⟩ := hQ
      obtain rfl := Option.some.inj hv
      refine k_lstore W d_code_131 (L' := #[.val (.int p0), .val (.int p1), .val (.long q2), .second, .val (.long q3), .second, .val (.long q4), .second, .val (.int p5), .val (.int (2 : Int32)), .val (.int c131), .val (.int ((XT.ushr p0 (8 : Int32)) &&& (255 : Int32))), .val (.int sm), .val (.int (1 : Int32)), .val (.int d0), .val (.int d1), .val (.ref x416), .val (.ref x418), .val (.long j419), .second, .val (.long j420), .second, .unset, .unset, .unset, .unset, .unset, .unset, .unset, .unset, .unset, .unset]) rfl ?_
      refine k_iload W d_code_133 rfl ?_
      refine k_iconst W d_code_135 (z := (2 : Int32)) rfl ?_
      refine k_iand W d_code_136 (z := (p5 &&& (2 : Int32))) rfl ?_
      suffices hJjm421 : ∀ (T : State) (jm421 : Int64), WS p l e room_1 s m #[(.int p0), (.int p1), (.long q2), (.long q3), (.long q4), (.int p5)] below meth c Z a0 own_EL false n0 x code maxLocals ret T h418 [] 6 14 → own_OK jm421 → WP p e below (Fne s n0 Z own_EL false room_1 (fun v h so => v = some (.int 1))) T (mkF m 150 #[.val (.int p0), .val (.int p1), .val (.long q2), .second, .val (.long q3), .second, .val (.long q4), .second, .val (.int p5), .val (.int (2 : Int32)), .val (.int c131), .val (.int ((XT.ushr p0 (8 : Int32)) &&& (255 : Int32))), .val (.int sm), .val (.int (1 : Int32)), .val (.int d0), .val (.int d1), .val (.ref x416), .val (.ref x418), .val (.long j419), .second, .val (.long j420), .second, .unset, .unset, .unset, .unset, .unset, .unset, .unset, .unset, .unset, .unset] [(.long jm421)]) by
        refine k_if W 145 d_code_137 (by decide) (fun (hc422 : (p5 &&& (2 : Int32)) = 0) => ?_) (fun (hc422 : ¬ ((p5 &&& (2 : Int32)) = 0)) => ?_)
        · -- pc 145
          refine k_lload W d_code_145 rfl ?_
          refine k_callS W 0 6 14 (argsL := [(.long q4)]) (rest := []) d_code_147 (w37 hw) (w38 hw) (by decide) (lenOf pd18 rfl) (ct_mx l Z a0 hw n0 h418 q4) (w39 hw) (w2 hw) (fun x hx => hx) rfl (Nat.le_of_eq rfl) (Nat.le_of_ble_eq_true rfl) (Nat.le_of_ble_eq_true rfl) ⟨rfl, Nat.le_of_ble_eq_true rfl⟩ ⟨rfl, Nat.le_of_ble_eq_true rfl⟩ rfl (fun _ _ ⟨_, q, _⟩ => nomatch q) fun T h423 v so W hQ => ?_
          obtain ⟨j423, hv, r423, rfl⟩ := hQ
          obtain rfl := Option.some.inj hv
          exact hJjm421 T j423 W r423
        · -- pc 140
          refine k_lload W d_code_140 rfl ?_
          refine k_goto W 150 d_code_142 (by decide) ?_
          exact hJjm421 T j419 W r419
      intro T jm421 W rjm421
      refine k_lstore W d_code_150 (L' := #[.val (.int p0), .val (.int p1), .val (.long q2), .second, .val (.long q3), .second, .val (.long q4), .second, .val (.int p5), .val (.int (2 : Int32)), .val (.int c131), .val (.int ((XT.ushr p0 (8 : Int32)) &&& (255 : Int32))), .val (.int sm), .val (.int (1 : Int32)), .val (.int d0), .val (.int d1), .val (.ref x416), .val (.ref x418), .val (.long j419), .second, .val (.long j420), .second, .val (.long jm421), .second, .unset, .unset, .unset, .unset, .unset, .unset, .unset, .unset]) rfl ?_
      refine k_iload W d_code_152 rfl ?_
      refine k_iconst W d_code_154 (z := (4 : Int32)) rfl ?_
      refine k_iand W d_code_155 (z := (p5 &&& (4 : Int32))) rfl ?_
      suffices hJja424 : ∀ (T : State) (ja424 : Int64), WS p l e room_1 s m #[(.int p0), (.int p1), (.long q2), (.long q3), (.long q4), (.int p5)] below meth c Z a0 own_EL false n0 x code maxLocals ret T h418 [] 6 14 → jm421 < ja424 → WP p e below (Fne s n0 Z own_EL false room_1 (fun v h so => v = some (.int 1))) T (mkF m 182 #[.val (.int p0), .val (.int p1), .val (.long q2), .second, .val (.long q3), .second, .val (.long q4), .second, .val (.int p5), .val (.int (2 : Int32)), .val (.int c131), .val (.int ((XT.ushr p0 (8 : Int32)) &&& (255 : Int32))), .val (.int sm), .val (.int (1 : Int32)), .val (.int d0), .val (.int d1), .val (.ref x416), .val (.ref x418), .val (.long j419), .second, .val (.long j420), .second, .val (.long jm421), .second, .unset, .unset, .unset, .unset, .unset, .unset, .unset, .unset] [(.long ja424)]) by
        refine k_if W 172 d_code_156 (by decide) (fun (hc425 : (p5 &&& (4 : Int32)) = 0) => ?_) (fun (hc425 : ¬ ((p5 &&& (4 : Int32)) = 0)) => ?_)
        · -- pc 172
          refine k_lload W d_code_172 rfl ?_
          refine k_lload W d_code_174 rfl ?_
          refine k_lload W d_code_176 rfl ?_
          refine k_lxor W d_code_178 (z := (q3 ^^^ q4)) rfl ?_
          refine k_callS W 0 6 14 (argsL := [(.long jm421), (.long (q3 ^^^ q4))]) (rest := []) d_code_179 (w41 hw) (w42 hw) (by decide) (lenOf pd19 rfl) (ct_ac l Z a0 hw n0 h418 jm421 (q3 ^^^ q4) rjm421) (w43 hw) (w2 hw) (fun x hx => hx) rfl (Nat.le_of_eq rfl) (Nat.le_of_ble_eq_true rfl) (Nat.le_of_ble_eq_true rfl) ⟨rfl, Nat.le_of_ble_eq_true rfl⟩ ⟨rfl, Nat.le_of_ble_eq_true rfl⟩ rfl (fun _ _ ⟨_, q, _⟩ => nomatch q) fun T h426 v so W hQ => ?_
          obtain ⟨j426, hv, r426, rfl⟩ := hQ
          obtain rfl := Option.some.inj hv
          exact hJja424 T j426 W r426
        · -- pc 159
          refine k_lload W d_code_159 rfl ?_
          refine k_lload W d_code_161 rfl ?_
          refine k_lcmp W d_code_163 (z := (XT.cmpL j420 jm421)) rfl ?_
          refine k_if W 172 d_code_164 (by decide) (fun (hc427 : ¬ 0 < (XT.cmpL j420 jm421)) => ?_) (fun (hc427 : ¬ (¬ 0 < (XT.cmpL j420 jm421))) => ?_)
          · -- pc 172
            refine k_lload W d_code_172 rfl ?_
            refine k_lload W d_code_174 rfl ?_
            refine k_lload W d_code_176 rfl ?_
            refine k_lxor W d_code_178 (z := (q3 ^^^ q4)) rfl ?_
            refine k_callS W 0 6 14 (argsL := [(.long jm421), (.long (q3 ^^^ q4))]) (rest := []) d_code_179 (w41 hw) (w42 hw) (by decide) (lenOf pd19 rfl) (ct_ac l Z a0 hw n0 h418 jm421 (q3 ^^^ q4) rjm421) (w43 hw) (w2 hw) (fun x hx => hx) rfl (Nat.le_of_eq rfl) (Nat.le_of_ble_eq_true rfl) (Nat.le_of_ble_eq_true rfl) ⟨rfl, Nat.le_of_ble_eq_true rfl⟩ ⟨rfl, Nat.le_of_ble_eq_true rfl⟩ rfl (fun _ _ ⟨_, q, _⟩ => nomatch q) fun T h428 v so W hQ => ?_
            obtain ⟨j428, hv, r428, rfl⟩ := hQ
            obtain rfl := Option.some.inj hv
            exact hJja424 T j428 W r428
          · -- pc 167
            refine k_lload W d_code_167 rfl ?_
            refine k_goto W 182 d_code_169 (by decide) ?_
            exact hJja424 T j420 W (cmpL_gt.mp (Classical.not_not.mp hc427))
      intro T ja424 W rja424
      refine k_lstore W d_code_182 (L' := #[.val (.int p0), .val (.int p1), .val (.long q2), .second, .val (.long q3), .second, .val (.long q4), .second, .val (.int p5), .val (.int (2 : Int32)), .val (.int c131), .val (.int ((XT.ushr p0 (8 : Int32)) &&& (255 : Int32))), .val (.int sm), .val (.int (1 : Int32)), .val (.int d0), .val (.int d1), .val (.ref x416), .val (.ref x418), .val (.long j419), .second, .val (.long j420), .second, .val (.long jm421), .second, .val (.long ja424), .second, .unset, .unset, .unset, .unset, .unset, .unset]) rfl ?_
      refine k_iload W d_code_184 rfl ?_
      refine k_bipush W d_code_186 (z := (8 : Int32)) rfl ?_
      refine k_iand W d_code_188 (z := (p5 &&& (8 : Int32))) rfl ?_
      suffices hJu1429 : ∀ (T : State) (u1429 : Addr), WS p l e room_1 s m #[(.int p0), (.int p1), (.long q2), (.long q3), (.long q4), (.int p5)] below meth c Z a0 own_EL false n0 x code maxLocals ret T h418 [] 6 14 → WP p e below (Fne s n0 Z own_EL false room_1 (fun v h so => v = some (.int 1))) T (mkF m 201 #[.val (.int p0), .val (.int p1), .val (.long q2), .second, .val (.long q3), .second, .val (.long q4), .second, .val (.int p5), .val (.int (2 : Int32)), .val (.int c131), .val (.int ((XT.ushr p0 (8 : Int32)) &&& (255 : Int32))), .val (.int sm), .val (.int (1 : Int32)), .val (.int d0), .val (.int d1), .val (.ref x416), .val (.ref x418), .val (.long j419), .second, .val (.long j420), .second, .val (.long jm421), .second, .val (.long ja424), .second, .unset, .unset, .unset, .unset, .unset, .unset] [(.ref u1429)]) by
        refine k_if W 198 d_code_189 (by decide) (fun (hc430 : (p5 &&& (8 : Int32)) = 0) => ?_) (fun (hc430 : ¬ ((p5 &&& (8 : Int32)) = 0)) => ?_)
        · -- pc 198
          have f431 := (Sta.keep (Sta.keep UuB K416 ns0) K418 ns0)
          refine k_getS W d_code_198 (w44 hw) Via.refl f431 fun T W => ?_
          exact hJu1429 T uB W 
        · -- pc 192
          have f432 := (Sta.keep (Sta.keep UuJ K416 ns0) K418 ns0)
          refine k_getS W d_code_192 (w156 hw) Via.refl f432 fun T W => ?_
          refine k_goto W 201 d_code_195 (by decide) ?_
          exact hJu1429 T uJ W 
      intro T u1429 W
      refine k_astore W d_code_201 rfl (L' := #[.val (.int p0), .val (.int p1), .val (.long q2), .second, .val (.long q3), .second, .val (.long q4), .second, .val (.int p5), .val (.int (2 : Int32)), .val (.int c131), .val (.int ((XT.ushr p0 (8 : Int32)) &&& (255 : Int32))), .val (.int sm), .val (.int (1 : Int32)), .val (.int d0), .val (.int d1), .val (.ref x416), .val (.ref x418), .val (.long j419), .second, .val (.long j420), .second, .val (.long jm421), .second, .val (.long ja424), .second, .val (.ref u1429), .unset, .unset, .unset, .unset, .unset]) rfl ?_
      refine k_iload W d_code_203 rfl ?_
      refine k_bipush W d_code_205 (z := (16 : Int32)) rfl ?_
      refine k_iand W d_code_207 (z := (p5 &&& (16 : Int32))) rfl ?_
      suffices hJu2433 : ∀ (T : State) (u2433 : Addr), WS p l e room_1 s m #[(.int p0), (.int p1), (.long q2), (.long q3), (.long q4), (.int p5)] below meth c Z a0 own_EL false n0 x code maxLocals ret T h418 [] 6 14 → WP p e below (Fne s n0 Z own_EL false room_1 (fun v h so => v = some (.int 1))) T (mkF m 220 #[.val (.int p0), .val (.int p1), .val (.long q2), .second, .val (.long q3), .second, .val (.long q4), .second, .val (.int p5), .val (.int (2 : Int32)), .val (.int c131), .val (.int ((XT.ushr p0 (8 : Int32)) &&& (255 : Int32))), .val (.int sm), .val (.int (1 : Int32)), .val (.int d0), .val (.int d1), .val (.ref x416), .val (.ref x418), .val (.long j419), .second, .val (.long j420), .second, .val (.long jm421), .second, .val (.long ja424), .second, .val (.ref u1429), .unset, .unset, .unset, .unset, .unset] [(.ref u2433)]) by
        refine k_if W 217 d_code_208 (by decide) (fun (hc434 : (p5 &&& (16 : Int32)) = 0) => ?_) (fun (hc434 : ¬ ((p5 &&& (16 : Int32)) = 0)) => ?_)
        · -- pc 217
          have f435 := (Sta.keep (Sta.keep UuB K416 ns0) K418 ns0)
          refine k_getS W d_code_217 (w44 hw) Via.refl f435 fun T W => ?_
          exact hJu2433 T uB W 
        · -- pc 211
          have f436 := (Sta.keep (Sta.keep UuJ K416 ns0) K418 ns0)
          refine k_getS W d_code_211 (w156 hw) Via.refl f436 fun T W => ?_
          refine k_goto W 220 d_code_214 (by decide) ?_
          exact hJu2433 T uJ W 
      intro T u2433 W
      refine k_astore W d_code_220 rfl (L' := #[.val (.int p0), .val (.int p1), .val (.long q2), .second, .val (.long q3), .second, .val (.long q4), .second, .val (.int p5), .val (.int (2 : Int32)), .val (.int c131), .val (.int ((XT.ushr p0 (8 : Int32)) &&& (255 : Int32))), .val (.int sm), .val (.int (1 : Int32)), .val (.int d0), .val (.int d1), .val (.ref x416), .val (.ref x418), .val (.long j419), .second, .val (.long j420), .second, .val (.long jm421), .second, .val (.long ja424), .second, .val (.ref u1429), .val (.ref u2433), .unset, .unset, .unset, .unset]) rfl ?_
      refine k_new W 7 18 d_code_222 (w47 hw) (w48 hw) (w49 hw) ⟨rfl, Nat.le_of_ble_eq_true rfl⟩ ⟨rfl, Nat.le_of_ble_eq_true rfl⟩ fun T h437 a438 g438 W E438 X438 D438 => ?_
      have K438 : Keep h418 h437 [] := keep_ext E438 []
      refine k_dup W d_code_225 rfl ?_
      refine k_aload W d_code_226 rfl rfl ?_
      refine k_lload W d_code_228 rfl ?_
      refine k_lload W d_code_230 rfl ?_
      refine k_aload W d_code_232 rfl rfl ?_
      have f439 := ((S416.keep K418 nin0 nin0).keep K438 nin0 nin0)
      have f440 := (Sta.keep (Sta.keep f417 K418 ns0) K438 ns0)
      have f442 := (Sta.keep (Sta.keep (Sta.keep CI K416 ns0) K418 ns0) K438 ns0)
      have f443 := (((CX.keep K416).keep K418).keep K438)
      have f444 := (Sta.keep (Sta.keep (Sta.keep CA K416 ns0) K418 ns0) K438 ns0)
      have f445 := (((CV.keep K416 nin0).keep K418 nin0).keep K438 nin0)
      refine k_callI0 W 1 11 62 (argsL := [(.ref x416), (.long j420), (.long j419), (.ref u1429)]) (rest := [(.ref a438)]) (a := a438) d_code_234 rfl rfl (w50 hw) (w51 hw) (by decide) (lenOf pd20 rfl) (ct_exinit l Z a0 hw n0 h437 cd ca a438 x416 b416 u1429 [(i2b c131), (i2b ((XT.ushr p0 (8 : Int32)) &&& (255 : Int32)))] j420 j419 zc 0 (i2b c131) rfl (by rw [lo_i2b r131.1]; exact r131) r419 r420 X438 (D438 (Or.inr (w108 hw)) (ty := (.object "java/lang/String")) (by decide)) (D438 (Or.inr (w110 hw)) (ty := .long) (by decide)) (D438 (Or.inr (w112 hw)) (ty := .long) (by decide)) (D438 (Or.inr (w114 hw)) (ty := (.object "com/example/lean_envelope/leanenvelope/check/ExceededLimit$Unit")) (by decide)) f439 f440 hzc f442 f443 f444 f445) (w52 hw) (w49 hw) (fun x hx => hx) rfl (Nat.le_of_eq rfl) (Nat.le_of_ble_eq_true rfl) (Nat.le_of_ble_eq_true rfl) ⟨rfl, Nat.le_of_ble_eq_true rfl⟩ ⟨rfl, Nat.le_of_ble_eq_true rfl⟩ rfl (fun _ _ _ q => nomatch q.1) fun T h441 so W hQ => ?_
      obtain ⟨-, K441, G0_441, G1_441, G2_441, G3_441⟩ := hQ
      refine k_astore W d_code_237 rfl (L' := #[.val (.int p0), .val (.int p1), .val (.long q2), .second, .val (.long q3), .second, .val (.long q4), .second, .val (.int p5), .val (.int (2 : Int32)), .val (.int c131), .val (.int ((XT.ushr p0 (8 : Int32)) &&& (255 : Int32))), .val (.int sm), .val (.int (1 : Int32)), .val (.int d0), .val (.int d1), .val (.ref x416), .val (.ref x418), .val (.long j419), .second, .val (.long j420), .second, .val (.long jm421), .second, .val (.long ja424), .second, .val (.ref u1429), .val (.ref u2433), .val (.ref a438), .unset, .unset, .unset]) rfl ?_
      refine k_new W 12 66 d_code_239 (w47 hw) (w48 hw) (w49 hw) ⟨rfl, Nat.le_of_ble_eq_true rfl⟩ ⟨rfl, Nat.le_of_ble_eq_true rfl⟩ fun T h446 a447 g447 W E447 X447 D447 => ?_
      have K447 : Keep h441 h446 [] := keep_ext E447 []
      refine k_dup W d_code_242 rfl ?_
      refine k_aload W d_code_243 rfl rfl ?_
      refine k_lload W d_code_245 rfl ?_
      refine k_lload W d_code_247 rfl ?_
      refine k_aload W d_code_249 rfl rfl ?_
      have ne448 : x418 ≠ a438 := (Nat.ne_of_lt (Nat.lt_of_lt_of_le S418.1.lt (Nat.le_of_eq g438.symm)))
      have ne449 : b418 ≠ a438 := (Nat.ne_of_lt (Nat.lt_of_lt_of_le S418.2.2.2.lt (Nat.le_of_eq g438.symm)))
      have f450 := (((S418.keep K438 nin0 nin0).keep K441 (ninS ne448 nin0) (ninS ne449 nin0)).keep K447 nin0 nin0)
      have f451 := (Sta.keep (Sta.keep f440 K441 (nsS (Exa.plain X438) ns0)) K447 ns0)
      have f453 := (Sta.keep (Sta.keep f442 K441 (nsS (Exa.plain X438) ns0)) K447 ns0)
      have f454 := ((f443.keep K441).keep K447)
      have f455 := (Sta.keep (Sta.keep f444 K441 (nsS (Exa.plain X438) ns0)) K447 ns0)
      have ne456 : ca ≠ a438 := (Nat.ne_of_lt (Nat.lt_of_lt_of_le (Nat.lt_of_lt_of_le CV.lt (Nat.le_trans K416.1 K418.1)) (Nat.le_of_eq g438.symm)))
      have f457 := ((f445.keep K441 (ninS ne456 nin0)).keep K447 nin0)
      refine k_callI0 W 1 16 110 (argsL := [(.ref x418), (.long ja424), (.long jm421), (.ref u2433)]) (rest := [(.ref a447)]) (a := a447) d_code_251 rfl rfl (w50 hw) (w51 hw) (by decide) (lenOf pd20 rfl) (ct_exinit l Z a0 hw n0 h446 cd ca a447 x418 b418 u2433 [(i2b d0)] ja424 jm421 zc 0 (i2b d0) rfl (by rw [lo_i2b rd0.1]; exact rd0) rjm421 rja424 X447 (D447 (Or.inr (w108 hw)) (ty := (.object "java/lang/String")) (by decide)) (D447 (Or.inr (w110 hw)) (ty := .long) (by decide)) (D447 (Or.inr (w112 hw)) (ty := .long) (by decide)) (D447 (Or.inr (w114 hw)) (ty := (.object "com/example/lean_envelope/leanenvelope/check/ExceededLimit$Unit")) (by decide)) f450 f451 hzc f453 f454 f455 f457) (w52 hw) (w49 hw) (fun x hx => by simp only [List.mem_cons, List.not_mem_nil, or_false] at hx; rcases hx with rfl; all_goals first | exact (List.mem_of_getElem? (i := 0) rfl)) rfl (Nat.le_of_eq rfl) (Nat.le_of_ble_eq_true rfl) (Nat.le_of_ble_eq_true rfl) ⟨rfl, Nat.le_of_ble_eq_true rfl⟩ ⟨rfl, Nat.le_of_ble_eq_true rfl⟩ rfl (fun _ _ _ q => nomatch q.1) fun T h452 so W hQ => ?_
      obtain ⟨-, K452, G0_452, G1_452, G2_452, G3_452⟩ := hQ
      refine k_astore W d_code_254 rfl (L' := #[.val (.int p0), .val (.int p1), .val (.long q2), .second, .val (.long q3), .second, .val (.long q4), .second, .val (.int p5), .val (.int (2 : Int32)), .val (.int c131), .val (.int ((XT.ushr p0 (8 : Int32)) &&& (255 : Int32))), .val (.int sm), .val (.int (1 : Int32)), .val (.int d0), .val (.int d1), .val (.ref x416), .val (.ref x418), .val (.long j419), .second, .val (.long j420), .second, .val (.long jm421), .second, .val (.long ja424), .second, .val (.ref u1429), .val (.ref u2433), .val (.ref a438), .val (.ref a447), .unset, .unset]) rfl ?_
      refine k_iload W d_code_256 rfl ?_
      refine k_iload W d_code_258 rfl ?_
      refine k_icY W 287 d_code_260 (by decide) (show ¬ (2 : Int32) = (1 : Int32) by decide) ?_
      refine k_iconst W d_code_287 (z := (0 : Int32)) rfl ?_
      refine k_istore W d_code_288 (L' := #[.val (.int p0), .val (.int p1), .val (.long q2), .second, .val (.long q3), .second, .val (.long q4), .second, .val (.int p5), .val (.int (2 : Int32)), .val (.int c131), .val (.int ((XT.ushr p0 (8 : Int32)) &&& (255 : Int32))), .val (.int sm), .val (.int (1 : Int32)), .val (.int d0), .val (.int d1), .val (.ref x416), .val (.ref x418), .val (.long j419), .second, .val (.long j420), .second, .val (.long jm421), .second, .val (.long ja424), .second, .val (.ref u1429), .val (.ref u2433), .val (.ref a438), .val (.ref a447), .val (.int (0 : Int32)), .unset]) rfl ?_
      refine k_iload W d_code_290 rfl ?_
      refine k_ifY W 322 d_code_292 (by decide) (show (0 : Int32) = 0 by decide) ?_
      refine k_iconst W d_code_322 (z := (0 : Int32)) rfl ?_
      refine k_istore W d_code_323 (L' := #[.val (.int p0), .val (.int p1), .val (.long q2), .second, .val (.long q3), .second, .val (.long q4), .second, .val (.int p5), .val (.int (2 : Int32)), .val (.int c131), .val (.int ((XT.ushr p0 (8 : Int32)) &&& (255 : Int32))), .val (.int sm), .val (.int (1 : Int32)), .val (.int d0), .val (.int d1), .val (.ref x416), .val (.ref x418), .val (.long j419), .second, .val (.long j420), .second, .val (.long jm421), .second, .val (.long ja424), .second, .val (.ref u1429), .val (.ref u2433), .val (.ref a438), .val (.ref a447), .val (.int (0 : Int32)), .val (.int (0 : Int32))]) rfl ?_
      refine k_aload W d_code_325 rfl rfl ?_
      refine k_aload W d_code_327 rfl rfl ?_
      have f458 := (X447.keep K452)
      have ne459 : a438 ≠ a447 := (Nat.ne_of_lt (Nat.lt_of_lt_of_le G0_441.lt (Nat.le_of_eq g447.symm)))
      have f460 := ((G0_441.keep K447 nin0).keep K452 (ninS ne459 nin0))
      have f461 := ((G1_441.keep K447 nin0).keep K452 (ninS ne459 nin0))
      have f462 := ((G2_441.keep K447 nin0).keep K452 (ninS ne459 nin0))
      have f463 := ((G3_441.keep K447 nin0).keep K452 (ninS ne459 nin0))
      have ne464 : x416 ≠ a438 := (Nat.ne_of_lt (Nat.lt_of_lt_of_le (Nat.lt_of_lt_of_le S416.1.lt K418.1) (Nat.le_of_eq g438.symm)))
      have ne465 : b416 ≠ a438 := (Nat.ne_of_lt (Nat.lt_of_lt_of_le (Nat.lt_of_lt_of_le S416.2.2.2.lt K418.1) (Nat.le_of_eq g438.symm)))
      have ne466 : x416 ≠ a447 := (Nat.ne_of_lt (Nat.lt_of_lt_of_le (Nat.lt_of_lt_of_le f439.1.lt K441.1) (Nat.le_of_eq g447.symm)))
      have ne467 : b416 ≠ a447 := (Nat.ne_of_lt (Nat.lt_of_lt_of_le (Nat.lt_of_lt_of_le f439.2.2.2.lt K441.1) (Nat.le_of_eq g447.symm)))
      have f468 := (((f439.keep K441 (ninS ne464 nin0) (ninS ne465 nin0)).keep K447 nin0 nin0).keep K452 (ninS ne466 nin0) (ninS ne467 nin0))
      have ne469 : x418 ≠ a447 := (Nat.ne_of_lt (Nat.lt_of_lt_of_le (Nat.lt_of_lt_of_le S418.1.lt (Nat.le_trans E438.1 K441.1)) (Nat.le_of_eq g447.symm)))
      have ne470 : b418 ≠ a447 := (Nat.ne_of_lt (Nat.lt_of_lt_of_le (Nat.lt_of_lt_of_le S418.2.2.2.lt (Nat.le_trans E438.1 K441.1)) (Nat.le_of_eq g447.symm)))
      have f471 := (f450.keep K452 (ninS ne469 nin0) (ninS ne470 nin0))
      have f472 := (Sta.keep f451 K452 (nsS (Exa.plain X447) ns0))
      have ne474 : x416 ≠ x418 := (Nat.ne_of_lt (Nat.lt_of_lt_of_le S416.1.lt gx418))
      have f475 := (((X438.keep K441).keep K447).keep K452)
      refine k_callV W 0 16 110 (argsL := [(.ref a447)]) (rest := []) (a := a438) (C := "com/example/lean_envelope/leanenvelope/check/ExceededLimit") (z0 := (⟨"com/example/lean_envelope/leanenvelope/check/ExceededLimit", "equals", "(Ljava/lang/Object;)Z"⟩ : MethodName)) (z := (⟨"com/example/lean_envelope/leanenvelope/check/ExceededLimit", "equals", "(Ljava/lang/Object;)Z"⟩ : MethodName)) d_code_329 (w115 hw) (w116 hw) (nfSel (w118 hw)) (w118 hw) (w117 hw) (by decide) (lenOf pd16 rfl) f475 (ct_xeq l Z a0 hw n0 h452 a438 a447 x416 b416 x418 b418 u1429 u2433 [(i2b c131), (i2b ((XT.ushr p0 (8 : Int32)) &&& (255 : Int32)))] [(i2b d0)] j420 ja424 j419 jm421 zc ne459 ne474 f475 f460 f461 f462 f463 f458 G0_452 G1_452 G2_452 G3_452 f468 f471 f472 hzc) (w119 hw) (w49 hw) (fun x hx => nomatch hx) rfl (Nat.le_of_eq rfl) (Nat.le_of_ble_eq_true rfl) (Nat.le_of_ble_eq_true rfl) ⟨rfl, Nat.le_of_ble_eq_true rfl⟩ ⟨rfl, Nat.le_of_ble_eq_true rfl⟩ rfl (fun _ _ q => by rcases q.1 with ⟨_, u⟩ | ⟨_, u⟩ <;> cases u) fun T h476 v so W hQ => ?_
      obtain ⟨hQ, rfl⟩ := hQ
      rcases hQ with ⟨hP473, hv⟩ | ⟨hP473, hv⟩
      · --
        obtain ⟨e1, e2, e3, e4⟩ := hP473
        exact absurd (congrArg List.length e1) (by simp)
      · --
        obtain rfl := Option.some.inj hv
        refine k_iload W d_code_332 rfl ?_
        refine k_icN W d_code_334 (show ¬ (¬ (0 : Int32) = (0 : Int32)) by decide) ?_
        refine k_aload W d_code_337 rfl rfl ?_
        refine k_aload W d_code_339 rfl rfl ?_
        refine k_callV W 0 16 110 (argsL := [(.ref a438)]) (rest := []) (a := a447) (C := "com/example/lean_envelope/leanenvelope/check/ExceededLimit") (z0 := (⟨"com/example/lean_envelope/leanenvelope/check/ExceededLimit", "equals", "(Ljava/lang/Object;)Z"⟩ : MethodName)) (z := (⟨"com/example/lean_envelope/leanenvelope/check/ExceededLimit", "equals", "(Ljava/lang/Object;)Z"⟩ : MethodName)) d_code_341 (w115 hw) (w116 hw) (nfSel (w118 hw)) (w118 hw) (w117 hw) (by decide) (lenOf pd16 rfl) f458 (ct_xeq l Z a0 hw n0 h452 a447 a438 x418 b418 x416 b416 u2433 u1429 [(i2b d0)] [(i2b c131), (i2b ((XT.ushr p0 (8 : Int32)) &&& (255 : Int32)))] ja424 j420 jm421 j419 zc (Ne.symm ne459) (Ne.symm ne474) f458 G0_452 G1_452 G2_452 G3_452 f475 f460 f461 f462 f463 f471 f468 f472 hzc) (w119 hw) (w49 hw) (fun x hx => nomatch hx) rfl (Nat.le_of_eq rfl) (Nat.le_of_ble_eq_true rfl) (Nat.le_of_ble_eq_true rfl) ⟨rfl, Nat.le_of_ble_eq_true rfl⟩ ⟨rfl, Nat.le_of_ble_eq_true rfl⟩ rfl (fun _ _ q => by rcases q.1 with ⟨_, u⟩ | ⟨_, u⟩ <;> cases u) fun T h478 v so W hQ => ?_
        obtain ⟨hQ, rfl⟩ := hQ
        rcases hQ with ⟨hP477, hv⟩ | ⟨hP477, hv⟩
        · --
          obtain ⟨e1, e2, e3, e4⟩ := hP477
          exact absurd (congrArg List.length e1) (by simp)
        · --
          obtain rfl := Option.some.inj hv
          refine k_iload W d_code_344 rfl ?_
          refine k_icN W d_code_346 (show ¬ (¬ (0 : Int32) = (0 : Int32)) by decide) ?_
          refine k_aload W d_code_349 rfl rfl ?_
          refine k_aload W d_code_351 rfl rfl ?_
          refine k_callV W 0 16 110 (argsL := [(.ref a438)]) (rest := []) (a := a438) (C := "com/example/lean_envelope/leanenvelope/check/ExceededLimit") (z0 := (⟨"com/example/lean_envelope/leanenvelope/check/ExceededLimit", "equals", "(Ljava/lang/Object;)Z"⟩ : MethodName)) (z := (⟨"com/example/lean_envelope/leanenvelope/check/ExceededLimit", "equals", "(Ljava/lang/Object;)Z"⟩ : MethodName)) d_code_353 (w115 hw) (w116 hw) (nfSel (w118 hw)) (w118 hw) (w117 hw) (by decide) (lenOf pd16 rfl) f475 (ct_xeqI l Z a0 hw n0 h452 a438) (w119 hw) (w49 hw) (fun x hx => nomatch hx) rfl (Nat.le_of_eq rfl) (Nat.le_of_ble_eq_true rfl) (Nat.le_of_ble_eq_true rfl) ⟨rfl, Nat.le_of_ble_eq_true rfl⟩ ⟨rfl, Nat.le_of_ble_eq_true rfl⟩ rfl (fun _ _ q => nomatch q.1) fun T h479 v so W hQ => ?_
          obtain ⟨hv, rfl, -⟩ := hQ
          obtain rfl := Option.some.inj hv
          refine k_ifN W d_code_356 (show ¬ ((1 : Int32) = 0) by decide) ?_
          refine k_aload W d_code_359 rfl rfl ?_
          refine k_aconst W d_code_361 ?_
          refine k_callV W 0 16 110 (argsL := [.null]) (rest := []) (a := a438) (C := "com/example/lean_envelope/leanenvelope/check/ExceededLimit") (z0 := (⟨"com/example/lean_envelope/leanenvelope/check/ExceededLimit", "equals", "(Ljava/lang/Object;)Z"⟩ : MethodName)) (z := (⟨"com/example/lean_envelope/leanenvelope/check/ExceededLimit", "equals", "(Ljava/lang/Object;)Z"⟩ : MethodName)) d_code_362 (w115 hw) (w116 hw) (nfSel (w118 hw)) (w118 hw) (w117 hw) (by decide) (lenOf pd16 rfl) f475 (ct_xeqN l Z a0 hw n0 h452 a438) (w119 hw) (w49 hw) (fun x hx => nomatch hx) rfl (Nat.le_of_eq rfl) (Nat.le_of_ble_eq_true rfl) (Nat.le_of_ble_eq_true rfl) ⟨rfl, Nat.le_of_ble_eq_true rfl⟩ ⟨rfl, Nat.le_of_ble_eq_true rfl⟩ rfl (fun _ _ q => nomatch q.1) fun T h480 v so W hQ => ?_
          obtain ⟨hv, rfl, -⟩ := hQ
          obtain rfl := Option.some.inj hv
          refine k_ifN W d_code_365 (show ¬ (¬ (0 : Int32) = 0) by decide) ?_
          refine k_aload W d_code_368 rfl rfl ?_
          refine k_aload W d_code_370 rfl rfl ?_
          refine k_callV W 0 16 110 (argsL := [(.ref x416)]) (rest := []) (a := a438) (C := "com/example/lean_envelope/leanenvelope/check/ExceededLimit") (z0 := (⟨"com/example/lean_envelope/leanenvelope/check/ExceededLimit", "equals", "(Ljava/lang/Object;)Z"⟩ : MethodName)) (z := (⟨"com/example/lean_envelope/leanenvelope/check/ExceededLimit", "equals", "(Ljava/lang/Object;)Z"⟩ : MethodName)) d_code_372 (w115 hw) (w116 hw) (nfSel (w118 hw)) (w118 hw) (w117 hw) (by decide) (lenOf pd16 rfl) f475 (ct_xeqS l Z a0 hw n0 h452 a438 x416 f475 f468.1) (w119 hw) (w49 hw) (fun x hx => nomatch hx) rfl (Nat.le_of_eq rfl) (Nat.le_of_ble_eq_true rfl) (Nat.le_of_ble_eq_true rfl) ⟨rfl, Nat.le_of_ble_eq_true rfl⟩ ⟨rfl, Nat.le_of_ble_eq_true rfl⟩ rfl (fun _ _ q => nomatch q.1) fun T h481 v so W hQ => ?_
          obtain ⟨hv, rfl, -⟩ := hQ
          obtain rfl := Option.some.inj hv
          refine k_ifN W d_code_375 (show ¬ (¬ (0 : Int32) = 0) by decide) ?_
          refine k_aload W d_code_378 rfl rfl ?_
          refine k_lload W d_code_380 rfl ?_
          have f483 := (Sta.keep (Sta.keep (Sta.keep (Sta.keep (Sta.keep (Sta.keep LS K416 ns0) K418 ns0) K438 ns0) K441 (nsS (Exa.plain X438) ns0)) K447 ns0) K452 (nsS (Exa.plain X447) ns0))
          have ne484 : lc ≠ a438 := (Nat.ne_of_lt (Nat.lt_of_lt_of_le (Nat.lt_of_lt_of_le LV.lt (Nat.le_trans K416.1 K418.1)) (Nat.le_of_eq g438.symm)))
          have ne485 : lc ≠ a447 := (Nat.ne_of_lt (Nat.lt_of_lt_of_le (Nat.lt_of_lt_of_le LV.lt (Nat.le_trans (Nat.le_trans (Nat.le_trans K416.1 K418.1) E438.1) K441.1)) (Nat.le_of_eq g447.symm)))
          have f486 := ((((((LV.keep K416 nin0).keep K418 nin0).keep K438 nin0).keep K441 (ninS ne484 nin0)).keep K447 nin0).keep K452 (ninS ne485 nin0))
          have f487 := ((((((LX.keep K416).keep K418).keep K438).keep K441).keep K447).keep K452)
          refine k_callS W 1 17 111 (argsL := [(.long j420)]) (rest := [(.ref a438)]) d_code_382 (w133 hw) (w134 hw) (by decide) (lenOf pd21 rfl) (ct_lval l Z a0 hw n0 h452 j420 lc lvs f483 f486 f487 hlv) (w136 hw) (w135 hw) (fun x hx => nomatch hx) rfl (Nat.le_of_eq rfl) (Nat.le_of_ble_eq_true rfl) (Nat.le_of_ble_eq_true rfl) ⟨rfl, Nat.le_of_ble_eq_true rfl⟩ ⟨rfl, Nat.le_of_ble_eq_true rfl⟩ rfl (fun _ _ ⟨_, q, _⟩ => nomatch q) fun T h482 v so W hQ => ?_
          obtain ⟨x482, hv, K482, X482⟩ := hQ
          obtain rfl := Option.some.inj hv
          have f488 := (f475.keep K482)
          refine k_callV W 0 17 111 (argsL := [(.ref x482)]) (rest := []) (a := a438) (C := "com/example/lean_envelope/leanenvelope/check/ExceededLimit") (z0 := (⟨"com/example/lean_envelope/leanenvelope/check/ExceededLimit", "equals", "(Ljava/lang/Object;)Z"⟩ : MethodName)) (z := (⟨"com/example/lean_envelope/leanenvelope/check/ExceededLimit", "equals", "(Ljava/lang/Object;)Z"⟩ : MethodName)) d_code_385 (w115 hw) (w116 hw) (nfSel (w118 hw)) (w118 hw) (w117 hw) (by decide) (lenOf pd16 rfl) f488 (ct_xeqL l Z a0 hw n0 h482 a438 x482 f488 X482) (w119 hw) (w49 hw) (fun x hx => nomatch hx) rfl (Nat.le_of_eq rfl) (Nat.le_of_ble_eq_true rfl) (Nat.le_of_ble_eq_true rfl) ⟨rfl, Nat.le_of_ble_eq_true rfl⟩ ⟨rfl, Nat.le_of_ble_eq_true rfl⟩ rfl (fun _ _ q => nomatch q.1) fun T h489 v so W hQ => ?_
          obtain ⟨hv, rfl, -⟩ := hQ
          obtain rfl := Option.some.inj hv
          refine k_ifN W d_code_388 (show ¬ (¬ (0 : Int32) = 0) by decide) ?_
          refine k_iconst W d_code_391 (z := (1 : Int32)) rfl ?_
          refine k_goto W 396 d_code_392 (by decide) ?_
          exact k_retN W (t := .boolean) (z' := (1 : Int32)) d_code_396 rfl (by simp) (by decide) [] (fun x hx => nomatch hx) (Nat.le_of_ble_eq_true rfl) (Nat.le_of_ble_eq_true rfl) rfl
    · --
      refine k_iload W d_code_96 rfl ?_
      refine k_iload W d_code_98 rfl ?_
      refine k_iload W d_code_100 rfl ?_
      refine k_callS W 0 3 8 (argsL := [(.int (2 : Int32)), (.int c131), (.int ((XT.ushr p0 (8 : Int32)) &&& (255 : Int32)))]) (rest := []) d_code_102 (w4 hw) (w5 hw) (by decide) (lenOf pd17 rfl) (ct_mk2 l Z a0 hw n0 h0 c131 ((XT.ushr p0 (8 : Int32)) &&& (255 : Int32)) zc r131.1 (Rg.and (n := 256) (XT.ushr p0 (8 : Int32)) (255 : Int32) (by decide)) P0 hzc) (w6 hw) (w2 hw) (fun x hx => hx) rfl (Nat.le_of_eq rfl) (Nat.le_of_ble_eq_true rfl) (Nat.le_of_ble_eq_true rfl) ⟨rfl, Nat.le_of_ble_eq_true rfl⟩ ⟨rfl, Nat.le_of_ble_eq_true rfl⟩ rfl (fun _ _ ⟨_, _, q, _⟩ => nomatch q) fun T h490 v so W hQ => ?_
      obtain ⟨x490, b490, hv, gx490, gb490, K490, S490⟩ := hQ
      obtain rfl := Option.some.inj hv
      refine k_astore W d_code_105 rfl (L' := #[.val (.int p0), .val (.int p1), .val (.long q2), .second, .val (.long q3), .second, .val (.long q4), .second, .val (.int p5), .val (.int (2 : Int32)), .val (.int c131), .val (.int ((XT.ushr p0 (8 : Int32)) &&& (255 : Int32))), .val (.int sm), .val (.int (2 : Int32)), .val (.int d0), .val (.int d1), .val (.ref x490), .unset, .unset, .unset, .unset, .unset, .unset, .unset, .unset, .unset, .unset, .unset, .unset, .unset, .unset, .unset]) rfl ?_
      refine k_iload W d_code_107 rfl ?_
      refine k_iload W d_code_109 rfl ?_
      refine k_iload W d_code_111 rfl ?_
      have f491 := (Sta.keep P0 K490 ns0)
      refine k_callS W 0 6 16 (argsL := [(.int (2 : Int32)), (.int d0), (.int d1)]) (rest := []) d_code_113 (w4 hw) (w5 hw) (by decide) (lenOf pd17 rfl) (ct_mk2 l Z a0 hw n0 h490 d0 d1 zc rd0.1 rd1 f491 hzc) (w6 hw) (w2 hw) (fun x hx => hx) rfl (Nat.le_of_eq rfl) (Nat.le_of_ble_eq_true rfl) (Nat.le_of_ble_eq_true rfl) ⟨rfl, Nat.le_of_ble_eq_true rfl⟩ ⟨rfl, Nat.le_of_ble_eq_true rfl⟩ rfl (fun _ _ ⟨_, _, q, _⟩ => nomatch q) fun T h492 v so W hQ => ?_
      obtain ⟨x492, b492, hv, gx492, gb492, K492, S492⟩ := hQ
      obtain rfl := Option.some.inj hv
      refine k_astore W d_code_116 rfl (L' := #[.val (.int p0), .val (.int p1), .val (.long q2), .second, .val (.long q3), .second, .val (.long q4), .second, .val (.int p5), .val (.int (2 : Int32)), .val (.int c131), .val (.int ((XT.ushr p0 (8 : Int32)) &&& (255 : Int32))), .val (.int sm), .val (.int (2 : Int32)), .val (.int d0), .val (.int d1), .val (.ref x490), .val (.ref x492), .unset, .unset, .unset, .unset, .unset, .unset, .unset, .unset, .unset, .unset, .unset, .unset, .unset, .unset]) rfl ?_
      refine k_lloadN W d_code_118 rfl ?_
      refine k_callS W 0 6 16 (argsL := [(.long q2)]) (rest := []) d_code_119 (w37 hw) (w38 hw) (by decide) (lenOf pd18 rfl) (ct_mx l Z a0 hw n0 h492 q2) (w39 hw) (w2 hw) (fun x hx => hx) rfl (Nat.le_of_eq rfl) (Nat.le_of_ble_eq_true rfl) (Nat.le_of_ble_eq_true rfl) ⟨rfl, Nat.le_of_ble_eq_true rfl⟩ ⟨rfl, Nat.le_of_ble_eq_true rfl⟩ rfl (fun _ _ ⟨_, q, _⟩ => nomatch q) fun T h493 v so W hQ => ?_
      obtain ⟨j493, hv, r493, rfl⟩ := hQ
      obtain rfl := Option.some.inj hv
      refine k_lstore W d_code_122 (L' := #[.val (.int p0), .val (.int p1), .val (.long q2), .second, .val (.long q3), .second, .val (.long q4), .second, .val (.int p5), .val (.int (2 : Int32)), .val (.int c131), .val (.int ((XT.ushr p0 (8 : Int32)) &&& (255 : Int32))), .val (.int sm), .val (.int (2 : Int32)), .val (.int d0), .val (.int d1), .val (.ref x490), .val (.ref x492), .val (.long j493), .second, .unset, .unset, .unset, .unset, .unset, .unset, .unset, .unset, .unset, .unset, .unset, .unset]) rfl ?_
      refine k_lload W d_code_124 rfl ?_
      refine k_lload W d_code_126 rfl ?_
      refine k_callS W 0 6 16 (argsL := [(.long j493), (.long q3)]) (rest := []) d_code_128 (w41 hw) (w42 hw) (by decide) (lenOf pd19 rfl) (ct_ac l Z a0 hw n0 h492 j493 q3 r493) (w43 hw) (w2 hw) (fun x hx => hx) rfl (Nat.le_of_eq rfl) (Nat.le_of_ble_eq_true rfl) (Nat.le_of_ble_eq_true rfl) ⟨rfl, Nat.le_of_ble_eq_true rfl⟩ ⟨rfl, Nat.le_of_ble_eq_true rfl⟩ rfl (fun _ _ ⟨_, q, _⟩ => nomatch q) fun T h494 v so W hQ => ?_
      obtain ⟨j494, hv, r494, rfl⟩ := hQ
      obtain rfl := Option.some.inj hv
      refine k_lstore W d_code_131 (L' := #[.val (.int p0), .val (.int p1), .val (.long q2), .second, .val (.long q3), .second, .val (.long q4), .second, .val (.int p5), .val (.int (2 : Int32)), .val (.int c131), .val (.int ((XT.ushr p0 (8 : Int32)) &&& (255 : Int32))), .val (.int sm), .val (.int (2 : Int32)), .val (.int d0), .val (.int d1), .val (.ref x490), .val (.ref x492), .val (.long j493), .second, .val (.long j494), .second, .unset, .unset, .unset, .unset, .unset, .unset, .unset, .unset, .unset, .unset]) rfl ?_
      refine k_iload W d_code_133 rfl ?_
      refine k_iconst W d_code_135 (z := (2 : Int32)) rfl ?_
      refine k_iand W d_code_136 (z := (p5 &&& (2 : Int32))) rfl ?_
      suffices hJjm495 : ∀ (T : State) (jm495 : Int64), WS p l e room_1 s m #[(.int p0), (.int p1), (.long q2), (.long q3), (.long q4), (.int p5)] below meth c Z a0 own_EL false n0 x code maxLocals ret T h492 [] 6 16 → own_OK jm495 → WP p e below (Fne s n0 Z own_EL false room_1 (fun v h so => v = some (.int 1))) T (mkF m 150 #[.val (.int p0), .val (.int p1), .val (.long q2), .second, .val (.long q3), .second, .val (.long q4), .second, .val (.int p5), .val (.int (2 : Int32)), .val (.int c131), .val (.int ((XT.ushr p0 (8 : Int32)) &&& (255 : Int32))), .val (.int sm), .val (.int (2 : Int32)), .val (.int d0), .val (.int d1), .val (.ref x490), .val (.ref x492), .val (.long j493), .second, .val (.long j494), .second, .unset, .unset, .unset, .unset, .unset, .unset, .unset, .unset, .unset, .unset] [(.long jm495)]) by
        refine k_if W 145 d_code_137 (by decide) (fun (hc496 : (p5 &&& (2 : Int32)) = 0) => ?_) (fun (hc496 : ¬ ((p5 &&& (2 : Int32)) = 0)) => ?_)
        · -- pc 145
          refine k_lload W d_code_145 rfl ?_
          refine k_callS W 0 6 16 (argsL := [(.long q4)]) (rest := []) d_code_147 (w37 hw) (w38 hw) (by decide) (lenOf pd18 rfl) (ct_mx l Z a0 hw n0 h492 q4) (w39 hw) (w2 hw) (fun x hx => hx) rfl (Nat.le_of_eq rfl) (Nat.le_of_ble_eq_true rfl) (Nat.le_of_ble_eq_true rfl) ⟨rfl, Nat.le_of_ble_eq_true rfl⟩ ⟨rfl, Nat.le_of_ble_eq_true rfl⟩ rfl (fun _ _ ⟨_, q, _⟩ => nomatch q) fun T h497 v so W hQ => ?_
          obtain ⟨j497, hv, r497, rfl⟩ := hQ
          obtain rfl := Option.some.inj hv
          exact hJjm495 T j497 W r497
        · -- pc 140
          refine k_lload W d_code_140 rfl ?_
          refine k_goto W 150 d_code_142 (by decide) ?_
          exact hJjm495 T j493 W r493
      intro T jm495 W rjm495
      refine k_lstore W d_code_150 (L' := #[.val (.int p0), .val (.int p1), .val (.long q2), .second, .val (.long q3), .second, .val (.long q4), .second, .val (.int p5), .val (.int (2 : Int32)), .val (.int c131), .val (.int ((XT.ushr p0 (8 : Int32)) &&& (255 : Int32))), .val (.int sm), .val (.int (2 : Int32)), .val (.int d0), .val (.int d1), .val (.ref x490), .val (.ref x492), .val (.long j493), .second, .val (.long j494), .second, .val (.long jm495), .second, .unset, .unset, .unset, .unset, .unset, .unset, .unset, .unset]) rfl ?_
      refine k_iload W d_code_152 rfl ?_
      refine k_iconst W d_code_154 (z := (4 : Int32)) rfl ?_
      refine k_iand W d_code_155 (z := (p5 &&& (4 : Int32))) rfl ?_
      suffices hJja498 : ∀ (T : State) (ja498 : Int64), WS p l e room_1 s m #[(.int p0), (.int p1), (.long q2), (.long q3), (.long q4), (.int p5)] below meth c Z a0 own_EL false n0 x code maxLocals ret T h492 [] 6 16 → jm495 < ja498 → WP p e below (Fne s n0 Z own_EL false room_1 (fun v h so => v = some (.int 1))) T (mkF m 182 #[.val (.int p0), .val (.int p1), .val (.long q2), .second, .val (.long q3), .second, .val (.long q4), .second, .val (.int p5), .val (.int (2 : Int32)), .val (.int c131), .val (.int ((XT.ushr p0 (8 : Int32)) &&& (255 : Int32))), .val (.int sm), .val (.int (2 : Int32)), .val (.int d0), .val (.int d1), .val (.ref x490), .val (.ref x492), .val (.long j493), .second, .val (.long j494), .second, .val (.long jm495), .second, .unset, .unset, .unset, .unset, .unset, .unset, .unset, .unset] [(.long ja498)]) by
        refine k_if W 172 d_code_156 (by decide) (fun (hc499 : (p5 &&& (4 : Int32)) = 0) => ?_) (fun (hc499 : ¬ ((p5 &&& (4 : Int32)) = 0)) => ?_)
        · -- pc 172
          refine k_lload W d_code_172 rfl ?_
          refine k_lload W d_code_174 rfl ?_
          refine k_lload W d_code_176 rfl ?_
          refine k_lxor W d_code_178 (z := (q3 ^^^ q4)) rfl ?_
          refine k_callS W 0 6 16 (argsL := [(.long jm495), (.long (q3 ^^^ q4))]) (rest := []) d_code_179 (w41 hw) (w42 hw) (by decide) (lenOf pd19 rfl) (ct_ac l Z a0 hw n0 h492 jm495 (q3 ^^^ q4) rjm495) (w43 hw) (w2 hw) (fun x hx => hx) rfl (Nat.le_of_eq rfl) (Nat.le_of_ble_eq_true rfl) (Nat.le_of_ble_eq_true rfl) ⟨rfl, Nat.le_of_ble_eq_true rfl⟩ ⟨rfl, Nat.le_of_ble_eq_true rfl⟩ rfl (fun _ _ ⟨_, q, _⟩ => nomatch q) fun T h500 v so W hQ => ?_
          obtain ⟨j500, hv, r500, rfl⟩ := hQ
          obtain rfl := Option.some.inj hv
          exact hJja498 T j500 W r500
        · -- pc 159
          refine k_lload W d_code_159 rfl ?_
          refine k_lload W d_code_161 rfl ?_
          refine k_lcmp W d_code_163 (z := (XT.cmpL j494 jm495)) rfl ?_
          refine k_if W 172 d_code_164 (by decide) (fun (hc501 : ¬ 0 < (XT.cmpL j494 jm495)) => ?_) (fun (hc501 : ¬ (¬ 0 < (XT.cmpL j494 jm495))) => ?_)
          · -- pc 172
            refine k_lload W d_code_172 rfl ?_
            refine k_lload W d_code_174 rfl ?_
            refine k_lload W d_code_176 rfl ?_
            refine k_lxor W d_code_178 (z := (q3 ^^^ q4)) rfl ?_
            refine k_callS W 0 6 16 (argsL := [(.long jm495), (.long (q3 ^^^ q4))]) (rest := []) d_code_179 (w41 hw) (w42 hw) (by decide) (lenOf pd19 rfl) (ct_ac l Z a0 hw n0 h492 jm495 (q3 ^^^ q4) rjm495) (w43 hw) (w2 hw) (fun x hx => hx) rfl (Nat.le_of_eq rfl) (Nat.le_of_ble_eq_true rfl) (Nat.le_of_ble_eq_true rfl) ⟨rfl, Nat.le_of_ble_eq_true rfl⟩ ⟨rfl, Nat.le_of_ble_eq_true rfl⟩ rfl (fun _ _ ⟨_, q, _⟩ => nomatch q) fun T h502 v so W hQ => ?_
            obtain ⟨j502, hv, r502, rfl⟩ := hQ
            obtain rfl := Option.some.inj hv
            exact hJja498 T j502 W r502
          · -- pc 167
            refine k_lload W d_code_167 rfl ?_
            refine k_goto W 182 d_code_169 (by decide) ?_
            exact hJja498 T j494 W (cmpL_gt.mp (Classical.not_not.mp hc501))
      intro T ja498 W rja498
      refine k_lstore W d_code_182 (L' := #[.val (.int p0), .val (.int p1), .val (.long q2), .second, .val (.long q3), .second, .val (.long q4), .second, .val (.int p5), .val (.int (2 : Int32)), .val (.int c131), .val (.int ((XT.ushr p0 (8 : Int32)) &&& (255 : Int32))), .val (.int sm), .val (.int (2 : Int32)), .val (.int d0), .val (.int d1), .val (.ref x490), .val (.ref x492), .val (.long j493), .second, .val (.long j494), .second, .val (.long jm495), .second, .val (.long ja498), .second, .unset, .unset, .unset, .unset, .unset, .unset]) rfl ?_
      refine k_iload W d_code_184 rfl ?_
      refine k_bipush W d_code_186 (z := (8 : Int32)) rfl ?_
      refine k_iand W d_code_188 (z := (p5 &&& (8 : Int32))) rfl ?_
      suffices hJu1503 : ∀ (T : State) (u1503 : Addr), WS p l e room_1 s m #[(.int p0), (.int p1), (.long q2), (.long q3), (.long q4), (.int p5)] below meth c Z a0 own_EL false n0 x code maxLocals ret T h492 [] 6 16 → WP p e below (Fne s n0 Z own_EL false room_1 (fun v h so => v = some (.int 1))) T (mkF m 201 #[.val (.int p0), .val (.int p1), .val (.long q2), .second, .val (.long q3), .second, .val (.long q4), .second, .val (.int p5), .val (.int (2 : Int32)), .val (.int c131), .val (.int ((XT.ushr p0 (8 : Int32)) &&& (255 : Int32))), .val (.int sm), .val (.int (2 : Int32)), .val (.int d0), .val (.int d1), .val (.ref x490), .val (.ref x492), .val (.long j493), .second, .val (.long j494), .second, .val (.long jm495), .second, .val (.long ja498), .second, .unset, .unset, .unset, .unset, .unset, .unset] [(.ref u1503)]) by
        refine k_if W 198 d_code_189 (by decide) (fun (hc504 : (p5 &&& (8 : Int32)) = 0) => ?_) (fun (hc504 : ¬ ((p5 &&& (8 : Int32)) = 0)) => ?_)
        · -- pc 198
          have f505 := (Sta.keep (Sta.keep UuB K490 ns0) K492 ns0)
          refine k_getS W d_code_198 (w44 hw) Via.refl f505 fun T W => ?_
          exact hJu1503 T uB W 
        · -- pc 192
          have f506 := (Sta.keep (Sta.keep UuJ K490 ns0) K492 ns0)
          refine k_getS W d_code_192 (w156 hw) Via.refl f506 fun T W => ?_
          refine k_goto W 201 d_code_195 (by decide) ?_
          exact hJu1503 T uJ W 
      intro T u1503 W
      refine k_astore W d_code_201 rfl (L' := #[.val (.int p0), .val (.int p1), .val (.long q2), .second, .val (.long q3), .second, .val (.long q4), .second, .val (.int p5), .val (.int (2 : Int32)), .val (.int c131), .val (.int ((XT.ushr p0 (8 : Int32)) &&& (255 : Int32))), .val (.int sm), .val (.int (2 : Int32)), .val (.int d0), .val (.int d1), .val (.ref x490), .val (.ref x492), .val (.long j493), .second, .val (.long j494), .second, .val (.long jm495), .second, .val (.long ja498), .second, .val (.ref u1503), .unset, .unset, .unset, .unset, .unset]) rfl ?_
      refine k_iload W d_code_203 rfl ?_
      refine k_bipush W d_code_205 (z := (16 : Int32)) rfl ?_
      refine k_iand W d_code_207 (z := (p5 &&& (16 : Int32))) rfl ?_
      suffices hJu2507 : ∀ (T : State) (u2507 : Addr), WS p l e room_1 s m #[(.int p0), (.int p1), (.long q2), (.long q3), (.long q4), (.int p5)] below meth c Z a0 own_EL false n0 x code maxLocals ret T h492 [] 6 16 → WP p e below (Fne s n0 Z own_EL false room_1 (fun v h so => v = some (.int 1))) T (mkF m 220 #[.val (.int p0), .val (.int p1), .val (.long q2), .second, .val (.long q3), .second, .val (.long q4), .second, .val (.int p5), .val (.int (2 : Int32)), .val (.int c131), .val (.int ((XT.ushr p0 (8 : Int32)) &&& (255 : Int32))), .val (.int sm), .val (.int (2 : Int32)), .val (.int d0), .val (.int d1), .val (.ref x490), .val (.ref x492), .val (.long j493), .second, .val (.long j494), .second, .val (.long jm495), .second, .val (.long ja498), .second, .val (.ref u1503), .unset, .unset, .unset, .unset, .unset] [(.ref u2507)]) by
        refine k_if W 217 d_code_208 (by decide) (fun (hc508 : (p5 &&& (16 : Int32)) = 0) => ?_) (fun (hc508 : ¬ ((p5 &&& (16 : Int32)) = 0)) => ?_)
        · -- pc 217
          have f509 := (Sta.keep (Sta.keep UuB K490 ns0) K492 ns0)
          refine k_getS W d_code_217 (w44 hw) Via.refl f509 fun T W => ?_
          exact hJu2507 T uB W 
        · -- pc 211
          have f510 := (Sta.keep (Sta.keep UuJ K490 ns0) K492 ns0)
          refine k_getS W d_code_211 (w156 hw) Via.refl f510 fun T W => ?_
          refine k_goto W 220 d_code_214 (by decide) ?_
          exact hJu2507 T uJ W 
      intro T u2507 W
      refine k_astore W d_code_220 rfl (L' := #[.val (.int p0), .val (.int p1), .val (.long q2), .second, .val (.long q3), .second, .val (.long q4), .second, .val (.int p5), .val (.int (2 : Int32)), .val (.int c131), .val (.int ((XT.ushr p0 (8 : Int32)) &&& (255 : Int32))), .val (.int sm), .val (.int (2 : Int32)), .val (.int d0), .val (.int d1), .val (.ref x490), .val (.ref x492), .val (.long j493), .second, .val (.long j494), .second, .val (.long jm495), .second, .val (.long ja498), .second, .val (.ref u1503), .val (.ref u2507), .unset, .unset, .unset, .unset]) rfl ?_
      refine k_new W 7 20 d_code_222 (w47 hw) (w48 hw) (w49 hw) ⟨rfl, Nat.le_of_ble_eq_true rfl⟩ ⟨rfl, Nat.le_of_ble_eq_true rfl⟩ fun T h511 a512 g512 W E512 X512 D512 => ?_
      have K512 : Keep h492 h511 [] := keep_ext E512 []
      refine k_dup W d_code_225 rfl ?_
      refine k_aload W d_code_226 rfl rfl ?_
      refine k_lload W d_code_228 rfl ?_
      refine k_lload W d_code_230 rfl ?_
      refine k_aload W d_code_232 rfl rfl ?_
      have f513 := ((S490.keep K492 nin0 nin0).keep K512 nin0 nin0)
      have f514 := (Sta.keep (Sta.keep f491 K492 ns0) K512 ns0)
      have f516 := (Sta.keep (Sta.keep (Sta.keep CI K490 ns0) K492 ns0) K512 ns0)
      have f517 := (((CX.keep K490).keep K492).keep K512)
      have f518 := (Sta.keep (Sta.keep (Sta.keep CA K490 ns0) K492 ns0) K512 ns0)
      have f519 := (((CV.keep K490 nin0).keep K492 nin0).keep K512 nin0)
      refine k_callI0 W 1 11 64 (argsL := [(.ref x490), (.long j494), (.long j493), (.ref u1503)]) (rest := [(.ref a512)]) (a := a512) d_code_234 rfl rfl (w50 hw) (w51 hw) (by decide) (lenOf pd20 rfl) (ct_exinit l Z a0 hw n0 h511 cd ca a512 x490 b490 u1503 [(i2b c131), (i2b ((XT.ushr p0 (8 : Int32)) &&& (255 : Int32)))] j494 j493 zc 0 (i2b c131) rfl (by rw [lo_i2b r131.1]; exact r131) r493 r494 X512 (D512 (Or.inr (w108 hw)) (ty := (.object "java/lang/String")) (by decide)) (D512 (Or.inr (w110 hw)) (ty := .long) (by decide)) (D512 (Or.inr (w112 hw)) (ty := .long) (by decide)) (D512 (Or.inr (w114 hw)) (ty := (.object "com/example/lean_envelope/leanenvelope/check/ExceededLimit$Unit")) (by decide)) f513 f514 hzc f516 f517 f518 f519) (w52 hw) (w49 hw) (fun x hx => hx) rfl (Nat.le_of_eq rfl) (Nat.le_of_ble_eq_true rfl) (Nat.le_of_ble_eq_true rfl) ⟨rfl, Nat.le_of_ble_eq_true rfl⟩ ⟨rfl, Nat.le_of_ble_eq_true rfl⟩ rfl (fun _ _ _ q => nomatch q.1) fun T h515 so W hQ => ?_
      obtain ⟨-, K515, G0_515, G1_515, G2_515, G3_515⟩ := hQ
      refine k_astore W d_code_237 rfl (L' := #[.val (.int p0), .val (.int p1), .val (.long q2), .second, .val (.long q3), .second, .val (.long q4), .second, .val (.int p5), .val (.int (2 : Int32)), .val (.int c131), .val (.int ((XT.ushr p0 (8 : Int32)) &&& (255 : Int32))), .val (.int sm), .val (.int (2 : Int32)), .val (.int d0), .val (.int d1), .val (.ref x490), .val (.ref x492), .val (.long j493), .second, .val (.long j494), .second, .val (.long jm495), .second, .val (.long ja498), .second, .val (.ref u1503), .val (.ref u2507), .val (.ref a512), .unset, .unset, .unset]) rfl ?_
      refine k_new W 12 68 d_code_239 (w47 hw) (w48 hw) (w49 hw) ⟨rfl, Nat.le_of_ble_eq_true rfl⟩ ⟨rfl, Nat.le_of_ble_eq_true rfl⟩ fun T h520 a521 g521 W E521 X521 D521 => ?_
      have K521 : Keep h515 h520 [] := keep_ext E521 []
      refine k_dup W d_code_242 rfl ?_
      refine k_aload W d_code_243 rfl rfl ?_
      refine k_lload W d_code_245 rfl ?_
      refine k_lload W d_code_247 rfl ?_
      refine k_aload W d_code_249 rfl rfl ?_
      have ne522 : x492 ≠ a512 := (Nat.ne_of_lt (Nat.lt_of_lt_of_le S492.1.lt (Nat.le_of_eq g512.symm)))
      have ne523 : b492 ≠ a512 := (Nat.ne_of_lt (Nat.lt_of_lt_of_le S492.2.2.2.lt (Nat.le_of_eq g512.symm)))
      have f524 := (((S492.keep K512 nin0 nin0).keep K515 (ninS ne522 nin0) (ninS ne523 nin0)).keep K521 nin0 nin0)
      have f525 := (Sta.keep (Sta.keep f514 K515 (nsS (Exa.plain X512) ns0)) K521 ns0)
      have f527 := (Sta.keep (Sta.keep f516 K515 (nsS (Exa.plain X512) ns0)) K521 ns0)
      have f528 := ((f517.keep K515).keep K521)
      have f529 := (Sta.keep (Sta.keep f518 K515 (nsS (Exa.plain X512) ns0)) K521 ns0)
      have ne530 : ca ≠ a512 := (Nat.ne_of_lt (Nat.lt_of_lt_of_le (Nat.lt_of_lt_of_le CV.lt (Nat.le_trans K490.1 K492.1)) (Nat.le_of_eq g512.symm)))
      have f531 := ((f519.keep K515 (ninS ne530 nin0)).keep K521 nin0)
      refine k_callI0 W 1 16 112 (argsL := [(.ref x492), (.long ja498), (.long jm495), (.ref u2507)]) (rest := [(.ref a521)]) (a := a521) d_code_251 rfl rfl (w50 hw) (w51 hw) (by decide) (lenOf pd20 rfl) (ct_exinit l Z a0 hw n0 h520 cd ca a521 x492 b492 u2507 [(i2b d0), (i2b d1)] ja498 jm495 zc 0 (i2b d0) rfl (by rw [lo_i2b rd0.1]; exact rd0) rjm495 rja498 X521 (D521 (Or.inr (w108 hw)) (ty := (.object "java/lang/String")) (by decide)) (D521 (Or.inr (w110 hw)) (ty := .long) (by decide)) (D521 (Or.inr (w112 hw)) (ty := .long) (by decide)) (D521 (Or.inr (w114 hw)) (ty := (.object "com/example/lean_envelope/leanenvelope/check/ExceededLimit$Unit")) (by decide)) f524 f525 hzc f527 f528 f529 f531) (w52 hw) (w49 hw) (fun x hx => by simp only [List.mem_cons, List.not_mem_nil, or_false] at hx; rcases hx with rfl; all_goals first | exact (List.mem_of_getElem? (i := 0) rfl)) rfl (Nat.le_of_eq rfl) (Nat.le_of_ble_eq_true rfl) (Nat.le_of_ble_eq_true rfl) ⟨rfl, Nat.le_of_ble_eq_true rfl⟩ ⟨rfl, Nat.le_of_ble_eq_true rfl⟩ rfl (fun _ _ _ q => nomatch q.1) fun T h526 so W hQ => ?_
      obtain ⟨-, K526, G0_526, G1_526, G2_526, G3_526⟩ := hQ
      refine k_astore W d_code_254 rfl (L' := #[.val (.int p0), .val (.int p1), .val (.long q2), .second, .val (.long q3), .second, .val (.long q4), .second, .val (.int p5), .val (.int (2 : Int32)), .val (.int c131), .val (.int ((XT.ushr p0 (8 : Int32)) &&& (255 : Int32))), .val (.int sm), .val (.int (2 : Int32)), .val (.int d0), .val (.int d1), .val (.ref x490), .val (.ref x492), .val (.long j493), .second, .val (.long j494), .second, .val (.long jm495), .second, .val (.long ja498), .second, .val (.ref u1503), .val (.ref u2507), .val (.ref a512), .val (.ref a521), .unset, .unset]) rfl ?_
      refine k_iload W d_code_256 rfl ?_
      refine k_iload W d_code_258 rfl ?_
      refine k_icN W d_code_260 (show ¬ (¬ (2 : Int32) = (2 : Int32)) by decide) ?_
      refine k_iload W d_code_263 rfl ?_
      refine k_iload W d_code_265 rfl ?_
      refine k_ic W 287 d_code_267 (by decide) (fun (hc532 : ¬ c131 = d0) => ?_) (fun (hc532 : ¬ (¬ c131 = d0)) => ?_)
      · -- pc 287
        refine k_iconst W d_code_287 (z := (0 : Int32)) rfl ?_
        refine k_istore W d_code_288 (L' := #[.val (.int p0), .val (.int p1), .val (.long q2), .second, .val (.long q3), .second, .val (.long q4), .second, .val (.int p5), .val (.int (2 : Int32)), .val (.int c131), .val (.int ((XT.ushr p0 (8 : Int32)) &&& (255 : Int32))), .val (.int sm), .val (.int (2 : Int32)), .val (.int d0), .val (.int d1), .val (.ref x490), .val (.ref x492), .val (.long j493), .second, .val (.long j494), .second, .val (.long jm495), .second, .val (.long ja498), .second, .val (.ref u1503), .val (.ref u2507), .val (.ref a512), .val (.ref a521), .val (.int (0 : Int32)), .unset]) rfl ?_
        refine k_iload W d_code_290 rfl ?_
        refine k_ifY W 322 d_code_292 (by decide) (show (0 : Int32) = 0 by decide) ?_
        refine k_iconst W d_code_322 (z := (0 : Int32)) rfl ?_
        refine k_istore W d_code_323 (L' := #[.val (.int p0), .val (.int p1), .val (.long q2), .second, .val (.long q3), .second, .val (.long q4), .second, .val (.int p5), .val (.int (2 : Int32)), .val (.int c131), .val (.int ((XT.ushr p0 (8 : Int32)) &&& (255 : Int32))), .val (.int sm), .val (.int (2 : Int32)), .val (.int d0), .val (.int d1), .val (.ref x490), .val (.ref x492), .val (.long j493), .second, .val (.long j494), .second, .val (.long jm495), .second, .val (.long ja498), .second, .val (.ref u1503), .val (.ref u2507), .val (.ref a512), .val (.ref a521), .val (.int (0 : Int32)), .val (.int (0 : Int32))]) rfl ?_
        refine k_aload W d_code_325 rfl rfl ?_
        refine k_aload W d_code_327 rfl rfl ?_
        have f533 := (X521.keep K526)
        have ne534 : a512 ≠ a521 := (Nat.ne_of_lt (Nat.lt_of_lt_of_le G0_515.lt (Nat.le_of_eq g521.symm)))
        have f535 := ((G0_515.keep K521 nin0).keep K526 (ninS ne534 nin0))
        have f536 := ((G1_515.keep K521 nin0).keep K526 (ninS ne534 nin0))
        have f537 := ((G2_515.keep K521 nin0).keep K526 (ninS ne534 nin0))
        have f538 := ((G3_515.keep K521 nin0).keep K526 (ninS ne534 nin0))
        have ne539 : x490 ≠ a512 := (Nat.ne_of_lt (Nat.lt_of_lt_of_le (Nat.lt_of_lt_of_le S490.1.lt K492.1) (Nat.le_of_eq g512.symm)))
        have ne540 : b490 ≠ a512 := (Nat.ne_of_lt (Nat.lt_of_lt_of_le (Nat.lt_of_lt_of_le S490.2.2.2.lt K492.1) (Nat.le_of_eq g512.symm)))
        have ne541 : x490 ≠ a521 := (Nat.ne_of_lt (Nat.lt_of_lt_of_le (Nat.lt_of_lt_of_le f513.1.lt K515.1) (Nat.le_of_eq g521.symm)))
        have ne542 : b490 ≠ a521 := (Nat.ne_of_lt (Nat.lt_of_lt_of_le (Nat.lt_of_lt_of_le f513.2.2.2.lt K515.1) (Nat.le_of_eq g521.symm)))
        have f543 := (((f513.keep K515 (ninS ne539 nin0) (ninS ne540 nin0)).keep K521 nin0 nin0).keep K526 (ninS ne541 nin0) (ninS ne542 nin0))
        have ne544 : x492 ≠ a521 := (Nat.ne_of_lt (Nat.lt_of_lt_of_le (Nat.lt_of_lt_of_le S492.1.lt (Nat.le_trans E512.1 K515.1)) (Nat.le_of_eq g521.symm)))
        have ne545 : b492 ≠ a521 := (Nat.ne_of_lt (Nat.lt_of_lt_of_le (Nat.lt_of_lt_of_le S492.2.2.2.lt (Nat.le_trans E512.1 K515.1)) (Nat.le_of_eq g521.symm)))
        have f546 := (f524.keep K526 (ninS ne544 nin0) (ninS ne545 nin0))
        have f547 := (Sta.keep f525 K526 (nsS (Exa.plain X521) ns0))
        have ne549 : x490 ≠ x492 := (Nat.ne_of_lt (Nat.lt_of_lt_of_le S490.1.lt gx492))
        have f550 := (((X512.keep K515).keep K521).keep K526)
        refine k_callV W 0 16 112 (argsL := [(.ref a521)]) (rest := []) (a := a512) (C := "com/example/lean_envelope/leanenvelope/check/ExceededLimit") (z0 := (⟨"com/example/lean_envelope/leanenvelope/check/ExceededLimit", "equals", "(Ljava/lang/Object;)Z"⟩ : MethodName)) (z := (⟨"com/example/lean_envelope/leanenvelope/check/ExceededLimit", "equals", "(Ljava/lang/Object;)Z"⟩ : MethodName)) d_code_329 (w115 hw) (w116 hw) (nfSel (w118 hw)) (w118 hw) (w117 hw) (by decide) (lenOf pd16 rfl) f550 (ct_xeq l Z a0 hw n0 h526 a512 a521 x490 b490 x492 b492 u1503 u2507 [(i2b c131), (i2b ((XT.ushr p0 (8 : Int32)) &&& (255 : Int32)))] [(i2b d0), (i2b d1)] j494 ja498 j493 jm495 zc ne534 ne549 f550 f535 f536 f537 f538 f533 G0_526 G1_526 G2_526 G3_526 f543 f546 f547 hzc) (w119 hw) (w49 hw) (fun x hx => nomatch hx) rfl (Nat.le_of_eq rfl) (Nat.le_of_ble_eq_true rfl) (Nat.le_of_ble_eq_true rfl) ⟨rfl, Nat.le_of_ble_eq_true rfl⟩ ⟨rfl, Nat.le_of_ble_eq_true rfl⟩ rfl (fun _ _ q => by rcases q.1 with ⟨_, u⟩ | ⟨_, u⟩ <;> cases u) fun T h551 v so W hQ => ?_
        obtain ⟨hQ, rfl⟩ := hQ
        rcases hQ with ⟨hP548, hv⟩ | ⟨hP548, hv⟩
        · --
          obtain ⟨e1, e2, e3, e4⟩ := hP548
          have q0 : (i2b c131) = (i2b d0) := by simpa using congrArg (fun l => l.getD 0 0) e1
          exact absurd (i2b_inj r131.1 rd0.1 q0) hc532
        · --
          obtain rfl := Option.some.inj hv
          refine k_iload W d_code_332 rfl ?_
          refine k_icN W d_code_334 (show ¬ (¬ (0 : Int32) = (0 : Int32)) by decide) ?_
          refine k_aload W d_code_337 rfl rfl ?_
          refine k_aload W d_code_339 rfl rfl ?_
          refine k_callV W 0 16 112 (argsL := [(.ref a512)]) (rest := []) (a := a521) (C := "com/example/lean_envelope/leanenvelope/check/ExceededLimit") (z0 := (⟨"com/example/lean_envelope/leanenvelope/check/ExceededLimit", "equals", "(Ljava/lang/Object;)Z"⟩ : MethodName)) (z := (⟨"com/example/lean_envelope/leanenvelope/check/ExceededLimit", "equals", "(Ljava/lang/Object;)Z"⟩ : MethodName)) d_code_341 (w115 hw) (w116 hw) (nfSel (w118 hw)) (w118 hw) (w117 hw) (by decide) (lenOf pd16 rfl) f533 (ct_xeq l Z a0 hw n0 h526 a521 a512 x492 b492 x490 b490 u2507 u1503 [(i2b d0), (i2b d1)] [(i2b c131), (i2b ((XT.ushr p0 (8 : Int32)) &&& (255 : Int32)))] ja498 j494 jm495 j493 zc (Ne.symm ne534) (Ne.symm ne549) f533 G0_526 G1_526 G2_526 G3_526 f550 f535 f536 f537 f538 f546 f543 f547 hzc) (w119 hw) (w49 hw) (fun x hx => nomatch hx) rfl (Nat.le_of_eq rfl) (Nat.le_of_ble_eq_true rfl) (Nat.le_of_ble_eq_true rfl) ⟨rfl, Nat.le_of_ble_eq_true rfl⟩ ⟨rfl, Nat.le_of_ble_eq_true rfl⟩ rfl (fun _ _ q => by rcases q.1 with ⟨_, u⟩ | ⟨_, u⟩ <;> cases u) fun T h553 v so W hQ => ?_
          obtain ⟨hQ, rfl⟩ := hQ
          rcases hQ with ⟨hP552, hv⟩ | ⟨hP552, hv⟩
          · --
            obtain ⟨e1, e2, e3, e4⟩ := hP552
            have q0 : (i2b d0) = (i2b c131) := by simpa using congrArg (fun l => l.getD 0 0) e1
            exact absurd ((i2b_inj rd0.1 r131.1 q0).symm) hc532
          · --
            obtain rfl := Option.some.inj hv
            refine k_iload W d_code_344 rfl ?_
            refine k_icN W d_code_346 (show ¬ (¬ (0 : Int32) = (0 : Int32)) by decide) ?_
            refine k_aload W d_code_349 rfl rfl ?_
            refine k_aload W d_code_351 rfl rfl ?_
            refine k_callV W 0 16 112 (argsL := [(.ref a512)]) (rest := []) (a := a512) (C := "com/example/lean_envelope/leanenvelope/check/ExceededLimit") (z0 := (⟨"com/example/lean_envelope/leanenvelope/check/ExceededLimit", "equals", "(Ljava/lang/Object;)Z"⟩ : MethodName)) (z := (⟨"com/example/lean_envelope/leanenvelope/check/ExceededLimit", "equals", "(Ljava/lang/Object;)Z"⟩ : MethodName)) d_code_353 (w115 hw) (w116 hw) (nfSel (w118 hw)) (w118 hw) (w117 hw) (by decide) (lenOf pd16 rfl) f550 (ct_xeqI l Z a0 hw n0 h526 a512) (w119 hw) (w49 hw) (fun x hx => nomatch hx) rfl (Nat.le_of_eq rfl) (Nat.le_of_ble_eq_true rfl) (Nat.le_of_ble_eq_true rfl) ⟨rfl, Nat.le_of_ble_eq_true rfl⟩ ⟨rfl, Nat.le_of_ble_eq_true rfl⟩ rfl (fun _ _ q => nomatch q.1) fun T h554 v so W hQ => ?_
            obtain ⟨hv, rfl, -⟩ := hQ
            obtain rfl := Option.some.inj hv
            refine k_ifN W d_code_356 (show ¬ ((1 : Int32) = 0) by decide) ?_
            refine k_aload W d_code_359 rfl rfl ?_
            refine k_aconst W d_code_361 ?_
            refine k_callV W 0 16 112 (argsL := [.null]) (rest := []) (a := a512) (C := "com/example/lean_envelope/leanenvelope/check/ExceededLimit") (z0 := (⟨"com/example/lean_envelope/leanenvelope/check/ExceededLimit", "equals", "(Ljava/lang/Object;)Z"⟩ : MethodName)) (z := (⟨"com/example/lean_envelope/leanenvelope/check/ExceededLimit", "equals", "(Ljava/lang/Object;)Z"⟩ : MethodName)) d_code_362 (w115 hw) (w116 hw) (nfSel (w118 hw)) (w118 hw) (w117 hw) (by decide) (lenOf pd16 rfl) f550 (ct_xeqN l Z a0 hw n0 h526 a512) (w119 hw) (w49 hw) (fun x hx => nomatch hx) rfl (Nat.le_of_eq rfl) (Nat.le_of_ble_eq_true rfl) (Nat.le_of_ble_eq_true rfl) ⟨rfl, Nat.le_of_ble_eq_true rfl⟩ ⟨rfl, Nat.le_of_ble_eq_true rfl⟩ rfl (fun _ _ q => nomatch q.1) fun T h555 v so W hQ => ?_
            obtain ⟨hv, rfl, -⟩ := hQ
            obtain rfl := Option.some.inj hv
            refine k_ifN W d_code_365 (show ¬ (¬ (0 : Int32) = 0) by decide) ?_
            refine k_aload W d_code_368 rfl rfl ?_
            refine k_aload W d_code_370 rfl rfl ?_
            refine k_callV W 0 16 112 (argsL := [(.ref x490)]) (rest := []) (a := a512) (C := "com/example/lean_envelope/leanenvelope/check/ExceededLimit") (z0 := (⟨"com/example/lean_envelope/leanenvelope/check/ExceededLimit", "equals", "(Ljava/lang/Object;)Z"⟩ : MethodName)) (z := (⟨"com/example/lean_envelope/leanenvelope/check/ExceededLimit", "equals", "(Ljava/lang/Object;)Z"⟩ : MethodName)) d_code_372 (w115 hw) (w116 hw) (nfSel (w118 hw)) (w118 hw) (w117 hw) (by decide) (lenOf pd16 rfl) f550 (ct_xeqS l Z a0 hw n0 h526 a512 x490 f550 f543.1) (w119 hw) (w49 hw) (fun x hx => nomatch hx) rfl (Nat.le_of_eq rfl) (Nat.le_of_ble_eq_true rfl) (Nat.le_of_ble_eq_true rfl) ⟨rfl, Nat.le_of_ble_eq_true rfl⟩ ⟨rfl, Nat.le_of_ble_eq_true rfl⟩ rfl (fun _ _ q => nomatch q.1) fun T h556 v so W hQ => ?_
            obtain ⟨hv, rfl, -⟩ := hQ
            obtain rfl := Option.some.inj hv
            refine k_ifN W d_code_375 (show ¬ (¬ (0 : Int32) = 0) by decide) ?_
            refine k_aload W d_code_378 rfl rfl ?_
            refine k_lload W d_code_380 rfl ?_
            have f558 := (Sta.keep (Sta.keep (Sta.keep (Sta.keep (Sta.keep (Sta.keep LS K490 ns0) K492 ns0) K512 ns0) K515 (nsS (Exa.plain X512) ns0)) K521 ns0) K526 (nsS (Exa.plain X521) ns0))
            have ne559 : lc ≠ a512 := (Nat.ne_of_lt (Nat.lt_of_lt_of_le (Nat.lt_of_lt_of_le LV.lt (Nat.le_trans K490.1 K492.1)) (Nat.le_of_eq g512.symm)))
            have ne560 : lc ≠ a521 := (Nat.ne_of_lt (Nat.lt_of_lt_of_le (Nat.lt_of_lt_of_le LV.lt (Nat.le_trans (Nat.le_trans (Nat.le_trans K490.1 K492.1) E512.1) K515.1)) (Nat.le_of_eq g521.symm)))
            have f561 := ((((((LV.keep K490 nin0).keep K492 nin0).keep K512 nin0).keep K515 (ninS ne559 nin0)).keep K521 nin0).keep K526 (ninS ne560 nin0))
            have f562 := ((((((LX.keep K490).keep K492).keep K512).keep K515).keep K521).keep K526)
            refine k_callS W 1 17 113 (argsL := [(.long j494)]) (rest := [(.ref a512)]) d_code_382 (w133 hw) (w134 hw) (by decide) (lenOf pd21 rfl) (ct_lval l Z a0 hw n0 h526 j494 lc lvs f558 f561 f562 hlv) (w136 hw) (w135 hw) (fun x hx => nomatch hx) rfl (Nat.le_of_eq rfl) (Nat.le_of_ble_eq_true rfl) (Nat.le_of_ble_eq_true rfl) ⟨rfl, Nat.le_of_ble_eq_true rfl⟩ ⟨rfl, Nat.le_of_ble_eq_true rfl⟩ rfl (fun _ _ ⟨_, q, _⟩ => nomatch q) fun T h557 v so W hQ => ?_
            obtain ⟨x557, hv, K557, X557⟩ := hQ
            obtain rfl := Option.some.inj hv
            have f563 := (f550.keep K557)
            refine k_callV W 0 17 113 (argsL := [(.ref x557)]) (rest := []) (a := a512) (C := "com/example/lean_envelope/leanenvelope/check/ExceededLimit") (z0 := (⟨"com/example/lean_envelope/leanenvelope/check/ExceededLimit", "equals", "(Ljava/lang/Object;)Z"⟩ : MethodName)) (z := (⟨"com/example/lean_envelope/leanenvelope/check/ExceededLimit", "equals", "(Ljava/lang/Object;)Z"⟩ : MethodName)) d_code_385 (w115 hw) (w116 hw) (nfSel (w118 hw)) (w118 hw) (w117 hw) (by decide) (lenOf pd16 rfl) f563 (ct_xeqL l Z a0 hw n0 h557 a512 x557 f563 X557) (w119 hw) (w49 hw) (fun x hx => nomatch hx) rfl (Nat.le_of_eq rfl) (Nat.le_of_ble_eq_true rfl) (Nat.le_of_ble_eq_true rfl) ⟨rfl, Nat.le_of_ble_eq_true rfl⟩ ⟨rfl, Nat.le_of_ble_eq_true rfl⟩ rfl (fun _ _ q => nomatch q.1) fun T h564 v so W hQ => ?_
            obtain ⟨hv, rfl, -⟩ := hQ
            obtain rfl := Option.some.inj hv
            refine k_ifN W d_code_388 (show ¬ (¬ (0 : Int32) = 0) by decide) ?_
            refine k_iconst W d_code_391 (z := (1 : Int32)) rfl ?_
            refine k_goto W 396 d_code_392 (by decide) ?_
            exact k_retN W (t := .boolean) (z' := (1 : Int32)) d_code_396 rfl (by simp) (by decide) [] (fun x hx => nomatch hx) (Nat.le_of_ble_eq_true rfl) (Nat.le_of_ble_eq_true rfl) rfl
      · -- pc 270
        refine k_iload W d_code_270 rfl ?_
        refine k_iconst W d_code_272 (z := (1 : Int32)) rfl ?_
        refine k_icN W d_code_273 (show ¬ ((2 : Int32) = (1 : Int32)) by decide) ?_
        refine k_iload W d_code_276 rfl ?_
        refine k_iload W d_code_278 rfl ?_
        refine k_ic W 287 d_code_280 (by decide) (fun (hc565 : ¬ ((XT.ushr p0 (8 : Int32)) &&& (255 : Int32)) = d1) => ?_) (fun (hc565 : ¬ (¬ ((XT.ushr p0 (8 : Int32)) &&& (255 : Int32)) = d1)) => ?_)
        · -- pc 287
          refine k_iconst W d_code_287 (z := (0 : Int32)) rfl ?_
          refine k_istore W d_code_288 (L' := #[.val (.int p0), .val (.int p1), .val (.long q2), .second, .val (.long q3), .second, .val (.long q4), .second, .val (.int p5), .val (.int (2 : Int32)), .val (.int c131), .val (.int ((XT.ushr p0 (8 : Int32)) &&& (255 : Int32))), .val (.int sm), .val (.int (2 : Int32)), .val (.int d0), .val (.int d1), .val (.ref x490), .val (.ref x492), .val (.long j493), .second, .val (.long j494), .second, .val (.long jm495), .second, .val (.long ja498), .second, .val (.ref u1503), .val (.ref u2507), .val (.ref a512), .val (.ref a521), .val (.int (0 : Int32)), .unset]) rfl ?_
          refine k_iload W d_code_290 rfl ?_
          refine k_ifY W 322 d_code_292 (by decide) (show (0 : Int32) = 0 by decide) ?_
          refine k_iconst W d_code_322 (z := (0 : Int32)) rfl ?_
          refine k_istore W d_code_323 (L' := #[.val (.int p0), .val (.int p1), .val (.long q2), .second, .val (.long q3), .second, .val (.long q4), .second, .val (.int p5), .val (.int (2 : Int32)), .val (.int c131), .val (.int ((XT.ushr p0 (8 : Int32)) &&& (255 : Int32))), .val (.int sm), .val (.int (2 : Int32)), .val (.int d0), .val (.int d1), .val (.ref x490), .val (.ref x492), .val (.long j493), .second, .val (.long j494), .second, .val (.long jm495), .second, .val (.long ja498), .second, .val (.ref u1503), .val (.ref u2507), .val (.ref a512), .val (.ref a521), .val (.int (0 : Int32)), .val (.int (0 : Int32))]) rfl ?_
          refine k_aload W d_code_325 rfl rfl ?_
          refine k_aload W d_code_327 rfl rfl ?_
          have f566 := (X521.keep K526)
          have ne567 : a512 ≠ a521 := (Nat.ne_of_lt (Nat.lt_of_lt_of_le G0_515.lt (Nat.le_of_eq g521.symm)))
          have f568 := ((G0_515.keep K521 nin0).keep K526 (ninS ne567 nin0))
          have f569 := ((G1_515.keep K521 nin0).keep K526 (ninS ne567 nin0))
          have f570 := ((G2_515.keep K521 nin0).keep K526 (ninS ne567 nin0))
          have f571 := ((G3_515.keep K521 nin0).keep K526 (ninS ne567 nin0))
          have ne572 : x490 ≠ a512 := (Nat.ne_of_lt (Nat.lt_of_lt_of_le (Nat.lt_of_lt_of_le S490.1.lt K492.1) (Nat.le_of_eq g512.symm)))
          have ne573 : b490 ≠ a512 := (Nat.ne_of_lt (Nat.lt_of_lt_of_le (Nat.lt_of_lt_of_le S490.2.2.2.lt K492.1) (Nat.le_of_eq g512.symm)))
          have ne574 : x490 ≠ a521 := (Nat.ne_of_lt (Nat.lt_of_lt_of_le (Nat.lt_of_lt_of_le f513.1.lt K515.1) (Nat.le_of_eq g521.symm)))
          have ne575 : b490 ≠ a521 := (Nat.ne_of_lt (Nat.lt_of_lt_of_le (Nat.lt_of_lt_of_le f513.2.2.2.lt K515.1) (Nat.le_of_eq g521.symm)))
          have f576 := (((f513.keep K515 (ninS ne572 nin0) (ninS ne573 nin0)).keep K521 nin0 nin0).keep K526 (ninS ne574 nin0) (ninS ne575 nin0))
          have ne577 : x492 ≠ a521 := (Nat.ne_of_lt (Nat.lt_of_lt_of_le (Nat.lt_of_lt_of_le S492.1.lt (Nat.le_trans E512.1 K515.1)) (Nat.le_of_eq g521.symm)))
          have ne578 : b492 ≠ a521 := (Nat.ne_of_lt (Nat.lt_of_lt_of_le (Nat.lt_of_lt_of_le S492.2.2.2.lt (Nat.le_trans E512.1 K515.1)) (Nat.le_of_eq g521.symm)))
          have f579 := (f524.keep K526 (ninS ne577 nin0) (ninS ne578 nin0))
          have f580 := (Sta.keep f525 K526 (nsS (Exa.plain X521) ns0))
          have ne582 : x490 ≠ x492 := (Nat.ne_of_lt (Nat.lt_of_lt_of_le S490.1.lt gx492))
          have f583 := (((X512.keep K515).keep K521).keep K526)
          refine k_callV W 0 16 112 (argsL := [(.ref a521)]) (rest := []) (a := a512) (C := "com/example/lean_envelope/leanenvelope/check/ExceededLimit") (z0 := (⟨"com/example/lean_envelope/leanenvelope/check/ExceededLimit", "equals", "(Ljava/lang/Object;)Z"⟩ : MethodName)) (z := (⟨"com/example/lean_envelope/leanenvelope/check/ExceededLimit", "equals", "(Ljava/lang/Object;)Z"⟩ : MethodName)) d_code_329 (w115 hw) (w116 hw) (nfSel (w118 hw)) (w118 hw) (w117 hw) (by decide) (lenOf pd16 rfl) f583 (ct_xeq l Z a0 hw n0 h526 a512 a521 x490 b490 x492 b492 u1503 u2507 [(i2b c131), (i2b ((XT.ushr p0 (8 : Int32)) &&& (255 : Int32)))] [(i2b d0), (i2b d1)] j494 ja498 j493 jm495 zc ne567 ne582 f583 f568 f569 f570 f571 f566 G0_526 G1_526 G2_526 G3_526 f576 f579 f580 hzc) (w119 hw) (w49 hw) (fun x hx => nomatch hx) rfl (Nat.le_of_eq rfl) (Nat.le_of_ble_eq_true rfl) (Nat.le_of_ble_eq_true rfl) ⟨rfl, Nat.le_of_ble_eq_true rfl⟩ ⟨rfl, Nat.le_of_ble_eq_true rfl⟩ rfl (fun _ _ q => by rcases q.1 with ⟨_, u⟩ | ⟨_, u⟩ <;> cases u) fun T h584 v so W hQ => ?_
          obtain ⟨hQ, rfl⟩ := hQ
          rcases hQ with ⟨hP581, hv⟩ | ⟨hP581, hv⟩
          · --
            obtain ⟨e1, e2, e3, e4⟩ := hP581
            have q0 : (i2b ((XT.ushr p0 (8 : Int32)) &&& (255 : Int32))) = (i2b d1) := by simpa using congrArg (fun l => l.getD 1 0) e1
            exact absurd (i2b_inj (Rg.and (n := 256) (XT.ushr p0 (8 : Int32)) (255 : Int32) (by decide)) rd1 q0) hc565
          · --
            obtain rfl := Option.some.inj hv
            refine k_iload W d_code_332 rfl ?_
            refine k_icN W d_code_334 (show ¬ (¬ (0 : Int32) = (0 : Int32)) by decide) ?_
            refine k_aload W d_code_337 rfl rfl ?_
            refine k_aload W d_code_339 rfl rfl ?_
            refine k_callV W 0 16 112 (argsL := [(.ref a512)]) (rest := []) (a := a521) (C := "com/example/lean_envelope/leanenvelope/check/ExceededLimit") (z0 := (⟨"com/example/lean_envelope/leanenvelope/check/ExceededLimit", "equals", "(Ljava/lang/Object;)Z"⟩ : MethodName)) (z := (⟨"com/example/lean_envelope/leanenvelope/check/ExceededLimit", "equals", "(Ljava/lang/Object;)Z"⟩ : MethodName)) d_code_341 (w115 hw) (w116 hw) (nfSel (w118 hw)) (w118 hw) (w117 hw) (by decide) (lenOf pd16 rfl) f566 (ct_xeq l Z a0 hw n0 h526 a521 a512 x492 b492 x490 b490 u2507 u1503 [(i2b d0), (i2b d1)] [(i2b c131), (i2b ((XT.ushr p0 (8 : Int32)) &&& (255 : Int32)))] ja498 j494 jm495 j493 zc (Ne.symm ne567) (Ne.symm ne582) f566 G0_526 G1_526 G2_526 G3_526 f583 f568 f569 f570 f571 f579 f576 f580 hzc) (w119 hw) (w49 hw) (fun x hx => nomatch hx) rfl (Nat.le_of_eq rfl) (Nat.le_of_ble_eq_true rfl) (Nat.le_of_ble_eq_true rfl) ⟨rfl, Nat.le_of_ble_eq_true rfl⟩ ⟨rfl, Nat.le_of_ble_eq_true rfl⟩ rfl (fun _ _ q => by rcases q.1 with ⟨_, u⟩ | ⟨_, u⟩ <;> cases u) fun T h586 v so W hQ => ?_
            obtain ⟨hQ, rfl⟩ := hQ
            rcases hQ with ⟨hP585, hv⟩ | ⟨hP585, hv⟩
            · --
              obtain ⟨e1, e2, e3, e4⟩ := hP585
              have q0 : (i2b d1) = (i2b ((XT.ushr p0 (8 : Int32)) &&& (255 : Int32))) := by simpa using congrArg (fun l => l.getD 1 0) e1
              exact absurd ((i2b_inj rd1 (Rg.and (n := 256) (XT.ushr p0 (8 : Int32)) (255 : Int32) (by decide)) q0).symm) hc565
            · --
              obtain rfl := Option.some.inj hv
              refine k_iload W d_code_344 rfl ?_
              refine k_icN W d_code_346 (show ¬ (¬ (0 : Int32) = (0 : Int32)) by decide) ?_
              refine k_aload W d_code_349 rfl rfl ?_
              refine k_aload W d_code_351 rfl rfl ?_
              refine k_callV W 0 16 112 (argsL := [(.ref a512)]) (rest := []) (a := a512) (C := "com/example/lean_envelope/leanenvelope/check/ExceededLimit") (z0 := (⟨"com/example/lean_envelope/leanenvelope/check/ExceededLimit", "equals", "(Ljava/lang/Object;)Z"⟩ : MethodName)) (z := (⟨"com/example/lean_envelope/leanenvelope/check/ExceededLimit", "equals", "(Ljava/lang/Object;)Z"⟩ : MethodName)) d_code_353 (w115 hw) (w116 hw) (nfSel (w118 hw)) (w118 hw) (w117 hw) (by decide) (lenOf pd16 rfl) f583 (ct_xeqI l Z a0 hw n0 h526 a512) (w119 hw) (w49 hw) (fun x hx => nomatch hx) rfl (Nat.le_of_eq rfl) (Nat.le_of_ble_eq_true rfl) (Nat.le_of_ble_eq_true rfl) ⟨rfl, Nat.le_of_ble_eq_true rfl⟩ ⟨rfl, Nat.le_of_ble_eq_true rfl⟩ rfl (fun _ _ q => nomatch q.1) fun T h587 v so W hQ => ?_
              obtain ⟨hv, rfl, -⟩ := hQ
              obtain rfl := Option.some.inj hv
              refine k_ifN W d_code_356 (show ¬ ((1 : Int32) = 0) by decide) ?_
              refine k_aload W d_code_359 rfl rfl ?_
              refine k_aconst W d_code_361 ?_
              refine k_callV W 0 16 112 (argsL := [.null]) (rest := []) (a := a512) (C := "com/example/lean_envelope/leanenvelope/check/ExceededLimit") (z0 := (⟨"com/example/lean_envelope/leanenvelope/check/ExceededLimit", "equals", "(Ljava/lang/Object;)Z"⟩ : MethodName)) (z := (⟨"com/example/lean_envelope/leanenvelope/check/ExceededLimit", "equals", "(Ljava/lang/Object;)Z"⟩ : MethodName)) d_code_362 (w115 hw) (w116 hw) (nfSel (w118 hw)) (w118 hw) (w117 hw) (by decide) (lenOf pd16 rfl) f583 (ct_xeqN l Z a0 hw n0 h526 a512) (w119 hw) (w49 hw) (fun x hx => nomatch hx) rfl (Nat.le_of_eq rfl) (Nat.le_of_ble_eq_true rfl) (Nat.le_of_ble_eq_true rfl) ⟨rfl, Nat.le_of_ble_eq_true rfl⟩ ⟨rfl, Nat.le_of_ble_eq_true rfl⟩ rfl (fun _ _ q => nomatch q.1) fun T h588 v so W hQ => ?_
              obtain ⟨hv, rfl, -⟩ := hQ
              obtain rfl := Option.some.inj hv
              refine k_ifN W d_code_365 (show ¬ (¬ (0 : Int32) = 0) by decide) ?_
              refine k_aload W d_code_368 rfl rfl ?_
              refine k_aload W d_code_370 rfl rfl ?_
              refine k_callV W 0 16 112 (argsL := [(.ref x490)]) (rest := []) (a := a512) (C := "com/example/lean_envelope/leanenvelope/check/ExceededLimit") (z0 := (⟨"com/example/lean_envelope/leanenvelope/check/ExceededLimit", "equals", "(Ljava/lang/Object;)Z"⟩ : MethodName)) (z := (⟨"com/example/lean_envelope/leanenvelope/check/ExceededLimit", "equals", "(Ljava/lang/Object;)Z"⟩ : MethodName)) d_code_372 (w115 hw) (w116 hw) (nfSel (w118 hw)) (w118 hw) (w117 hw) (by decide) (lenOf pd16 rfl) f583 (ct_xeqS l Z a0 hw n0 h526 a512 x490 f583 f576.1) (w119 hw) (w49 hw) (fun x hx => nomatch hx) rfl (Nat.le_of_eq rfl) (Nat.le_of_ble_eq_true rfl) (Nat.le_of_ble_eq_true rfl) ⟨rfl, Nat.le_of_ble_eq_true rfl⟩ ⟨rfl, Nat.le_of_ble_eq_true rfl⟩ rfl (fun _ _ q => nomatch q.1) fun T h589 v so W hQ => ?_
              obtain ⟨hv, rfl, -⟩ := hQ
              obtain rfl := Option.some.inj hv
              refine k_ifN W d_code_375 (show ¬ (¬ (0 : Int32) = 0) by decide) ?_
              refine k_aload W d_code_378 rfl rfl ?_
              refine k_lload W d_code_380 rfl ?_
              have f591 := (Sta.keep (Sta.keep (Sta.keep (Sta.keep (Sta.keep (Sta.keep LS K490 ns0) K492 ns0) K512 ns0) K515 (nsS (Exa.plain X512) ns0)) K521 ns0) K526 (nsS (Exa.plain X521) ns0))
              have ne592 : lc ≠ a512 := (Nat.ne_of_lt (Nat.lt_of_lt_of_le (Nat.lt_of_lt_of_le LV.lt (Nat.le_trans K490.1 K492.1)) (Nat.le_of_eq g512.symm)))
              have ne593 : lc ≠ a521 := (Nat.ne_of_lt (Nat.lt_of_lt_of_le (Nat.lt_of_lt_of_le LV.lt (Nat.le_trans (Nat.le_trans (Nat.le_trans K490.1 K492.1) E512.1) K515.1)) (Nat.le_of_eq g521.symm)))
              have f594 := ((((((LV.keep K490 nin0).keep K492 nin0).keep K512 nin0).keep K515 (ninS ne592 nin0)).keep K521 nin0).keep K526 (ninS ne593 nin0))
              have f595 := ((((((LX.keep K490).keep K492).keep K512).keep K515).keep K521).keep K526)
              refine k_callS W 1 17 113 (argsL := [(.long j494)]) (rest := [(.ref a512)]) d_code_382 (w133 hw) (w134 hw) (by decide) (lenOf pd21 rfl) (ct_lval l Z a0 hw n0 h526 j494 lc lvs f591 f594 f595 hlv) (w136 hw) (w135 hw) (fun x hx => nomatch hx) rfl (Nat.le_of_eq rfl) (Nat.le_of_ble_eq_true rfl) (Nat.le_of_ble_eq_true rfl) ⟨rfl, Nat.le_of_ble_eq_true rfl⟩ ⟨rfl, Nat.le_of_ble_eq_true rfl⟩ rfl (fun _ _ ⟨_, q, _⟩ => nomatch q) fun T h590 v so W hQ => ?_
              obtain ⟨x590, hv, K590, X590⟩ := hQ
              obtain rfl := Option.some.inj hv
              have f596 := (f583.keep K590)
              refine k_callV W 0 17 113 (argsL := [(.ref x590)]) (rest := []) (a := a512) (C := "com/example/lean_envelope/leanenvelope/check/ExceededLimit") (z0 := (⟨"com/example/lean_envelope/leanenvelope/check/ExceededLimit", "equals", "(Ljava/lang/Object;)Z"⟩ : MethodName)) (z := (⟨"com/example/lean_envelope/leanenvelope/check/ExceededLimit", "equals", "(Ljava/lang/Object;)Z"⟩ : MethodName)) d_code_385 (w115 hw) (w116 hw) (nfSel (w118 hw)) (w118 hw) (w117 hw) (by decide) (lenOf pd16 rfl) f596 (ct_xeqL l Z a0 hw n0 h590 a512 x590 f596 X590) (w119 hw) (w49 hw) (fun x hx => nomatch hx) rfl (Nat.le_of_eq rfl) (Nat.le_of_ble_eq_true rfl) (Nat.le_of_ble_eq_true rfl) ⟨rfl, Nat.le_of_ble_eq_true rfl⟩ ⟨rfl, Nat.le_of_ble_eq_true rfl⟩ rfl (fun _ _ q => nomatch q.1) fun T h597 v so W hQ => ?_
              obtain ⟨hv, rfl, -⟩ := hQ
              obtain rfl := Option.some.inj hv
              refine k_ifN W d_code_388 (show ¬ (¬ (0 : Int32) = 0) by decide) ?_
              refine k_iconst W d_code_391 (z := (1 : Int32)) rfl ?_
              refine k_goto W 396 d_code_392 (by decide) ?_
              exact k_retN W (t := .boolean) (z' := (1 : Int32)) d_code_396 rfl (by simp) (by decide) [] (fun x hx => nomatch hx) (Nat.le_of_ble_eq_true rfl) (Nat.le_of_ble_eq_true rfl) rfl
        · -- pc 283
          refine k_iconst W d_code_283 (z := (1 : Int32)) rfl ?_
          refine k_goto W 288 d_code_284 (by decide) ?_
          refine k_istore W d_code_288 (L' := #[.val (.int p0), .val (.int p1), .val (.long q2), .second, .val (.long q3), .second, .val (.long q4), .second, .val (.int p5), .val (.int (2 : Int32)), .val (.int c131), .val (.int ((XT.ushr p0 (8 : Int32)) &&& (255 : Int32))), .val (.int sm), .val (.int (2 : Int32)), .val (.int d0), .val (.int d1), .val (.ref x490), .val (.ref x492), .val (.long j493), .second, .val (.long j494), .second, .val (.long jm495), .second, .val (.long ja498), .second, .val (.ref u1503), .val (.ref u2507), .val (.ref a512), .val (.ref a521), .val (.int (1 : Int32)), .unset]) rfl ?_
          refine k_iload W d_code_290 rfl ?_
          refine k_ifN W d_code_292 (show ¬ ((1 : Int32) = 0) by decide) ?_
          refine k_lload W d_code_295 rfl ?_
          refine k_lload W d_code_297 rfl ?_
          refine k_lcmp W d_code_299 (z := (XT.cmpL j494 ja498)) rfl ?_
          refine k_if W 322 d_code_300 (by decide) (fun (hc598 : ¬ (XT.cmpL j494 ja498) = 0) => ?_) (fun (hc598 : ¬ (¬ (XT.cmpL j494 ja498) = 0)) => ?_)
          · -- pc 322
            refine k_iconst W d_code_322 (z := (0 : Int32)) rfl ?_
            refine k_istore W d_code_323 (L' := #[.val (.int p0), .val (.int p1), .val (.long q2), .second, .val (.long q3), .second, .val (.long q4), .second, .val (.int p5), .val (.int (2 : Int32)), .val (.int c131), .val (.int ((XT.ushr p0 (8 : Int32)) &&& (255 : Int32))), .val (.int sm), .val (.int (2 : Int32)), .val (.int d0), .val (.int d1), .val (.ref x490), .val (.ref x492), .val (.long j493), .second, .val (.long j494), .second, .val (.long jm495), .second, .val (.long ja498), .second, .val (.ref u1503), .val (.ref u2507), .val (.ref a512), .val (.ref a521), .val (.int (1 : Int32)), .val (.int (0 : Int32))]) rfl ?_
            refine k_aload W d_code_325 rfl rfl ?_
            refine k_aload W d_code_327 rfl rfl ?_
            have f599 := (X521.keep K526)
            have ne600 : a512 ≠ a521 := (Nat.ne_of_lt (Nat.lt_of_lt_of_le G0_515.lt (Nat.le_of_eq g521.symm)))
            have f601 := ((G0_515.keep K521 nin0).keep K526 (ninS ne600 nin0))
            have f602 := ((G1_515.keep K521 nin0).keep K526 (ninS ne600 nin0))
            have f603 := ((G2_515.keep K521 nin0).keep K526 (ninS ne600 nin0))
            have f604 := ((G3_515.keep K521 nin0).keep K526 (ninS ne600 nin0))
            have ne605 : x490 ≠ a512 := (Nat.ne_of_lt (Nat.lt_of_lt_of_le (Nat.lt_of_lt_of_le S490.1.lt K492.1) (Nat.le_of_eq g512.symm)))
            have ne606 : b490 ≠ a512 := (Nat.ne_of_lt (Nat.lt_of_lt_of_le (Nat.lt_of_lt_of_le S490.2.2.2.lt K492.1) (Nat.le_of_eq g512.symm)))
            have ne607 : x490 ≠ a521 := (Nat.ne_of_lt (Nat.lt_of_lt_of_le (Nat.lt_of_lt_of_le f513.1.lt K515.1) (Nat.le_of_eq g521.symm)))
            have ne608 : b490 ≠ a521 := (Nat.ne_of_lt (Nat.lt_of_lt_of_le (Nat.lt_of_lt_of_le f513.2.2.2.lt K515.1) (Nat.le_of_eq g521.symm)))
            have f609 := (((f513.keep K515 (ninS ne605 nin0) (ninS ne606 nin0)).keep K521 nin0 nin0).keep K526 (ninS ne607 nin0) (ninS ne608 nin0))
            have ne610 : x492 ≠ a521 := (Nat.ne_of_lt (Nat.lt_of_lt_of_le (Nat.lt_of_lt_of_le S492.1.lt (Nat.le_trans E512.1 K515.1)) (Nat.le_of_eq g521.symm)))
            have ne611 : b492 ≠ a521 := (Nat.ne_of_lt (Nat.lt_of_lt_of_le (Nat.lt_of_lt_of_le S492.2.2.2.lt (Nat.le_trans E512.1 K515.1)) (Nat.le_of_eq g521.symm)))
            have f612 := (f524.keep K526 (ninS ne610 nin0) (ninS ne611 nin0))
            have f613 := (Sta.keep f525 K526 (nsS (Exa.plain X521) ns0))
            have ne615 : x490 ≠ x492 := (Nat.ne_of_lt (Nat.lt_of_lt_of_le S490.1.lt gx492))
            have f616 := (((X512.keep K515).keep K521).keep K526)
            refine k_callV W 0 16 112 (argsL := [(.ref a521)]) (rest := []) (a := a512) (C := "com/example/lean_envelope/leanenvelope/check/ExceededLimit") (z0 := (⟨"com/example/lean_envelope/leanenvelope/check/ExceededLimit", "equals", "(Ljava/lang/Object;)Z"⟩ : MethodName)) (z := (⟨"com/example/lean_envelope/leanenvelope/check/ExceededLimit", "equals", "(Ljava/lang/Object;)Z"⟩ : MethodName)) d_code_329 (w115 hw) (w116 hw) (nfSel (w118 hw)) (w118 hw) (w117 hw) (by decide) (lenOf pd16 rfl) f616 (ct_xeq l Z a0 hw n0 h526 a512 a521 x490 b490 x492 b492 u1503 u2507 [(i2b c131), (i2b ((XT.ushr p0 (8 : Int32)) &&& (255 : Int32)))] [(i2b d0), (i2b d1)] j494 ja498 j493 jm495 zc ne600 ne615 f616 f601 f602 f603 f604 f599 G0_526 G1_526 G2_526 G3_526 f609 f612 f613 hzc) (w119 hw) (w49 hw) (fun x hx => nomatch hx) rfl (Nat.le_of_eq rfl) (Nat.le_of_ble_eq_true rfl) (Nat.le_of_ble_eq_true rfl) ⟨rfl, Nat.le_of_ble_eq_true rfl⟩ ⟨rfl, Nat.le_of_ble_eq_true rfl⟩ rfl (fun _ _ q => by rcases q.1 with ⟨_, u⟩ | ⟨_, u⟩ <;> cases u) fun T h617 v so W hQ => ?_
            obtain ⟨hQ, rfl⟩ := hQ
            rcases hQ with ⟨hP614, hv⟩ | ⟨hP614, hv⟩
            · --
              obtain ⟨e1, e2, e3, e4⟩ := hP614
              exact absurd (cmpL_eq.mpr e2) hc598
            · --
              obtain rfl := Option.some.inj hv
              refine k_iload W d_code_332 rfl ?_
              refine k_icN W d_code_334 (show ¬ (¬ (0 : Int32) = (0 : Int32)) by decide) ?_
              refine k_aload W d_code_337 rfl rfl ?_
              refine k_aload W d_code_339 rfl rfl ?_
              refine k_callV W 0 16 112 (argsL := [(.ref a512)]) (rest := []) (a := a521) (C := "com/example/lean_envelope/leanenvelope/check/ExceededLimit") (z0 := (⟨"com/example/lean_envelope/leanenvelope/check/ExceededLimit", "equals", "(Ljava/lang/Object;)Z"⟩ : MethodName)) (z := (⟨"com/example/lean_envelope/leanenvelope/check/ExceededLimit", "equals", "(Ljava/lang/Object;)Z"⟩ : MethodName)) d_code_341 (w115 hw) (w116 hw) (nfSel (w118 hw)) (w118 hw) (w117 hw) (by decide) (lenOf pd16 rfl) f599 (ct_xeq l Z a0 hw n0 h526 a521 a512 x492 b492 x490 b490 u2507 u1503 [(i2b d0), (i2b d1)] [(i2b c131), (i2b ((XT.ushr p0 (8 : Int32)) &&& (255 : Int32)))] ja498 j494 jm495 j493 zc (Ne.symm ne600) (Ne.symm ne615) f599 G0_526 G1_526 G2_526 G3_526 f616 f601 f602 f603 f604 f612 f609 f613 hzc) (w119 hw) (w49 hw) (fun x hx => nomatch hx) rfl (Nat.le_of_eq rfl) (Nat.le_of_ble_eq_true rfl) (Nat.le_of_ble_eq_true rfl) ⟨rfl, Nat.le_of_ble_eq_true rfl⟩ ⟨rfl, Nat.le_of_ble_eq_true rfl⟩ rfl (fun _ _ q => by rcases q.1 with ⟨_, u⟩ | ⟨_, u⟩ <;> cases u) fun T h619 v so W hQ => ?_
              obtain ⟨hQ, rfl⟩ := hQ
              rcases hQ with ⟨hP618, hv⟩ | ⟨hP618, hv⟩
              · --
                obtain ⟨e1, e2, e3, e4⟩ := hP618
                exact absurd (cmpL_eq.mpr e2.symm) hc598
              · --
                obtain rfl := Option.some.inj hv
                refine k_iload W d_code_344 rfl ?_
                refine k_icN W d_code_346 (show ¬ (¬ (0 : Int32) = (0 : Int32)) by decide) ?_
                refine k_aload W d_code_349 rfl rfl ?_
                refine k_aload W d_code_351 rfl rfl ?_
                refine k_callV W 0 16 112 (argsL := [(.ref a512)]) (rest := []) (a := a512) (C := "com/example/lean_envelope/leanenvelope/check/ExceededLimit") (z0 := (⟨"com/example/lean_envelope/leanenvelope/check/ExceededLimit", "equals", "(Ljava/lang/Object;)Z"⟩ : MethodName)) (z := (⟨"com/example/lean_envelope/leanenvelope/check/ExceededLimit", "equals", "(Ljava/lang/Object;)Z"⟩ : MethodName)) d_code_353 (w115 hw) (w116 hw) (nfSel (w118 hw)) (w118 hw) (w117 hw) (by decide) (lenOf pd16 rfl) f616 (ct_xeqI l Z a0 hw n0 h526 a512) (w119 hw) (w49 hw) (fun x hx => nomatch hx) rfl (Nat.le_of_eq rfl) (Nat.le_of_ble_eq_true rfl) (Nat.le_of_ble_eq_true rfl) ⟨rfl, Nat.le_of_ble_eq_true rfl⟩ ⟨rfl, Nat.le_of_ble_eq_true rfl⟩ rfl (fun _ _ q => nomatch q.1) fun T h620 v so W hQ => ?_
                obtain ⟨hv, rfl, -⟩ := hQ
                obtain rfl := Option.some.inj hv
                refine k_ifN W d_code_356 (show ¬ ((1 : Int32) = 0) by decide) ?_
                refine k_aload W d_code_359 rfl rfl ?_
                refine k_aconst W d_code_361 ?_
                refine k_callV W 0 16 112 (argsL := [.null]) (rest := []) (a := a512) (C := "com/example/lean_envelope/leanenvelope/check/ExceededLimit") (z0 := (⟨"com/example/lean_envelope/leanenvelope/check/ExceededLimit", "equals", "(Ljava/lang/Object;)Z"⟩ : MethodName)) (z := (⟨"com/example/lean_envelope/leanenvelope/check/ExceededLimit", "equals", "(Ljava/lang/Object;)Z"⟩ : MethodName)) d_code_362 (w115 hw) (w116 hw) (nfSel (w118 hw)) (w118 hw) (w117 hw) (by decide) (lenOf pd16 rfl) f616 (ct_xeqN l Z a0 hw n0 h526 a512) (w119 hw) (w49 hw) (fun x hx => nomatch hx) rfl (Nat.le_of_eq rfl) (Nat.le_of_ble_eq_true rfl) (Nat.le_of_ble_eq_true rfl) ⟨rfl, Nat.le_of_ble_eq_true rfl⟩ ⟨rfl, Nat.le_of_ble_eq_true rfl⟩ rfl (fun _ _ q => nomatch q.1) fun T h621 v so W hQ => ?_
                obtain ⟨hv, rfl, -⟩ := hQ
                obtain rfl := Option.some.inj hv
                refine k_ifN W d_code_365 (show ¬ (¬ (0 : Int32) = 0) by decide) ?_
                refine k_aload W d_code_368 rfl rfl ?_
                refine k_aload W d_code_370 rfl rfl ?_
                refine k_callV W 0 16 112 (argsL := [(.ref x490)]) (rest := []) (a := a512) (C := "com/example/lean_envelope/leanenvelope/check/ExceededLimit") (z0 := (⟨"com/example/lean_envelope/leanenvelope/check/ExceededLimit", "equals", "(Ljava/lang/Object;)Z"⟩ : MethodName)) (z := (⟨"com/example/lean_envelope/leanenvelope/check/ExceededLimit", "equals", "(Ljava/lang/Object;)Z"⟩ : MethodName)) d_code_372 (w115 hw) (w116 hw) (nfSel (w118 hw)) (w118 hw) (w117 hw) (by decide) (lenOf pd16 rfl) f616 (ct_xeqS l Z a0 hw n0 h526 a512 x490 f616 f609.1) (w119 hw) (w49 hw) (fun x hx => nomatch hx) rfl (Nat.le_of_eq rfl) (Nat.le_of_ble_eq_true rfl) (Nat.le_of_ble_eq_true rfl) ⟨rfl, Nat.le_of_ble_eq_true rfl⟩ ⟨rfl, Nat.le_of_ble_eq_true rfl⟩ rfl (fun _ _ q => nomatch q.1) fun T h622 v so W hQ => ?_
                obtain ⟨hv, rfl, -⟩ := hQ
                obtain rfl := Option.some.inj hv
                refine k_ifN W d_code_375 (show ¬ (¬ (0 : Int32) = 0) by decide) ?_
                refine k_aload W d_code_378 rfl rfl ?_
                refine k_lload W d_code_380 rfl ?_
                have f624 := (Sta.keep (Sta.keep (Sta.keep (Sta.keep (Sta.keep (Sta.keep LS K490 ns0) K492 ns0) K512 ns0) K515 (nsS (Exa.plain X512) ns0)) K521 ns0) K526 (nsS (Exa.plain X521) ns0))
                have ne625 : lc ≠ a512 := (Nat.ne_of_lt (Nat.lt_of_lt_of_le (Nat.lt_of_lt_of_le LV.lt (Nat.le_trans K490.1 K492.1)) (Nat.le_of_eq g512.symm)))
                have ne626 : lc ≠ a521 := (Nat.ne_of_lt (Nat.lt_of_lt_of_le (Nat.lt_of_lt_of_le LV.lt (Nat.le_trans (Nat.le_trans (Nat.le_trans K490.1 K492.1) E512.1) K515.1)) (Nat.le_of_eq g521.symm)))
                have f627 := ((((((LV.keep K490 nin0).keep K492 nin0).keep K512 nin0).keep K515 (ninS ne625 nin0)).keep K521 nin0).keep K526 (ninS ne626 nin0))
                have f628 := ((((((LX.keep K490).keep K492).keep K512).keep K515).keep K521).keep K526)
                refine k_callS W 1 17 113 (argsL := [(.long j494)]) (rest := [(.ref a512)]) d_code_382 (w133 hw) (w134 hw) (by decide) (lenOf pd21 rfl) (ct_lval l Z a0 hw n0 h526 j494 lc lvs f624 f627 f628 hlv) (w136 hw) (w135 hw) (fun x hx => nomatch hx) rfl (Nat.le_of_eq rfl) (Nat.le_of_ble_eq_true rfl) (Nat.le_of_ble_eq_true rfl) ⟨rfl, Nat.le_of_ble_eq_true rfl⟩ ⟨rfl, Nat.le_of_ble_eq_true rfl⟩ rfl (fun _ _ ⟨_, q, _⟩ => nomatch q) fun T h623 v so W hQ => ?_
                obtain ⟨x623, hv, K623, X623⟩ := hQ
                obtain rfl := Option.some.inj hv
                have f629 := (f616.keep K623)
                refine k_callV W 0 17 113 (argsL := [(.ref x623)]) (rest := []) (a := a512) (C := "com/example/lean_envelope/leanenvelope/check/ExceededLimit") (z0 := (⟨"com/example/lean_envelope/leanenvelope/check/ExceededLimit", "equals", "(Ljava/lang/Object;)Z"⟩ : MethodName)) (z := (⟨"com/example/lean_envelope/leanenvelope/check/ExceededLimit", "equals", "(Ljava/lang/Object;)Z"⟩ : MethodName)) d_code_385 (w115 hw) (w116 hw) (nfSel (w118 hw)) (w118 hw) (w117 hw) (by decide) (lenOf pd16 rfl) f629 (ct_xeqL l Z a0 hw n0 h623 a512 x623 f629 X623) (w119 hw) (w49 hw) (fun x hx => nomatch hx) rfl (Nat.le_of_eq rfl) (Nat.le_of_ble_eq_true rfl) (Nat.le_of_ble_eq_true rfl) ⟨rfl, Nat.le_of_ble_eq_true rfl⟩ ⟨rfl, Nat.le_of_ble_eq_true rfl⟩ rfl (fun _ _ q => nomatch q.1) fun T h630 v so W hQ => ?_
                obtain ⟨hv, rfl, -⟩ := hQ
                obtain rfl := Option.some.inj hv
                refine k_ifN W d_code_388 (show ¬ (¬ (0 : Int32) = 0) by decide) ?_
                refine k_iconst W d_code_391 (z := (1 : Int32)) rfl ?_
                refine k_goto W 396 d_code_392 (by decide) ?_
                exact k_retN W (t := .boolean) (z' := (1 : Int32)) d_code_396 rfl (by simp) (by decide) [] (fun x hx => nomatch hx) (Nat.le_of_ble_eq_true rfl) (Nat.le_of_ble_eq_true rfl) rfl
          · -- pc 303
            refine k_lload W d_code_303 rfl ?_
            refine k_lload W d_code_305 rfl ?_
            refine k_lcmp W d_code_307 (z := (XT.cmpL j493 jm495)) rfl ?_
            refine k_if W 322 d_code_308 (by decide) (fun (hc631 : ¬ (XT.cmpL j493 jm495) = 0) => ?_) (fun (hc631 : ¬ (¬ (XT.cmpL j493 jm495) = 0)) => ?_)
            · -- pc 322
              refine k_iconst W d_code_322 (z := (0 : Int32)) rfl ?_
              refine k_istore W d_code_323 (L' := #[.val (.int p0), .val (.int p1), .val (.long q2), .second, .val (.long q3), .second, .val (.long q4), .second, .val (.int p5), .val (.int (2 : Int32)), .val (.int c131), .val (.int ((XT.ushr p0 (8 : Int32)) &&& (255 : Int32))), .val (.int sm), .val (.int (2 : Int32)), .val (.int d0), .val (.int d1), .val (.ref x490), .val (.ref x492), .val (.long j493), .second, .val (.long j494), .second, .val (.long jm495), .second, .val (.long ja498), .second, .val (.ref u1503), .val (.ref u2507), .val (.ref a512), .val (.ref a521), .val (.int (1 : Int32)), .val (.int (0 : Int32))]) rfl ?_
              refine k_aload W d_code_325 rfl rfl ?_
              refine k_aload W d_code_327 rfl rfl ?_
              have f632 := (X521.keep K526)
              have ne633 : a512 ≠ a521 := (Nat.ne_of_lt (Nat.lt_of_lt_of_le G0_515.lt (Nat.le_of_eq g521.symm)))
              have f634 := ((G0_515.keep K521 nin0).keep K526 (ninS ne633 nin0))
              have f635 := ((G1_515.keep K521 nin0).keep K526 (ninS ne633 nin0))
              have f636 := ((G2_515.keep K521 nin0).keep K526 (ninS ne633 nin0))
              have f637 := ((G3_515.keep K521 nin0).keep K526 (ninS ne633 nin0))
              have ne638 : x490 ≠ a512 := (Nat.ne_of_lt (Nat.lt_of_lt_of_le (Nat.lt_of_lt_of_le S490.1.lt K492.1) (Nat.le_of_eq g512.symm)))
              have ne639 : b490 ≠ a512 := (Nat.ne_of_lt (Nat.lt_of_lt_of_le (Nat.lt_of_lt_of_le S490.2.2.2.lt K492.1) (Nat.le_of_eq g512.symm)))
              have ne640 : x490 ≠ a521 := (Nat.ne_of_lt (Nat.lt_of_lt_of_le (Nat.lt_of_lt_of_le f513.1.lt K515.1) (Nat.le_of_eq g521.symm)))
              have ne641 : b490 ≠ a521 := (Nat.ne_of_lt (Nat.lt_of_lt_of_le (Nat.lt_of_lt_of_le f513.2.2.2.lt K515.1) (Nat.le_of_eq g521.symm)))
              have f642 := (((f513.keep K515 (ninS ne638 nin0) (ninS ne639 nin0)).keep K521 nin0 nin0).keep K526 (ninS ne640 nin0) (ninS ne641 nin0))
              have ne643 : x492 ≠ a521 := (Nat.ne_of_lt (Nat.lt_of_lt_of_le (Nat.lt_of_lt_of_le S492.1.lt (Nat.le_trans E512.1 K515.1)) (Nat.le_of_eq g521.symm)))
              have ne644 : b492 ≠ a521 := (Nat.ne_of_lt (Nat.lt_of_lt_of_le (Nat.lt_of_lt_of_le S492.2.2.2.lt (Nat.le_trans E512.1 K515.1)) (Nat.le_of_eq g521.symm)))
              have f645 := (f524.keep K526 (ninS ne643 nin0) (ninS ne644 nin0))
              have f646 := (Sta.keep f525 K526 (nsS (Exa.plain X521) ns0))
              have ne648 : x490 ≠ x492 := (Nat.ne_of_lt (Nat.lt_of_lt_of_le S490.1.lt gx492))
              have f649 := (((X512.keep K515).keep K521).keep K526)
              refine k_callV W 0 16 112 (argsL := [(.ref a521)]) (rest := []) (a := a512) (C := "com/example/lean_envelope/leanenvelope/check/ExceededLimit") (z0 := (⟨"com/example/lean_envelope/leanenvelope/check/ExceededLimit", "equals", "(Ljava/lang/Object;)Z"⟩ : MethodName)) (z := (⟨"com/example/lean_envelope/leanenvelope/check/ExceededLimit", "equals", "(Ljava/lang/Object;)Z"⟩ : MethodName)) d_code_329 (w115 hw) (w116 hw) (nfSel (w118 hw)) (w118 hw) (w117 hw) (by decide) (lenOf pd16 rfl) f649 (ct_xeq l Z a0 hw n0 h526 a512 a521 x490 b490 x492 b492 u1503 u2507 [(i2b c131), (i2b ((XT.ushr p0 (8 : Int32)) &&& (255 : Int32)))] [(i2b d0), (i2b d1)] j494 ja498 j493 jm495 zc ne633 ne648 f649 f634 f635 f636 f637 f632 G0_526 G1_526 G2_526 G3_526 f642 f645 f646 hzc) (w119 hw) (w49 hw) (fun x hx => nomatch hx) rfl (Nat.le_of_eq rfl) (Nat.le_of_ble_eq_true rfl) (Nat.le_of_ble_eq_true rfl) ⟨rfl, Nat.le_of_ble_eq_true rfl⟩ ⟨rfl, Nat.le_of_ble_eq_true rfl⟩ rfl (fun _ _ q => by rcases q.1 with ⟨_, u⟩ | ⟨_, u⟩ <;> cases u) fun T h650 v so W hQ => ?_
              obtain ⟨hQ, rfl⟩ := hQ
              rcases hQ with ⟨hP647, hv⟩ | ⟨hP647, hv⟩
              · --
                obtain ⟨e1, e2, e3, e4⟩ := hP647
                exact absurd (cmpL_eq.mpr e3) hc631
              · --
                obtain rfl := Option.some.inj hv
                refine k_iload W d_code_332 rfl ?_
                refine k_icN W d_code_334 (show ¬ (¬ (0 : Int32) = (0 : Int32)) by decide) ?_
                refine k_aload W d_code_337 rfl rfl ?_
                refine k_aload W d_code_339 rfl rfl ?_
                refine k_callV W 0 16 112 (argsL := [(.ref a512)]) (rest := []) (a := a521) (C := "com/example/lean_envelope/leanenvelope/check/ExceededLimit") (z0 := (⟨"com/example/lean_envelope/leanenvelope/check/ExceededLimit", "equals", "(Ljava/lang/Object;)Z"⟩ : MethodName)) (z := (⟨"com/example/lean_envelope/leanenvelope/check/ExceededLimit", "equals", "(Ljava/lang/Object;)Z"⟩ : MethodName)) d_code_341 (w115 hw) (w116 hw) (nfSel (w118 hw)) (w118 hw) (w117 hw) (by decide) (lenOf pd16 rfl) f632 (ct_xeq l Z a0 hw n0 h526 a521 a512 x492 b492 x490 b490 u2507 u1503 [(i2b d0), (i2b d1)] [(i2b c131), (i2b ((XT.ushr p0 (8 : Int32)) &&& (255 : Int32)))] ja498 j494 jm495 j493 zc (Ne.symm ne633) (Ne.symm ne648) f632 G0_526 G1_526 G2_526 G3_526 f649 f634 f635 f636 f637 f645 f642 f646 hzc) (w119 hw) (w49 hw) (fun x hx => nomatch hx) rfl (Nat.le_of_eq rfl) (Nat.le_of_ble_eq_true rfl) (Nat.le_of_ble_eq_true rfl) ⟨rfl, Nat.le_of_ble_eq_true rfl⟩ ⟨rfl, Nat.le_of_ble_eq_true rfl⟩ rfl (fun _ _ q => by rcases q.1 with ⟨_, u⟩ | ⟨_, u⟩ <;> cases u) fun T h652 v so W hQ => ?_
                obtain ⟨hQ, rfl⟩ := hQ
                rcases hQ with ⟨hP651, hv⟩ | ⟨hP651, hv⟩
                · --
                  obtain ⟨e1, e2, e3, e4⟩ := hP651
                  exact absurd (cmpL_eq.mpr e3.symm) hc631
                · --
                  obtain rfl := Option.some.inj hv
                  refine k_iload W d_code_344 rfl ?_
                  refine k_icN W d_code_346 (show ¬ (¬ (0 : Int32) = (0 : Int32)) by decide) ?_
                  refine k_aload W d_code_349 rfl rfl ?_
                  refine k_aload W d_code_351 rfl rfl ?_
                  refine k_callV W 0 16 112 (argsL := [(.ref a512)]) (rest := []) (a := a512) (C := "com/example/lean_envelope/leanenvelope/check/ExceededLimit") (z0 := (⟨"com/example/lean_envelope/leanenvelope/check/ExceededLimit", "equals", "(Ljava/lang/Object;)Z"⟩ : MethodName)) (z := (⟨"com/example/lean_envelope/leanenvelope/check/ExceededLimit", "equals", "(Ljava/lang/Object;)Z"⟩ : MethodName)) d_code_353 (w115 hw) (w116 hw) (nfSel (w118 hw)) (w118 hw) (w117 hw) (by decide) (lenOf pd16 rfl) f649 (ct_xeqI l Z a0 hw n0 h526 a512) (w119 hw) (w49 hw) (fun x hx => nomatch hx) rfl (Nat.le_of_eq rfl) (Nat.le_of_ble_eq_true rfl) (Nat.le_of_ble_eq_true rfl) ⟨rfl, Nat.le_of_ble_eq_true rfl⟩ ⟨rfl, Nat.le_of_ble_eq_true rfl⟩ rfl (fun _ _ q => nomatch q.1) fun T h653 v so W hQ => ?_
                  obtain ⟨hv, rfl, -⟩ := hQ
                  obtain rfl := Option.some.inj hv
                  refine k_ifN W d_code_356 (show ¬ ((1 : Int32) = 0) by decide) ?_
                  refine k_aload W d_code_359 rfl rfl ?_
                  refine k_aconst W d_code_361 ?_
                  refine k_callV W 0 16 112 (argsL := [.null]) (rest := []) (a := a512) (C := "com/example/lean_envelope/leanenvelope/check/ExceededLimit") (z0 := (⟨"com/example/lean_envelope/leanenvelope/check/ExceededLimit", "equals", "(Ljava/lang/Object;)Z"⟩ : MethodName)) (z := (⟨"com/example/lean_envelope/leanenvelope/check/ExceededLimit", "equals", "(Ljava/lang/Object;)Z"⟩ : MethodName)) d_code_362 (w115 hw) (w116 hw) (nfSel (w118 hw)) (w118 hw) (w117 hw) (by decide) (lenOf pd16 rfl) f649 (ct_xeqN l Z a0 hw n0 h526 a512) (w119 hw) (w49 hw) (fun x hx => nomatch hx) rfl (Nat.le_of_eq rfl) (Nat.le_of_ble_eq_true rfl) (Nat.le_of_ble_eq_true rfl) ⟨rfl, Nat.le_of_ble_eq_true rfl⟩ ⟨rfl, Nat.le_of_ble_eq_true rfl⟩ rfl (fun _ _ q => nomatch q.1) fun T h654 v so W hQ => ?_
                  obtain ⟨hv, rfl, -⟩ := hQ
                  obtain rfl := Option.some.inj hv
                  refine k_ifN W d_code_365 (show ¬ (¬ (0 : Int32) = 0) by decide) ?_
                  refine k_aload W d_code_368 rfl rfl ?_
                  refine k_aload W d_code_370 rfl rfl ?_
                  refine k_callV W 0 16 112 (argsL := [(.ref x490)]) (rest := []) (a := a512) (C := "com/example/lean_envelope/leanenvelope/check/ExceededLimit") (z0 := (⟨"com/example/lean_envelope/leanenvelope/check/ExceededLimit", "equals", "(Ljava/lang/Object;)Z"⟩ : MethodName)) (z := (⟨"com/example/lean_envelope/leanenvelope/check/ExceededLimit", "equals", "(Ljava/lang/Object;)Z"⟩ : MethodName)) d_code_372 (w115 hw) (w116 hw) (nfSel (w118 hw)) (w118 hw) (w117 hw) (by decide) (lenOf pd16 rfl) f649 (ct_xeqS l Z a0 hw n0 h526 a512 x490 f649 f642.1) (w119 hw) (w49 hw) (fun x hx => nomatch hx) rfl (Nat.le_of_eq rfl) (Nat.le_of_ble_eq_true rfl) (Nat.le_of_ble_eq_true rfl) ⟨rfl, Nat.le_of_ble_eq_true rfl⟩ ⟨rfl, Nat.le_of_ble_eq_true rfl⟩ rfl (fun _ _ q => nomatch q.1) fun T h655 v so W hQ => ?_
                  obtain ⟨hv, rfl, -⟩ := hQ
                  obtain rfl := Option.some.inj hv
                  refine k_ifN W d_code_375 (show ¬ (¬ (0 : Int32) = 0) by decide) ?_
                  refine k_aload W d_code_378 rfl rfl ?_
                  refine k_lload W d_code_380 rfl ?_
                  have f657 := (Sta.keep (Sta.keep (Sta.keep (Sta.keep (Sta.keep (Sta.keep LS K490 ns0) K492 ns0) K512 ns0) K515 (nsS (Exa.plain X512) ns0)) K521 ns0) K526 (nsS (Exa.plain X521) ns0))
                  have ne658 : lc ≠ a512 := (Nat.ne_of_lt (Nat.lt_of_lt_of_le (Nat.lt_of_lt_of_le LV.lt (Nat.le_trans K490.1 K492.1)) (Nat.le_of_eq g512.symm)))
                  have ne659 : lc ≠ a521 := (Nat.ne_of_lt (Nat.lt_of_lt_of_le (Nat.lt_of_lt_of_le LV.lt (Nat.le_trans (Nat.le_trans (Nat.le_trans K490.1 K492.1) E512.1) K515.1)) (Nat.le_of_eq g521.symm)))
                  have f660 := ((((((LV.keep K490 nin0).keep K492 nin0).keep K512 nin0).keep K515 (ninS ne658 nin0)).keep K521 nin0).keep K526 (ninS ne659 nin0))
                  have f661 := ((((((LX.keep K490).keep K492).keep K512).keep K515).keep K521).keep K526)
                  refine k_callS W 1 17 113 (argsL := [(.long j494)]) (rest := [(.ref a512)]) d_code_382 (w133 hw) (w134 hw) (by decide) (lenOf pd21 rfl) (ct_lval l Z a0 hw n0 h526 j494 lc lvs f657 f660 f661 hlv) (w136 hw) (w135 hw) (fun x hx => nomatch hx) rfl (Nat.le_of_eq rfl) (Nat.le_of_ble_eq_true rfl) (Nat.le_of_ble_eq_true rfl) ⟨rfl, Nat.le_of_ble_eq_true rfl⟩ ⟨rfl, Nat.le_of_ble_eq_true rfl⟩ rfl (fun _ _ ⟨_, q, _⟩ => nomatch q) fun T h656 v so W hQ => ?_
                  obtain ⟨x656, hv, K656, X656⟩ := hQ
                  obtain rfl := Option.some.inj hv
                  have f662 := (f649.keep K656)
                  refine k_callV W 0 17 113 (argsL := [(.ref x656)]) (rest := []) (a := a512) (C := "com/example/lean_envelope/leanenvelope/check/ExceededLimit") (z0 := (⟨"com/example/lean_envelope/leanenvelope/check/ExceededLimit", "equals", "(Ljava/lang/Object;)Z"⟩ : MethodName)) (z := (⟨"com/example/lean_envelope/leanenvelope/check/ExceededLimit", "equals", "(Ljava/lang/Object;)Z"⟩ : MethodName)) d_code_385 (w115 hw) (w116 hw) (nfSel (w118 hw)) (w118 hw) (w117 hw) (by decide) (lenOf pd16 rfl) f662 (ct_xeqL l Z a0 hw n0 h656 a512 x656 f662 X656) (w119 hw) (w49 hw) (fun x hx => nomatch hx) rfl (Nat.le_of_eq rfl) (Nat.le_of_ble_eq_true rfl) (Nat.le_of_ble_eq_true rfl) ⟨rfl, Nat.le_of_ble_eq_true rfl⟩ ⟨rfl, Nat.le_of_ble_eq_true rfl⟩ rfl (fun _ _ q => nomatch q.1) fun T h663 v so W hQ => ?_
                  obtain ⟨hv, rfl, -⟩ := hQ
                  obtain rfl := Option.some.inj hv
                  refine k_ifN W d_code_388 (show ¬ (¬ (0 : Int32) = 0) by decide) ?_
                  refine k_iconst W d_code_391 (z := (1 : Int32)) rfl ?_
                  refine k_goto W 396 d_code_392 (by decide) ?_
                  exact k_retN W (t := .boolean) (z' := (1 : Int32)) d_code_396 rfl (by simp) (by decide) [] (fun x hx => nomatch hx) (Nat.le_of_ble_eq_true rfl) (Nat.le_of_ble_eq_true rfl) rfl
            · -- pc 311
              refine k_aload W d_code_311 rfl rfl ?_
              refine k_aload W d_code_313 rfl rfl ?_
              by_cases hu : u1503 = u2507
              · --
                subst hu
                refine k_acN W d_code_315 rfl rfl (by decide) (fun q => q rfl) ?_
                refine k_iconst W d_code_318 (z := (1 : Int32)) rfl ?_
                refine k_goto W 323 d_code_319 (by decide) ?_
                refine k_istore W d_code_323 (L' := #[.val (.int p0), .val (.int p1), .val (.long q2), .second, .val (.long q3), .second, .val (.long q4), .second, .val (.int p5), .val (.int (2 : Int32)), .val (.int c131), .val (.int ((XT.ushr p0 (8 : Int32)) &&& (255 : Int32))), .val (.int sm), .val (.int (2 : Int32)), .val (.int d0), .val (.int d1), .val (.ref x490), .val (.ref x492), .val (.long j493), .second, .val (.long j494), .second, .val (.long jm495), .second, .val (.long ja498), .second, .val (.ref u1503), .val (.ref u1503), .val (.ref a512), .val (.ref a521), .val (.int (1 : Int32)), .val (.int (1 : Int32))]) rfl ?_
                refine k_aload W d_code_325 rfl rfl ?_
                refine k_aload W d_code_327 rfl rfl ?_
                have f664 := (X521.keep K526)
                have ne665 : a512 ≠ a521 := (Nat.ne_of_lt (Nat.lt_of_lt_of_le G0_515.lt (Nat.le_of_eq g521.symm)))
                have f666 := ((G0_515.keep K521 nin0).keep K526 (ninS ne665 nin0))
                have f667 := ((G1_515.keep K521 nin0).keep K526 (ninS ne665 nin0))
                have f668 := ((G2_515.keep K521 nin0).keep K526 (ninS ne665 nin0))
                have f669 := ((G3_515.keep K521 nin0).keep K526 (ninS ne665 nin0))
                have ne670 : x490 ≠ a512 := (Nat.ne_of_lt (Nat.lt_of_lt_of_le (Nat.lt_of_lt_of_le S490.1.lt K492.1) (Nat.le_of_eq g512.symm)))
                have ne671 : b490 ≠ a512 := (Nat.ne_of_lt (Nat.lt_of_lt_of_le (Nat.lt_of_lt_of_le S490.2.2.2.lt K492.1) (Nat.le_of_eq g512.symm)))
                have ne672 : x490 ≠ a521 := (Nat.ne_of_lt (Nat.lt_of_lt_of_le (Nat.lt_of_lt_of_le f513.1.lt K515.1) (Nat.le_of_eq g521.symm)))
                have ne673 : b490 ≠ a521 := (Nat.ne_of_lt (Nat.lt_of_lt_of_le (Nat.lt_of_lt_of_le f513.2.2.2.lt K515.1) (Nat.le_of_eq g521.symm)))
                have f674 := (((f513.keep K515 (ninS ne670 nin0) (ninS ne671 nin0)).keep K521 nin0 nin0).keep K526 (ninS ne672 nin0) (ninS ne673 nin0))
                have ne675 : x492 ≠ a521 := (Nat.ne_of_lt (Nat.lt_of_lt_of_le (Nat.lt_of_lt_of_le S492.1.lt (Nat.le_trans E512.1 K515.1)) (Nat.le_of_eq g521.symm)))
                have ne676 : b492 ≠ a521 := (Nat.ne_of_lt (Nat.lt_of_lt_of_le (Nat.lt_of_lt_of_le S492.2.2.2.lt (Nat.le_trans E512.1 K515.1)) (Nat.le_of_eq g521.symm)))
                have f677 := (f524.keep K526 (ninS ne675 nin0) (ninS ne676 nin0))
                have f678 := (Sta.keep f525 K526 (nsS (Exa.plain X521) ns0))
                have ne680 : x490 ≠ x492 := (Nat.ne_of_lt (Nat.lt_of_lt_of_le S490.1.lt gx492))
                have f681 := (((X512.keep K515).keep K521).keep K526)
                refine k_callV W 0 16 112 (argsL := [(.ref a521)]) (rest := []) (a := a512) (C := "com/example/lean_envelope/leanenvelope/check/ExceededLimit") (z0 := (⟨"com/example/lean_envelope/leanenvelope/check/ExceededLimit", "equals", "(Ljava/lang/Object;)Z"⟩ : MethodName)) (z := (⟨"com/example/lean_envelope/leanenvelope/check/ExceededLimit", "equals", "(Ljava/lang/Object;)Z"⟩ : MethodName)) d_code_329 (w115 hw) (w116 hw) (nfSel (w118 hw)) (w118 hw) (w117 hw) (by decide) (lenOf pd16 rfl) f681 (ct_xeq l Z a0 hw n0 h526 a512 a521 x490 b490 x492 b492 u1503 u1503 [(i2b c131), (i2b ((XT.ushr p0 (8 : Int32)) &&& (255 : Int32)))] [(i2b d0), (i2b d1)] j494 ja498 j493 jm495 zc ne665 ne680 f681 f666 f667 f668 f669 f664 G0_526 G1_526 G2_526 G3_526 f674 f677 f678 hzc) (w119 hw) (w49 hw) (fun x hx => nomatch hx) rfl (Nat.le_of_eq rfl) (Nat.le_of_ble_eq_true rfl) (Nat.le_of_ble_eq_true rfl) ⟨rfl, Nat.le_of_ble_eq_true rfl⟩ ⟨rfl, Nat.le_of_ble_eq_true rfl⟩ rfl (fun _ _ q => by rcases q.1 with ⟨_, u⟩ | ⟨_, u⟩ <;> cases u) fun T h682 v so W hQ => ?_
                obtain ⟨hQ, rfl⟩ := hQ
                rcases hQ with ⟨hP679, hv⟩ | ⟨hP679, hv⟩
                · --
                  obtain rfl := Option.some.inj hv
                  refine k_iload W d_code_332 rfl ?_
                  refine k_icN W d_code_334 (show ¬ (¬ (1 : Int32) = (1 : Int32)) by decide) ?_
                  refine k_aload W d_code_337 rfl rfl ?_
                  refine k_aload W d_code_339 rfl rfl ?_
                  refine k_callV W 0 16 112 (argsL := [(.ref a512)]) (rest := []) (a := a521) (C := "com/example/lean_envelope/leanenvelope/check/ExceededLimit") (z0 := (⟨"com/example/lean_envelope/leanenvelope/check/ExceededLimit", "equals", "(Ljava/lang/Object;)Z"⟩ : MethodName)) (z := (⟨"com/example/lean_envelope/leanenvelope/check/ExceededLimit", "equals", "(Ljava/lang/Object;)Z"⟩ : MethodName)) d_code_341 (w115 hw) (w116 hw) (nfSel (w118 hw)) (w118 hw) (w117 hw) (by decide) (lenOf pd16 rfl) f664 (ct_xeq l Z a0 hw n0 h526 a521 a512 x492 b492 x490 b490 u1503 u1503 [(i2b d0), (i2b d1)] [(i2b c131), (i2b ((XT.ushr p0 (8 : Int32)) &&& (255 : Int32)))] ja498 j494 jm495 j493 zc (Ne.symm ne665) (Ne.symm ne680) f664 G0_526 G1_526 G2_526 G3_526 f681 f666 f667 f668 f669 f677 f674 f678 hzc) (w119 hw) (w49 hw) (fun x hx => nomatch hx) rfl (Nat.le_of_eq rfl) (Nat.le_of_ble_eq_true rfl) (Nat.le_of_ble_eq_true rfl) ⟨rfl, Nat.le_of_ble_eq_true rfl⟩ ⟨rfl, Nat.le_of_ble_eq_true rfl⟩ rfl (fun _ _ q => by rcases q.1 with ⟨_, u⟩ | ⟨_, u⟩ <;> cases u) fun T h684 v so W hQ => ?_
                  obtain ⟨hQ, rfl⟩ := hQ
                  rcases hQ with ⟨hP683, hv⟩ | ⟨hP683, hv⟩
                  · --
                    obtain rfl := Option.some.inj hv
                    refine k_iload W d_code_344 rfl ?_
                    refine k_icN W d_code_346 (show ¬ (¬ (1 : Int32) = (1 : Int32)) by decide) ?_
                    refine k_aload W d_code_349 rfl rfl ?_
                    refine k_aload W d_code_351 rfl rfl ?_
                    refine k_callV W 0 16 112 (argsL := [(.ref a512)]) (rest := []) (a := a512) (C := "com/example/lean_envelope/leanenvelope/check/ExceededLimit") (z0 := (⟨"com/example/lean_envelope/leanenvelope/check/ExceededLimit", "equals", "(Ljava/lang/Object;)Z"⟩ : MethodName)) (z := (⟨"com/example/lean_envelope/leanenvelope/check/ExceededLimit", "equals", "(Ljava/lang/Object;)Z"⟩ : MethodName)) d_code_353 (w115 hw) (w116 hw) (nfSel (w118 hw)) (w118 hw) (w117 hw) (by decide) (lenOf pd16 rfl) f681 (ct_xeqI l Z a0 hw n0 h526 a512) (w119 hw) (w49 hw) (fun x hx => nomatch hx) rfl (Nat.le_of_eq rfl) (Nat.le_of_ble_eq_true rfl) (Nat.le_of_ble_eq_true rfl) ⟨rfl, Nat.le_of_ble_eq_true rfl⟩ ⟨rfl, Nat.le_of_ble_eq_true rfl⟩ rfl (fun _ _ q => nomatch q.1) fun T h685 v so W hQ => ?_
                    obtain ⟨hv, rfl, -⟩ := hQ
                    obtain rfl := Option.some.inj hv
                    refine k_ifN W d_code_356 (show ¬ ((1 : Int32) = 0) by decide) ?_
                    refine k_aload W d_code_359 rfl rfl ?_
                    refine k_aconst W d_code_361 ?_
                    refine k_callV W 0 16 112 (argsL := [.null]) (rest := []) (a := a512) (C := "com/example/lean_envelope/leanenvelope/check/ExceededLimit") (z0 := (⟨"com/example/lean_envelope/leanenvelope/check/ExceededLimit", "equals", "(Ljava/lang/Object;)Z"⟩ : MethodName)) (z := (⟨"com/example/lean_envelope/leanenvelope/check/ExceededLimit", "equals", "(Ljava/lang/Object;)Z"⟩ : MethodName)) d_code_362 (w115 hw) (w116 hw) (nfSel (w118 hw)) (w118 hw) (w117 hw) (by decide) (lenOf pd16 rfl) f681 (ct_xeqN l Z a0 hw n0 h526 a512) (w119 hw) (w49 hw) (fun x hx => nomatch hx) rfl (Nat.le_of_eq rfl) (Nat.le_of_ble_eq_true rfl) (Nat.le_of_ble_eq_true rfl) ⟨rfl, Nat.le_of_ble_eq_true rfl⟩ ⟨rfl, Nat.le_of_ble_eq_true rfl⟩ rfl (fun _ _ q => nomatch q.1) fun T h686 v so W hQ => ?_
                    obtain ⟨hv, rfl, -⟩ := hQ
                    obtain rfl := Option.some.inj hv
                    refine k_ifN W d_code_365 (show ¬ (¬ (0 : Int32) = 0) by decide) ?_
                    refine k_aload W d_code_368 rfl rfl ?_
                    refine k_aload W d_code_370 rfl rfl ?_
                    refine k_callV W 0 16 112 (argsL := [(.ref x490)]) (rest := []) (a := a512) (C := "com/example/lean_envelope/leanenvelope/check/ExceededLimit") (z0 := (⟨"com/example/lean_envelope/leanenvelope/check/ExceededLimit", "equals", "(Ljava/lang/Object;)Z"⟩ : MethodName)) (z := (⟨"com/example/lean_envelope/leanenvelope/check/ExceededLimit", "equals", "(Ljava/lang/Object;)Z"⟩ : MethodName)) d_code_372 (w115 hw) (w116 hw) (nfSel (w118 hw)) (w118 hw) (w117 hw) (by decide) (lenOf pd16 rfl) f681 (ct_xeqS l Z a0 hw n0 h526 a512 x490 f681 f674.1) (w119 hw) (w49 hw) (fun x hx => nomatch hx) rfl (Nat.le_of_eq rfl) (Nat.le_of_ble_eq_true rfl) (Nat.le_of_ble_eq_true rfl) ⟨rfl, Nat.le_of_ble_eq_true rfl⟩ ⟨rfl, Nat.le_of_ble_eq_true rfl⟩ rfl (fun _ _ q => nomatch q.1) fun T h687 v so W hQ => ?_
                    obtain ⟨hv, rfl, -⟩ := hQ
                    obtain rfl := Option.some.inj hv
                    refine k_ifN W d_code_375 (show ¬ (¬ (0 : Int32) = 0) by decide) ?_
                    refine k_aload W d_code_378 rfl rfl ?_
                    refine k_lload W d_code_380 rfl ?_
                    have f689 := (Sta.keep (Sta.keep (Sta.keep (Sta.keep (Sta.keep (Sta.keep LS K490 ns0) K492 ns0) K512 ns0) K515 (nsS (Exa.plain X512) ns0)) K521 ns0) K526 (nsS (Exa.plain X521) ns0))
                    have ne690 : lc ≠ a512 := (Nat.ne_of_lt (Nat.lt_of_lt_of_le (Nat.lt_of_lt_of_le LV.lt (Nat.le_trans K490.1 K492.1)) (Nat.le_of_eq g512.symm)))
                    have ne691 : lc ≠ a521 := (Nat.ne_of_lt (Nat.lt_of_lt_of_le (Nat.lt_of_lt_of_le LV.lt (Nat.le_trans (Nat.le_trans (Nat.le_trans K490.1 K492.1) E512.1) K515.1)) (Nat.le_of_eq g521.symm)))
                    have f692 := ((((((LV.keep K490 nin0).keep K492 nin0).keep K512 nin0).keep K515 (ninS ne690 nin0)).keep K521 nin0).keep K526 (ninS ne691 nin0))
                    have f693 := ((((((LX.keep K490).keep K492).keep K512).keep K515).keep K521).keep K526)
                    refine k_callS W 1 17 113 (argsL := [(.long j494)]) (rest := [(.ref a512)]) d_code_382 (w133 hw) (w134 hw) (by decide) (lenOf pd21 rfl) (ct_lval l Z a0 hw n0 h526 j494 lc lvs f689 f692 f693 hlv) (w136 hw) (w135 hw) (fun x hx => nomatch hx) rfl (Nat.le_of_eq rfl) (Nat.le_of_ble_eq_true rfl) (Nat.le_of_ble_eq_true rfl) ⟨rfl, Nat.le_of_ble_eq_true rfl⟩ ⟨rfl, Nat.le_of_ble_eq_true rfl⟩ rfl (fun _ _ ⟨_, q, _⟩ => nomatch q) fun T h688 v so W hQ => ?_
                    obtain ⟨x688, hv, K688, X688⟩ := hQ
                    obtain rfl := Option.some.inj hv
                    have f694 := (f681.keep K688)
                    refine k_callV W 0 17 113 (argsL := [(.ref x688)]) (rest := []) (a := a512) (C := "com/example/lean_envelope/leanenvelope/check/ExceededLimit") (z0 := (⟨"com/example/lean_envelope/leanenvelope/check/ExceededLimit", "equals", "(Ljava/lang/Object;)Z"⟩ : MethodName)) (z := (⟨"com/example/lean_envelope/leanenvelope/check/ExceededLimit", "equals", "(Ljava/lang/Object;)Z"⟩ : MethodName)) d_code_385 (w115 hw) (w116 hw) (nfSel (w118 hw)) (w118 hw) (w117 hw) (by decide) (lenOf pd16 rfl) f694 (ct_xeqL l Z a0 hw n0 h688 a512 x688 f694 X688) (w119 hw) (w49 hw) (fun x hx => nomatch hx) rfl (Nat.le_of_eq rfl) (Nat.le_of_ble_eq_true rfl) (Nat.le_of_ble_eq_true rfl) ⟨rfl, Nat.le_of_ble_eq_true rfl⟩ ⟨rfl, Nat.le_of_ble_eq_true rfl⟩ rfl (fun _ _ q => nomatch q.1) fun T h695 v so W hQ => ?_
                    obtain ⟨hv, rfl, -⟩ := hQ
                    obtain rfl := Option.some.inj hv
                    refine k_ifN W d_code_388 (show ¬ (¬ (0 : Int32) = 0) by decide) ?_
                    refine k_iconst W d_code_391 (z := (1 : Int32)) rfl ?_
                    refine k_goto W 396 d_code_392 (by decide) ?_
                    exact k_retN W (t := .boolean) (z' := (1 : Int32)) d_code_396 rfl (by simp) (by decide) [] (fun x hx => nomatch hx) (Nat.le_of_ble_eq_true rfl) (Nat.le_of_ble_eq_true rfl) rfl
                  · --
                    exact absurd ⟨by rw [Classical.not_not.mp hc532, Classical.not_not.mp hc565], (cmpL_eq.mp (Classical.not_not.mp hc598)).symm, (cmpL_eq.mp (Classical.not_not.mp hc631)).symm, rfl⟩ hP683
                · --
                  exact absurd ⟨by rw [Classical.not_not.mp hc532, Classical.not_not.mp hc565], cmpL_eq.mp (Classical.not_not.mp hc598), cmpL_eq.mp (Classical.not_not.mp hc631), rfl⟩ hP679
              · --
                refine k_acY W 322 d_code_315 rfl rfl (by decide) (fun q => hu (Value.ref.inj q)) ?_
                refine k_iconst W d_code_322 (z := (0 : Int32)) rfl ?_
                refine k_istore W d_code_323 (L' := #[.val (.int p0), .val (.int p1), .val (.long q2), .second, .val (.long q3), .second, .val (.long q4), .second, .val (.int p5), .val (.int (2 : Int32)), .val (.int c131), .val (.int ((XT.ushr p0 (8 : Int32)) &&& (255 : Int32))), .val (.int sm), .val (.int (2 : Int32)), .val (.int d0), .val (.int d1), .val (.ref x490), .val (.ref x492), .val (.long j493), .second, .val (.long j494), .second, .val (.long jm495), .second, .val (.long ja498), .second, .val (.ref u1503), .val (.ref u2507), .val (.ref a512), .val (.ref a521), .val (.int (1 : Int32)), .val (.int (0 : Int32))]) rfl ?_
                refine k_aload W d_code_325 rfl rfl ?_
                refine k_aload W d_code_327 rfl rfl ?_
                have f696 := (X521.keep K526)
                have ne697 : a512 ≠ a521 := (Nat.ne_of_lt (Nat.lt_of_lt_of_le G0_515.lt (Nat.le_of_eq g521.symm)))
                have f698 := ((G0_515.keep K521 nin0).keep K526 (ninS ne697 nin0))
                have f699 := ((G1_515.keep K521 nin0).keep K526 (ninS ne697 nin0))
                have f700 := ((G2_515.keep K521 nin0).keep K526 (ninS ne697 nin0))
                have f701 := ((G3_515.keep K521 nin0).keep K526 (ninS ne697 nin0))
                have ne702 : x490 ≠ a512 := (Nat.ne_of_lt (Nat.lt_of_lt_of_le (Nat.lt_of_lt_of_le S490.1.lt K492.1) (Nat.le_of_eq g512.symm)))
                have ne703 : b490 ≠ a512 := (Nat.ne_of_lt (Nat.lt_of_lt_of_le (Nat.lt_of_lt_of_le S490.2.2.2.lt K492.1) (Nat.le_of_eq g512.symm)))
                have ne704 : x490 ≠ a521 := (Nat.ne_of_lt (Nat.lt_of_lt_of_le (Nat.lt_of_lt_of_le f513.1.lt K515.1) (Nat.le_of_eq g521.symm)))
                have ne705 : b490 ≠ a521 := (Nat.ne_of_lt (Nat.lt_of_lt_of_le (Nat.lt_of_lt_of_le f513.2.2.2.lt K515.1) (Nat.le_of_eq g521.symm)))
                have f706 := (((f513.keep K515 (ninS ne702 nin0) (ninS ne703 nin0)).keep K521 nin0 nin0).keep K526 (ninS ne704 nin0) (ninS ne705 nin0))
                have ne707 : x492 ≠ a521 := (Nat.ne_of_lt (Nat.lt_of_lt_of_le (Nat.lt_of_lt_of_le S492.1.lt (Nat.le_trans E512.1 K515.1)) (Nat.le_of_eq g521.symm)))
                have ne708 : b492 ≠ a521 := (Nat.ne_of_lt (Nat.lt_of_lt_of_le (Nat.lt_of_lt_of_le S492.2.2.2.lt (Nat.le_trans E512.1 K515.1)) (Nat.le_of_eq g521.symm)))
                have f709 := (f524.keep K526 (ninS ne707 nin0) (ninS ne708 nin0))
                have f710 := (Sta.keep f525 K526 (nsS (Exa.plain X521) ns0))
                have ne712 : x490 ≠ x492 := (Nat.ne_of_lt (Nat.lt_of_lt_of_le S490.1.lt gx492))
                have f713 := (((X512.keep K515).keep K521).keep K526)
                refine k_callV W 0 16 112 (argsL := [(.ref a521)]) (rest := []) (a := a512) (C := "com/example/lean_envelope/leanenvelope/check/ExceededLimit") (z0 := (⟨"com/example/lean_envelope/leanenvelope/check/ExceededLimit", "equals", "(Ljava/lang/Object;)Z"⟩ : MethodName)) (z := (⟨"com/example/lean_envelope/leanenvelope/check/ExceededLimit", "equals", "(Ljava/lang/Object;)Z"⟩ : MethodName)) d_code_329 (w115 hw) (w116 hw) (nfSel (w118 hw)) (w118 hw) (w117 hw) (by decide) (lenOf pd16 rfl) f713 (ct_xeq l Z a0 hw n0 h526 a512 a521 x490 b490 x492 b492 u1503 u2507 [(i2b c131), (i2b ((XT.ushr p0 (8 : Int32)) &&& (255 : Int32)))] [(i2b d0), (i2b d1)] j494 ja498 j493 jm495 zc ne697 ne712 f713 f698 f699 f700 f701 f696 G0_526 G1_526 G2_526 G3_526 f706 f709 f710 hzc) (w119 hw) (w49 hw) (fun x hx => nomatch hx) rfl (Nat.le_of_eq rfl) (Nat.le_of_ble_eq_true rfl) (Nat.le_of_ble_eq_true rfl) ⟨rfl, Nat.le_of_ble_eq_true rfl⟩ ⟨rfl, Nat.le_of_ble_eq_true rfl⟩ rfl (fun _ _ q => by rcases q.1 with ⟨_, u⟩ | ⟨_, u⟩ <;> cases u) fun T h714 v so W hQ => ?_
                obtain ⟨hQ, rfl⟩ := hQ
                rcases hQ with ⟨hP711, hv⟩ | ⟨hP711, hv⟩
                · --
                  obtain ⟨e1, e2, e3, e4⟩ := hP711
                  exact absurd e4 hu
                · --
                  obtain rfl := Option.some.inj hv
                  refine k_iload W d_code_332 rfl ?_
                  refine k_icN W d_code_334 (show ¬ (¬ (0 : Int32) = (0 : Int32)) by decide) ?_
                  refine k_aload W d_code_337 rfl rfl ?_
                  refine k_aload W d_code_339 rfl rfl ?_
                  refine k_callV W 0 16 112 (argsL := [(.ref a512)]) (rest := []) (a := a521) (C := "com/example/lean_envelope/leanenvelope/check/ExceededLimit") (z0 := (⟨"com/example/lean_envelope/leanenvelope/check/ExceededLimit", "equals", "(Ljava/lang/Object;)Z"⟩ : MethodName)) (z := (⟨"com/example/lean_envelope/leanenvelope/check/ExceededLimit", "equals", "(Ljava/lang/Object;)Z"⟩ : MethodName)) d_code_341 (w115 hw) (w116 hw) (nfSel (w118 hw)) (w118 hw) (w117 hw) (by decide) (lenOf pd16 rfl) f696 (ct_xeq l Z a0 hw n0 h526 a521 a512 x492 b492 x490 b490 u2507 u1503 [(i2b d0), (i2b d1)] [(i2b c131), (i2b ((XT.ushr p0 (8 : Int32)) &&& (255 : Int32)))] ja498 j494 jm495 j493 zc (Ne.symm ne697) (Ne.symm ne712) f696 G0_526 G1_526 G2_526 G3_526 f713 f698 f699 f700 f701 f709 f706 f710 hzc) (w119 hw) (w49 hw) (fun x hx => nomatch hx) rfl (Nat.le_of_eq rfl) (Nat.le_of_ble_eq_true rfl) (Nat.le_of_ble_eq_true rfl) ⟨rfl, Nat.le_of_ble_eq_true rfl⟩ ⟨rfl, Nat.le_of_ble_eq_true rfl⟩ rfl (fun _ _ q => by rcases q.1 with ⟨_, u⟩ | ⟨_, u⟩ <;> cases u) fun T h716 v so W hQ => ?_
                  obtain ⟨hQ, rfl⟩ := hQ
                  rcases hQ with ⟨hP715, hv⟩ | ⟨hP715, hv⟩
                  · --
                    obtain ⟨e1, e2, e3, e4⟩ := hP715
                    exact absurd e4.symm hu
                  · --
                    obtain rfl := Option.some.inj hv
                    refine k_iload W d_code_344 rfl ?_
                    refine k_icN W d_code_346 (show ¬ (¬ (0 : Int32) = (0 : Int32)) by decide) ?_
                    refine k_aload W d_code_349 rfl rfl ?_
                    refine k_aload W d_code_351 rfl rfl ?_
                    refine k_callV W 0 16 112 (argsL := [(.ref a512)]) (rest := []) (a := a512) (C := "com/example/lean_envelope/leanenvelope/check/ExceededLimit") (z0 := (⟨"com/example/lean_envelope/leanenvelope/check/ExceededLimit", "equals", "(Ljava/lang/Object;)Z"⟩ : MethodName)) (z := (⟨"com/example/lean_envelope/leanenvelope/check/ExceededLimit", "equals", "(Ljava/lang/Object;)Z"⟩ : MethodName)) d_code_353 (w115 hw) (w116 hw) (nfSel (w118 hw)) (w118 hw) (w117 hw) (by decide) (lenOf pd16 rfl) f713 (ct_xeqI l Z a0 hw n0 h526 a512) (w119 hw) (w49 hw) (fun x hx => nomatch hx) rfl (Nat.le_of_eq rfl) (Nat.le_of_ble_eq_true rfl) (Nat.le_of_ble_eq_true rfl) ⟨rfl, Nat.le_of_ble_eq_true rfl⟩ ⟨rfl, Nat.le_of_ble_eq_true rfl⟩ rfl (fun _ _ q => nomatch q.1) fun T h717 v so W hQ => ?_
                    obtain ⟨hv, rfl, -⟩ := hQ
                    obtain rfl := Option.some.inj hv
                    refine k_ifN W d_code_356 (show ¬ ((1 : Int32) = 0) by decide) ?_
                    refine k_aload W d_code_359 rfl rfl ?_
                    refine k_aconst W d_code_361 ?_
                    refine k_callV W 0 16 112 (argsL := [.null]) (rest := []) (a := a512) (C := "com/example/lean_envelope/leanenvelope/check/ExceededLimit") (z0 := (⟨"com/example/lean_envelope/leanenvelope/check/ExceededLimit", "equals", "(Ljava/lang/Object;)Z"⟩ : MethodName)) (z := (⟨"com/example/lean_envelope/leanenvelope/check/ExceededLimit", "equals", "(Ljava/lang/Object;)Z"⟩ : MethodName)) d_code_362 (w115 hw) (w116 hw) (nfSel (w118 hw)) (w118 hw) (w117 hw) (by decide) (lenOf pd16 rfl) f713 (ct_xeqN l Z a0 hw n0 h526 a512) (w119 hw) (w49 hw) (fun x hx => nomatch hx) rfl (Nat.le_of_eq rfl) (Nat.le_of_ble_eq_true rfl) (Nat.le_of_ble_eq_true rfl) ⟨rfl, Nat.le_of_ble_eq_true rfl⟩ ⟨rfl, Nat.le_of_ble_eq_true rfl⟩ rfl (fun _ _ q => nomatch q.1) fun T h718 v so W hQ => ?_
                    obtain ⟨hv, rfl, -⟩ := hQ
                    obtain rfl := Option.some.inj hv
                    refine k_ifN W d_code_365 (show ¬ (¬ (0 : Int32) = 0) by decide) ?_
                    refine k_aload W d_code_368 rfl rfl ?_
                    refine k_aload W d_code_370 rfl rfl ?_
                    refine k_callV W 0 16 112 (argsL := [(.ref x490)]) (rest := []) (a := a512) (C := "com/example/lean_envelope/leanenvelope/check/ExceededLimit") (z0 := (⟨"com/example/lean_envelope/leanenvelope/check/ExceededLimit", "equals", "(Ljava/lang/Object;)Z"⟩ : MethodName)) (z := (⟨"com/example/lean_envelope/leanenvelope/check/ExceededLimit", "equals", "(Ljava/lang/Object;)Z"⟩ : MethodName)) d_code_372 (w115 hw) (w116 hw) (nfSel (w118 hw)) (w118 hw) (w117 hw) (by decide) (lenOf pd16 rfl) f713 (ct_xeqS l Z a0 hw n0 h526 a512 x490 f713 f706.1) (w119 hw) (w49 hw) (fun x hx => nomatch hx) rfl (Nat.le_of_eq rfl) (Nat.le_of_ble_eq_true rfl) (Nat.le_of_ble_eq_true rfl) ⟨rfl, Nat.le_of_ble_eq_true rfl⟩ ⟨rfl, Nat.le_of_ble_eq_true rfl⟩ rfl (fun _ _ q => nomatch q.1) fun T h719 v so W hQ => ?_
                    obtain ⟨hv, rfl, -⟩ := hQ
                    obtain rfl := Option.some.inj hv
                    refine k_ifN W d_code_375 (show ¬ (¬ (0 : Int32) = 0) by decide) ?_
                    refine k_aload W d_code_378 rfl rfl ?_
                    refine k_lload W d_code_380 rfl ?_
                    have f721 := (Sta.keep (Sta.keep (Sta.keep (Sta.keep (Sta.keep (Sta.keep LS K490 ns0) K492 ns0) K512 ns0) K515 (nsS (Exa.plain X512) ns0)) K521 ns0) K526 (nsS (Exa.plain X521) ns0))
                    have ne722 : lc ≠ a512 := (Nat.ne_of_lt (Nat.lt_of_lt_of_le (Nat.lt_of_lt_of_le LV.lt (Nat.le_trans K490.1 K492.1)) (Nat.le_of_eq g512.symm)))
                    have ne723 : lc ≠ a521 := (Nat.ne_of_lt (Nat.lt_of_lt_of_le (Nat.lt_of_lt_of_le LV.lt (Nat.le_trans (Nat.le_trans (Nat.le_trans K490.1 K492.1) E512.1) K515.1)) (Nat.le_of_eq g521.symm)))
                    have f724 := ((((((LV.keep K490 nin0).keep K492 nin0).keep K512 nin0).keep K515 (ninS ne722 nin0)).keep K521 nin0).keep K526 (ninS ne723 nin0))
                    have f725 := ((((((LX.keep K490).keep K492).keep K512).keep K515).keep K521).keep K526)
                    refine k_callS W 1 17 113 (argsL := [(.long j494)]) (rest := [(.ref a512)]) d_code_382 (w133 hw) (w134 hw) (by decide) (lenOf pd21 rfl) (ct_lval l Z a0 hw n0 h526 j494 lc lvs f721 f724 f725 hlv) (w136 hw) (w135 hw) (fun x hx => nomatch hx) rfl (Nat.le_of_eq rfl) (Nat.le_of_ble_eq_true rfl) (Nat.le_of_ble_eq_true rfl) ⟨rfl, Nat.le_of_ble_eq_true rfl⟩ ⟨rfl, Nat.le_of_ble_eq_true rfl⟩ rfl (fun _ _ ⟨_, q, _⟩ => nomatch q) fun T h720 v so W hQ => ?_
                    obtain ⟨x720, hv, K720, X720⟩ := hQ
                    obtain rfl := Option.some.inj hv
                    have f726 := (f713.keep K720)
                    refine k_callV W 0 17 113 (argsL := [(.ref x720)]) (rest := []) (a := a512) (C := "com/example/lean_envelope/leanenvelope/check/ExceededLimit") (z0 := (⟨"com/example/lean_envelope/leanenvelope/check/ExceededLimit", "equals", "(Ljava/lang/Object;)Z"⟩ : MethodName)) (z := (⟨"com/example/lean_envelope/leanenvelope/check/ExceededLimit", "equals", "(Ljava/lang/Object;)Z"⟩ : MethodName)) d_code_385 (w115 hw) (w116 hw) (nfSel (w118 hw)) (w118 hw) (w117 hw) (by decide) (lenOf pd16 rfl) f726 (ct_xeqL l Z a0 hw n0 h720 a512 x720 f726 X720) (w119 hw) (w49 hw) (fun x hx => nomatch hx) rfl (Nat.le_of_eq rfl) (Nat.le_of_ble_eq_true rfl) (Nat.le_of_ble_eq_true rfl) ⟨rfl, Nat.le_of_ble_eq_true rfl⟩ ⟨rfl, Nat.le_of_ble_eq_true rfl⟩ rfl (fun _ _ q => nomatch q.1) fun T h727 v so W hQ => ?_
                    obtain ⟨hv, rfl, -⟩ := hQ
                    obtain rfl := Option.some.inj hv
                    refine k_ifN W d_code_388 (show ¬ (¬ (0 : Int32) = 0) by decide) ?_
                    refine k_iconst W d_code_391 (z := (1 : Int32)) rfl ?_
                    refine k_goto W 396 d_code_392 (by decide) ?_
                    exact k_retN W (t := .boolean) (z' := (1 : Int32)) d_code_396 rfl (by simp) (by decide) [] (fun x hx => nomatch hx) (Nat.le_of_ble_eq_true rfl) (Nat.le_of_ble_eq_true rfl) rfl
set_option maxRecDepth 65536 in
set_option maxHeartbeats 40000000 in
theorem comes_1 {Post : Tables → Env → Array Value → State → Outcome → State → Prop} (hpost : ∀ tb e args s v u, (limb_1_1.after args s (.returned v) u = true ∧ limb_1_2.after args s (.returned v) u = true ∧ True) → FramedW s (.returned v) u (Jvm.fieldLocs frame_1_writes args s ++ Jvm.arrayLocs frame_1_arrays args s ++ Jvm.staticLocs frame_1_statics s) 32 2176 → Post tb e args s (.returned v) u) :
    ArmFor flags0 classFile x code maxLocals ret World_1 tables_1 room_1 Calls_1 rest_1 Pre_1 Post := by
  intro l hfl _ _ p e ha hc hk s m args below hf hA hF happ hP
  obtain ⟨hcalls, hrest, hpre⟩ := hP
  obtain ⟨-, -, -, hnamed, -, -, -, hat⟩ := (Spec.applies_iff hf).mp happ
  obtain ⟨hg, hnarrow⟩ := and_e (Cond.before_iff.mp (show (Jvm.Cond.and given_1 narrow_1).before args s = true from hpre))
  obtain ⟨h1, h2⟩ := and_e hg
  obtain ⟨ga0, h2⟩ := and_e h2
  obtain ⟨ga1, h2⟩ := and_e h2
  obtain ⟨ga2, h2⟩ := and_e h2
  obtain ⟨ga3, h2⟩ := and_e h2
  obtain ⟨ga4, h2⟩ := and_e h2
  have ga5 := h2
  obtain ⟨w0, w1, w2, w3, w4, w5, rfl⟩ : ∃ w0 w1 w2 w3 w4 w5 : Value, args = #[w0, w1, w2, w3, w4, w5] := by
    have hs : args.size = 6 := by simpa [Cond.value, given_1] using h1
    obtain ⟨L⟩ := args
    match L, hs with
    | [w0, w1, w2, w3, w4, w5], _ => exact ⟨w0, w1, w2, w3, w4, w5, rfl⟩
  have hw := fun d (hd : d ∈ tables_1) => atoms_spec (ws := Jvm.Cond.code x code maxLocals ret :: tables_1) hat d (List.mem_cons_of_mem _ hd)
  obtain ⟨hsets, hown0⟩ := atoms_of _ (rest_1_c_eq ▸ (show rest_1_c.before _ s = true from hrest))
  have hfit : Fit s := fun {y c} hc i hi => by
    obtain ⟨ha, rfl⟩ := Array.getElem?_eq_some_iff.mp hc
    have q := List.all_eq_true.mp ((Array.all_eq_true_iff_forall_mem.mp hF) _ (Array.getElem_mem ha)) i (List.mem_range.mpr hi)
    simpa [Array.getElem?_eq_getElem hi] using q
  obtain ⟨i0, ei0⟩ := is_v ga0
  obtain rfl : w0 = (.int i0) := Option.some.inj ei0
  obtain ⟨i1, ei1⟩ := is_v ga1
  obtain rfl : w1 = (.int i1) := Option.some.inj ei1
  obtain ⟨i2, ei2⟩ := isL_v ga2
  obtain rfl : w2 = (.long i2) := Option.some.inj ei2
  obtain ⟨i3, ei3⟩ := isL_v ga3
  obtain rfl : w3 = (.long i3) := Option.some.inj ei3
  obtain ⟨i4, ei4⟩ := isL_v ga4
  obtain rfl : w4 = (.long i4) := Option.some.inj ei4
  obtain ⟨i5, ei5⟩ := is_v ga5
  obtain rfl : w5 = (.int i5) := Option.some.inj ei5
  have n5 := not_v (Cond.before_iff.mp (hsets _ (List.mem_of_getElem? (i := 2) rfl)))
  obtain ⟨zc, ezc⟩ := is_v (Cond.before_iff.mp (hsets _ (List.mem_of_getElem? (i := 1) rfl)))
  have Szc : Sta s s.heap "java/lang/String" "COMPACT_STRINGS" "Z" (.int zc) := Sta.start ezc (Or.inl (hsets _ (List.mem_of_getElem? (i := 0) rfl)))
  have hzc : ¬ (zc = (0 : Int32)) := gotF (Cond.eq_ints ezc (Term.int_eval (0))) n5
  obtain ⟨cd, ecd, CX⟩ := exa_start (Cond.before_iff.mp (hsets _ (List.mem_of_getElem? (i := 11) rfl)))
  have CI : Sta s s.heap "java/lang/CharacterDataLatin1" "instance" "Ljava/lang/CharacterDataLatin1;" (.ref cd) := Sta.start ecd (Or.inl (hsets _ (List.mem_of_getElem? (i := 10) rfl)))
  obtain ⟨ca, eca⟩ := ref_of_arr (Cond.before_iff.mp (hsets _ (List.mem_of_getElem? (i := 14) rfl)))
  have CA : Sta s s.heap "java/lang/CharacterDataLatin1" "A" "[I" (.ref ca) := Sta.start eca (Or.inl (hsets _ (List.mem_of_getElem? (i := 13) rfl)))
  have CV : Av s s.heap ca .int (own_props.map Value.int) := av_start hfit eca (Cond.before_iff.mp (hsets _ (List.mem_of_getElem? (i := 14) rfl))) (eq_start (Cond.before_iff.mp (hsets _ (List.mem_of_getElem? (i := 16) rfl)))) (by rw [List.length_map, own_plen]; rfl) (by rw [List.length_map, own_plen]; decide) ⟨eq_start (Cond.before_iff.mp (hsets _ (List.mem_of_getElem? (i := 17) rfl))), eq_start (Cond.before_iff.mp (hsets _ (List.mem_of_getElem? (i := 18) rfl))), eq_start (Cond.before_iff.mp (hsets _ (List.mem_of_getElem? (i := 19) rfl))), eq_start (Cond.before_iff.mp (hsets _ (List.mem_of_getElem? (i := 20) rfl))), eq_start (Cond.before_iff.mp (hsets _ (List.mem_of_getElem? (i := 21) rfl))), eq_start (Cond.before_iff.mp (hsets _ (List.mem_of_getElem? (i := 22) rfl))), eq_start (Cond.before_iff.mp (hsets _ (List.mem_of_getElem? (i := 23) rfl))), eq_start (Cond.before_iff.mp (hsets _ (List.mem_of_getElem? (i := 24) rfl))), eq_start (Cond.before_iff.mp (hsets _ (List.mem_of_getElem? (i := 25) rfl))), eq_start (Cond.before_iff.mp (hsets _ (List.mem_of_getElem? (i := 26) rfl))), eq_start (Cond.before_iff.mp (hsets _ (List.mem_of_getElem? (i := 27) rfl))), eq_start (Cond.before_iff.mp (hsets _ (List.mem_of_getElem? (i := 28) rfl))), eq_start (Cond.before_iff.mp (hsets _ (List.mem_of_getElem? (i := 29) rfl))), eq_start (Cond.before_iff.mp (hsets _ (List.mem_of_getElem? (i := 30) rfl))), eq_start (Cond.before_iff.mp (hsets _ (List.mem_of_getElem? (i := 31) rfl))), eq_start (Cond.before_iff.mp (hsets _ (List.mem_of_getElem? (i := 32) rfl))), eq_start (Cond.before_iff.mp (hsets _ (List.mem_of_getElem? (i := 33) rfl))), eq_start (Cond.before_iff.mp (hsets _ (List.mem_of_getElem? (i := 34) rfl))), eq_start (Cond.before_iff.mp (hsets _ (List.mem_of_getElem? (i := 35) rfl))), eq_start (Cond.before_iff.mp (hsets _ (List.mem_of_getElem? (i := 36) rfl))), eq_start (Cond.before_iff.mp (hsets _ (List.mem_of_getElem? (i := 37) rfl))), eq_start (Cond.before_iff.mp (hsets _ (List.mem_of_getElem? (i := 38) rfl))), eq_start (Cond.before_iff.mp (hsets _ (List.mem_of_getElem? (i := 39) rfl))), eq_start (Cond.before_iff.mp (hsets _ (List.mem_of_getElem? (i := 40) rfl))), eq_start (Cond.before_iff.mp (hsets _ (List.mem_of_getElem? (i := 41) rfl))), eq_start (Cond.before_iff.mp (hsets _ (List.mem_of_getElem? (i := 42) rfl))), eq_start (Cond.before_iff.mp (hsets _ (List.mem_of_getElem? (i := 43) rfl))), eq_start (Cond.before_iff.mp (hsets _ (List.mem_of_getElem? (i := 44) rfl))), eq_start (Cond.before_iff.mp (hsets _ (List.mem_of_getElem? (i := 45) rfl))), eq_start (Cond.before_iff.mp (hsets _ (List.mem_of_getElem? (i := 46) rfl))), eq_start (Cond.before_iff.mp (hsets _ (List.mem_of_getElem? (i := 47) rfl))), eq_start (Cond.before_iff.mp (hsets _ (List.mem_of_getElem? (i := 48) rfl))), eq_start (Cond.before_iff.mp (hsets _ (List.mem_of_getElem? (i := 49) rfl))), eq_start (Cond.before_iff.mp (hsets _ (List.mem_of_getElem? (i := 50) rfl))), eq_start (Cond.before_iff.mp (hsets _ (List.mem_of_getElem? (i := 51) rfl))), eq_start (Cond.before_iff.mp (hsets _ (List.mem_of_getElem? (i := 52) rfl))), eq_start (Cond.before_iff.mp (hsets _ (List.mem_of_getElem? (i := 53) rfl))), eq_start (Cond.before_iff.mp (hsets _ (List.mem_of_getElem? (i := 54) rfl))), eq_start (Cond.before_iff.mp (hsets _ (List.mem_of_getElem? (i := 55) rfl))), eq_start (Cond.before_iff.mp (hsets _ (List.mem_of_getElem? (i := 56) rfl))), eq_start (Cond.before_iff.mp (hsets _ (List.mem_of_getElem? (i := 57) rfl))), eq_start (Cond.before_iff.mp (hsets _ (List.mem_of_getElem? (i := 58) rfl))), eq_start (Cond.before_iff.mp (hsets _ (List.mem_of_getElem? (i := 59) rfl))), eq_start (Cond.before_iff.mp (hsets _ (List.mem_of_getElem? (i := 60) rfl))), eq_start (Cond.before_iff.mp (hsets _ (List.mem_of_getElem? (i := 61) rfl))), eq_start (Cond.before_iff.mp (hsets _ (List.mem_of_getElem? (i := 62) rfl))), eq_start (Cond.before_iff.mp (hsets _ (List.mem_of_getElem? (i := 63) rfl))), eq_start (Cond.before_iff.mp (hsets _ (List.mem_of_getElem? (i := 64) rfl))), eq_start (Cond.before_iff.mp (hsets _ (List.mem_of_getElem? (i := 65) rfl))), eq_start (Cond.before_iff.mp (hsets _ (List.mem_of_getElem? (i := 66) rfl))), eq_start (Cond.before_iff.mp (hsets _ (List.mem_of_getElem? (i := 67) rfl))), eq_start (Cond.before_iff.mp (hsets _ (List.mem_of_getElem? (i := 68) rfl))), eq_start (Cond.before_iff.mp (hsets _ (List.mem_of_getElem? (i := 69) rfl))), eq_start (Cond.before_iff.mp (hsets _ (List.mem_of_getElem? (i := 70) rfl))), eq_start (Cond.before_iff.mp (hsets _ (List.mem_of_getElem? (i := 71) rfl))), eq_start (Cond.before_iff.mp (hsets _ (List.mem_of_getElem? (i := 72) rfl))), eq_start (Cond.before_iff.mp (hsets _ (List.mem_of_getElem? (i := 73) rfl))), eq_start (Cond.before_iff.mp (hsets _ (List.mem_of_getElem? (i := 74) rfl))), eq_start (Cond.before_iff.mp (hsets _ (List.mem_of_getElem? (i := 75) rfl))), eq_start (Cond.before_iff.mp (hsets _ (List.mem_of_getElem? (i := 76) rfl))), eq_start (Cond.before_iff.mp (hsets _ (List.mem_of_getElem? (i := 77) rfl))), eq_start (Cond.before_iff.mp (hsets _ (List.mem_of_getElem? (i := 78) rfl))), eq_start (Cond.before_iff.mp (hsets _ (List.mem_of_getElem? (i := 79) rfl))), eq_start (Cond.before_iff.mp (hsets _ (List.mem_of_getElem? (i := 80) rfl))), eq_start (Cond.before_iff.mp (hsets _ (List.mem_of_getElem? (i := 81) rfl))), eq_start (Cond.before_iff.mp (hsets _ (List.mem_of_getElem? (i := 82) rfl))), eq_start (Cond.before_iff.mp (hsets _ (List.mem_of_getElem? (i := 83) rfl))), eq_start (Cond.before_iff.mp (hsets _ (List.mem_of_getElem? (i := 84) rfl))), eq_start (Cond.before_iff.mp (hsets _ (List.mem_of_getElem? (i := 85) rfl))), eq_start (Cond.before_iff.mp (hsets _ (List.mem_of_getElem? (i := 86) rfl))), eq_start (Cond.before_iff.mp (hsets _ (List.mem_of_getElem? (i := 87) rfl))), eq_start (Cond.before_iff.mp (hsets _ (List.mem_of_getElem? (i := 88) rfl))), eq_start (Cond.before_iff.mp (hsets _ (List.mem_of_getElem? (i := 89) rfl))), eq_start (Cond.before_iff.mp (hsets _ (List.mem_of_getElem? (i := 90) rfl))), eq_start (Cond.before_iff.mp (hsets _ (List.mem_of_getElem? (i := 91) rfl))), eq_start (Cond.before_iff.mp (hsets _ (List.mem_of_getElem? (i := 92) rfl))), eq_start (Cond.before_iff.mp (hsets _ (List.mem_of_getElem? (i := 93) rfl))), eq_start (Cond.before_iff.mp (hsets _ (List.mem_of_getElem? (i := 94) rfl))), eq_start (Cond.before_iff.mp (hsets _ (List.mem_of_getElem? (i := 95) rfl))), eq_start (Cond.before_iff.mp (hsets _ (List.mem_of_getElem? (i := 96) rfl))), eq_start (Cond.before_iff.mp (hsets _ (List.mem_of_getElem? (i := 97) rfl))), eq_start (Cond.before_iff.mp (hsets _ (List.mem_of_getElem? (i := 98) rfl))), eq_start (Cond.before_iff.mp (hsets _ (List.mem_of_getElem? (i := 99) rfl))), eq_start (Cond.before_iff.mp (hsets _ (List.mem_of_getElem? (i := 100) rfl))), eq_start (Cond.before_iff.mp (hsets _ (List.mem_of_getElem? (i := 101) rfl))), eq_start (Cond.before_iff.mp (hsets _ (List.mem_of_getElem? (i := 102) rfl))), eq_start (Cond.before_iff.mp (hsets _ (List.mem_of_getElem? (i := 103) rfl))), eq_start (Cond.before_iff.mp (hsets _ (List.mem_of_getElem? (i := 104) rfl))), eq_start (Cond.before_iff.mp (hsets _ (List.mem_of_getElem? (i := 105) rfl))), eq_start (Cond.before_iff.mp (hsets _ (List.mem_of_getElem? (i := 106) rfl))), eq_start (Cond.before_iff.mp (hsets _ (List.mem_of_getElem? (i := 107) rfl))), eq_start (Cond.before_iff.mp (hsets _ (List.mem_of_getElem? (i := 108) rfl))), eq_start (Cond.before_iff.mp (hsets _ (List.mem_of_getElem? (i := 109) rfl))), eq_start (Cond.before_iff.mp (hsets _ (List.mem_of_getElem? (i := 110) rfl))), eq_start (Cond.before_iff.mp (hsets _ (List.mem_of_getElem? (i := 111) rfl))), eq_start (Cond.before_iff.mp (hsets _ (List.mem_of_getElem? (i := 112) rfl))), eq_start (Cond.before_iff.mp (hsets _ (List.mem_of_getElem? (i := 113) rfl))), eq_start (Cond.before_iff.mp (hsets _ (List.mem_of_getElem? (i := 114) rfl))), eq_start (Cond.before_iff.mp (hsets _ (List.mem_of_getElem? (i := 115) rfl))), eq_start (Cond.before_iff.mp (hsets _ (List.mem_of_getElem? (i := 116) rfl))), eq_start (Cond.before_iff.mp (hsets _ (List.mem_of_getElem? (i := 117) rfl))), eq_start (Cond.before_iff.mp (hsets _ (List.mem_of_getElem? (i := 118) rfl))), eq_start (Cond.before_iff.mp (hsets _ (List.mem_of_getElem? (i := 119) rfl))), eq_start (Cond.before_iff.mp (hsets _ (List.mem_of_getElem? (i := 120) rfl))), eq_start (Cond.before_iff.mp (hsets _ (List.mem_of_getElem? (i := 121) rfl))), eq_start (Cond.before_iff.mp (hsets _ (List.mem_of_getElem? (i := 122) rfl))), eq_start (Cond.before_iff.mp (hsets _ (List.mem_of_getElem? (i := 123) rfl))), eq_start (Cond.before_iff.mp (hsets _ (List.mem_of_getElem? (i := 124) rfl))), eq_start (Cond.before_iff.mp (hsets _ (List.mem_of_getElem? (i := 125) rfl))), eq_start (Cond.before_iff.mp (hsets _ (List.mem_of_getElem? (i := 126) rfl))), eq_start (Cond.before_iff.mp (hsets _ (List.mem_of_getElem? (i := 127) rfl))), eq_start (Cond.before_iff.mp (hsets _ (List.mem_of_getElem? (i := 128) rfl))), eq_start (Cond.before_iff.mp (hsets _ (List.mem_of_getElem? (i := 129) rfl))), eq_start (Cond.before_iff.mp (hsets _ (List.mem_of_getElem? (i := 130) rfl))), eq_start (Cond.before_iff.mp (hsets _ (List.mem_of_getElem? (i := 131) rfl))), eq_start (Cond.before_iff.mp (hsets _ (List.mem_of_getElem? (i := 132) rfl))), eq_start (Cond.before_iff.mp (hsets _ (List.mem_of_getElem? (i := 133) rfl))), eq_start (Cond.before_iff.mp (hsets _ (List.mem_of_getElem? (i := 134) rfl))), eq_start (Cond.before_iff.mp (hsets _ (List.mem_of_getElem? (i := 135) rfl))), eq_start (Cond.before_iff.mp (hsets _ (List.mem_of_getElem? (i := 136) rfl))), eq_start (Cond.before_iff.mp (hsets _ (List.mem_of_getElem? (i := 137) rfl))), eq_start (Cond.before_iff.mp (hsets _ (List.mem_of_getElem? (i := 138) rfl))), eq_start (Cond.before_iff.mp (hsets _ (List.mem_of_getElem? (i := 139) rfl))), eq_start (Cond.before_iff.mp (hsets _ (List.mem_of_getElem? (i := 140) rfl))), eq_start (Cond.before_iff.mp (hsets _ (List.mem_of_getElem? (i := 141) rfl))), eq_start (Cond.before_iff.mp (hsets _ (List.mem_of_getElem? (i := 142) rfl))), eq_start (Cond.before_iff.mp (hsets _ (List.mem_of_getElem? (i := 143) rfl))), eq_start (Cond.before_iff.mp (hsets _ (List.mem_of_getElem? (i := 144) rfl))), eq_start (Cond.before_iff.mp (hsets _ (List.mem_of_getElem? (i := 145) rfl))), eq_start (Cond.before_iff.mp (hsets _ (List.mem_of_getElem? (i := 146) rfl))), eq_start (Cond.before_iff.mp (hsets _ (List.mem_of_getElem? (i := 147) rfl))), eq_start (Cond.before_iff.mp (hsets _ (List.mem_of_getElem? (i := 148) rfl))), eq_start (Cond.before_iff.mp (hsets _ (List.mem_of_getElem? (i := 149) rfl))), eq_start (Cond.before_iff.mp (hsets _ (List.mem_of_getElem? (i := 150) rfl))), eq_start (Cond.before_iff.mp (hsets _ (List.mem_of_getElem? (i := 151) rfl))), eq_start (Cond.before_iff.mp (hsets _ (List.mem_of_getElem? (i := 152) rfl))), eq_start (Cond.before_iff.mp (hsets _ (List.mem_of_getElem? (i := 153) rfl))), eq_start (Cond.before_iff.mp (hsets _ (List.mem_of_getElem? (i := 154) rfl))), eq_start (Cond.before_iff.mp (hsets _ (List.mem_of_getElem? (i := 155) rfl))), eq_start (Cond.before_iff.mp (hsets _ (List.mem_of_getElem? (i := 156) rfl))), eq_start (Cond.before_iff.mp (hsets _ (List.mem_of_getElem? (i := 157) rfl))), eq_start (Cond.before_iff.mp (hsets _ (List.mem_of_getElem? (i := 158) rfl))), eq_start (Cond.before_iff.mp (hsets _ (List.mem_of_getElem? (i := 159) rfl))), eq_start (Cond.before_iff.mp (hsets _ (List.mem_of_getElem? (i := 160) rfl))), eq_start (Cond.before_iff.mp (hsets _ (List.mem_of_getElem? (i := 161) rfl))), eq_start (Cond.before_iff.mp (hsets _ (List.mem_of_getElem? (i := 162) rfl))), eq_start (Cond.before_iff.mp (hsets _ (List.mem_of_getElem? (i := 163) rfl))), eq_start (Cond.before_iff.mp (hsets _ (List.mem_of_getElem? (i := 164) rfl))), eq_start (Cond.before_iff.mp (hsets _ (List.mem_of_getElem? (i := 165) rfl))), eq_start (Cond.before_iff.mp (hsets _ (List.mem_of_getElem? (i := 166) rfl))), eq_start (Cond.before_iff.mp (hsets _ (List.mem_of_getElem? (i := 167) rfl))), eq_start (Cond.before_iff.mp (hsets _ (List.mem_of_getElem? (i := 168) rfl))), eq_start (Cond.before_iff.mp (hsets _ (List.mem_of_getElem? (i := 169) rfl))), eq_start (Cond.before_iff.mp (hsets _ (List.mem_of_getElem? (i := 170) rfl))), eq_start (Cond.before_iff.mp (hsets _ (List.mem_of_getElem? (i := 171) rfl))), eq_start (Cond.before_iff.mp (hsets _ (List.mem_of_getElem? (i := 172) rfl))), eq_start (Cond.before_iff.mp (hsets _ (List.mem_of_getElem? (i := 173) rfl))), eq_start (Cond.before_iff.mp (hsets _ (List.mem_of_getElem? (i := 174) rfl))), eq_start (Cond.before_iff.mp (hsets _ (List.mem_of_getElem? (i := 175) rfl))), eq_start (Cond.before_iff.mp (hsets _ (List.mem_of_getElem? (i := 176) rfl))), eq_start (Cond.before_iff.mp (hsets _ (List.mem_of_getElem? (i := 177) rfl))), eq_start (Cond.before_iff.mp (hsets _ (List.mem_of_getElem? (i := 178) rfl))), eq_start (Cond.before_iff.mp (hsets _ (List.mem_of_getElem? (i := 179) rfl))), eq_start (Cond.before_iff.mp (hsets _ (List.mem_of_getElem? (i := 180) rfl))), eq_start (Cond.before_iff.mp (hsets _ (List.mem_of_getElem? (i := 181) rfl))), eq_start (Cond.before_iff.mp (hsets _ (List.mem_of_getElem? (i := 182) rfl))), eq_start (Cond.before_iff.mp (hsets _ (List.mem_of_getElem? (i := 183) rfl))), eq_start (Cond.before_iff.mp (hsets _ (List.mem_of_getElem? (i := 184) rfl))), eq_start (Cond.before_iff.mp (hsets _ (List.mem_of_getElem? (i := 185) rfl))), eq_start (Cond.before_iff.mp (hsets _ (List.mem_of_getElem? (i := 186) rfl))), eq_start (Cond.before_iff.mp (hsets _ (List.mem_of_getElem? (i := 187) rfl))), eq_start (Cond.before_iff.mp (hsets _ (List.mem_of_getElem? (i := 188) rfl))), eq_start (Cond.before_iff.mp (hsets _ (List.mem_of_getElem? (i := 189) rfl))), eq_start (Cond.before_iff.mp (hsets _ (List.mem_of_getElem? (i := 190) rfl))), eq_start (Cond.before_iff.mp (hsets _ (List.mem_of_getElem? (i := 191) rfl))), eq_start (Cond.before_iff.mp (hsets _ (List.mem_of_getElem? (i := 192) rfl))), eq_start (Cond.before_iff.mp (hsets _ (List.mem_of_getElem? (i := 193) rfl))), eq_start (Cond.before_iff.mp (hsets _ (List.mem_of_getElem? (i := 194) rfl))), eq_start (Cond.before_iff.mp (hsets _ (List.mem_of_getElem? (i := 195) rfl))), eq_start (Cond.before_iff.mp (hsets _ (List.mem_of_getElem? (i := 196) rfl))), eq_start (Cond.before_iff.mp (hsets _ (List.mem_of_getElem? (i := 197) rfl))), eq_start (Cond.before_iff.mp (hsets _ (List.mem_of_getElem? (i := 198) rfl))), eq_start (Cond.before_iff.mp (hsets _ (List.mem_of_getElem? (i := 199) rfl))), eq_start (Cond.before_iff.mp (hsets _ (List.mem_of_getElem? (i := 200) rfl))), eq_start (Cond.before_iff.mp (hsets _ (List.mem_of_getElem? (i := 201) rfl))), eq_start (Cond.before_iff.mp (hsets _ (List.mem_of_getElem? (i := 202) rfl))), eq_start (Cond.before_iff.mp (hsets _ (List.mem_of_getElem? (i := 203) rfl))), eq_start (Cond.before_iff.mp (hsets _ (List.mem_of_getElem? (i := 204) rfl))), eq_start (Cond.before_iff.mp (hsets _ (List.mem_of_getElem? (i := 205) rfl))), eq_start (Cond.before_iff.mp (hsets _ (List.mem_of_getElem? (i := 206) rfl))), eq_start (Cond.before_iff.mp (hsets _ (List.mem_of_getElem? (i := 207) rfl))), eq_start (Cond.before_iff.mp (hsets _ (List.mem_of_getElem? (i := 208) rfl))), eq_start (Cond.before_iff.mp (hsets _ (List.mem_of_getElem? (i := 209) rfl))), eq_start (Cond.before_iff.mp (hsets _ (List.mem_of_getElem? (i := 210) rfl))), eq_start (Cond.before_iff.mp (hsets _ (List.mem_of_getElem? (i := 211) rfl))), eq_start (Cond.before_iff.mp (hsets _ (List.mem_of_getElem? (i := 212) rfl))), eq_start (Cond.before_iff.mp (hsets _ (List.mem_of_getElem? (i := 213) rfl))), eq_start (Cond.before_iff.mp (hsets _ (List.mem_of_getElem? (i := 214) rfl))), eq_start (Cond.before_iff.mp (hsets _ (List.mem_of_getElem? (i := 215) rfl))), eq_start (Cond.before_iff.mp (hsets _ (List.mem_of_getElem? (i := 216) rfl))), eq_start (Cond.before_iff.mp (hsets _ (List.mem_of_getElem? (i := 217) rfl))), eq_start (Cond.before_iff.mp (hsets _ (List.mem_of_getElem? (i := 218) rfl))), eq_start (Cond.before_iff.mp (hsets _ (List.mem_of_getElem? (i := 219) rfl))), eq_start (Cond.before_iff.mp (hsets _ (List.mem_of_getElem? (i := 220) rfl))), eq_start (Cond.before_iff.mp (hsets _ (List.mem_of_getElem? (i := 221) rfl))), eq_start (Cond.before_iff.mp (hsets _ (List.mem_of_getElem? (i := 222) rfl))), eq_start (Cond.before_iff.mp (hsets _ (List.mem_of_getElem? (i := 223) rfl))), eq_start (Cond.before_iff.mp (hsets _ (List.mem_of_getElem? (i := 224) rfl))), eq_start (Cond.before_iff.mp (hsets _ (List.mem_of_getElem? (i := 225) rfl))), eq_start (Cond.before_iff.mp (hsets _ (List.mem_of_getElem? (i := 226) rfl))), eq_start (Cond.before_iff.mp (hsets _ (List.mem_of_getElem? (i := 227) rfl))), eq_start (Cond.before_iff.mp (hsets _ (List.mem_of_getElem? (i := 228) rfl))), eq_start (Cond.before_iff.mp (hsets _ (List.mem_of_getElem? (i := 229) rfl))), eq_start (Cond.before_iff.mp (hsets _ (List.mem_of_getElem? (i := 230) rfl))), eq_start (Cond.before_iff.mp (hsets _ (List.mem_of_getElem? (i := 231) rfl))), eq_start (Cond.before_iff.mp (hsets _ (List.mem_of_getElem? (i := 232) rfl))), eq_start (Cond.before_iff.mp (hsets _ (List.mem_of_getElem? (i := 233) rfl))), eq_start (Cond.before_iff.mp (hsets _ (List.mem_of_getElem? (i := 234) rfl))), eq_start (Cond.before_iff.mp (hsets _ (List.mem_of_getElem? (i := 235) rfl))), eq_start (Cond.before_iff.mp (hsets _ (List.mem_of_getElem? (i := 236) rfl))), eq_start (Cond.before_iff.mp (hsets _ (List.mem_of_getElem? (i := 237) rfl))), eq_start (Cond.before_iff.mp (hsets _ (List.mem_of_getElem? (i := 238) rfl))), eq_start (Cond.before_iff.mp (hsets _ (List.mem_of_getElem? (i := 239) rfl))), eq_start (Cond.before_iff.mp (hsets _ (List.mem_of_getElem? (i := 240) rfl))), eq_start (Cond.before_iff.mp (hsets _ (List.mem_of_getElem? (i := 241) rfl))), eq_start (Cond.before_iff.mp (hsets _ (List.mem_of_getElem? (i := 242) rfl))), eq_start (Cond.before_iff.mp (hsets _ (List.mem_of_getElem? (i := 243) rfl))), eq_start (Cond.before_iff.mp (hsets _ (List.mem_of_getElem? (i := 244) rfl))), eq_start (Cond.before_iff.mp (hsets _ (List.mem_of_getElem? (i := 245) rfl))), eq_start (Cond.before_iff.mp (hsets _ (List.mem_of_getElem? (i := 246) rfl))), eq_start (Cond.before_iff.mp (hsets _ (List.mem_of_getElem? (i := 247) rfl))), eq_start (Cond.before_iff.mp (hsets _ (List.mem_of_getElem? (i := 248) rfl))), eq_start (Cond.before_iff.mp (hsets _ (List.mem_of_getElem? (i := 249) rfl))), eq_start (Cond.before_iff.mp (hsets _ (List.mem_of_getElem? (i := 250) rfl))), eq_start (Cond.before_iff.mp (hsets _ (List.mem_of_getElem? (i := 251) rfl))), eq_start (Cond.before_iff.mp (hsets _ (List.mem_of_getElem? (i := 252) rfl))), eq_start (Cond.before_iff.mp (hsets _ (List.mem_of_getElem? (i := 253) rfl))), eq_start (Cond.before_iff.mp (hsets _ (List.mem_of_getElem? (i := 254) rfl))), eq_start (Cond.before_iff.mp (hsets _ (List.mem_of_getElem? (i := 255) rfl))), eq_start (Cond.before_iff.mp (hsets _ (List.mem_of_getElem? (i := 256) rfl))), eq_start (Cond.before_iff.mp (hsets _ (List.mem_of_getElem? (i := 257) rfl))), eq_start (Cond.before_iff.mp (hsets _ (List.mem_of_getElem? (i := 258) rfl))), eq_start (Cond.before_iff.mp (hsets _ (List.mem_of_getElem? (i := 259) rfl))), eq_start (Cond.before_iff.mp (hsets _ (List.mem_of_getElem? (i := 260) rfl))), eq_start (Cond.before_iff.mp (hsets _ (List.mem_of_getElem? (i := 261) rfl))), eq_start (Cond.before_iff.mp (hsets _ (List.mem_of_getElem? (i := 262) rfl))), eq_start (Cond.before_iff.mp (hsets _ (List.mem_of_getElem? (i := 263) rfl))), eq_start (Cond.before_iff.mp (hsets _ (List.mem_of_getElem? (i := 264) rfl))), eq_start (Cond.before_iff.mp (hsets _ (List.mem_of_getElem? (i := 265) rfl))), eq_start (Cond.before_iff.mp (hsets _ (List.mem_of_getElem? (i := 266) rfl))), eq_start (Cond.before_iff.mp (hsets _ (List.mem_of_getElem? (i := 267) rfl))), eq_start (Cond.before_iff.mp (hsets _ (List.mem_of_getElem? (i := 268) rfl))), eq_start (Cond.before_iff.mp (hsets _ (List.mem_of_getElem? (i := 269) rfl))), eq_start (Cond.before_iff.mp (hsets _ (List.mem_of_getElem? (i := 270) rfl))), eq_start (Cond.before_iff.mp (hsets _ (List.mem_of_getElem? (i := 271) rfl))), eq_start (Cond.before_iff.mp (hsets _ (List.mem_of_getElem? (i := 272) rfl))), trivial⟩
  obtain ⟨lc, elc⟩ := ref_of_arr (Cond.before_iff.mp (hsets _ (List.mem_of_getElem? (i := 275) rfl)))
  have LS : Sta s s.heap "java/lang/Long$LongCache" "cache" "[Ljava/lang/Long;" (.ref lc) := Sta.start elc (Or.inl (hsets _ (List.mem_of_getElem? (i := 274) rfl)))
  obtain ⟨lvs, LV, hl0, LX⟩ := cache_start hfit elc (Cond.before_iff.mp (hsets _ (List.mem_of_getElem? (i := 275) rfl))) (eq_start (Cond.before_iff.mp (hsets _ (List.mem_of_getElem? (i := 277) rfl)))) (Cond.before_iff.mp (hsets _ (List.mem_of_getElem? (i := 278) rfl)))
  have hlv : lvs.length = 256 := of_inj LV.len (by decide) hl0
  obtain ⟨cB, hnn⟩ := and_e hnarrow
  obtain ⟨cJ, -⟩ := and_e hnn
  obtain ⟨uB, euB, -⟩ := exa_start cB
  obtain ⟨uJ, euJ, -⟩ := exa_start cJ
  have UuB : Sta s s.heap "com/example/lean_envelope/leanenvelope/check/ExceededLimit$Unit" "BYTES" "Lcom/example/lean_envelope/leanenvelope/check/ExceededLimit$Unit;" (.ref uB) := Sta.start euB (Or.inr ⟨(w45 hw), (w46 hw)⟩)
  have UuJ : Sta s s.heap "com/example/lean_envelope/leanenvelope/check/ExceededLimit$Unit" "JOBS" "Lcom/example/lean_envelope/leanenvelope/check/ExceededLimit$Unit;" (.ref uJ) := Sta.start euJ (Or.inr ⟨(w45 hw), (w157 hw)⟩)
  obtain ⟨n, o, k1, k2, k3, v, L, so, rfl, hQ, N, -, -, hnw, hq⟩ := rm0 l s _ hw s.heap.size s.heap i0 i1 i2 i3 i4 i5 cd ca uB uJ lc lvs zc Szc hzc CI CX CA CV LS LV LX hlv UuB UuJ tables_1 p e ha hc hk s m _ below hf ((Spec.applies_iff_loose hf).mp happ).1 ⟨rfl, State.Warmed39.refl s, rfl, (fun p hp => nomatch hp), Nat.le_refl _, own_EW hw, fun x hx => nomatch hx⟩ trivial
  subst hQ
  refine ⟨n, _, k1, k2, k3, hpost _ _ _ _ _ _ ⟨Cond.after_iff.mpr rfl, Cond.after_iff.mpr (eq_i res_at (Term.int_eval (1)) rfl), trivial⟩ ⟨hq.1, hq.2.1, hq.2.2.1, (hq.2.2.2.sift fun y hy => Or.inr (N y hy)).mono (by decide) (by decide)⟩⟩
theorem main_1_1 : Claimed_1_1 := comes_1 fun _ _ _ _ _ _ h hF => ⟨h.1, hF⟩
theorem main_1_2 : Claimed_1_2 := comes_1 fun _ _ _ _ _ _ h hF => ⟨h.2.1, hF⟩
end Jvm.Pilot.@@N@@
namespace Jvm.Pilot.@@N@@
open Jvm Jvm.ClassFile Sem Op Lib Jvm.Free Jvm.Stand Jvm.Pilot.@@N@@.Jvm.D
/-! MADE BY PROGRAM (witnessworld.py) out of the Statement's table words and the real class files: 29 classes; the members and pool entries that the words name. The judged class is class 1, her method 5. -/
namespace start1
open Jvm.ClassFile
def u (s : String) : CpInfo := .utf8 (stringToUtf16 s)
/-- a pool by its gaps: so many unusable entries, then the entry; so many at the end -/
def gap : Nat → List CpInfo → List CpInfo
  | 0, r => r
  | n + 1, r => .unusable :: gap n r
def poolList (es : List (Nat × CpInfo)) (last : Nat) : List CpInfo := es.foldr (fun e r => gap e.1 (e.2 :: r)) (gap last [])
def pool (es : List (Nat × CpInfo)) (last : Nat) : Array CpInfo := ⟨poolList es last⟩
def fileOf (pool : Array CpInfo) (this : Nat) (attrs : Array Attribute := #[]) (ms : Array MethodInfo := #[]) (fl : Nat := 33) (sup : Nat := 0) (ifs : Array Nat := #[]) (fds : Array FieldInfo := #[]) : ClassFile where
  minorVersion := 0
  majorVersion := 65
  constantPool := pool
  accessFlags := fl
  thisClass := this
  superClass := sup
  interfaces := ifs
  fields := fds
  methods := ms
  attributes := attrs
def plain (name : String) (sup : Option ClassId) : Class where
  name := name
  kind := .ordinary
  loader := none
  accessFlags := 33
  super := sup
  interfaces := #[]
  cf := none
  fields := #[]
  methods := #[]
  instanceTypes := #[]
  staticTypes := #[]
  resolved := #[]
  callSites := []
  init := .initialized
  statics := none
  mirror := none

def pool0 : Array CpInfo := pool [(5, u "<init>"), (0, u "()V"), (1, .class_ 10), (1, u "java/lang/Object")] 113

def k0c0 : Code := { maxStack := 0, maxLocals := 1, code := object_method_1_code, exceptionTable := #[], attributes := #[] }
def k0m0 : Method := { name := "<init>", desc := "()V", sig := { parameters := [], returnType := none }, accessFlags := 1, code := some k0c0 }
/-- java/lang/Object -/
def k0 : Class := { plain "java/lang/Object" none with
  accessFlags := 33
  interfaces := #[]
  cf := some (fileOf pool0 8 #[] #[{ accessFlags := 1, nameIndex := 5, descriptorIndex := 6, attributes := #[] }] 33 0 #[] #[])
  fields := #[]
  methods := #[k0m0]
  instanceTypes := #[]
  staticTypes := #[]
  resolved := Array.replicate 124 none
  statics := none }

def pool1 : Array CpInfo := pool [(2, .class_ 4), (1, u "java/lang/Object"), (0, u "<init>"), (0, u "()V"), (0, .class_ 8), (0, u "java/lang/String"), (0, .methodref 7 10), (0, .nameAndType 5 11), (0, u "([C)V"), (0, .class_ 13), (0, u "java/lang/Long"), (0, .long 9223372036854775807), (1, .methodref 17 18), (0, .class_ 19), (0, .nameAndType 20 21), (0, u "com/example/lean_envelope/leanenvelope/check/ExceededLimitEqualsPinLaw"), (0, u "nonWs"), (0, u "(I)I"), (0, .methodref 17 23), (0, .nameAndType 24 25), (0, u "mk"), (0, u "(III)Ljava/lang/String;"), (0, .methodref 17 27), (0, .nameAndType 28 29), (0, u "mx"), (0, u "(J)J"), (0, .methodref 17 31), (0, .nameAndType 32 33), (0, u "ac"), (0, u "(JJ)J"), (0, .fieldref 35 36), (0, .class_ 37), (0, .nameAndType 38 39), (0, u "com/example/lean_envelope/leanenvelope/check/ExceededLimit$Unit"), (0, u "JOBS"), (0, u "Lcom/example/lean_envelope/leanenvelope/check/ExceededLimit$Unit;"), (0, .fieldref 35 41), (0, .nameAndType 42 39), (0, u "BYTES"), (0, .class_ 44), (0, u "com/example/lean_envelope/leanenvelope/check/ExceededLimit"), (0, .methodref 43 46), (0, .nameAndType 5 47), (0, u "(Ljava/lang/String;JJLcom/example/lean_envelope/leanenvelope/check/ExceededLimit$Unit;)V"), (0, .methodref 43 49), (0, .nameAndType 50 51), (0, u "equals"), (0, u "(Ljava/lang/Object;)Z"), (0, .methodref 12 53), (0, .nameAndType 54 55), (0, u "valueOf"), (0, u "(J)Ljava/lang/Long;"), (3, u "law"), (0, u "(IIJJJI)Z")] 4

def k1m0 : Method := { name := "<init>", desc := "()V", sig := { parameters := [], returnType := none }, accessFlags := 1, code := none }
def k1c1 : Code := { maxStack := 2, maxLocals := 2, code := method_2_code, exceptionTable := #[], attributes := #[] }
def k1m1 : Method := { name := "nonWs", desc := "(I)I", sig := { parameters := [.int], returnType := some .int }, accessFlags := 10, code := some k1c1 }
def k1c2 : Code := { maxStack := 3, maxLocals := 4, code := method_3_code, exceptionTable := #[], attributes := #[] }
def k1m2 : Method := { name := "mk", desc := "(III)Ljava/lang/String;", sig := { parameters := [.int, .int, .int], returnType := some (.object "java/lang/String") }, accessFlags := 10, code := some k1c2 }
def k1c3 : Code := { maxStack := 4, maxLocals := 4, code := method_4_code, exceptionTable := #[], attributes := #[] }
def k1m3 : Method := { name := "mx", desc := "(J)J", sig := { parameters := [.long], returnType := some .long }, accessFlags := 10, code := some k1c3 }
def k1c4 : Code := { maxStack := 6, maxLocals := 6, code := method_5_code, exceptionTable := #[], attributes := #[] }
def k1m4 : Method := { name := "ac", desc := "(JJ)J", sig := { parameters := [.long, .long], returnType := some .long }, accessFlags := 10, code := some k1c4 }
def k1c5 : Code := { maxStack := 8, maxLocals := 32, code := code, exceptionTable := #[], attributes := #[] }
def k1m5 : Method := { name := "law", desc := "(IIJJJI)Z", sig := { parameters := [.int, .int, .long, .long, .long, .int], returnType := some .boolean }, accessFlags := 9, code := some k1c5 }
/-- com/example/lean_envelope/leanenvelope/check/ExceededLimitEqualsPinLaw -/
def k1 : Class := { plain "com/example/lean_envelope/leanenvelope/check/ExceededLimitEqualsPinLaw" (some 0) with
  accessFlags := 49
  interfaces := #[]
  cf := some (fileOf pool1 17 #[] #[{ accessFlags := 1, nameIndex := 5, descriptorIndex := 6, attributes := #[] }, { accessFlags := 10, nameIndex := 20, descriptorIndex := 21, attributes := #[] }, { accessFlags := 10, nameIndex := 24, descriptorIndex := 25, attributes := #[] }, { accessFlags := 10, nameIndex := 28, descriptorIndex := 29, attributes := #[] }, { accessFlags := 10, nameIndex := 32, descriptorIndex := 33, attributes := #[] }, { accessFlags := 9, nameIndex := 59, descriptorIndex := 60, attributes := #[] }] 49 2 #[] #[])
  fields := #[]
  methods := #[k1m0, k1m1, k1m2, k1m3, k1m4, k1m5]
  instanceTypes := #[]
  staticTypes := #[]
  resolved := Array.replicate 65 none
  statics := none }

def pool2 : Array CpInfo := pool [(1, .class_ 2), (0, u "java/io/Serializable"), (0, .class_ 4), (0, u "java/lang/Object")] 2

/-- java/io/Serializable -/
def k2 : Class := { plain "java/io/Serializable" (some 0) with
  accessFlags := 1537
  interfaces := #[]
  cf := some (fileOf pool2 1 #[] #[] 1537 3 #[] #[])
  fields := #[]
  methods := #[]
  instanceTypes := #[]
  staticTypes := #[]
  resolved := Array.replicate 7 none
  statics := none }

def pool3 : Array CpInfo := pool [(1, .class_ 2), (0, u "java/lang/Comparable"), (0, .class_ 4), (0, u "java/lang/Object")] 7

/-- java/lang/Comparable -/
def k3 : Class := { plain "java/lang/Comparable" (some 0) with
  accessFlags := 1537
  interfaces := #[]
  cf := some (fileOf pool3 1 #[] #[] 1537 3 #[] #[])
  fields := #[]
  methods := #[]
  instanceTypes := #[]
  staticTypes := #[]
  resolved := Array.replicate 12 none
  statics := none }

def pool4 : Array CpInfo := pool [(2, .class_ 4), (1, u "java/lang/CharSequence"), (42, .class_ 48), (0, u "java/lang/CharSequence$1CodePointIterator"), (10, .class_ 60), (0, u "java/lang/CharSequence$1CharIterator"), (5, .class_ 67), (0, u "java/lang/Object")] 63

/-- java/lang/CharSequence -/
def k4 : Class := { plain "java/lang/CharSequence" (some 0) with
  accessFlags := 1537
  interfaces := #[]
  cf := some (fileOf pool4 2 #[.nestMembers #[47, 59]] #[] 1537 66 #[] #[])
  fields := #[]
  methods := #[]
  instanceTypes := #[]
  staticTypes := #[]
  resolved := Array.replicate 131 none
  statics := none }

def pool5 : Array CpInfo := pool [(1, .class_ 2), (0, u "java/lang/constant/Constable"), (0, .class_ 4), (0, u "java/lang/Object")] 6

/-- java/lang/constant/Constable -/
def k5 : Class := { plain "java/lang/constant/Constable" (some 0) with
  accessFlags := 1537
  interfaces := #[]
  cf := some (fileOf pool5 1 #[] #[] 1537 3 #[] #[])
  fields := #[]
  methods := #[]
  instanceTypes := #[]
  staticTypes := #[]
  resolved := Array.replicate 11 none
  statics := none }

def pool6 : Array CpInfo := pool [(1, .class_ 2), (0, u "java/lang/constant/ConstantDesc"), (0, .class_ 4), (0, u "java/lang/Object")] 32

/-- java/lang/constant/ConstantDesc -/
def k6 : Class := { plain "java/lang/constant/ConstantDesc" (some 0) with
  accessFlags := 1537
  interfaces := #[]
  cf := some (fileOf pool6 1 #[] #[] 1537 3 #[] #[])
  fields := #[]
  methods := #[]
  instanceTypes := #[]
  staticTypes := #[]
  resolved := Array.replicate 37 none
  statics := none }

def pool7 : Array CpInfo := pool [(1, .methodref 2 3), (0, .class_ 4), (0, .nameAndType 5 6), (0, u "java/lang/Object"), (0, u "<init>"), (0, u "()V"), (2, .fieldref 10 11), (0, .class_ 12), (0, .nameAndType 13 14), (0, u "java/lang/String"), (0, u "value"), (0, u "[B"), (0, .fieldref 10 16), (0, .nameAndType 17 18), (0, u "coder"), (0, u "B"), (2, u "hash"), (0, u "I"), (2, u "hashIsZero"), (0, u "Z"), (0, .methodref 10 28), (0, .nameAndType 5 29), (0, u "([CIILjava/lang/Void;)V"), (8, .fieldref 10 39), (0, .nameAndType 40 26), (0, u "COMPACT_STRINGS"), (1, .class_ 44), (1, u "java/lang/StringUTF16"), (0, u "compress"), (1, .methodref 42 48), (0, .nameAndType 49 50), (0, u "coderFromArrayLen"), (0, u "([BI)B"), (56, .class_ 109), (1, u "java/lang/StringLatin1"), (32, u "()Z"), (34, .methodref 42 178), (0, .nameAndType 45 179), (0, u "([CII)[B"), (154, u "()I"), (0, .methodref 10 336), (0, .nameAndType 17 337), (0, u "()B"), (154, .methodref 10 493), (0, .nameAndType 494 142), (0, u "isLatin1"), (10, .methodref 10 506), (0, .nameAndType 507 334), (0, u "length"), (33, .methodref 107 542), (0, .nameAndType 543 544), (0, u "equals"), (0, u "([B[B)Z"), (28, u "(Ljava/lang/Object;)Z"), (1, .class_ 576), (0, u "java/lang/CharSequence"), (22, u "CASE_INSENSITIVE_ORDER"), (0, u "Ljava/util/Comparator;"), (30, u "([B)I"), (244, .methodref 10 877), (0, .nameAndType 878 334), (0, u "indexOfNonWhitespace"), (45, .methodref 107 925), (0, .nameAndType 878 631), (26, u "isBlank"), (57, u "([C)V"), (90, u "serialPersistentFields"), (0, u "[Ljava/io/ObjectStreamField;"), (0, .class_ 1104), (0, u "java/lang/String$CaseInsensitiveComparator"), (1, .class_ 1107), (0, u "java/io/Serializable"), (0, .class_ 1109), (0, u "java/lang/Comparable"), (0, .class_ 1111), (0, u "java/lang/constant/Constable"), (0, .class_ 1113), (0, u "java/lang/constant/ConstantDesc"), (2, u "serialVersionUID"), (0, u "J"), (3, u "REPL"), (0, u "C"), (2, u "LATIN1"), (1, u "UTF16")] 323

def k7m0 : Method := { name := "<init>", desc := "()V", sig := { parameters := [], returnType := none }, accessFlags := 1, code := none }
def k7c1 : Code := { maxStack := 5, maxLocals := 2, code := jdk_42_method_3_code, exceptionTable := #[], attributes := #[] }
def k7m1 : Method := { name := "<init>", desc := "([C)V", sig := { parameters := [(.array .char)], returnType := none }, accessFlags := 1, code := some k7c1 }
def k7c2 : Code := { maxStack := 2, maxLocals := 1, code := jdk_42_method_54_code, exceptionTable := #[], attributes := #[] }
def k7m2 : Method := { name := "length", desc := "()I", sig := { parameters := [], returnType := some .int }, accessFlags := 1, code := some k7c2 }
def k7c3 : Code := { maxStack := 2, maxLocals := 3, code := jdk_42_method_66_code, exceptionTable := #[], attributes := #[] }
def k7m3 : Method := { name := "equals", desc := "(Ljava/lang/Object;)Z", sig := { parameters := [(.object "java/lang/Object")], returnType := some .boolean }, accessFlags := 1, code := some k7c3 }
def k7c4 : Code := { maxStack := 2, maxLocals := 1, code := jdk_42_method_117_code, exceptionTable := #[], attributes := #[] }
def k7m4 : Method := { name := "isBlank", desc := "()Z", sig := { parameters := [], returnType := some .boolean }, accessFlags := 1, code := some k7c4 }
def k7c5 : Code := { maxStack := 1, maxLocals := 1, code := jdk_42_method_120_code, exceptionTable := #[], attributes := #[] }
def k7m5 : Method := { name := "indexOfNonWhitespace", desc := "()I", sig := { parameters := [], returnType := some .int }, accessFlags := 2, code := some k7c5 }
def k7c6 : Code := { maxStack := 4, maxLocals := 6, code := jdk_42_method_149_code, exceptionTable := #[], attributes := #[] }
def k7m6 : Method := { name := "<init>", desc := "([CIILjava/lang/Void;)V", sig := { parameters := [(.array .char), .int, .int, (.object "java/lang/Void")], returnType := none }, accessFlags := 2, code := some k7c6 }
def k7c7 : Code := { maxStack := 1, maxLocals := 1, code := jdk_42_method_152_code, exceptionTable := #[], attributes := #[] }
def k7m7 : Method := { name := "coder", desc := "()B", sig := { parameters := [], returnType := some .byte }, accessFlags := 0, code := some k7c7 }
def k7c8 : Code := { maxStack := 1, maxLocals := 1, code := jdk_42_method_154_code, exceptionTable := #[], attributes := #[] }
def k7m8 : Method := { name := "isLatin1", desc := "()Z", sig := { parameters := [], returnType := some .boolean }, accessFlags := 0, code := some k7c8 }
/-- java/lang/String -/
def k7 : Class := { plain "java/lang/String" (some 0) with
  accessFlags := 49
  interfaces := #[2, 3, 4, 5, 6]
  cf := some (fileOf pool7 10 #[.nestMembers #[1103]] #[{ accessFlags := 1, nameIndex := 5, descriptorIndex := 6, attributes := #[] }, { accessFlags := 1, nameIndex := 5, descriptorIndex := 1010, attributes := #[] }, { accessFlags := 1, nameIndex := 507, descriptorIndex := 334, attributes := #[] }, { accessFlags := 1, nameIndex := 543, descriptorIndex := 573, attributes := #[] }, { accessFlags := 1, nameIndex := 952, descriptorIndex := 142, attributes := #[] }, { accessFlags := 2, nameIndex := 878, descriptorIndex := 334, attributes := #[] }, { accessFlags := 2, nameIndex := 5, descriptorIndex := 29, attributes := #[] }, { accessFlags := 0, nameIndex := 17, descriptorIndex := 337, attributes := #[] }, { accessFlags := 0, nameIndex := 494, descriptorIndex := 142, attributes := #[] }] 49 2 #[1106, 1108, 575, 1110, 1112] #[{ accessFlags := 18, nameIndex := 13, descriptorIndex := 14, attributes := #[] }, { accessFlags := 18, nameIndex := 17, descriptorIndex := 18, attributes := #[] }, { accessFlags := 2, nameIndex := 21, descriptorIndex := 22, attributes := #[] }, { accessFlags := 2, nameIndex := 25, descriptorIndex := 26, attributes := #[] }, { accessFlags := 26, nameIndex := 1116, descriptorIndex := 1117, attributes := #[] }, { accessFlags := 24, nameIndex := 40, descriptorIndex := 26, attributes := #[] }, { accessFlags := 26, nameIndex := 1101, descriptorIndex := 1102, attributes := #[] }, { accessFlags := 26, nameIndex := 1121, descriptorIndex := 1122, attributes := #[] }, { accessFlags := 25, nameIndex := 599, descriptorIndex := 600, attributes := #[] }, { accessFlags := 24, nameIndex := 1125, descriptorIndex := 18, attributes := #[] }, { accessFlags := 24, nameIndex := 1127, descriptorIndex := 18, attributes := #[] }])
  fields := #[{ name := "value", type := (.array .byte), accessFlags := 18, slot := 0, constantValue := 0 }, { name := "coder", type := .byte, accessFlags := 18, slot := 1, constantValue := 0 }, { name := "hash", type := .int, accessFlags := 2, slot := 2, constantValue := 0 }, { name := "hashIsZero", type := .boolean, accessFlags := 2, slot := 3, constantValue := 0 }, { name := "serialVersionUID", type := .long, accessFlags := 26, slot := 0, constantValue := 0 }, { name := "COMPACT_STRINGS", type := .boolean, accessFlags := 24, slot := 1, constantValue := 0 }, { name := "serialPersistentFields", type := (.array (.object "java/io/ObjectStreamField")), accessFlags := 26, slot := 2, constantValue := 0 }, { name := "REPL", type := .char, accessFlags := 26, slot := 3, constantValue := 0 }, { name := "CASE_INSENSITIVE_ORDER", type := (.object "java/util/Comparator"), accessFlags := 25, slot := 4, constantValue := 0 }, { name := "LATIN1", type := .byte, accessFlags := 24, slot := 5, constantValue := 0 }, { name := "UTF16", type := .byte, accessFlags := 24, slot := 6, constantValue := 0 }]
  methods := #[k7m0, k7m1, k7m2, k7m3, k7m4, k7m5, k7m6, k7m7, k7m8]
  instanceTypes := #[(.array .byte), .byte, .int, .boolean]
  staticTypes := #[.long, .boolean, (.array (.object "java/io/ObjectStreamField")), .char, (.object "java/util/Comparator"), .byte, .byte]
  resolved := Array.replicate 1451 none
  statics := some 0 }

def pool8 : Array CpInfo := pool [(6, .class_ 8), (1, u "java/lang/Object"), (0, u "<init>"), (0, u "()V"), (1, .class_ 14), (1, u "java/lang/StringUTF16"), (31, u "$assertionsDisabled"), (0, u "Z"), (13, u "HI_BYTE_SHIFT"), (0, u "I"), (2, u "LO_BYTE_SHIFT"), (49, .methodref 12 116), (0, .nameAndType 117 118), (0, u "compress"), (0, u "([CI[BII)I"), (3, u "([CII)[B"), (138, u "coderFromArrayLen"), (0, u "([BI)B"), (106, .class_ 371), (1, u "java/lang/StringUTF16$LinesSpliterator"), (58, u "MAX_LENGTH"), (196, .class_ 628), (0, u "java/lang/StringUTF16$CodePointsSpliterator"), (0, .class_ 630), (0, u "java/lang/StringUTF16$CharsSpliterator")] 4

def k8m0 : Method := { name := "<init>", desc := "()V", sig := { parameters := [], returnType := none }, accessFlags := 0, code := none }
def k8c1 : Code := { maxStack := 2, maxLocals := 2, code := jdk_52_method_15_code, exceptionTable := #[], attributes := #[] }
def k8m1 : Method := { name := "coderFromArrayLen", desc := "([BI)B", sig := { parameters := [(.array .byte), .int], returnType := some .byte }, accessFlags := 8, code := some k8c1 }
def k8c2 : Code := { maxStack := 5, maxLocals := 6, code := jdk_52_method_16_code, exceptionTable := #[], attributes := #[] }
def k8m2 : Method := { name := "compress", desc := "([CII)[B", sig := { parameters := [(.array .char), .int, .int], returnType := some (.array .byte) }, accessFlags := 9, code := some k8c2 }
def k8c3 : Code := { maxStack := 3, maxLocals := 7, code := jdk_52_method_21_code, exceptionTable := #[], attributes := #[] }
def k8m3 : Method := { name := "compress", desc := "([CI[BII)I", sig := { parameters := [(.array .char), .int, (.array .byte), .int, .int], returnType := some .int }, accessFlags := 9, code := some k8c3 }
/-- java/lang/StringUTF16 -/
def k8 : Class := { plain "java/lang/StringUTF16" (some 0) with
  accessFlags := 48
  interfaces := #[]
  cf := some (fileOf pool8 12 #[.nestMembers #[627, 629, 369]] #[{ accessFlags := 0, nameIndex := 9, descriptorIndex := 10, attributes := #[] }, { accessFlags := 8, nameIndex := 261, descriptorIndex := 262, attributes := #[] }, { accessFlags := 9, nameIndex := 117, descriptorIndex := 122, attributes := #[] }, { accessFlags := 9, nameIndex := 117, descriptorIndex := 118, attributes := #[] }] 48 6 #[] #[{ accessFlags := 26, nameIndex := 61, descriptorIndex := 62, attributes := #[] }, { accessFlags := 26, nameIndex := 65, descriptorIndex := 62, attributes := #[] }, { accessFlags := 24, nameIndex := 430, descriptorIndex := 62, attributes := #[] }, { accessFlags := 4120, nameIndex := 46, descriptorIndex := 47, attributes := #[] }])
  fields := #[{ name := "HI_BYTE_SHIFT", type := .int, accessFlags := 26, slot := 0, constantValue := 0 }, { name := "LO_BYTE_SHIFT", type := .int, accessFlags := 26, slot := 1, constantValue := 0 }, { name := "MAX_LENGTH", type := .int, accessFlags := 24, slot := 2, constantValue := 0 }, { name := "$assertionsDisabled", type := .boolean, accessFlags := 4120, slot := 3, constantValue := 0 }]
  methods := #[k8m0, k8m1, k8m2, k8m3]
  instanceTypes := #[]
  staticTypes := #[.int, .int, .int, .boolean]
  resolved := Array.replicate 635 none
  statics := none }

def pool9 : Array CpInfo := pool [(2, .class_ 4), (1, u "java/lang/Enum"), (0, u "name"), (0, u "Ljava/lang/String;"), (2, u "ordinal"), (0, u "I"), (1, .class_ 14), (1, u "java/lang/Object"), (4, u "hash"), (86, .class_ 108), (1, u "java/lang/Enum$EnumDesc"), (2, .class_ 112), (0, u "java/lang/constant/Constable"), (0, .class_ 114), (0, u "java/lang/Comparable"), (0, .class_ 116), (0, u "java/io/Serializable")] 87

/-- java/lang/Enum -/
def k9 : Class := { plain "java/lang/Enum" (some 0) with
  accessFlags := 1057
  interfaces := #[5, 3, 2]
  cf := some (fileOf pool9 2 #[.nestMembers #[106]] #[] 1057 12 #[111, 113, 115] #[{ accessFlags := 18, nameIndex := 5, descriptorIndex := 6, attributes := #[] }, { accessFlags := 18, nameIndex := 9, descriptorIndex := 10, attributes := #[] }, { accessFlags := 2, nameIndex := 19, descriptorIndex := 10, attributes := #[] }])
  fields := #[{ name := "name", type := (.object "java/lang/String"), accessFlags := 18, slot := 0, constantValue := 0 }, { name := "ordinal", type := .int, accessFlags := 18, slot := 1, constantValue := 0 }, { name := "hash", type := .int, accessFlags := 2, slot := 2, constantValue := 0 }]
  methods := #[]
  instanceTypes := #[(.object "java/lang/String"), .int, .int]
  staticTypes := #[]
  resolved := Array.replicate 204 none
  statics := none }

def pool10 : Array CpInfo := pool [(1, .class_ 2), (0, u "com/example/lean_envelope/leanenvelope/check/ExceededLimit$Unit"), (2, u "BYTES"), (0, u "Lcom/example/lean_envelope/leanenvelope/check/ExceededLimit$Unit;"), (2, u "JOBS"), (2, u "$VALUES"), (0, u "[Lcom/example/lean_envelope/leanenvelope/check/ExceededLimit$Unit;"), (6, .class_ 22), (1, u "java/lang/Enum"), (8, u "wireName"), (0, u "Ljava/lang/String;"), (28, .class_ 62), (0, u "com/example/lean_envelope/leanenvelope/check/ExceededLimit")] 2

/-- com/example/lean_envelope/leanenvelope/check/ExceededLimit$Unit -/
def k10 : Class := { plain "com/example/lean_envelope/leanenvelope/check/ExceededLimit$Unit" (some 9) with
  accessFlags := 16433
  interfaces := #[]
  cf := some (fileOf pool10 1 #[.nestHost 61] #[] 16433 20 #[] #[{ accessFlags := 16409, nameIndex := 5, descriptorIndex := 6, attributes := #[] }, { accessFlags := 16409, nameIndex := 9, descriptorIndex := 6, attributes := #[] }, { accessFlags := 18, nameIndex := 31, descriptorIndex := 32, attributes := #[] }, { accessFlags := 4122, nameIndex := 12, descriptorIndex := 13, attributes := #[] }])
  fields := #[{ name := "BYTES", type := (.object "com/example/lean_envelope/leanenvelope/check/ExceededLimit$Unit"), accessFlags := 16409, slot := 0, constantValue := 0 }, { name := "JOBS", type := (.object "com/example/lean_envelope/leanenvelope/check/ExceededLimit$Unit"), accessFlags := 16409, slot := 1, constantValue := 0 }, { name := "wireName", type := (.object "java/lang/String"), accessFlags := 18, slot := 3, constantValue := 0 }, { name := "$VALUES", type := (.array (.object "com/example/lean_envelope/leanenvelope/check/ExceededLimit$Unit")), accessFlags := 4122, slot := 2, constantValue := 0 }]
  methods := #[]
  instanceTypes := #[(.object "java/lang/String"), .int, .int, (.object "java/lang/String")]
  staticTypes := #[(.object "com/example/lean_envelope/leanenvelope/check/ExceededLimit$Unit"), (.object "com/example/lean_envelope/leanenvelope/check/ExceededLimit$Unit"), (.array (.object "com/example/lean_envelope/leanenvelope/check/ExceededLimit$Unit"))]
  resolved := Array.replicate 65 none
  statics := some 1 }

def pool11 : Array CpInfo := pool [(1, .methodref 2 3), (0, .class_ 4), (0, .nameAndType 5 6), (0, u "java/lang/Object"), (0, u "<init>"), (0, u "()V"), (0, .string 8), (0, u "field"), (0, .methodref 10 11), (0, .class_ 12), (0, .nameAndType 13 14), (0, u "java/util/Objects"), (0, u "requireNonNull"), (0, u "(Ljava/lang/Object;Ljava/lang/String;)Ljava/lang/Object;"), (0, .string 16), (0, u "unit"), (0, .methodref 18 19), (0, .class_ 20), (0, .nameAndType 21 22), (0, u "java/lang/String"), (0, u "isBlank"), (0, u "()Z"), (8, .class_ 33), (1, u "com/example/lean_envelope/leanenvelope/check/ExceededLimit$Unit"), (6, .fieldref 41 42), (0, .class_ 43), (0, .nameAndType 8 44), (0, u "com/example/lean_envelope/leanenvelope/check/ExceededLimit"), (0, u "Ljava/lang/String;"), (0, .fieldref 41 46), (0, .nameAndType 47 48), (0, u "actual"), (0, u "J"), (0, .fieldref 41 50), (0, .nameAndType 51 48), (0, u "maximum"), (0, .fieldref 41 53), (0, .nameAndType 16 54), (0, u "Lcom/example/lean_envelope/leanenvelope/check/ExceededLimit$Unit;"), (0, .methodref 18 56), (0, .nameAndType 57 58), (0, u "equals"), (0, u "(Ljava/lang/Object;)Z"), (13, u "(Ljava/lang/String;JJLcom/example/lean_envelope/leanenvelope/check/ExceededLimit$Unit;)V")] 33

def k11c0 : Code := { maxStack := 7, maxLocals := 7, code := prog_2_method_1_code, exceptionTable := #[], attributes := #[] }
def k11m0 : Method := { name := "<init>", desc := "(Ljava/lang/String;JJLcom/example/lean_envelope/leanenvelope/check/ExceededLimit$Unit;)V", sig := { parameters := [(.object "java/lang/String"), .long, .long, (.object "com/example/lean_envelope/leanenvelope/check/ExceededLimit$Unit")], returnType := none }, accessFlags := 1, code := some k11c0 }
def k11c1 : Code := { maxStack := 4, maxLocals := 4, code := prog_2_method_6_code, exceptionTable := #[], attributes := #[] }
def k11m1 : Method := { name := "equals", desc := "(Ljava/lang/Object;)Z", sig := { parameters := [(.object "java/lang/Object")], returnType := some .boolean }, accessFlags := 1, code := some k11c1 }
/-- com/example/lean_envelope/leanenvelope/check/ExceededLimit -/
def k11 : Class := { plain "com/example/lean_envelope/leanenvelope/check/ExceededLimit" (some 0) with
  accessFlags := 33
  interfaces := #[]
  cf := some (fileOf pool11 41 #[.nestMembers #[31]] #[{ accessFlags := 1, nameIndex := 5, descriptorIndex := 72, attributes := #[] }, { accessFlags := 1, nameIndex := 57, descriptorIndex := 58, attributes := #[] }] 33 2 #[] #[{ accessFlags := 18, nameIndex := 8, descriptorIndex := 44, attributes := #[] }, { accessFlags := 18, nameIndex := 47, descriptorIndex := 48, attributes := #[] }, { accessFlags := 18, nameIndex := 51, descriptorIndex := 48, attributes := #[] }, { accessFlags := 18, nameIndex := 16, descriptorIndex := 54, attributes := #[] }])
  fields := #[{ name := "field", type := (.object "java/lang/String"), accessFlags := 18, slot := 0, constantValue := 0 }, { name := "actual", type := .long, accessFlags := 18, slot := 1, constantValue := 0 }, { name := "maximum", type := .long, accessFlags := 18, slot := 2, constantValue := 0 }, { name := "unit", type := (.object "com/example/lean_envelope/leanenvelope/check/ExceededLimit$Unit"), accessFlags := 18, slot := 3, constantValue := 0 }]
  methods := #[k11m0, k11m1]
  instanceTypes := #[(.object "java/lang/String"), .long, .long, (.object "com/example/lean_envelope/leanenvelope/check/ExceededLimit$Unit")]
  staticTypes := #[]
  resolved := Array.replicate 106 none
  statics := none }

def pool12 : Array CpInfo := pool [(2, .class_ 4), (1, u "java/lang/Object"), (0, u "<init>"), (0, u "()V"), (35, .class_ 44), (1, u "java/util/Objects"), (0, u "requireNonNull"), (48, u "(Ljava/lang/Object;Ljava/lang/String;)Ljava/lang/Object;")] 89

def k12m0 : Method := { name := "<init>", desc := "()V", sig := { parameters := [], returnType := none }, accessFlags := 2, code := none }
def k12c1 : Code := { maxStack := 3, maxLocals := 2, code := jdk_31_method_11_code, exceptionTable := #[], attributes := #[] }
def k12m1 : Method := { name := "requireNonNull", desc := "(Ljava/lang/Object;Ljava/lang/String;)Ljava/lang/Object;", sig := { parameters := [(.object "java/lang/Object"), (.object "java/lang/String")], returnType := some (.object "java/lang/Object") }, accessFlags := 9, code := some k12c1 }
/-- java/util/Objects -/
def k12 : Class := { plain "java/util/Objects" (some 0) with
  accessFlags := 49
  interfaces := #[]
  cf := some (fileOf pool12 42 #[] #[{ accessFlags := 2, nameIndex := 5, descriptorIndex := 6, attributes := #[] }, { accessFlags := 9, nameIndex := 45, descriptorIndex := 94, attributes := #[] }] 49 2 #[] #[])
  fields := #[]
  methods := #[k12m0, k12m1]
  instanceTypes := #[]
  staticTypes := #[]
  resolved := Array.replicate 184 none
  statics := none }

def pool13 : Array CpInfo := pool [(4, .class_ 6), (1, u "java/lang/Object"), (0, u "<init>"), (0, u "()V"), (5, .class_ 16), (1, u "java/lang/StringLatin1"), (33, .methodref 14 51), (0, .nameAndType 52 53), (0, u "getChar"), (0, u "([BI)C"), (3, u "([B)I"), (8, .fieldref 67 68), (0, .class_ 69), (0, .nameAndType 70 71), (0, u "java/lang/CharacterDataLatin1"), (0, u "instance"), (0, u "Ljava/lang/CharacterDataLatin1;"), (19, u "(I)Z"), (29, u "$assertionsDisabled"), (0, u "Z"), (88, .methodref 67 212), (0, .nameAndType 213 91), (0, u "isWhitespace"), (2, u "indexOfNonWhitespace"), (4, .class_ 223), (1, u "java/lang/StringLatin1$LinesSpliterator"), (57, u "equals"), (0, u "([B[B)Z"), (107, .class_ 391), (0, u "java/lang/StringLatin1$CharsSpliterator")] 3

def k13m0 : Method := { name := "<init>", desc := "()V", sig := { parameters := [], returnType := none }, accessFlags := 0, code := none }
def k13c1 : Code := { maxStack := 3, maxLocals := 3, code := jdk_43_method_13_code, exceptionTable := #[], attributes := #[] }
def k13m1 : Method := { name := "equals", desc := "([B[B)Z", sig := { parameters := [(.array .byte), (.array .byte)], returnType := some .boolean }, accessFlags := 9, code := some k13c1 }
def k13c2 : Code := { maxStack := 2, maxLocals := 4, code := jdk_43_method_37_code, exceptionTable := #[], attributes := #[] }
def k13m2 : Method := { name := "indexOfNonWhitespace", desc := "([B)I", sig := { parameters := [(.array .byte)], returnType := some .int }, accessFlags := 9, code := some k13c2 }
def k13c3 : Code := { maxStack := 2, maxLocals := 2, code := jdk_43_method_44_code, exceptionTable := #[], attributes := #[] }
def k13m3 : Method := { name := "getChar", desc := "([BI)C", sig := { parameters := [(.array .byte), .int], returnType := some .char }, accessFlags := 9, code := some k13c3 }
/-- java/lang/StringLatin1 -/
def k13 : Class := { plain "java/lang/StringLatin1" (some 0) with
  accessFlags := 48
  interfaces := #[]
  cf := some (fileOf pool13 14 #[.nestMembers #[390, 221]] #[{ accessFlags := 0, nameIndex := 7, descriptorIndex := 8, attributes := #[] }, { accessFlags := 9, nameIndex := 281, descriptorIndex := 282, attributes := #[] }, { accessFlags := 9, nameIndex := 216, descriptorIndex := 57, attributes := #[] }, { accessFlags := 9, nameIndex := 52, descriptorIndex := 53, attributes := #[] }] 48 4 #[] #[{ accessFlags := 4120, nameIndex := 121, descriptorIndex := 122, attributes := #[] }])
  fields := #[{ name := "$assertionsDisabled", type := .boolean, accessFlags := 4120, slot := 0, constantValue := 0 }]
  methods := #[k13m0, k13m1, k13m2, k13m3]
  instanceTypes := #[]
  staticTypes := #[.boolean]
  resolved := Array.replicate 395 none
  statics := none }

def pool14 : Array CpInfo := pool [(2, .class_ 4), (1, u "java/lang/Object"), (0, u "<init>"), (0, u "()V"), (1, .class_ 10), (1, u "java/lang/CharacterData")] 75

def k14m0 : Method := { name := "<init>", desc := "()V", sig := { parameters := [], returnType := none }, accessFlags := 0, code := none }
/-- java/lang/CharacterData -/
def k14 : Class := { plain "java/lang/CharacterData" (some 0) with
  accessFlags := 1056
  interfaces := #[]
  cf := some (fileOf pool14 8 #[] #[{ accessFlags := 0, nameIndex := 5, descriptorIndex := 6, attributes := #[] }] 1056 2 #[] #[])
  fields := #[]
  methods := #[k14m0]
  instanceTypes := #[]
  staticTypes := #[]
  resolved := Array.replicate 86 none
  statics := none }

def pool15 : Array CpInfo := pool [(1, .fieldref 2 3), (0, .class_ 4), (0, .nameAndType 5 6), (0, u "java/lang/CharacterDataLatin1"), (0, u "A"), (0, u "[I"), (2, u "B"), (0, u "[C"), (3, u "(I)I"), (0, .methodref 2 16), (0, .nameAndType 17 14), (0, u "getProperties"), (3, u "(I)Z"), (5, u "DIGITS"), (0, u "[B"), (8, u "sharpsMap"), (1, .class_ 41), (1, u "java/lang/CharacterData"), (0, u "<init>"), (0, u "()V"), (3, u "instance"), (0, u "Ljava/lang/CharacterDataLatin1;"), (78, u "isWhitespace")] 13

def k15c0 : Code := { maxStack := 2, maxLocals := 4, code := jdk_116_method_1_code, exceptionTable := #[], attributes := #[] }
def k15m0 : Method := { name := "getProperties", desc := "(I)I", sig := { parameters := [.int], returnType := some .int }, accessFlags := 0, code := some k15c0 }
def k15c1 : Code := { maxStack := 2, maxLocals := 3, code := jdk_116_method_26_code, exceptionTable := #[], attributes := #[] }
def k15m1 : Method := { name := "isWhitespace", desc := "(I)Z", sig := { parameters := [.int], returnType := some .boolean }, accessFlags := 0, code := some k15c1 }
def k15m2 : Method := { name := "<init>", desc := "()V", sig := { parameters := [], returnType := none }, accessFlags := 2, code := none }
/-- java/lang/CharacterDataLatin1 -/
def k15 : Class := { plain "java/lang/CharacterDataLatin1" (some 14) with
  accessFlags := 32
  interfaces := #[]
  cf := some (fileOf pool15 2 #[] #[{ accessFlags := 0, nameIndex := 17, descriptorIndex := 14, attributes := #[] }, { accessFlags := 0, nameIndex := 127, descriptorIndex := 21, attributes := #[] }, { accessFlags := 2, nameIndex := 42, descriptorIndex := 43, attributes := #[] }] 32 39 #[] #[{ accessFlags := 26, nameIndex := 27, descriptorIndex := 28, attributes := #[] }, { accessFlags := 8, nameIndex := 37, descriptorIndex := 10, attributes := #[] }, { accessFlags := 24, nameIndex := 47, descriptorIndex := 48, attributes := #[] }, { accessFlags := 24, nameIndex := 5, descriptorIndex := 6, attributes := #[] }, { accessFlags := 24, nameIndex := 9, descriptorIndex := 10, attributes := #[] }])
  fields := #[{ name := "DIGITS", type := (.array .byte), accessFlags := 26, slot := 0, constantValue := 0 }, { name := "sharpsMap", type := (.array .char), accessFlags := 8, slot := 1, constantValue := 0 }, { name := "instance", type := (.object "java/lang/CharacterDataLatin1"), accessFlags := 24, slot := 2, constantValue := 0 }, { name := "A", type := (.array .int), accessFlags := 24, slot := 3, constantValue := 0 }, { name := "B", type := (.array .char), accessFlags := 24, slot := 4, constantValue := 0 }]
  methods := #[k15m0, k15m1, k15m2]
  instanceTypes := #[]
  staticTypes := #[(.array .byte), (.array .char), (.object "java/lang/CharacterDataLatin1"), (.array .int), (.array .char)]
  resolved := Array.replicate 141 none
  statics := some 2 }

def pool16 : Array CpInfo := pool [(1, .methodref 2 3), (0, .class_ 4), (0, .nameAndType 5 6), (0, u "java/lang/Object"), (0, u "<init>"), (0, u "()V"), (1, .class_ 10), (1, u "java/lang/Number"), (2, .class_ 14), (0, u "java/io/Serializable"), (0, u "serialVersionUID"), (0, u "J")] 20

def k16c0 : Code := { maxStack := 1, maxLocals := 1, code := jdk_18_method_1_code, exceptionTable := #[], attributes := #[] }
def k16m0 : Method := { name := "<init>", desc := "()V", sig := { parameters := [], returnType := none }, accessFlags := 1, code := some k16c0 }
/-- java/lang/Number -/
def k16 : Class := { plain "java/lang/Number" (some 0) with
  accessFlags := 1057
  interfaces := #[2]
  cf := some (fileOf pool16 8 #[] #[{ accessFlags := 1, nameIndex := 5, descriptorIndex := 6, attributes := #[] }] 1057 2 #[13] #[{ accessFlags := 26, nameIndex := 15, descriptorIndex := 16, attributes := #[] }])
  fields := #[{ name := "serialVersionUID", type := .long, accessFlags := 26, slot := 0, constantValue := 0 }]
  methods := #[k16m0]
  instanceTypes := #[]
  staticTypes := #[.long]
  resolved := Array.replicate 37 none
  statics := none }

def pool17 : Array CpInfo := pool [(1, .class_ 2), (0, u "java/lang/Long"), (55, .nameAndType 59 60), (0, u "<init>"), (0, u "()V"), (24, u "valueOf"), (143, u "(J)Ljava/lang/Long;"), (0, .long 18446744073709551488), (1, .long 127), (1, .fieldref 235 236), (0, .class_ 237), (0, .nameAndType 238 239), (0, u "java/lang/Long$LongCache"), (0, u "cache"), (0, u "[Ljava/lang/Long;"), (0, .methodref 1 241), (0, .nameAndType 59 242), (0, u "(J)V"), (27, .methodref 271 58), (0, .class_ 272), (0, u "java/lang/Number"), (0, .fieldref 1 274), (0, .nameAndType 275 276), (0, u "value"), (0, u "J"), (84, u "TYPE"), (0, u "Ljava/lang/Class;"), (0, .class_ 364), (0, u "java/lang/Comparable"), (0, .class_ 366), (0, u "java/lang/constant/Constable"), (0, .class_ 368), (0, u "java/lang/constant/ConstantDesc"), (0, u "MIN_VALUE"), (1, u "MAX_VALUE"), (4, u "SIZE"), (0, u "I"), (1, u "BYTES"), (1, u "serialVersionUID")] 142

def k17c0 : Code := { maxStack := 4, maxLocals := 3, code := jdk_35_method_24_code, exceptionTable := #[], attributes := #[] }
def k17m0 : Method := { name := "valueOf", desc := "(J)Ljava/lang/Long;", sig := { parameters := [.long], returnType := some (.object "java/lang/Long") }, accessFlags := 9, code := some k17c0 }
def k17c1 : Code := { maxStack := 3, maxLocals := 3, code := jdk_35_method_26_code, exceptionTable := #[], attributes := #[] }
def k17m1 : Method := { name := "<init>", desc := "(J)V", sig := { parameters := [.long], returnType := none }, accessFlags := 1, code := some k17c1 }
/-- java/lang/Long -/
def k17 : Class := { plain "java/lang/Long" (some 16) with
  accessFlags := 49
  interfaces := #[3, 5, 6]
  cf := some (fileOf pool17 1 #[.nestMembers #[235]] #[{ accessFlags := 9, nameIndex := 85, descriptorIndex := 229, attributes := #[] }, { accessFlags := 1, nameIndex := 59, descriptorIndex := 242, attributes := #[] }] 49 271 #[363, 365, 367] #[{ accessFlags := 25, nameIndex := 369, descriptorIndex := 276, attributes := #[] }, { accessFlags := 25, nameIndex := 371, descriptorIndex := 276, attributes := #[] }, { accessFlags := 25, nameIndex := 361, descriptorIndex := 362, attributes := #[] }, { accessFlags := 18, nameIndex := 275, descriptorIndex := 276, attributes := #[] }, { accessFlags := 25, nameIndex := 376, descriptorIndex := 377, attributes := #[] }, { accessFlags := 25, nameIndex := 379, descriptorIndex := 377, attributes := #[] }, { accessFlags := 26, nameIndex := 381, descriptorIndex := 276, attributes := #[] }])
  fields := #[{ name := "MIN_VALUE", type := .long, accessFlags := 25, slot := 0, constantValue := 0 }, { name := "MAX_VALUE", type := .long, accessFlags := 25, slot := 1, constantValue := 0 }, { name := "TYPE", type := (.object "java/lang/Class"), accessFlags := 25, slot := 2, constantValue := 0 }, { name := "value", type := .long, accessFlags := 18, slot := 0, constantValue := 0 }, { name := "SIZE", type := .int, accessFlags := 25, slot := 3, constantValue := 0 }, { name := "BYTES", type := .int, accessFlags := 25, slot := 4, constantValue := 0 }, { name := "serialVersionUID", type := .long, accessFlags := 26, slot := 5, constantValue := 0 }]
  methods := #[k17m0, k17m1]
  instanceTypes := #[.long]
  staticTypes := #[.long, .long, (.object "java/lang/Class"), .int, .int, .long]
  resolved := Array.replicate 524 none
  statics := none }

def pool18 : Array CpInfo := pool [(2, .class_ 4), (1, u "java/lang/Object"), (0, u "<init>"), (0, u "()V"), (0, .class_ 8), (0, u "java/lang/Long"), (7, .class_ 18), (1, u "java/lang/Long$LongCache"), (0, u "$assertionsDisabled"), (0, u "Z"), (8, u "archivedCache"), (0, u "[Ljava/lang/Long;"), (7, u "cache")] 24

def k18m0 : Method := { name := "<init>", desc := "()V", sig := { parameters := [], returnType := none }, accessFlags := 2, code := none }
/-- java/lang/Long$LongCache -/
def k18 : Class := { plain "java/lang/Long$LongCache" (some 0) with
  accessFlags := 48
  interfaces := #[]
  cf := some (fileOf pool18 16 #[.nestHost 7] #[{ accessFlags := 2, nameIndex := 5, descriptorIndex := 6, attributes := #[] }] 48 2 #[] #[{ accessFlags := 24, nameIndex := 38, descriptorIndex := 30, attributes := #[] }, { accessFlags := 8, nameIndex := 29, descriptorIndex := 30, attributes := #[] }, { accessFlags := 4120, nameIndex := 19, descriptorIndex := 20, attributes := #[] }])
  fields := #[{ name := "cache", type := (.array (.object "java/lang/Long")), accessFlags := 24, slot := 0, constantValue := 0 }, { name := "archivedCache", type := (.array (.object "java/lang/Long")), accessFlags := 8, slot := 1, constantValue := 0 }, { name := "$assertionsDisabled", type := .boolean, accessFlags := 4120, slot := 2, constantValue := 0 }]
  methods := #[k18m0]
  instanceTypes := #[]
  staticTypes := #[(.array (.object "java/lang/Long")), (.array (.object "java/lang/Long")), .boolean]
  resolved := Array.replicate 63 none
  statics := some 3 }

def pool19 : Array CpInfo := pool [(9, u "<init>"), (6, .class_ 18), (1, u "java/lang/Object"), (0, u "()V"), (1, .class_ 23), (1, u "jdk/internal/util/ArraysSupport"), (0, u "LOG2_ARRAY_LONG_INDEX_SCALE"), (0, u "I"), (2, u "U"), (0, u "Ljdk/internal/misc/Unsafe;"), (8, u "BIG_ENDIAN"), (0, u "Z"), (8, u "LOG2_BYTE_BIT_SIZE"), (4, u "LOG2_ARRAY_INT_INDEX_SCALE"), (54, u "JLA"), (0, u "Ljdk/internal/access/JavaLangAccess;"), (11, u "LOG2_ARRAY_BOOLEAN_INDEX_SCALE"), (9, u "LOG2_ARRAY_BYTE_INDEX_SCALE"), (5, u "LOG2_ARRAY_CHAR_INDEX_SCALE"), (5, u "LOG2_ARRAY_SHORT_INDEX_SCALE"), (18, u "LOG2_ARRAY_FLOAT_INDEX_SCALE"), (24, u "LOG2_ARRAY_DOUBLE_INDEX_SCALE"), (89, u "T_BOOLEAN"), (2, u "T_CHAR"), (1, u "T_FLOAT"), (1, u "T_DOUBLE"), (1, u "T_BYTE"), (1, u "T_SHORT"), (1, u "T_INT"), (1, u "T_LONG"), (1, u "SOFT_MAX_ARRAY_LENGTH")] 83

def k19m0 : Method := { name := "<init>", desc := "()V", sig := { parameters := [], returnType := none }, accessFlags := 2, code := none }
/-- jdk/internal/util/ArraysSupport -/
def k19 : Class := { plain "jdk/internal/util/ArraysSupport" (some 0) with
  accessFlags := 33
  interfaces := #[]
  cf := some (fileOf pool19 21 #[] #[{ accessFlags := 2, nameIndex := 9, descriptorIndex := 19, attributes := #[] }] 33 16 #[] #[{ accessFlags := 24, nameIndex := 28, descriptorIndex := 29, attributes := #[] }, { accessFlags := 26, nameIndex := 38, descriptorIndex := 39, attributes := #[] }, { accessFlags := 25, nameIndex := 121, descriptorIndex := 25, attributes := #[] }, { accessFlags := 25, nameIndex := 131, descriptorIndex := 25, attributes := #[] }, { accessFlags := 25, nameIndex := 137, descriptorIndex := 25, attributes := #[] }, { accessFlags := 25, nameIndex := 143, descriptorIndex := 25, attributes := #[] }, { accessFlags := 25, nameIndex := 53, descriptorIndex := 25, attributes := #[] }, { accessFlags := 25, nameIndex := 24, descriptorIndex := 25, attributes := #[] }, { accessFlags := 25, nameIndex := 162, descriptorIndex := 25, attributes := #[] }, { accessFlags := 25, nameIndex := 187, descriptorIndex := 25, attributes := #[] }, { accessFlags := 26, nameIndex := 48, descriptorIndex := 25, attributes := #[] }, { accessFlags := 25, nameIndex := 277, descriptorIndex := 25, attributes := #[] }, { accessFlags := 25, nameIndex := 280, descriptorIndex := 25, attributes := #[] }, { accessFlags := 25, nameIndex := 282, descriptorIndex := 25, attributes := #[] }, { accessFlags := 25, nameIndex := 284, descriptorIndex := 25, attributes := #[] }, { accessFlags := 25, nameIndex := 286, descriptorIndex := 25, attributes := #[] }, { accessFlags := 25, nameIndex := 288, descriptorIndex := 25, attributes := #[] }, { accessFlags := 25, nameIndex := 290, descriptorIndex := 25, attributes := #[] }, { accessFlags := 25, nameIndex := 292, descriptorIndex := 25, attributes := #[] }, { accessFlags := 26, nameIndex := 108, descriptorIndex := 109, attributes := #[] }, { accessFlags := 25, nameIndex := 294, descriptorIndex := 25, attributes := #[] }])
  fields := #[{ name := "U", type := (.object "jdk/internal/misc/Unsafe"), accessFlags := 24, slot := 0, constantValue := 0 }, { name := "BIG_ENDIAN", type := .boolean, accessFlags := 26, slot := 1, constantValue := 0 }, { name := "LOG2_ARRAY_BOOLEAN_INDEX_SCALE", type := .int, accessFlags := 25, slot := 2, constantValue := 0 }, { name := "LOG2_ARRAY_BYTE_INDEX_SCALE", type := .int, accessFlags := 25, slot := 3, constantValue := 0 }, { name := "LOG2_ARRAY_CHAR_INDEX_SCALE", type := .int, accessFlags := 25, slot := 4, constantValue := 0 }, { name := "LOG2_ARRAY_SHORT_INDEX_SCALE", type := .int, accessFlags := 25, slot := 5, constantValue := 0 }, { name := "LOG2_ARRAY_INT_INDEX_SCALE", type := .int, accessFlags := 25, slot := 6, constantValue := 0 }, { name := "LOG2_ARRAY_LONG_INDEX_SCALE", type := .int, accessFlags := 25, slot := 7, constantValue := 0 }, { name := "LOG2_ARRAY_FLOAT_INDEX_SCALE", type := .int, accessFlags := 25, slot := 8, constantValue := 0 }, { name := "LOG2_ARRAY_DOUBLE_INDEX_SCALE", type := .int, accessFlags := 25, slot := 9, constantValue := 0 }, { name := "LOG2_BYTE_BIT_SIZE", type := .int, accessFlags := 26, slot := 10, constantValue := 0 }, { name := "T_BOOLEAN", type := .int, accessFlags := 25, slot := 11, constantValue := 0 }, { name := "T_CHAR", type := .int, accessFlags := 25, slot := 12, constantValue := 0 }, { name := "T_FLOAT", type := .int, accessFlags := 25, slot := 13, constantValue := 0 }, { name := "T_DOUBLE", type := .int, accessFlags := 25, slot := 14, constantValue := 0 }, { name := "T_BYTE", type := .int, accessFlags := 25, slot := 15, constantValue := 0 }, { name := "T_SHORT", type := .int, accessFlags := 25, slot := 16, constantValue := 0 }, { name := "T_INT", type := .int, accessFlags := 25, slot := 17, constantValue := 0 }, { name := "T_LONG", type := .int, accessFlags := 25, slot := 18, constantValue := 0 }, { name := "JLA", type := (.object "jdk/internal/access/JavaLangAccess"), accessFlags := 26, slot := 19, constantValue := 0 }, { name := "SOFT_MAX_ARRAY_LENGTH", type := .int, accessFlags := 25, slot := 20, constantValue := 0 }]
  methods := #[k19m0]
  instanceTypes := #[]
  staticTypes := #[(.object "jdk/internal/misc/Unsafe"), .boolean, .int, .int, .int, .int, .int, .int, .int, .int, .int, .int, .int, .int, .int, .int, .int, .int, .int, (.object "jdk/internal/access/JavaLangAccess"), .int]
  resolved := Array.replicate 378 none
  statics := some 4 }

def pool20 : Array CpInfo := pool [(2, .class_ 4), (1, u "java/lang/Object"), (0, u "<init>"), (0, u "()V"), (17, .class_ 26), (1, u "jdk/internal/util/Preconditions"), (28, .class_ 56), (0, u "jdk/internal/util/Preconditions$4"), (57, .class_ 115), (0, u "jdk/internal/util/Preconditions$1"), (7, u "SIOOBE_FORMATTER"), (0, u "Ljava/util/function/BiFunction;"), (0, .class_ 126), (0, u "jdk/internal/util/Preconditions$2"), (3, u "AIOOBE_FORMATTER"), (0, .class_ 132), (0, u "jdk/internal/util/Preconditions$3"), (3, u "IOOBE_FORMATTER")] 57

def k20m0 : Method := { name := "<init>", desc := "()V", sig := { parameters := [], returnType := none }, accessFlags := 1, code := none }
/-- jdk/internal/util/Preconditions -/
def k20 : Class := { plain "jdk/internal/util/Preconditions" (some 0) with
  accessFlags := 33
  interfaces := #[]
  cf := some (fileOf pool20 24 #[.nestMembers #[55, 131, 125, 114]] #[{ accessFlags := 1, nameIndex := 5, descriptorIndex := 6, attributes := #[] }] 33 2 #[] #[{ accessFlags := 25, nameIndex := 123, descriptorIndex := 124, attributes := #[] }, { accessFlags := 25, nameIndex := 130, descriptorIndex := 124, attributes := #[] }, { accessFlags := 25, nameIndex := 136, descriptorIndex := 124, attributes := #[] }])
  fields := #[{ name := "SIOOBE_FORMATTER", type := (.object "java/util/function/BiFunction"), accessFlags := 25, slot := 0, constantValue := 0 }, { name := "AIOOBE_FORMATTER", type := (.object "java/util/function/BiFunction"), accessFlags := 25, slot := 1, constantValue := 0 }, { name := "IOOBE_FORMATTER", type := (.object "java/util/function/BiFunction"), accessFlags := 25, slot := 2, constantValue := 0 }]
  methods := #[k20m0]
  instanceTypes := #[]
  staticTypes := #[(.object "java/util/function/BiFunction"), (.object "java/util/function/BiFunction"), (.object "java/util/function/BiFunction")]
  resolved := Array.replicate 194 none
  statics := some 5 }

def pool21 : Array CpInfo := pool [(1, u "java/lang/Cloneable"), (0, .class_ 1), (0, u "java/lang/Object"), (0, .class_ 3)] 3

/-- java/lang/Cloneable -/
def k21 : Class := { plain "java/lang/Cloneable" (some 0) with
  accessFlags := 1537
  interfaces := #[]
  cf := some (fileOf pool21 2 #[] #[] 1537 4 #[] #[])
  fields := #[]
  methods := #[]
  instanceTypes := #[]
  staticTypes := #[]
  resolved := Array.replicate 8 none
  statics := none }

/-- the primitive byte -/
def k22 : Class := { plain "byte" none with kind := .primitive 'B', accessFlags := 0x411 }
/-- [B -/
def k23 : Class := { plain "[B" (some 0) with kind := .array 22 .byte, interfaces := #[21, 2], accessFlags := 1041 }

/-- the primitive char -/
def k24 : Class := { plain "char" none with kind := .primitive 'C', accessFlags := 0x411 }
/-- [C -/
def k25 : Class := { plain "[C" (some 0) with kind := .array 24 .char, interfaces := #[21, 2], accessFlags := 1041 }

/-- the primitive int -/
def k26 : Class := { plain "int" none with kind := .primitive 'I', accessFlags := 0x411 }
/-- [I -/
def k27 : Class := { plain "[I" (some 0) with kind := .array 26 .int, interfaces := #[21, 2], accessFlags := 1041 }

/-- [Ljava/lang/Long; -/
def k28 : Class := { plain "[Ljava/lang/Long;" (some 0) with kind := .array 17 (.object "java/lang/Long"), interfaces := #[21, 2], accessFlags := 1041 }

def heap : Heap := #[{ cls := 7, slots := #[.long 0, .int 1, .null, .int 0, .null, .int 0, .int 0], vm := .statics 7 },
  { cls := 10, slots := #[.ref 7, .ref 8, .null], vm := .statics 10 },
  { cls := 15, slots := #[.null, .null, .ref 265, .ref 266, .null], vm := .statics 15 },
  { cls := 18, slots := #[.ref 6, .null, .int 0], vm := .statics 18 },
  { cls := 19, slots := #[.null, .int 0, .int 0, .int 0, .int 0, .int 0, .int 0, .int 0, .int 0, .int 0, .int 0, .int 0, .int 0, .int 0, .int 0, .int 0, .int 0, .int 0, .int 0, .null, .int 0], vm := .statics 19 },
  { cls := 20, slots := #[.null, .null, .null], vm := .statics 20 },
  { cls := 28, slots := #[.ref 9, .ref 10, .ref 11, .ref 12, .ref 13, .ref 14, .ref 15, .ref 16, .ref 17, .ref 18, .ref 19, .ref 20, .ref 21, .ref 22, .ref 23, .ref 24, .ref 25, .ref 26, .ref 27, .ref 28, .ref 29, .ref 30, .ref 31, .ref 32, .ref 33, .ref 34, .ref 35, .ref 36, .ref 37, .ref 38, .ref 39, .ref 40, .ref 41, .ref 42, .ref 43, .ref 44, .ref 45, .ref 46, .ref 47, .ref 48, .ref 49, .ref 50, .ref 51, .ref 52, .ref 53, .ref 54, .ref 55, .ref 56, .ref 57, .ref 58, .ref 59, .ref 60, .ref 61, .ref 62, .ref 63, .ref 64, .ref 65, .ref 66, .ref 67, .ref 68, .ref 69, .ref 70, .ref 71, .ref 72, .ref 73, .ref 74, .ref 75, .ref 76, .ref 77, .ref 78, .ref 79, .ref 80, .ref 81, .ref 82, .ref 83, .ref 84, .ref 85, .ref 86, .ref 87, .ref 88, .ref 89, .ref 90, .ref 91, .ref 92, .ref 93, .ref 94, .ref 95, .ref 96, .ref 97, .ref 98, .ref 99, .ref 100, .ref 101, .ref 102, .ref 103, .ref 104, .ref 105, .ref 106, .ref 107, .ref 108, .ref 109, .ref 110, .ref 111, .ref 112, .ref 113, .ref 114, .ref 115, .ref 116, .ref 117, .ref 118, .ref 119, .ref 120, .ref 121, .ref 122, .ref 123, .ref 124, .ref 125, .ref 126, .ref 127, .ref 128, .ref 129, .ref 130, .ref 131, .ref 132, .ref 133, .ref 134, .ref 135, .ref 136, .ref 137, .ref 138, .ref 139, .ref 140, .ref 141, .ref 142, .ref 143, .ref 144, .ref 145, .ref 146, .ref 147, .ref 148, .ref 149, .ref 150, .ref 151, .ref 152, .ref 153, .ref 154, .ref 155, .ref 156, .ref 157, .ref 158, .ref 159, .ref 160, .ref 161, .ref 162, .ref 163, .ref 164, .ref 165, .ref 166, .ref 167, .ref 168, .ref 169, .ref 170, .ref 171, .ref 172, .ref 173, .ref 174, .ref 175, .ref 176, .ref 177, .ref 178, .ref 179, .ref 180, .ref 181, .ref 182, .ref 183, .ref 184, .ref 185, .ref 186, .ref 187, .ref 188, .ref 189, .ref 190, .ref 191, .ref 192, .ref 193, .ref 194, .ref 195, .ref 196, .ref 197, .ref 198, .ref 199, .ref 200, .ref 201, .ref 202, .ref 203, .ref 204, .ref 205, .ref 206, .ref 207, .ref 208, .ref 209, .ref 210, .ref 211, .ref 212, .ref 213, .ref 214, .ref 215, .ref 216, .ref 217, .ref 218, .ref 219, .ref 220, .ref 221, .ref 222, .ref 223, .ref 224, .ref 225, .ref 226, .ref 227, .ref 228, .ref 229, .ref 230, .ref 231, .ref 232, .ref 233, .ref 234, .ref 235, .ref 236, .ref 237, .ref 238, .ref 239, .ref 240, .ref 241, .ref 242, .ref 243, .ref 244, .ref 245, .ref 246, .ref 247, .ref 248, .ref 249, .ref 250, .ref 251, .ref 252, .ref 253, .ref 254, .ref 255, .ref 256, .ref 257, .ref 258, .ref 259, .ref 260, .ref 261, .ref 262, .ref 263, .ref 264], vm := .none },
  { cls := 10, slots := #[.null, .int 0, .int 0, .null], vm := .none },
  { cls := 10, slots := #[.null, .int 1, .int 0, .null], vm := .none },
  { cls := 17, slots := #[.long (-128)], vm := .none },
  { cls := 17, slots := #[.long (-127)], vm := .none },
  { cls := 17, slots := #[.long (-126)], vm := .none },
  { cls := 17, slots := #[.long (-125)], vm := .none },
  { cls := 17, slots := #[.long (-124)], vm := .none },
  { cls := 17, slots := #[.long (-123)], vm := .none },
  { cls := 17, slots := #[.long (-122)], vm := .none },
  { cls := 17, slots := #[.long (-121)], vm := .none },
  { cls := 17, slots := #[.long (-120)], vm := .none },
  { cls := 17, slots := #[.long (-119)], vm := .none },
  { cls := 17, slots := #[.long (-118)], vm := .none },
  { cls := 17, slots := #[.long (-117)], vm := .none },
  { cls := 17, slots := #[.long (-116)], vm := .none },
  { cls := 17, slots := #[.long (-115)], vm := .none },
  { cls := 17, slots := #[.long (-114)], vm := .none },
  { cls := 17, slots := #[.long (-113)], vm := .none },
  { cls := 17, slots := #[.long (-112)], vm := .none },
  { cls := 17, slots := #[.long (-111)], vm := .none },
  { cls := 17, slots := #[.long (-110)], vm := .none },
  { cls := 17, slots := #[.long (-109)], vm := .none },
  { cls := 17, slots := #[.long (-108)], vm := .none },
  { cls := 17, slots := #[.long (-107)], vm := .none },
  { cls := 17, slots := #[.long (-106)], vm := .none },
  { cls := 17, slots := #[.long (-105)], vm := .none },
  { cls := 17, slots := #[.long (-104)], vm := .none },
  { cls := 17, slots := #[.long (-103)], vm := .none },
  { cls := 17, slots := #[.long (-102)], vm := .none },
  { cls := 17, slots := #[.long (-101)], vm := .none },
  { cls := 17, slots := #[.long (-100)], vm := .none },
  { cls := 17, slots := #[.long (-99)], vm := .none },
  { cls := 17, slots := #[.long (-98)], vm := .none },
  { cls := 17, slots := #[.long (-97)], vm := .none },
  { cls := 17, slots := #[.long (-96)], vm := .none },
  { cls := 17, slots := #[.long (-95)], vm := .none },
  { cls := 17, slots := #[.long (-94)], vm := .none },
  { cls := 17, slots := #[.long (-93)], vm := .none },
  { cls := 17, slots := #[.long (-92)], vm := .none },
  { cls := 17, slots := #[.long (-91)], vm := .none },
  { cls := 17, slots := #[.long (-90)], vm := .none },
  { cls := 17, slots := #[.long (-89)], vm := .none },
  { cls := 17, slots := #[.long (-88)], vm := .none },
  { cls := 17, slots := #[.long (-87)], vm := .none },
  { cls := 17, slots := #[.long (-86)], vm := .none },
  { cls := 17, slots := #[.long (-85)], vm := .none },
  { cls := 17, slots := #[.long (-84)], vm := .none },
  { cls := 17, slots := #[.long (-83)], vm := .none },
  { cls := 17, slots := #[.long (-82)], vm := .none },
  { cls := 17, slots := #[.long (-81)], vm := .none },
  { cls := 17, slots := #[.long (-80)], vm := .none },
  { cls := 17, slots := #[.long (-79)], vm := .none },
  { cls := 17, slots := #[.long (-78)], vm := .none },
  { cls := 17, slots := #[.long (-77)], vm := .none },
  { cls := 17, slots := #[.long (-76)], vm := .none },
  { cls := 17, slots := #[.long (-75)], vm := .none },
  { cls := 17, slots := #[.long (-74)], vm := .none },
  { cls := 17, slots := #[.long (-73)], vm := .none },
  { cls := 17, slots := #[.long (-72)], vm := .none },
  { cls := 17, slots := #[.long (-71)], vm := .none },
  { cls := 17, slots := #[.long (-70)], vm := .none },
  { cls := 17, slots := #[.long (-69)], vm := .none },
  { cls := 17, slots := #[.long (-68)], vm := .none },
  { cls := 17, slots := #[.long (-67)], vm := .none },
  { cls := 17, slots := #[.long (-66)], vm := .none },
  { cls := 17, slots := #[.long (-65)], vm := .none },
  { cls := 17, slots := #[.long (-64)], vm := .none },
  { cls := 17, slots := #[.long (-63)], vm := .none },
  { cls := 17, slots := #[.long (-62)], vm := .none },
  { cls := 17, slots := #[.long (-61)], vm := .none },
  { cls := 17, slots := #[.long (-60)], vm := .none },
  { cls := 17, slots := #[.long (-59)], vm := .none },
  { cls := 17, slots := #[.long (-58)], vm := .none },
  { cls := 17, slots := #[.long (-57)], vm := .none },
  { cls := 17, slots := #[.long (-56)], vm := .none },
  { cls := 17, slots := #[.long (-55)], vm := .none },
  { cls := 17, slots := #[.long (-54)], vm := .none },
  { cls := 17, slots := #[.long (-53)], vm := .none },
  { cls := 17, slots := #[.long (-52)], vm := .none },
  { cls := 17, slots := #[.long (-51)], vm := .none },
  { cls := 17, slots := #[.long (-50)], vm := .none },
  { cls := 17, slots := #[.long (-49)], vm := .none },
  { cls := 17, slots := #[.long (-48)], vm := .none },
  { cls := 17, slots := #[.long (-47)], vm := .none },
  { cls := 17, slots := #[.long (-46)], vm := .none },
  { cls := 17, slots := #[.long (-45)], vm := .none },
  { cls := 17, slots := #[.long (-44)], vm := .none },
  { cls := 17, slots := #[.long (-43)], vm := .none },
  { cls := 17, slots := #[.long (-42)], vm := .none },
  { cls := 17, slots := #[.long (-41)], vm := .none },
  { cls := 17, slots := #[.long (-40)], vm := .none },
  { cls := 17, slots := #[.long (-39)], vm := .none },
  { cls := 17, slots := #[.long (-38)], vm := .none },
  { cls := 17, slots := #[.long (-37)], vm := .none },
  { cls := 17, slots := #[.long (-36)], vm := .none },
  { cls := 17, slots := #[.long (-35)], vm := .none },
  { cls := 17, slots := #[.long (-34)], vm := .none },
  { cls := 17, slots := #[.long (-33)], vm := .none },
  { cls := 17, slots := #[.long (-32)], vm := .none },
  { cls := 17, slots := #[.long (-31)], vm := .none },
  { cls := 17, slots := #[.long (-30)], vm := .none },
  { cls := 17, slots := #[.long (-29)], vm := .none },
  { cls := 17, slots := #[.long (-28)], vm := .none },
  { cls := 17, slots := #[.long (-27)], vm := .none },
  { cls := 17, slots := #[.long (-26)], vm := .none },
  { cls := 17, slots := #[.long (-25)], vm := .none },
  { cls := 17, slots := #[.long (-24)], vm := .none },
  { cls := 17, slots := #[.long (-23)], vm := .none },
  { cls := 17, slots := #[.long (-22)], vm := .none },
  { cls := 17, slots := #[.long (-21)], vm := .none },
  { cls := 17, slots := #[.long (-20)], vm := .none },
  { cls := 17, slots := #[.long (-19)], vm := .none },
  { cls := 17, slots := #[.long (-18)], vm := .none },
  { cls := 17, slots := #[.long (-17)], vm := .none },
  { cls := 17, slots := #[.long (-16)], vm := .none },
  { cls := 17, slots := #[.long (-15)], vm := .none },
  { cls := 17, slots := #[.long (-14)], vm := .none },
  { cls := 17, slots := #[.long (-13)], vm := .none },
  { cls := 17, slots := #[.long (-12)], vm := .none },
  { cls := 17, slots := #[.long (-11)], vm := .none },
  { cls := 17, slots := #[.long (-10)], vm := .none },
  { cls := 17, slots := #[.long (-9)], vm := .none },
  { cls := 17, slots := #[.long (-8)], vm := .none },
  { cls := 17, slots := #[.long (-7)], vm := .none },
  { cls := 17, slots := #[.long (-6)], vm := .none },
  { cls := 17, slots := #[.long (-5)], vm := .none },
  { cls := 17, slots := #[.long (-4)], vm := .none },
  { cls := 17, slots := #[.long (-3)], vm := .none },
  { cls := 17, slots := #[.long (-2)], vm := .none },
  { cls := 17, slots := #[.long (-1)], vm := .none },
  { cls := 17, slots := #[.long 0], vm := .none },
  { cls := 17, slots := #[.long 1], vm := .none },
  { cls := 17, slots := #[.long 2], vm := .none },
  { cls := 17, slots := #[.long 3], vm := .none },
  { cls := 17, slots := #[.long 4], vm := .none },
  { cls := 17, slots := #[.long 5], vm := .none },
  { cls := 17, slots := #[.long 6], vm := .none },
  { cls := 17, slots := #[.long 7], vm := .none },
  { cls := 17, slots := #[.long 8], vm := .none },
  { cls := 17, slots := #[.long 9], vm := .none },
  { cls := 17, slots := #[.long 10], vm := .none },
  { cls := 17, slots := #[.long 11], vm := .none },
  { cls := 17, slots := #[.long 12], vm := .none },
  { cls := 17, slots := #[.long 13], vm := .none },
  { cls := 17, slots := #[.long 14], vm := .none },
  { cls := 17, slots := #[.long 15], vm := .none },
  { cls := 17, slots := #[.long 16], vm := .none },
  { cls := 17, slots := #[.long 17], vm := .none },
  { cls := 17, slots := #[.long 18], vm := .none },
  { cls := 17, slots := #[.long 19], vm := .none },
  { cls := 17, slots := #[.long 20], vm := .none },
  { cls := 17, slots := #[.long 21], vm := .none },
  { cls := 17, slots := #[.long 22], vm := .none },
  { cls := 17, slots := #[.long 23], vm := .none },
  { cls := 17, slots := #[.long 24], vm := .none },
  { cls := 17, slots := #[.long 25], vm := .none },
  { cls := 17, slots := #[.long 26], vm := .none },
  { cls := 17, slots := #[.long 27], vm := .none },
  { cls := 17, slots := #[.long 28], vm := .none },
  { cls := 17, slots := #[.long 29], vm := .none },
  { cls := 17, slots := #[.long 30], vm := .none },
  { cls := 17, slots := #[.long 31], vm := .none },
  { cls := 17, slots := #[.long 32], vm := .none },
  { cls := 17, slots := #[.long 33], vm := .none },
  { cls := 17, slots := #[.long 34], vm := .none },
  { cls := 17, slots := #[.long 35], vm := .none },
  { cls := 17, slots := #[.long 36], vm := .none },
  { cls := 17, slots := #[.long 37], vm := .none },
  { cls := 17, slots := #[.long 38], vm := .none },
  { cls := 17, slots := #[.long 39], vm := .none },
  { cls := 17, slots := #[.long 40], vm := .none },
  { cls := 17, slots := #[.long 41], vm := .none },
  { cls := 17, slots := #[.long 42], vm := .none },
  { cls := 17, slots := #[.long 43], vm := .none },
  { cls := 17, slots := #[.long 44], vm := .none },
  { cls := 17, slots := #[.long 45], vm := .none },
  { cls := 17, slots := #[.long 46], vm := .none },
  { cls := 17, slots := #[.long 47], vm := .none },
  { cls := 17, slots := #[.long 48], vm := .none },
  { cls := 17, slots := #[.long 49], vm := .none },
  { cls := 17, slots := #[.long 50], vm := .none },
  { cls := 17, slots := #[.long 51], vm := .none },
  { cls := 17, slots := #[.long 52], vm := .none },
  { cls := 17, slots := #[.long 53], vm := .none },
  { cls := 17, slots := #[.long 54], vm := .none },
  { cls := 17, slots := #[.long 55], vm := .none },
  { cls := 17, slots := #[.long 56], vm := .none },
  { cls := 17, slots := #[.long 57], vm := .none },
  { cls := 17, slots := #[.long 58], vm := .none },
  { cls := 17, slots := #[.long 59], vm := .none },
  { cls := 17, slots := #[.long 60], vm := .none },
  { cls := 17, slots := #[.long 61], vm := .none },
  { cls := 17, slots := #[.long 62], vm := .none },
  { cls := 17, slots := #[.long 63], vm := .none },
  { cls := 17, slots := #[.long 64], vm := .none },
  { cls := 17, slots := #[.long 65], vm := .none },
  { cls := 17, slots := #[.long 66], vm := .none },
  { cls := 17, slots := #[.long 67], vm := .none },
  { cls := 17, slots := #[.long 68], vm := .none },
  { cls := 17, slots := #[.long 69], vm := .none },
  { cls := 17, slots := #[.long 70], vm := .none },
  { cls := 17, slots := #[.long 71], vm := .none },
  { cls := 17, slots := #[.long 72], vm := .none },
  { cls := 17, slots := #[.long 73], vm := .none },
  { cls := 17, slots := #[.long 74], vm := .none },
  { cls := 17, slots := #[.long 75], vm := .none },
  { cls := 17, slots := #[.long 76], vm := .none },
  { cls := 17, slots := #[.long 77], vm := .none },
  { cls := 17, slots := #[.long 78], vm := .none },
  { cls := 17, slots := #[.long 79], vm := .none },
  { cls := 17, slots := #[.long 80], vm := .none },
  { cls := 17, slots := #[.long 81], vm := .none },
  { cls := 17, slots := #[.long 82], vm := .none },
  { cls := 17, slots := #[.long 83], vm := .none },
  { cls := 17, slots := #[.long 84], vm := .none },
  { cls := 17, slots := #[.long 85], vm := .none },
  { cls := 17, slots := #[.long 86], vm := .none },
  { cls := 17, slots := #[.long 87], vm := .none },
  { cls := 17, slots := #[.long 88], vm := .none },
  { cls := 17, slots := #[.long 89], vm := .none },
  { cls := 17, slots := #[.long 90], vm := .none },
  { cls := 17, slots := #[.long 91], vm := .none },
  { cls := 17, slots := #[.long 92], vm := .none },
  { cls := 17, slots := #[.long 93], vm := .none },
  { cls := 17, slots := #[.long 94], vm := .none },
  { cls := 17, slots := #[.long 95], vm := .none },
  { cls := 17, slots := #[.long 96], vm := .none },
  { cls := 17, slots := #[.long 97], vm := .none },
  { cls := 17, slots := #[.long 98], vm := .none },
  { cls := 17, slots := #[.long 99], vm := .none },
  { cls := 17, slots := #[.long 100], vm := .none },
  { cls := 17, slots := #[.long 101], vm := .none },
  { cls := 17, slots := #[.long 102], vm := .none },
  { cls := 17, slots := #[.long 103], vm := .none },
  { cls := 17, slots := #[.long 104], vm := .none },
  { cls := 17, slots := #[.long 105], vm := .none },
  { cls := 17, slots := #[.long 106], vm := .none },
  { cls := 17, slots := #[.long 107], vm := .none },
  { cls := 17, slots := #[.long 108], vm := .none },
  { cls := 17, slots := #[.long 109], vm := .none },
  { cls := 17, slots := #[.long 110], vm := .none },
  { cls := 17, slots := #[.long 111], vm := .none },
  { cls := 17, slots := #[.long 112], vm := .none },
  { cls := 17, slots := #[.long 113], vm := .none },
  { cls := 17, slots := #[.long 114], vm := .none },
  { cls := 17, slots := #[.long 115], vm := .none },
  { cls := 17, slots := #[.long 116], vm := .none },
  { cls := 17, slots := #[.long 117], vm := .none },
  { cls := 17, slots := #[.long 118], vm := .none },
  { cls := 17, slots := #[.long 119], vm := .none },
  { cls := 17, slots := #[.long 120], vm := .none },
  { cls := 17, slots := #[.long 121], vm := .none },
  { cls := 17, slots := #[.long 122], vm := .none },
  { cls := 17, slots := #[.long 123], vm := .none },
  { cls := 17, slots := #[.long 124], vm := .none },
  { cls := 17, slots := #[.long 125], vm := .none },
  { cls := 17, slots := #[.long 126], vm := .none },
  { cls := 17, slots := #[.long 127], vm := .none },
  { cls := 15, slots := #[], vm := .none },
  { cls := 27, slots := #[.int 1207963663, .int 1207963663, .int 1207963663, .int 1207963663, .int 1207963663, .int 1207963663, .int 1207963663, .int 1207963663, .int 1207963663, .int 1476411407, .int 1342193679, .int 1476411407, .int 1610629135, .int 1342193679, .int 1207963663, .int 1207963663, .int 1207963663, .int 1207963663, .int 1207963663, .int 1207963663, .int 1207963663, .int 1207963663, .int 1207963663, .int 1207963663, .int 1207963663, .int 1207963663, .int 1207963663, .int 1207963663, .int 1342193679, .int 1342193679, .int 1342193679, .int 1476411407, .int 1610629132, .int 1744830488, .int 1744830488, .int 671088664, .int 671113242, .int 671088664, .int 1744830488, .int 1744830488, .int (-402653163), .int (-402653162), .int 1744830488, .int 536870937, .int 939524120, .int 536870932, .int 939524120, .int 939524120, .int 402667017, .int 402667017, .int 402667017, .int 402667017, .int 402667017, .int 402667017, .int 402667017, .int 402667017, .int 402667017, .int 402667017, .int 939524120, .int 1744830488, .int (-402653159), .int 1744830489, .int (-402653159), .int 1744830488, .int 1744830488, .int 8552417, .int 8552417, .int 8552417, .int 8552417, .int 8552417, .int 8552417, .int 8552417, .int 8552417, .int 8552417, .int 8552417, .int 8552417, .int 8552417, .int 8552417, .int 8552417, .int 8552417, .int 8552417, .int 8552417, .int 8552417, .int 8552417, .int 8552417, .int 8552417, .int 8552417, .int 8552417, .int 8552417, .int 8552417, .int 8552417, .int (-402653163), .int 1744830488, .int (-402653162), .int 1744830491, .int 1744850967, .int 1744830491, .int 8486882, .int 8486882, .int 8486882, .int 8486882, .int 8486882, .int 8486882, .int 8486882, .int 8486882, .int 8486882, .int 8486882, .int 8486882, .int 8486882, .int 8486882, .int 8486882, .int 8486882, .int 8486882, .int 8486882, .int 8486882, .int 8486882, .int 8486882, .int 8486882, .int 8486882, .int 8486882, .int 8486882, .int 8486882, .int 8486882, .int (-402653163), .int 1744830489, .int (-402653162), .int 1744830489, .int 1207963663, .int 1207963663, .int 1207963663, .int 1207963663, .int 1207963663, .int 1207963663, .int 1342181391, .int 1207963663, .int 1207963663, .int 1207963663, .int 1207963663, .int 1207963663, .int 1207963663, .int 1207963663, .int 1207963663, .int 1207963663, .int 1207963663, .int 1207963663, .int 1207963663, .int 1207963663, .int 1207963663, .int 1207963663, .int 1207963663, .int 1207963663, .int 1207963663, .int 1207963663, .int 1207963663, .int 1207963663, .int 1207963663, .int 1207963663, .int 1207963663, .int 1207963663, .int 1207963663, .int 939524108, .int 1744830488, .int 671113242, .int 671113242, .int 671113242, .int 671113242, .int 1744830492, .int 1744830488, .int 1744830491, .int 1744830492, .int 28677, .int (-402653155), .int 1744830489, .int 1207963664, .int 1744830492, .int 1744830491, .int 671088668, .int 671088665, .int 402654731, .int 402654731, .int 1744830491, .int 134049794, .int 1744830488, .int 1744830488, .int 1744830491, .int 402654475, .int 28677, .int (-402653154), .int 1744832523, .int 1744832523, .int 1744832523, .int 1744830488, .int 8548353, .int 8548353, .int 8548353, .int 8548353, .int 8548353, .int 8548353, .int 8548353, .int 8548353, .int 8548353, .int 8548353, .int 8548353, .int 8548353, .int 8548353, .int 8548353, .int 8548353, .int 8548353, .int 8548353, .int 8548353, .int 8548353, .int 8548353, .int 8548353, .int 8548353, .int 8548353, .int 1744830489, .int 8548353, .int 8548353, .int 8548353, .int 8548353, .int 8548353, .int 8548353, .int 8548353, .int 134049794, .int 8482818, .int 8482818, .int 8482818, .int 8482818, .int 8482818, .int 8482818, .int 8482818, .int 8482818, .int 8482818, .int 8482818, .int 8482818, .int 8482818, .int 8482818, .int 8482818, .int 8482818, .int 8482818, .int 8482818, .int 8482818, .int 8482818, .int 8482818, .int 8482818, .int 8482818, .int 8482818, .int 1744830489, .int 8482818, .int 8482818, .int 8482818, .int 8482818, .int 8482818, .int 8482818, .int 8482818, .int 102592514], vm := .none }]
def classes : Array Class := #[k0, k1, k2, k3, k4, k5, k6, k7, k8, k9, k10, k11, k12, k13, k14, k15, k16, k17, k18, k19, k20, k21, k22, k23, k24, k25, k26, k27, k28]
def interned : List (Array UInt16 × Addr) := []
def slotsUsed : Nat := 818
def theMethod : MethodId := ⟨1, 5⟩
def args0 : Array Value := #[.int 5, .int 6, .long 1, .long 2, .long 3, .int 7]
def aboutOver (below : List Frame) : State where
  vm := { classes := classes, interned := interned.toArray }
  heap := heap
  slotsUsed := slotsUsed
  threads := #[{ frames := .invoking theMethod args0 :: below }]
def below0 : List Frame := [.native { method := ⟨0, 0⟩, args := #[] }]
def about1 : State := aboutOver below0
def p0 : Program := .bare "" "" ""
def e0 : Env := launch0.env 0 0 0
theorem w_frames : about1.frames = Frame.invoking theMethod args0 :: below0 := rfl
set_option maxRecDepth 65536 in
theorem w_args : argsFit about1.vm theMethod args0 = true := by decide +kernel
set_option maxRecDepth 65536 in
theorem w_heap : heapFits about1 = true := by decide +kernel
set_option maxRecDepth 65536 in
theorem w_runnable : about1.curStatus? = some .runnable := by decide +kernel
set_option maxRecDepth 65536 in
theorem w_alone : about1.alone = true := by decide +kernel
set_option maxRecDepth 65536 in
theorem w_named : about1.methodNamed? x = some theMethod := by decide +kernel
set_option maxRecDepth 65536 in
theorem w_hears : about1.hears theMethod below0 = true := by decide +kernel
set_option maxRecDepth 65536 in
theorem w_ripe : about1.ripe theMethod args0 below0 = true := by decide +kernel
theorem w_running : about1.status = .running := rfl
set_option maxRecDepth 65536 in
theorem w_room : about1.hasRoom e0.platform room_1 = true :=
  launch0.hasRoom_least _ room_1 (by decide +kernel) (by decide +kernel) (by decide +kernel) (by decide +kernel) (by decide +kernel) (by decide +kernel)
theorem allAtoms_all (ts : List Jvm.Cond) (a : Array Jvm.Value) (st : Jvm.State) : (allAtoms ts).before a st = ts.all (fun c => c.before a st) := by
  induction ts with
  | nil => rfl
  | cons c t ih =>
    show (Jvm.Cond.and c (allAtoms t)).before a st = _
    rw [Jvm.Cond.before_and, ih, List.all_cons]
def words1 : List Jvm.Cond := Jvm.Cond.code x code maxLocals ret :: tables_1
/-- a 'code' word, met by the world's own term for the bytes: nothing is compared byte by byte -/
theorem code_word {y : MethodName} {bytes : ByteArray} {mx : Nat} {rt : Option FieldType} {a : Array Value} {s : State} {m : MethodId} {meth : Method} {c : Code} (h1 : s.methodNamed? y = some m) (h2 : s.vm.method? m = some meth) (h3 : meth.code = some c) (h4 : c.code = bytes)
    (h5 : (c.maxLocals == mx && c.exceptionTable.isEmpty && decide (c.maxStack ≤ mostOperands) && decide (meth.sig.returnType = rt) && !meth.locks && decide (parseMethodDescriptor y.desc = some meth.sig)) = true) : (Jvm.Cond.code y bytes mx rt).before a s = true := by
  simp only [Bool.and_eq_true, beq_iff_eq, Bool.not_eq_true', decide_eq_true_eq] at h5
  obtain ⟨⟨⟨⟨⟨g1, g2⟩, g3⟩, g4⟩, g5⟩, g6⟩ := h5
  simp [Cond.before, Cond.holds, Cond.value, h1, h2, h3, h4, g1, g2, g3, g4, g5, g6]
def isCode : Jvm.Cond → Bool
  | .code _ _ _ _ => true
  | _ => false
theorem all_split {L : List Jvm.Cond} {P : Jvm.Cond → Bool} (h1 : L.all (fun c => isCode c || P c) = true) (h2 : ∀ c ∈ L.filter isCode, P c = true) : L.all P = true := by
  refine List.all_eq_true.mpr fun c hc => ?_
  have h := List.all_eq_true.mp h1 c hc
  rcases Bool.eq_false_or_eq_true (isCode c) with hi | hi
  · exact h2 c (List.mem_filter.mpr ⟨hc, hi⟩)
  · simpa [hi] using h
set_option maxRecDepth 65536 in
theorem w_c0 : (Jvm.Cond.code x code maxLocals ret).before args0 about1 = true := code_word (m := ⟨1, 5⟩) (meth := k1m5) (c := k1c5) (by decide +kernel) rfl rfl rfl (by decide +kernel)
set_option maxRecDepth 65536 in
theorem w_c1 : (Jvm.Cond.code ({ cls := "com/example/lean_envelope/leanenvelope/check/ExceededLimitEqualsPinLaw", name := "nonWs", desc := "(I)I" } : Jvm.MethodName) method_2_code (2 : Nat) (Option.some Jvm.ClassFile.FieldType.int)).before args0 about1 = true := code_word (m := ⟨1, 1⟩) (meth := k1m1) (c := k1c1) (by decide +kernel) rfl rfl rfl (by decide +kernel)
set_option maxRecDepth 65536 in
theorem w_c2 : (Jvm.Cond.code ({ cls := "com/example/lean_envelope/leanenvelope/check/ExceededLimitEqualsPinLaw", name := "mk", desc := "(III)Ljava/lang/String;" } : Jvm.MethodName) method_3_code (4 : Nat) (Option.some (Jvm.ClassFile.FieldType.object "java/lang/String"))).before args0 about1 = true := code_word (m := ⟨1, 2⟩) (meth := k1m2) (c := k1c2) (by decide +kernel) rfl rfl rfl (by decide +kernel)
set_option maxRecDepth 65536 in
theorem w_c3 : (Jvm.Cond.code ({ cls := "java/lang/String", name := "<init>", desc := "([C)V" } : Jvm.MethodName) jdk_42_method_3_code (2 : Nat) (Option.none : Option Jvm.ClassFile.FieldType)).before args0 about1 = true := code_word (m := ⟨7, 1⟩) (meth := k7m1) (c := k7c1) (by decide +kernel) rfl rfl rfl (by decide +kernel)
set_option maxRecDepth 65536 in
theorem w_c4 : (Jvm.Cond.code ({ cls := "java/lang/String", name := "<init>", desc := "([CIILjava/lang/Void;)V" } : Jvm.MethodName) jdk_42_method_149_code (6 : Nat) (Option.none : Option Jvm.ClassFile.FieldType)).before args0 about1 = true := code_word (m := ⟨7, 6⟩) (meth := k7m6) (c := k7c6) (by decide +kernel) rfl rfl rfl (by decide +kernel)
set_option maxRecDepth 65536 in
theorem w_c5 : (Jvm.Cond.code ({ cls := "java/lang/Object", name := "<init>", desc := "()V" } : Jvm.MethodName) object_method_1_code (1 : Nat) (Option.none : Option Jvm.ClassFile.FieldType)).before args0 about1 = true := code_word (m := ⟨0, 0⟩) (meth := k0m0) (c := k0c0) (by decide +kernel) rfl rfl rfl (by decide +kernel)
set_option maxRecDepth 65536 in
theorem w_c6 : (Jvm.Cond.code ({ cls := "java/lang/StringUTF16", name := "compress", desc := "([CII)[B" } : Jvm.MethodName) jdk_52_method_16_code (6 : Nat) (Option.some (Jvm.ClassFile.FieldType.array Jvm.ClassFile.FieldType.byte))).before args0 about1 = true := code_word (m := ⟨8, 2⟩) (meth := k8m2) (c := k8c2) (by decide +kernel) rfl rfl rfl (by decide +kernel)
set_option maxRecDepth 65536 in
theorem w_c7 : (Jvm.Cond.code ({ cls := "java/lang/StringUTF16", name := "compress", desc := "([CI[BII)I" } : Jvm.MethodName) jdk_52_method_21_code (7 : Nat) (Option.some Jvm.ClassFile.FieldType.int)).before args0 about1 = true := code_word (m := ⟨8, 3⟩) (meth := k8m3) (c := k8c3) (by decide +kernel) rfl rfl rfl (by decide +kernel)
set_option maxRecDepth 65536 in
theorem w_c8 : (Jvm.Cond.code ({ cls := "java/lang/StringUTF16", name := "coderFromArrayLen", desc := "([BI)B" } : Jvm.MethodName) jdk_52_method_15_code (2 : Nat) (Option.some Jvm.ClassFile.FieldType.byte)).before args0 about1 = true := code_word (m := ⟨8, 1⟩) (meth := k8m1) (c := k8c1) (by decide +kernel) rfl rfl rfl (by decide +kernel)
set_option maxRecDepth 65536 in
theorem w_c9 : (Jvm.Cond.code ({ cls := "com/example/lean_envelope/leanenvelope/check/ExceededLimitEqualsPinLaw", name := "mx", desc := "(J)J" } : Jvm.MethodName) method_4_code (4 : Nat) (Option.some Jvm.ClassFile.FieldType.long)).before args0 about1 = true := code_word (m := ⟨1, 3⟩) (meth := k1m3) (c := k1c3) (by decide +kernel) rfl rfl rfl (by decide +kernel)
set_option maxRecDepth 65536 in
theorem w_c10 : (Jvm.Cond.code ({ cls := "com/example/lean_envelope/leanenvelope/check/ExceededLimitEqualsPinLaw", name := "ac", desc := "(JJ)J" } : Jvm.MethodName) method_5_code (6 : Nat) (Option.some Jvm.ClassFile.FieldType.long)).before args0 about1 = true := code_word (m := ⟨1, 4⟩) (meth := k1m4) (c := k1c4) (by decide +kernel) rfl rfl rfl (by decide +kernel)
set_option maxRecDepth 65536 in
theorem w_c11 : (Jvm.Cond.code ({ cls := "com/example/lean_envelope/leanenvelope/check/ExceededLimit", name := "<init>", desc := "(Ljava/lang/String;JJLcom/example/lean_envelope/leanenvelope/check/ExceededLimit$Unit;)V" } : Jvm.MethodName) prog_2_method_1_code (7 : Nat) (Option.none : Option Jvm.ClassFile.FieldType)).before args0 about1 = true := code_word (m := ⟨11, 0⟩) (meth := k11m0) (c := k11c0) (by decide +kernel) rfl rfl rfl (by decide +kernel)
set_option maxRecDepth 65536 in
theorem w_c12 : (Jvm.Cond.code ({ cls := "java/util/Objects", name := "requireNonNull", desc := "(Ljava/lang/Object;Ljava/lang/String;)Ljava/lang/Object;" } : Jvm.MethodName) jdk_31_method_11_code (2 : Nat) (Option.some (Jvm.ClassFile.FieldType.object "java/lang/Object"))).before args0 about1 = true := code_word (m := ⟨12, 1⟩) (meth := k12m1) (c := k12c1) (by decide +kernel) rfl rfl rfl (by decide +kernel)
set_option maxRecDepth 65536 in
theorem w_c13 : (Jvm.Cond.code ({ cls := "java/lang/String", name := "isBlank", desc := "()Z" } : Jvm.MethodName) jdk_42_method_117_code (1 : Nat) (Option.some Jvm.ClassFile.FieldType.boolean)).before args0 about1 = true := code_word (m := ⟨7, 4⟩) (meth := k7m4) (c := k7c4) (by decide +kernel) rfl rfl rfl (by decide +kernel)
set_option maxRecDepth 65536 in
theorem w_c14 : (Jvm.Cond.code ({ cls := "java/lang/String", name := "indexOfNonWhitespace", desc := "()I" } : Jvm.MethodName) jdk_42_method_120_code (1 : Nat) (Option.some Jvm.ClassFile.FieldType.int)).before args0 about1 = true := code_word (m := ⟨7, 5⟩) (meth := k7m5) (c := k7c5) (by decide +kernel) rfl rfl rfl (by decide +kernel)
set_option maxRecDepth 65536 in
theorem w_c15 : (Jvm.Cond.code ({ cls := "java/lang/String", name := "isLatin1", desc := "()Z" } : Jvm.MethodName) jdk_42_method_154_code (1 : Nat) (Option.some Jvm.ClassFile.FieldType.boolean)).before args0 about1 = true := code_word (m := ⟨7, 8⟩) (meth := k7m8) (c := k7c8) (by decide +kernel) rfl rfl rfl (by decide +kernel)
set_option maxRecDepth 65536 in
theorem w_c16 : (Jvm.Cond.code ({ cls := "java/lang/StringLatin1", name := "indexOfNonWhitespace", desc := "([B)I" } : Jvm.MethodName) jdk_43_method_37_code (4 : Nat) (Option.some Jvm.ClassFile.FieldType.int)).before args0 about1 = true := code_word (m := ⟨13, 2⟩) (meth := k13m2) (c := k13c2) (by decide +kernel) rfl rfl rfl (by decide +kernel)
set_option maxRecDepth 65536 in
theorem w_c17 : (Jvm.Cond.code ({ cls := "java/lang/StringLatin1", name := "getChar", desc := "([BI)C" } : Jvm.MethodName) jdk_43_method_44_code (2 : Nat) (Option.some Jvm.ClassFile.FieldType.char)).before args0 about1 = true := code_word (m := ⟨13, 3⟩) (meth := k13m3) (c := k13c3) (by decide +kernel) rfl rfl rfl (by decide +kernel)
set_option maxRecDepth 65536 in
theorem w_c18 : (Jvm.Cond.code ({ cls := "java/lang/CharacterDataLatin1", name := "isWhitespace", desc := "(I)Z" } : Jvm.MethodName) jdk_116_method_26_code (3 : Nat) (Option.some Jvm.ClassFile.FieldType.boolean)).before args0 about1 = true := code_word (m := ⟨15, 1⟩) (meth := k15m1) (c := k15c1) (by decide +kernel) rfl rfl rfl (by decide +kernel)
set_option maxRecDepth 65536 in
theorem w_c19 : (Jvm.Cond.code ({ cls := "java/lang/CharacterDataLatin1", name := "getProperties", desc := "(I)I" } : Jvm.MethodName) jdk_116_method_1_code (4 : Nat) (Option.some Jvm.ClassFile.FieldType.int)).before args0 about1 = true := code_word (m := ⟨15, 0⟩) (meth := k15m0) (c := k15c0) (by decide +kernel) rfl rfl rfl (by decide +kernel)
set_option maxRecDepth 65536 in
theorem w_c20 : (Jvm.Cond.code ({ cls := "java/lang/String", name := "length", desc := "()I" } : Jvm.MethodName) jdk_42_method_54_code (1 : Nat) (Option.some Jvm.ClassFile.FieldType.int)).before args0 about1 = true := code_word (m := ⟨7, 2⟩) (meth := k7m2) (c := k7c2) (by decide +kernel) rfl rfl rfl (by decide +kernel)
set_option maxRecDepth 65536 in
theorem w_c21 : (Jvm.Cond.code ({ cls := "java/lang/String", name := "coder", desc := "()B" } : Jvm.MethodName) jdk_42_method_152_code (1 : Nat) (Option.some Jvm.ClassFile.FieldType.byte)).before args0 about1 = true := code_word (m := ⟨7, 7⟩) (meth := k7m7) (c := k7c7) (by decide +kernel) rfl rfl rfl (by decide +kernel)
set_option maxRecDepth 65536 in
theorem w_c22 : (Jvm.Cond.code ({ cls := "com/example/lean_envelope/leanenvelope/check/ExceededLimit", name := "equals", desc := "(Ljava/lang/Object;)Z" } : Jvm.MethodName) prog_2_method_6_code (4 : Nat) (Option.some Jvm.ClassFile.FieldType.boolean)).before args0 about1 = true := code_word (m := ⟨11, 1⟩) (meth := k11m1) (c := k11c1) (by decide +kernel) rfl rfl rfl (by decide +kernel)
set_option maxRecDepth 65536 in
theorem w_c23 : (Jvm.Cond.code ({ cls := "java/lang/String", name := "equals", desc := "(Ljava/lang/Object;)Z" } : Jvm.MethodName) jdk_42_method_66_code (3 : Nat) (Option.some Jvm.ClassFile.FieldType.boolean)).before args0 about1 = true := code_word (m := ⟨7, 3⟩) (meth := k7m3) (c := k7c3) (by decide +kernel) rfl rfl rfl (by decide +kernel)
set_option maxRecDepth 65536 in
theorem w_c24 : (Jvm.Cond.code ({ cls := "java/lang/StringLatin1", name := "equals", desc := "([B[B)Z" } : Jvm.MethodName) jdk_43_method_13_code (3 : Nat) (Option.some Jvm.ClassFile.FieldType.boolean)).before args0 about1 = true := code_word (m := ⟨13, 1⟩) (meth := k13m1) (c := k13c1) (by decide +kernel) rfl rfl rfl (by decide +kernel)
set_option maxRecDepth 65536 in
theorem w_c25 : (Jvm.Cond.code ({ cls := "java/lang/Long", name := "valueOf", desc := "(J)Ljava/lang/Long;" } : Jvm.MethodName) jdk_35_method_24_code (3 : Nat) (Option.some (Jvm.ClassFile.FieldType.object "java/lang/Long"))).before args0 about1 = true := code_word (m := ⟨17, 0⟩) (meth := k17m0) (c := k17c0) (by decide +kernel) rfl rfl rfl (by decide +kernel)
set_option maxRecDepth 65536 in
theorem w_c26 : (Jvm.Cond.code ({ cls := "java/lang/Long", name := "<init>", desc := "(J)V" } : Jvm.MethodName) jdk_35_method_26_code (3 : Nat) (Option.none : Option Jvm.ClassFile.FieldType)).before args0 about1 = true := code_word (m := ⟨17, 1⟩) (meth := k17m1) (c := k17c1) (by decide +kernel) rfl rfl rfl (by decide +kernel)
set_option maxRecDepth 65536 in
theorem w_c27 : (Jvm.Cond.code ({ cls := "java/lang/Number", name := "<init>", desc := "()V" } : Jvm.MethodName) jdk_18_method_1_code (1 : Nat) (Option.none : Option Jvm.ClassFile.FieldType)).before args0 about1 = true := code_word (m := ⟨16, 0⟩) (meth := k16m0) (c := k16c0) (by decide +kernel) rfl rfl rfl (by decide +kernel)
def codes1 : List Jvm.Cond := [Jvm.Cond.code x code maxLocals ret, Jvm.Cond.code ({ cls := "com/example/lean_envelope/leanenvelope/check/ExceededLimitEqualsPinLaw", name := "nonWs", desc := "(I)I" } : Jvm.MethodName) method_2_code (2 : Nat) (Option.some Jvm.ClassFile.FieldType.int), Jvm.Cond.code ({ cls := "com/example/lean_envelope/leanenvelope/check/ExceededLimitEqualsPinLaw", name := "mk", desc := "(III)Ljava/lang/String;" } : Jvm.MethodName) method_3_code (4 : Nat) (Option.some (Jvm.ClassFile.FieldType.object "java/lang/String")), Jvm.Cond.code ({ cls := "java/lang/String", name := "<init>", desc := "([C)V" } : Jvm.MethodName) jdk_42_method_3_code (2 : Nat) (Option.none : Option Jvm.ClassFile.FieldType), Jvm.Cond.code ({ cls := "java/lang/String", name := "<init>", desc := "([CIILjava/lang/Void;)V" } : Jvm.MethodName) jdk_42_method_149_code (6 : Nat) (Option.none : Option Jvm.ClassFile.FieldType), Jvm.Cond.code ({ cls := "java/lang/Object", name := "<init>", desc := "()V" } : Jvm.MethodName) object_method_1_code (1 : Nat) (Option.none : Option Jvm.ClassFile.FieldType), Jvm.Cond.code ({ cls := "java/lang/StringUTF16", name := "compress", desc := "([CII)[B" } : Jvm.MethodName) jdk_52_method_16_code (6 : Nat) (Option.some (Jvm.ClassFile.FieldType.array Jvm.ClassFile.FieldType.byte)), Jvm.Cond.code ({ cls := "java/lang/StringUTF16", name := "compress", desc := "([CI[BII)I" } : Jvm.MethodName) jdk_52_method_21_code (7 : Nat) (Option.some Jvm.ClassFile.FieldType.int), Jvm.Cond.code ({ cls := "java/lang/StringUTF16", name := "coderFromArrayLen", desc := "([BI)B" } : Jvm.MethodName) jdk_52_method_15_code (2 : Nat) (Option.some Jvm.ClassFile.FieldType.byte), Jvm.Cond.code ({ cls := "com/example/lean_envelope/leanenvelope/check/ExceededLimitEqualsPinLaw", name := "mx", desc := "(J)J" } : Jvm.MethodName) method_4_code (4 : Nat) (Option.some Jvm.ClassFile.FieldType.long), Jvm.Cond.code ({ cls := "com/example/lean_envelope/leanenvelope/check/ExceededLimitEqualsPinLaw", name := "ac", desc := "(JJ)J" } : Jvm.MethodName) method_5_code (6 : Nat) (Option.some Jvm.ClassFile.FieldType.long), Jvm.Cond.code ({ cls := "com/example/lean_envelope/leanenvelope/check/ExceededLimit", name := "<init>", desc := "(Ljava/lang/String;JJLcom/example/lean_envelope/leanenvelope/check/ExceededLimit$Unit;)V" } : Jvm.MethodName) prog_2_method_1_code (7 : Nat) (Option.none : Option Jvm.ClassFile.FieldType), Jvm.Cond.code ({ cls := "java/util/Objects", name := "requireNonNull", desc := "(Ljava/lang/Object;Ljava/lang/String;)Ljava/lang/Object;" } : Jvm.MethodName) jdk_31_method_11_code (2 : Nat) (Option.some (Jvm.ClassFile.FieldType.object "java/lang/Object")), Jvm.Cond.code ({ cls := "java/lang/String", name := "isBlank", desc := "()Z" } : Jvm.MethodName) jdk_42_method_117_code (1 : Nat) (Option.some Jvm.ClassFile.FieldType.boolean), Jvm.Cond.code ({ cls := "java/lang/String", name := "indexOfNonWhitespace", desc := "()I" } : Jvm.MethodName) jdk_42_method_120_code (1 : Nat) (Option.some Jvm.ClassFile.FieldType.int), Jvm.Cond.code ({ cls := "java/lang/String", name := "isLatin1", desc := "()Z" } : Jvm.MethodName) jdk_42_method_154_code (1 : Nat) (Option.some Jvm.ClassFile.FieldType.boolean), Jvm.Cond.code ({ cls := "java/lang/StringLatin1", name := "indexOfNonWhitespace", desc := "([B)I" } : Jvm.MethodName) jdk_43_method_37_code (4 : Nat) (Option.some Jvm.ClassFile.FieldType.int), Jvm.Cond.code ({ cls := "java/lang/StringLatin1", name := "getChar", desc := "([BI)C" } : Jvm.MethodName) jdk_43_method_44_code (2 : Nat) (Option.some Jvm.ClassFile.FieldType.char), Jvm.Cond.code ({ cls := "java/lang/CharacterDataLatin1", name := "isWhitespace", desc := "(I)Z" } : Jvm.MethodName) jdk_116_method_26_code (3 : Nat) (Option.some Jvm.ClassFile.FieldType.boolean), Jvm.Cond.code ({ cls := "java/lang/CharacterDataLatin1", name := "getProperties", desc := "(I)I" } : Jvm.MethodName) jdk_116_method_1_code (4 : Nat) (Option.some Jvm.ClassFile.FieldType.int), Jvm.Cond.code ({ cls := "java/lang/String", name := "length", desc := "()I" } : Jvm.MethodName) jdk_42_method_54_code (1 : Nat) (Option.some Jvm.ClassFile.FieldType.int), Jvm.Cond.code ({ cls := "java/lang/String", name := "coder", desc := "()B" } : Jvm.MethodName) jdk_42_method_152_code (1 : Nat) (Option.some Jvm.ClassFile.FieldType.byte), Jvm.Cond.code ({ cls := "com/example/lean_envelope/leanenvelope/check/ExceededLimit", name := "equals", desc := "(Ljava/lang/Object;)Z" } : Jvm.MethodName) prog_2_method_6_code (4 : Nat) (Option.some Jvm.ClassFile.FieldType.boolean), Jvm.Cond.code ({ cls := "java/lang/String", name := "equals", desc := "(Ljava/lang/Object;)Z" } : Jvm.MethodName) jdk_42_method_66_code (3 : Nat) (Option.some Jvm.ClassFile.FieldType.boolean), Jvm.Cond.code ({ cls := "java/lang/StringLatin1", name := "equals", desc := "([B[B)Z" } : Jvm.MethodName) jdk_43_method_13_code (3 : Nat) (Option.some Jvm.ClassFile.FieldType.boolean), Jvm.Cond.code ({ cls := "java/lang/Long", name := "valueOf", desc := "(J)Ljava/lang/Long;" } : Jvm.MethodName) jdk_35_method_24_code (3 : Nat) (Option.some (Jvm.ClassFile.FieldType.object "java/lang/Long")), Jvm.Cond.code ({ cls := "java/lang/Long", name := "<init>", desc := "(J)V" } : Jvm.MethodName) jdk_35_method_26_code (3 : Nat) (Option.none : Option Jvm.ClassFile.FieldType), Jvm.Cond.code ({ cls := "java/lang/Number", name := "<init>", desc := "()V" } : Jvm.MethodName) jdk_18_method_1_code (1 : Nat) (Option.none : Option Jvm.ClassFile.FieldType)]
set_option maxRecDepth 65536 in
theorem codes_eq : words1.filter isCode = codes1 := rfl
theorem w_codes : ∀ c ∈ words1.filter isCode, c.before args0 about1 = true := by
  rw [codes_eq]
  intro c hc
  simp only [codes1, List.mem_cons, List.not_mem_nil, or_false] at hc
  rcases hc with rfl | rfl | rfl | rfl | rfl | rfl | rfl | rfl | rfl | rfl | rfl | rfl | rfl | rfl | rfl | rfl | rfl | rfl | rfl | rfl | rfl | rfl | rfl | rfl | rfl | rfl | rfl | rfl
  · exact w_c0
  · exact w_c1
  · exact w_c2
  · exact w_c3
  · exact w_c4
  · exact w_c5
  · exact w_c6
  · exact w_c7
  · exact w_c8
  · exact w_c9
  · exact w_c10
  · exact w_c11
  · exact w_c12
  · exact w_c13
  · exact w_c14
  · exact w_c15
  · exact w_c16
  · exact w_c17
  · exact w_c18
  · exact w_c19
  · exact w_c20
  · exact w_c21
  · exact w_c22
  · exact w_c23
  · exact w_c24
  · exact w_c25
  · exact w_c26
  · exact w_c27
set_option maxRecDepth 65536 in
theorem w_t1 : (words1.take 24).all (fun c => isCode c || c.before args0 about1) = true := by decide +kernel
set_option maxRecDepth 65536 in
theorem w_t2 : ((words1.drop 24).take 24).all (fun c => isCode c || c.before args0 about1) = true := by decide +kernel
set_option maxRecDepth 65536 in
theorem w_t3 : (((words1.drop 24).drop 24).take 24).all (fun c => isCode c || c.before args0 about1) = true := by decide +kernel
set_option maxRecDepth 65536 in
theorem w_t4 : ((((words1.drop 24).drop 24).drop 24).take 24).all (fun c => isCode c || c.before args0 about1) = true := by decide +kernel
set_option maxRecDepth 65536 in
theorem w_t5 : (((((words1.drop 24).drop 24).drop 24).drop 24).take 24).all (fun c => isCode c || c.before args0 about1) = true := by decide +kernel
set_option maxRecDepth 65536 in
theorem w_t6 : ((((((words1.drop 24).drop 24).drop 24).drop 24).drop 24).take 24).all (fun c => isCode c || c.before args0 about1) = true := by decide +kernel
set_option maxRecDepth 65536 in
theorem w_t7 : ((((((words1.drop 24).drop 24).drop 24).drop 24).drop 24).drop 24).all (fun c => isCode c || c.before args0 about1) = true := by decide +kernel
theorem w_tables : (allAtoms (Jvm.Cond.code x code maxLocals ret :: tables_1)).before args0 about1 = true := by
  rw [allAtoms_all]
  show words1.all (fun c => c.before args0 about1) = true
  refine all_split ?_ w_codes
  rw [← List.take_append_drop 24 words1, List.all_append, w_t1, ← List.take_append_drop 24 (words1.drop 24), List.all_append, w_t2, ← List.take_append_drop 24 ((words1.drop 24).drop 24), List.all_append, w_t3, ← List.take_append_drop 24 (((words1.drop 24).drop 24).drop 24), List.all_append, w_t4, ← List.take_append_drop 24 ((((words1.drop 24).drop 24).drop 24).drop 24), List.all_append, w_t5, ← List.take_append_drop 24 (((((words1.drop 24).drop 24).drop 24).drop 24).drop 24), List.all_append, w_t6, w_t7]
  rfl
set_option maxRecDepth 65536 in
theorem w_rest : rest_1_c.before args0 about1 = true := by decide +kernel
set_option maxRecDepth 65536 in
theorem w_case : (Jvm.Cond.and given_1 narrow_1).before args0 about1 = true := by decide +kernel
theorem w_applies : (headSpec (Jvm.Cond.code x code maxLocals ret :: tables_1) room_1).applies x e0.platform about1 = true :=
  (Spec.applies_iff w_frames).mpr ⟨w_running, w_runnable, w_alone, w_named, w_hears, w_ripe, w_room, w_tables⟩
theorem atStart : AtStart classFile x code maxLocals ret World_1 tables_1 room_1 Calls_1 rest_1 Pre_1 launch0 p0 e0 about1 theMethod args0 below0 :=
  ⟨lists_1, trivial, launch0.admits_env _ _ _, launch0.least_env, fairChoices_fair.cas, fairChoices_fair.clock, w_frames, w_args, w_heap, w_applies, trivial, w_rest, w_case⟩
end start1
theorem witness_1 : WitnessClaimed_1 := ⟨start1.p0, start1.e0, start1.about1, start1.theMethod, start1.args0, start1.below0, start1.atStart⟩
end Jvm.Pilot.@@N@@
