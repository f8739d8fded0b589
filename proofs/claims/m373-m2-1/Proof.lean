import JvmDerived
import JvmDerived.Pilot.@@N@@Statement
import JvmDerived.Pilot.@@N@@Code
set_option linter.unusedVariables false
set_option linter.unusedSimpArgs false
namespace Jvm.OwnK
open Sem ClassFile Op Lib Bundle Jvm.Stand Jvm.Free Jvm.LawKit Jvm.RoadKit
/-! ## the end of a body, the goal, the point -/
def Fne (s : State) (n0 : Nat) (Z : State) (EL : List (String × Nat)) (nw : Bool) (rm : Room) (Q : Option Value → Heap → List Addr → Prop) (o : Outcome) (U : State) : Prop :=
  ∃ v L so, o = .returned v ∧ Q v U.heap so ∧ Fr n0 L ∧ CHr Z EL s.vm s.heap U.vm U.heap ∧ (∀ x ∈ so, n0 ≤ x ∧ x < U.heap.size ∧ Safe Z EL U.vm U.heap x) ∧ (nw = true → s.WarmedH U.vm) ∧ ReturnedEndW s o U L rm.cells rm.slots
def WP (p : Program) (e : Env) (below : List Frame) (Φ : Outcome → State → Prop) (T : State) (g : JFrame) : Prop :=
  ∃ s₂ o, Steps p.tables e below (T.setTop g) s₂ ∧ s₂.status = .running ∧ Ended s₂ below o ∧ Φ o s₂
def WS (p : Program) (l : Launch) (e : Env) (R : Room) (s : State) (m : MethodId) (args : Array Value) (below : List Frame) (meth : Method) (c : Code) (Z : State) (a0 : Array Value) (EL : List (String × Nat)) (nw : Bool) (n0 : Nat) (y : MethodName) (code : ByteArray) (maxL : Nat) (ret : Option FieldType)
    (T : State) (h : Heap) (sf : List Addr) (cells slots : Nat) : Prop :=
  ∃ locs, Stand p l e R (s.setVm T.vm) m args below meth c T locs cells slots ∧ T.heap = h ∧ s.Since T.vm h.size ∧ Z.Warmed39 T.vm ∧ T.vm.findClass y.cls = some m.cls ∧ CHr Z EL s.vm s.heap T.vm h ∧ Fr n0 locs ∧ n0 ≤ h.size ∧
    (∀ x ∈ sf, n0 ≤ x ∧ x < h.size ∧ Safe Z EL T.vm h x) ∧ EW Z a0 EL ∧ (nw = true → s.WarmedH T.vm) ∧ (p.tables.exec = Jvm.exec ∧ c.code = code ∧ meth.sig.returnType = ret ∧ meth.locks = false ∧ c.maxLocals = maxL ∧ meth.name = y.name)
def Ct (l : Launch) (Z : State) (a0 : Array Value) (EL : List (String × Nat)) (nw : Bool) (y : MethodName) (bytes : ByteArray) (maxL : Nat) (ret : Option FieldType) (rm : Room) (as' : Array Value) (h : Heap) (sf : List Addr) (n0 : Nat) (Q : Option Value → Heap → List Addr → Prop) : Prop :=
  ∀ ws, MetFree l y (head1 (Cond.code y bytes maxL ret :: ws) rm) (fun a U => a = as' ∧ Z.Warmed39 U.vm ∧ U.heap = h ∧ CHv Z EL U.vm h ∧ n0 ≤ h.size ∧ EW Z a0 EL ∧ ∀ x ∈ sf, n0 ≤ x ∧ x < h.size ∧ Safe Z EL U.vm h x) (fun _ _ _ _ _ => True)
    (fun _ U o U' => Fne U n0 Z EL nw rm Q o U')
def D (code : ByteArray) (pc : Nat) (i : Instr) (n pc' : Nat) : Prop := decode code pc = .ok (i, n) ∧ pc' = pc + n
section Base
variable {p : Program} {l : Launch} {e : Env} {R : Room} {s : State} {m : MethodId} {args : Array Value} {below : List Frame} {meth : Method} {c : Code} {Z : State} {EL : List (String × Nat)} {nw : Bool} {n0 : Nat} {y : MethodName} {code : ByteArray} {maxL : Nat} {ret : Option FieldType} {T : State} {h : Heap} {sf : List Addr} {cells slots : Nat} {Φ : Outcome → State → Prop} {a0 : Array Value} {pc pc' : Nat} {L : Array Slot} {S : List Value}
theorem WP.st {T' : State} {g g' : JFrame} (k : ∀ t, Steps p.tables e below (T'.setTop g') t → Steps p.tables e below (T.setTop g) t) (w : WP p e below Φ T' g') : WP p e below Φ T g := by
  obtain ⟨s₂, o, h1, h2⟩ := w; exact ⟨s₂, o, k _ h1, h2⟩
theorem WP.cast {g g' : JFrame} (q : g = g') (w : WP p e below Φ T g') : WP p e below Φ T g := q ▸ w
theorem WP.steps {T' : State} {g g' : JFrame} (k : Steps p.tables e below (T.setTop g) (T'.setTop g')) (w : WP p e below Φ T' g') : WP p e below Φ T g := WP.st (fun _ q => k.trans q) w

theorem WS.here (W : WS p l e R s m args below meth c Z a0 EL nw n0 y code maxL ret T h sf cells slots) : At T m c below := by obtain ⟨_, X, -⟩ := W; exact X.here
theorem WS.hx (W : WS p l e R s m args below meth c Z a0 EL nw n0 y code maxL ret T h sf cells slots) : p.tables.exec = Jvm.exec := by obtain ⟨_, _, _, _, _, _, _, _, _, _, _, _, q, -⟩ := W; exact q
theorem WS.hby (W : WS p l e R s m args below meth c Z a0 EL nw n0 y code maxL ret T h sf cells slots) : c.code = code := by obtain ⟨_, _, _, _, _, _, _, _, _, _, _, _, _, q, -⟩ := W; exact q
theorem WS.hn (W : WS p l e R s m args below meth c Z a0 EL nw n0 y code maxL ret T h sf cells slots) : n0 ≤ h.size := by obtain ⟨_, _, _, _, _, _, _, _, q, -⟩ := W; exact q
theorem WS.hT (W : WS p l e R s m args below meth c Z a0 EL nw n0 y code maxL ret T h sf cells slots) : T.heap = h := by obtain ⟨_, _, q, -⟩ := W; exact q
theorem WS.hZ (W : WS p l e R s m args below meth c Z a0 EL nw n0 y code maxL ret T h sf cells slots) : Z.Warmed39 T.vm := by obtain ⟨_, _, _, _, q, -⟩ := W; exact q
theorem WS.lt (W : WS p l e R s m args below meth c Z a0 EL nw n0 y code maxL ret T h sf cells slots) {x : Addr} (q : x ∈ sf) : x < h.size := by obtain ⟨_, _, _, _, _, _, _, _, _, w, -⟩ := W; exact (w x q).2.1
theorem WS.ge (W : WS p l e R s m args below meth c Z a0 EL nw n0 y code maxL ret T h sf cells slots) {x : Addr} (q : x ∈ sf) : n0 ≤ x := by obtain ⟨_, _, _, _, _, _, _, _, _, w, -⟩ := W; exact (w x q).1
theorem WS.hd (W : WS p l e R s m args below meth c Z a0 EL nw n0 y code maxL ret T h sf cells slots) {i : Instr} {n : Nat} (d : D code pc i n pc') : decode c.code pc = .ok (i, n) := hb W.hby d.1
theorem WS.mono (W : WS p l e R s m args below meth c Z a0 EL nw n0 y code maxL ret T h sf cells slots) {cells' slots' : Nat} {sf' : List Addr} (hc : cells ≤ cells') (hs : slots ≤ slots') (hf : ∀ x ∈ sf', x ∈ sf) : WS p l e R s m args below meth c Z a0 EL nw n0 y code maxL ret T h sf' cells' slots' := by
  obtain ⟨locs, X, a1, a2, a3, a4, a5, a6, a7, a8, a9⟩ := W
  exact ⟨locs, X.mono hc hs, a1, a2, a3, a4, a5, a6, a7, fun x hx => a8 x (hf x hx), a9⟩
/-- a step by a law of the library over the point's own start: the point behind it -/
theorem WS.pack {T' : State} {h' : Heap} {sf' : List Addr} {locs' : List Loc} {cells' slots' : Nat} (W : WS p l e R s m args below meth c Z a0 EL nw n0 y code maxL ret T h sf cells slots) (X' : Stand p l e R (s.setVm T.vm) m args below meth c T' locs' cells' slots') (eT : T'.heap = h') (N : Fr n0 locs') (hle : h.size ≤ h'.size) (K : CHv Z EL T.vm h → CHv Z EL T.vm h' ∧ ∀ y, Bk Z EL T.vm h' y → Bk Z EL T.vm h y) (hf : ∀ x ∈ sf', x ∈ sf ∨ (h.size ≤ x ∧ x < h'.size)) :
    WS p l e R s m args below meth c Z a0 EL nw n0 y code maxL ret T' h' sf' cells' slots' := by
  obtain ⟨locs, X, a1, a2, a3, a4, a5, a6, a7, a8, hE, aW, a10⟩ := W
  have C0 := K a5.1
  have C1 : CHr Z EL T.vm h T.vm h' := ⟨C0.1, hle, fun z q => Or.inl (C0.2 z q)⟩
  have C2 := CHv.at X' a3 hE C1.1
  have hS2 : (s.setVm T.vm).Since T'.vm h'.size := X'.warmed.since _
  refine ⟨locs', X'.retabled X'.warmed.wide, eT, a2.trans hS2 hle, wtrans (s := s.setVm T.vm) a3 X'.warmed, by rw [X'.warmed.alike.findClass]; exact a4, (a5.trans C1).trans C2, N, Nat.le_trans a7 hle, fun x hx => ?_, hE, fun u => State.WarmedH.trans (t := s.setVm T.vm) (aW u) X'.warmed, a10⟩
  rcases hf x hx with q | ⟨q1, q2⟩
  · obtain ⟨b1, b2, b3⟩ := a8 x q
    exact ⟨b1, Nat.lt_of_lt_of_le b2 hle, C2.safe (Nat.lt_of_lt_of_le b2 hle) (C1.safe b2 b3)⟩
  · refine ⟨Nat.le_trans a7 q1, q2, C2.safe q2 fun B => ?_⟩
    obtain ⟨cell, z⟩ := (C0.2 x B).there
    have := (Array.getElem?_eq_some_iff.mp z).1; omega
/-- nothing of the heap moved -/
theorem WS.same {T' : State} (W : WS p l e R s m args below meth c Z a0 EL nw n0 y code maxL ret T h sf cells slots) (f : ∀ locs, Stand p l e R (s.setVm T.vm) m args below meth c T locs cells slots → Stand p l e R (s.setVm T.vm) m args below meth c T' locs cells slots) (eT : T'.heap = h) : WS p l e R s m args below meth c Z a0 EL nw n0 y code maxL ret T' h sf cells slots := by
  obtain ⟨locs, X, a1, a2, a3, a4, a5, a6, a7, a8, a9⟩ := id W
  exact W.pack (f _ X) eT a6 (Nat.le_refl _) (fun H => ⟨H, fun _ q => q⟩) (fun x hx => Or.inl hx)

theorem k_aloadN (W : WS p l e R s m args below meth c Z a0 EL nw n0 y code maxL ret T h sf cells slots) {k : Fin 4} {v : Value} (d : D code pc (.aload_n k) 1 pc')   (hl : L[k.val]? = some (.val v)) (hv : v.isRef = true) (w : WP p e below Φ T (mkF m pc' L (v :: S))) : WP p e below Φ T (mkF m pc L (S)) := by
  obtain ⟨hd, rfl⟩ := d
  exact WP.st (fun _ q => XS.aloadN W.here W.hx rfl (hb W.hby hd) hl hv q) w
theorem k_aload (W : WS p l e R s m args below meth c Z a0 EL nw n0 y code maxL ret T h sf cells slots) {k : Nat} {v : Value} (d : D code pc (.aload k) 2 pc')   (hl : L[k]? = some (.val v)) (hv : v.isRef = true) (w : WP p e below Φ T (mkF m pc' L (v :: S))) : WP p e below Φ T (mkF m pc L (S)) := by
  obtain ⟨hd, rfl⟩ := d
  exact WP.st (fun _ q => XS.aload W.here W.hx rfl (hb W.hby hd) hl hv q) w
theorem k_iloadN (W : WS p l e R s m args below meth c Z a0 EL nw n0 y code maxL ret T h sf cells slots) {k : Fin 4} {v : Int32} (d : D code pc (.iload_n k) 1 pc')   (hl : L[k.val]? = some (.val (.int v))) (w : WP p e below Φ T (mkF m pc' L (.int v :: S))) : WP p e below Φ T (mkF m pc L (S)) := by
  obtain ⟨hd, rfl⟩ := d
  exact WP.st (fun _ q => XS.iloadN W.here W.hx rfl (hb W.hby hd) hl q) w
theorem k_iload (W : WS p l e R s m args below meth c Z a0 EL nw n0 y code maxL ret T h sf cells slots) {k : Nat} {v : Int32} (d : D code pc (.iload k) 2 pc')   (hl : L[k]? = some (.val (.int v))) (w : WP p e below Φ T (mkF m pc' L (.int v :: S))) : WP p e below Φ T (mkF m pc L (S)) := by
  obtain ⟨hd, rfl⟩ := d
  exact WP.st (fun _ q => XS.iload W.here W.hx rfl (hb W.hby hd) hl q) w
theorem k_lloadN (W : WS p l e R s m args below meth c Z a0 EL nw n0 y code maxL ret T h sf cells slots) {k : Fin 4} {v : Int64} (d : D code pc (.lload_n k) 1 pc')   (hl : L[k.val]? = some (.val (.long v))) (w : WP p e below Φ T (mkF m pc' L (.long v :: S))) : WP p e below Φ T (mkF m pc L (S)) := by
  obtain ⟨hd, rfl⟩ := d
  exact WP.st (fun _ q => XS.lloadN W.here W.hx rfl (hb W.hby hd) hl q) w
theorem k_lload (W : WS p l e R s m args below meth c Z a0 EL nw n0 y code maxL ret T h sf cells slots) {k : Nat} {v : Int64} (d : D code pc (.lload k) 2 pc')   (hl : L[k]? = some (.val (.long v))) (w : WP p e below Φ T (mkF m pc' L (.long v :: S))) : WP p e below Φ T (mkF m pc L (S)) := by
  obtain ⟨hd, rfl⟩ := d
  exact WP.st (fun _ q => XS.lload W.here W.hx rfl (hb W.hby hd) hl q) w
theorem k_istoreN (W : WS p l e R s m args below meth c Z a0 EL nw n0 y code maxL ret T h sf cells slots) {k : Fin 4} {x : Int32} {L' : Array Slot} (d : D code pc (.istore_n k) 1 pc')    (hl : storeLocals L k.val (.int x) = some L') (w : WP p e below Φ T (mkF m pc' L' (S))) : WP p e below Φ T (mkF m pc L (.int x :: S)) := by
  obtain ⟨hd, rfl⟩ := d
  exact WP.st (fun _ q => XS.istoreN W.here W.hx rfl (hb W.hby hd) rfl hl q) w
theorem k_istore (W : WS p l e R s m args below meth c Z a0 EL nw n0 y code maxL ret T h sf cells slots) {k : Nat} {x : Int32} {L' : Array Slot} (d : D code pc (.istore k) 2 pc')    (hl : storeLocals L k (.int x) = some L') (w : WP p e below Φ T (mkF m pc' L' (S))) : WP p e below Φ T (mkF m pc L (.int x :: S)) := by
  obtain ⟨hd, rfl⟩ := d
  exact WP.st (fun _ q => XS.istore W.here W.hx rfl (hb W.hby hd) rfl hl q) w
theorem k_lstoreN (W : WS p l e R s m args below meth c Z a0 EL nw n0 y code maxL ret T h sf cells slots) {k : Fin 4} {x : Int64} {L' : Array Slot} (d : D code pc (.lstore_n k) 1 pc')    (hl : storeLocals L k.val (.long x) = some L') (w : WP p e below Φ T (mkF m pc' L' (S))) : WP p e below Φ T (mkF m pc L (.long x :: S)) := by
  obtain ⟨hd, rfl⟩ := d
  exact WP.st (fun _ q => XS.lstoreN W.here W.hx rfl (hb W.hby hd) rfl hl q) w
theorem k_lstore (W : WS p l e R s m args below meth c Z a0 EL nw n0 y code maxL ret T h sf cells slots) {k : Nat} {x : Int64} {L' : Array Slot} (d : D code pc (.lstore k) 2 pc')    (hl : storeLocals L k (.long x) = some L') (w : WP p e below Φ T (mkF m pc' L' (S))) : WP p e below Φ T (mkF m pc L (.long x :: S)) := by
  obtain ⟨hd, rfl⟩ := d
  exact WP.st (fun _ q => XS.lstore W.here W.hx rfl (hb W.hby hd) rfl hl q) w
theorem k_astoreN (W : WS p l e R s m args below meth c Z a0 EL nw n0 y code maxL ret T h sf cells slots) {k : Fin 4} {x : Value} {L' : Array Slot} (d : D code pc (.astore_n k) 1 pc')    (hv : x.isRef = true) (hl : storeLocals L k.val x = some L') (w : WP p e below Φ T (mkF m pc' L' (S))) : WP p e below Φ T (mkF m pc L (x :: S)) := by
  obtain ⟨hd, rfl⟩ := d
  exact WP.st (fun _ q => XS.astoreN W.here W.hx rfl (hb W.hby hd) rfl hv hl q) w
theorem k_astore (W : WS p l e R s m args below meth c Z a0 EL nw n0 y code maxL ret T h sf cells slots) {k : Nat} {x : Value} {L' : Array Slot} (d : D code pc (.astore k) 2 pc')    (hv : x.isRef = true) (hl : storeLocals L k x = some L') (w : WP p e below Φ T (mkF m pc' L' (S))) : WP p e below Φ T (mkF m pc L (x :: S)) := by
  obtain ⟨hd, rfl⟩ := d
  exact WP.st (fun _ q => XS.astore W.here W.hx rfl (hb W.hby hd) rfl hv hl q) w
theorem k_iconst (W : WS p l e R s m args below meth c Z a0 EL nw n0 y code maxL ret T h sf cells slots) {i : Int} {z : Int32} (d : D code pc (.iconst i) 1 pc')   (hz : Int32.ofInt i = z) (w : WP p e below Φ T (mkF m pc' L (.int z :: S))) : WP p e below Φ T (mkF m pc L (S)) := by
  obtain ⟨hd, rfl⟩ := d
  exact WP.st (fun _ q => XS.iconst W.here W.hx rfl (hb W.hby hd) (by rw [hz]; exact q)) w
theorem k_bipush (W : WS p l e R s m args below meth c Z a0 EL nw n0 y code maxL ret T h sf cells slots) {i : Int} {z : Int32} (d : D code pc (.bipush i) 2 pc')   (hz : (Int8.ofInt i).toInt32 = z) (w : WP p e below Φ T (mkF m pc' L (.int z :: S))) : WP p e below Φ T (mkF m pc L (S)) := by
  obtain ⟨hd, rfl⟩ := d
  exact WP.st (fun _ q => XS.bipush W.here W.hx rfl (hb W.hby hd) (by rw [hz]; exact q)) w
theorem k_sipush (W : WS p l e R s m args below meth c Z a0 EL nw n0 y code maxL ret T h sf cells slots) {i : Int} {z : Int32} (d : D code pc (.sipush i) 3 pc')   (hz : (Int16.ofInt i).toInt32 = z) (w : WP p e below Φ T (mkF m pc' L (.int z :: S))) : WP p e below Φ T (mkF m pc L (S)) := by
  obtain ⟨hd, rfl⟩ := d
  exact WP.st (fun _ q => XS.sipush W.here W.hx rfl (hb W.hby hd) (by rw [hz]; exact q)) w
theorem k_lconst (W : WS p l e R s m args below meth c Z a0 EL nw n0 y code maxL ret T h sf cells slots) {k : Fin 2} {z : Int64} (d : D code pc (.lconst k) 1 pc')   (hz : Int64.ofNat k = z) (w : WP p e below Φ T (mkF m pc' L (.long z :: S))) : WP p e below Φ T (mkF m pc L (S)) := by
  obtain ⟨hd, rfl⟩ := d
  exact WP.st (fun _ q => XS.lconst W.here W.hx rfl (hb W.hby hd) (by rw [hz]; exact q)) w
theorem k_aconst (W : WS p l e R s m args below meth c Z a0 EL nw n0 y code maxL ret T h sf cells slots)  (d : D code pc (.aconst_null) 1 pc')  (w : WP p e below Φ T (mkF m pc' L (.null :: S))) : WP p e below Φ T (mkF m pc L (S)) := by
  obtain ⟨hd, rfl⟩ := d
  exact WP.st (fun _ q => XS.aconstNull W.here W.hx rfl (hb W.hby hd) q) w
theorem k_iadd (W : WS p l e R s m args below meth c Z a0 EL nw n0 y code maxL ret T h sf cells slots) {x y z : Int32} (d : D code pc (.iadd) 1 pc')  (hz : x + y = z) (w : WP p e below Φ T (mkF m pc' L (.int z :: S))) : WP p e below Φ T (mkF m pc L (.int y :: .int x :: S)) := by
  obtain ⟨hd, rfl⟩ := d
  exact WP.st (fun _ q => XS.iadd W.here W.hx rfl (hb W.hby hd) rfl (by rw [hz]; exact q)) w
theorem k_isub (W : WS p l e R s m args below meth c Z a0 EL nw n0 y code maxL ret T h sf cells slots) {x y z : Int32} (d : D code pc (.isub) 1 pc')  (hz : x - y = z) (w : WP p e below Φ T (mkF m pc' L (.int z :: S))) : WP p e below Φ T (mkF m pc L (.int y :: .int x :: S)) := by
  obtain ⟨hd, rfl⟩ := d
  exact WP.st (fun _ q => XS.isub W.here W.hx rfl (hb W.hby hd) rfl (by rw [hz]; exact q)) w
theorem k_iand (W : WS p l e R s m args below meth c Z a0 EL nw n0 y code maxL ret T h sf cells slots) {x y z : Int32} (d : D code pc (.iand) 1 pc')  (hz : x &&& y = z) (w : WP p e below Φ T (mkF m pc' L (.int z :: S))) : WP p e below Φ T (mkF m pc L (.int y :: .int x :: S)) := by
  obtain ⟨hd, rfl⟩ := d
  exact WP.st (fun _ q => XS.iand W.here W.hx rfl (hb W.hby hd) rfl (by rw [hz]; exact q)) w
theorem k_imul (W : WS p l e R s m args below meth c Z a0 EL nw n0 y code maxL ret T h sf cells slots) {x y z : Int32} (d : D code pc (.imul) 1 pc')  (hz : x * y = z) (w : WP p e below Φ T (mkF m pc' L (.int z :: S))) : WP p e below Φ T (mkF m pc L (.int y :: .int x :: S)) := by
  obtain ⟨hd, rfl⟩ := d
  exact WP.st (fun _ q => XS.imul W.here W.hx rfl (hb W.hby hd) rfl (by rw [hz]; exact q)) w
theorem k_ixor (W : WS p l e R s m args below meth c Z a0 EL nw n0 y code maxL ret T h sf cells slots) {x y z : Int32} (d : D code pc (.ixor) 1 pc')  (hz : x ^^^ y = z) (w : WP p e below Φ T (mkF m pc' L (.int z :: S))) : WP p e below Φ T (mkF m pc L (.int y :: .int x :: S)) := by
  obtain ⟨hd, rfl⟩ := d
  exact WP.st (fun _ q => XS.ixor W.here W.hx rfl (hb W.hby hd) rfl (by rw [hz]; exact q)) w
theorem k_ior (W : WS p l e R s m args below meth c Z a0 EL nw n0 y code maxL ret T h sf cells slots) {x y z : Int32} (d : D code pc (.ior) 1 pc')  (hz : x ||| y = z) (w : WP p e below Φ T (mkF m pc' L (.int z :: S))) : WP p e below Φ T (mkF m pc L (.int y :: .int x :: S)) := by
  obtain ⟨hd, rfl⟩ := d
  exact WP.st (fun _ q => XS.ior W.here W.hx rfl (hb W.hby hd) rfl (by rw [hz]; exact q)) w
theorem k_ishl (W : WS p l e R s m args below meth c Z a0 EL nw n0 y code maxL ret T h sf cells slots) {x y z : Int32} (d : D code pc (.ishl) 1 pc')  (hz : x <<< (y &&& 31) = z) (w : WP p e below Φ T (mkF m pc' L (.int z :: S))) : WP p e below Φ T (mkF m pc L (.int y :: .int x :: S)) := by
  obtain ⟨hd, rfl⟩ := d
  exact WP.st (fun _ q => XS.ishl W.here W.hx rfl (hb W.hby hd) rfl (by rw [hz]; exact q)) w
theorem k_ishr (W : WS p l e R s m args below meth c Z a0 EL nw n0 y code maxL ret T h sf cells slots) {x y z : Int32} (d : D code pc (.ishr) 1 pc')  (hz : x >>> (y &&& 31) = z) (w : WP p e below Φ T (mkF m pc' L (.int z :: S))) : WP p e below Φ T (mkF m pc L (.int y :: .int x :: S)) := by
  obtain ⟨hd, rfl⟩ := d
  exact WP.st (fun _ q => XS.ishr W.here W.hx rfl (hb W.hby hd) rfl (by rw [hz]; exact q)) w
theorem k_iushr (W : WS p l e R s m args below meth c Z a0 EL nw n0 y code maxL ret T h sf cells slots) {x y z : Int32} (d : D code pc (.iushr) 1 pc')  (hz : XT.ushr x y = z) (w : WP p e below Φ T (mkF m pc' L (.int z :: S))) : WP p e below Φ T (mkF m pc L (.int y :: .int x :: S)) := by
  obtain ⟨hd, rfl⟩ := d
  exact WP.st (fun _ q => XT.iushr W.here W.hx rfl (hb W.hby hd) rfl (by rw [hz]; exact q)) w
theorem k_idiv (W : WS p l e R s m args below meth c Z a0 EL nw n0 y code maxL ret T h sf cells slots) {x y z : Int32} (d : D code pc (.idiv) 1 pc')  (hy : y ≠ 0) (hz : x / y = z) (w : WP p e below Φ T (mkF m pc' L (.int z :: S))) : WP p e below Φ T (mkF m pc L (.int y :: .int x :: S)) := by
  obtain ⟨hd, rfl⟩ := d
  exact WP.st (fun _ q => XS.idiv W.here W.hx rfl (hb W.hby hd) rfl hy (by rw [hz]; exact q)) w
theorem k_irem (W : WS p l e R s m args below meth c Z a0 EL nw n0 y code maxL ret T h sf cells slots) {x y z : Int32} (d : D code pc (.irem) 1 pc')  (hy : y ≠ 0) (hz : x % y = z) (w : WP p e below Φ T (mkF m pc' L (.int z :: S))) : WP p e below Φ T (mkF m pc L (.int y :: .int x :: S)) := by
  obtain ⟨hd, rfl⟩ := d
  exact WP.st (fun _ q => XS.irem W.here W.hx rfl (hb W.hby hd) rfl hy (by rw [irem_eq_mod x y, hz]; exact q)) w
theorem k_ineg (W : WS p l e R s m args below meth c Z a0 EL nw n0 y code maxL ret T h sf cells slots) {x z : Int32} (d : D code pc (.ineg) 1 pc')  (hz : -x = z) (w : WP p e below Φ T (mkF m pc' L (.int z :: S))) : WP p e below Φ T (mkF m pc L (.int x :: S)) := by
  obtain ⟨hd, rfl⟩ := d
  exact WP.st (fun _ q => XS.ineg W.here W.hx rfl (hb W.hby hd) rfl (by rw [hz]; exact q)) w
theorem k_ladd (W : WS p l e R s m args below meth c Z a0 EL nw n0 y code maxL ret T h sf cells slots) {x y z : Int64} (d : D code pc (.ladd) 1 pc')  (hz : x + y = z) (w : WP p e below Φ T (mkF m pc' L (.long z :: S))) : WP p e below Φ T (mkF m pc L (.long y :: .long x :: S)) := by
  obtain ⟨hd, rfl⟩ := d
  exact WP.st (fun _ q => XS.ladd W.here W.hx rfl (hb W.hby hd) rfl (by rw [hz]; exact q)) w
theorem k_lsub (W : WS p l e R s m args below meth c Z a0 EL nw n0 y code maxL ret T h sf cells slots) {x y z : Int64} (d : D code pc (.lsub) 1 pc')  (hz : x - y = z) (w : WP p e below Φ T (mkF m pc' L (.long z :: S))) : WP p e below Φ T (mkF m pc L (.long y :: .long x :: S)) := by
  obtain ⟨hd, rfl⟩ := d
  exact WP.st (fun _ q => XS.lsub W.here W.hx rfl (hb W.hby hd) rfl (by rw [hz]; exact q)) w
theorem k_land (W : WS p l e R s m args below meth c Z a0 EL nw n0 y code maxL ret T h sf cells slots) {x y z : Int64} (d : D code pc (.land) 1 pc')  (hz : x &&& y = z) (w : WP p e below Φ T (mkF m pc' L (.long z :: S))) : WP p e below Φ T (mkF m pc L (.long y :: .long x :: S)) := by
  obtain ⟨hd, rfl⟩ := d
  exact WP.st (fun _ q => XS.land W.here W.hx rfl (hb W.hby hd) rfl (by rw [hz]; exact q)) w
theorem k_lmul (W : WS p l e R s m args below meth c Z a0 EL nw n0 y code maxL ret T h sf cells slots) {x y z : Int64} (d : D code pc (.lmul) 1 pc')  (hz : x * y = z) (w : WP p e below Φ T (mkF m pc' L (.long z :: S))) : WP p e below Φ T (mkF m pc L (.long y :: .long x :: S)) := by
  obtain ⟨hd, rfl⟩ := d
  exact WP.st (fun _ q => XS.lmul W.here W.hx rfl (hb W.hby hd) rfl (by rw [hz]; exact q)) w
theorem k_lxor (W : WS p l e R s m args below meth c Z a0 EL nw n0 y code maxL ret T h sf cells slots) {x y z : Int64} (d : D code pc (.lxor) 1 pc')  (hz : x ^^^ y = z) (w : WP p e below Φ T (mkF m pc' L (.long z :: S))) : WP p e below Φ T (mkF m pc L (.long y :: .long x :: S)) := by
  obtain ⟨hd, rfl⟩ := d
  exact WP.st (fun _ q => XS.lxor W.here W.hx rfl (hb W.hby hd) rfl (by rw [hz]; exact q)) w
theorem k_lor (W : WS p l e R s m args below meth c Z a0 EL nw n0 y code maxL ret T h sf cells slots) {x y z : Int64} (d : D code pc (.lor) 1 pc')  (hz : x ||| y = z) (w : WP p e below Φ T (mkF m pc' L (.long z :: S))) : WP p e below Φ T (mkF m pc L (.long y :: .long x :: S)) := by
  obtain ⟨hd, rfl⟩ := d
  exact WP.st (fun _ q => XS.lor W.here W.hx rfl (hb W.hby hd) rfl (by rw [hz]; exact q)) w
theorem k_lshl (W : WS p l e R s m args below meth c Z a0 EL nw n0 y code maxL ret T h sf cells slots) {x z : Int64} {y : Int32} (d : D code pc (.lshl) 1 pc')   (hz : x <<< (y.toInt64 &&& 63) = z) (w : WP p e below Φ T (mkF m pc' L (.long z :: S))) : WP p e below Φ T (mkF m pc L (.int y :: .long x :: S)) := by
  obtain ⟨hd, rfl⟩ := d
  exact WP.st (fun _ q => XT.lshl W.here W.hx rfl (hb W.hby hd) rfl (by rw [hz]; exact q)) w
theorem k_lshr (W : WS p l e R s m args below meth c Z a0 EL nw n0 y code maxL ret T h sf cells slots) {x z : Int64} {y : Int32} (d : D code pc (.lshr) 1 pc')   (hz : x >>> (y.toInt64 &&& 63) = z) (w : WP p e below Φ T (mkF m pc' L (.long z :: S))) : WP p e below Φ T (mkF m pc L (.int y :: .long x :: S)) := by
  obtain ⟨hd, rfl⟩ := d
  exact WP.st (fun _ q => XT.lshr W.here W.hx rfl (hb W.hby hd) rfl (by rw [hz]; exact q)) w
theorem k_lushr (W : WS p l e R s m args below meth c Z a0 EL nw n0 y code maxL ret T h sf cells slots) {x z : Int64} {y : Int32} (d : D code pc (.lushr) 1 pc')   (hz : XT.ushrL x y = z) (w : WP p e below Φ T (mkF m pc' L (.long z :: S))) : WP p e below Φ T (mkF m pc L (.int y :: .long x :: S)) := by
  obtain ⟨hd, rfl⟩ := d
  exact WP.st (fun _ q => XT.lushr W.here W.hx rfl (hb W.hby hd) rfl (by rw [hz]; exact q)) w
theorem k_lrem (W : WS p l e R s m args below meth c Z a0 EL nw n0 y code maxL ret T h sf cells slots) {x y z : Int64} (d : D code pc (.lrem) 1 pc')  (hy : y ≠ 0) (hz : x - (x / y) * y = z) (w : WP p e below Φ T (mkF m pc' L (.long z :: S))) : WP p e below Φ T (mkF m pc L (.long y :: .long x :: S)) := by
  obtain ⟨hd, rfl⟩ := d
  exact WP.st (fun _ q => XS.lrem W.here W.hx rfl (hb W.hby hd) rfl hy (by rw [hz]; exact q)) w
theorem k_ldiv (W : WS p l e R s m args below meth c Z a0 EL nw n0 y code maxL ret T h sf cells slots) {x y z : Int64} (d : D code pc (.ldiv) 1 pc')  (hy : y ≠ 0) (hz : x / y = z) (w : WP p e below Φ T (mkF m pc' L (.long z :: S))) : WP p e below Φ T (mkF m pc L (.long y :: .long x :: S)) := by
  obtain ⟨hd, rfl⟩ := d
  exact WP.st (fun _ q => XS.ldiv W.here W.hx rfl (hb W.hby hd) rfl hy (by rw [hz]; exact q)) w
theorem k_lneg (W : WS p l e R s m args below meth c Z a0 EL nw n0 y code maxL ret T h sf cells slots) {x z : Int64} (d : D code pc (.lneg) 1 pc')  (hz : -x = z) (w : WP p e below Φ T (mkF m pc' L (.long z :: S))) : WP p e below Φ T (mkF m pc L (.long x :: S)) := by
  obtain ⟨hd, rfl⟩ := d
  exact WP.st (fun _ q => XS.lneg W.here W.hx rfl (hb W.hby hd) rfl (by rw [hz]; exact q)) w
theorem k_lcmp (W : WS p l e R s m args below meth c Z a0 EL nw n0 y code maxL ret T h sf cells slots) {x y : Int64} {z : Int32} (d : D code pc (.lcmp) 1 pc')   (hz : XT.cmpL x y = z) (w : WP p e below Φ T (mkF m pc' L (.int z :: S))) : WP p e below Φ T (mkF m pc L (.long y :: .long x :: S)) := by
  obtain ⟨hd, rfl⟩ := d
  exact WP.st (fun _ q => XT.lcmp W.here W.hx rfl (hb W.hby hd) rfl (by rw [hz]; exact q)) w
theorem k_i2b (W : WS p l e R s m args below meth c Z a0 EL nw n0 y code maxL ret T h sf cells slots) {x z : Int32} (d : D code pc (.i2b) 1 pc')  (hz : x.toInt8.toInt32 = z) (w : WP p e below Φ T (mkF m pc' L (.int z :: S))) : WP p e below Φ T (mkF m pc L (.int x :: S)) := by
  obtain ⟨hd, rfl⟩ := d
  exact WP.st (fun _ q => XS.i2b W.here W.hx rfl (hb W.hby hd) rfl (by rw [hz]; exact q)) w
theorem k_i2c (W : WS p l e R s m args below meth c Z a0 EL nw n0 y code maxL ret T h sf cells slots) {x z : Int32} (d : D code pc (.i2c) 1 pc')  (hz : x.toUInt32.toUInt16.toUInt32.toInt32 = z) (w : WP p e below Φ T (mkF m pc' L (.int z :: S))) : WP p e below Φ T (mkF m pc L (.int x :: S)) := by
  obtain ⟨hd, rfl⟩ := d
  exact WP.st (fun _ q => XS.i2c W.here W.hx rfl (hb W.hby hd) rfl (by rw [hz]; exact q)) w
theorem k_i2s (W : WS p l e R s m args below meth c Z a0 EL nw n0 y code maxL ret T h sf cells slots) {x z : Int32} (d : D code pc (.i2s) 1 pc')  (hz : x.toInt16.toInt32 = z) (w : WP p e below Φ T (mkF m pc' L (.int z :: S))) : WP p e below Φ T (mkF m pc L (.int x :: S)) := by
  obtain ⟨hd, rfl⟩ := d
  exact WP.st (fun _ q => XS.i2s W.here W.hx rfl (hb W.hby hd) rfl (by rw [hz]; exact q)) w
theorem k_i2l (W : WS p l e R s m args below meth c Z a0 EL nw n0 y code maxL ret T h sf cells slots) {x : Int32} {z : Int64} (d : D code pc (.i2l) 1 pc')   (hz : x.toInt64 = z) (w : WP p e below Φ T (mkF m pc' L (.long z :: S))) : WP p e below Φ T (mkF m pc L (.int x :: S)) := by
  obtain ⟨hd, rfl⟩ := d
  exact WP.st (fun _ q => XS.i2l W.here W.hx rfl (hb W.hby hd) rfl (by rw [hz]; exact q)) w
theorem k_l2i (W : WS p l e R s m args below meth c Z a0 EL nw n0 y code maxL ret T h sf cells slots) {x : Int64} {z : Int32} (d : D code pc (.l2i) 1 pc')   (hz : x.toInt32 = z) (w : WP p e below Φ T (mkF m pc' L (.int z :: S))) : WP p e below Φ T (mkF m pc L (.long x :: S)) := by
  obtain ⟨hd, rfl⟩ := d
  exact WP.st (fun _ q => XS.l2i W.here W.hx rfl (hb W.hby hd) rfl (by rw [hz]; exact q)) w
theorem k_dup (W : WS p l e R s m args below meth c Z a0 EL nw n0 y code maxL ret T h sf cells slots) {x : Value} (d : D code pc (.dup) 1 pc')  (hc : x.category = 1) (w : WP p e below Φ T (mkF m pc' L (x :: x :: S))) : WP p e below Φ T (mkF m pc L (x :: S)) := by
  obtain ⟨hd, rfl⟩ := d
  exact WP.st (fun _ q => XS.dup W.here W.hx rfl (hb W.hby hd) rfl hc q) w
theorem k_pop (W : WS p l e R s m args below meth c Z a0 EL nw n0 y code maxL ret T h sf cells slots) {x : Value} (d : D code pc (.pop) 1 pc')  (hc : x.category = 1) (w : WP p e below Φ T (mkF m pc' L (S))) : WP p e below Φ T (mkF m pc L (x :: S)) := by
  obtain ⟨hd, rfl⟩ := d
  exact WP.st (fun _ q => XS.pop W.here W.hx rfl (hb W.hby hd) rfl hc q) w
theorem k_dupX1 (W : WS p l e R s m args below meth c Z a0 EL nw n0 y code maxL ret T h sf cells slots) {x z : Value} (d : D code pc (.dup_x1) 1 pc')  (hc : x.category = 1) (hc' : z.category = 1) (w : WP p e below Φ T (mkF m pc' L (x :: z :: x :: S))) : WP p e below Φ T (mkF m pc L (x :: z :: S)) := by
  obtain ⟨hd, rfl⟩ := d
  exact WP.st (fun _ q => XS.dupX1 W.here W.hx rfl (hb W.hby hd) rfl hc hc' q) w
theorem k_dup2 (W : WS p l e R s m args below meth c Z a0 EL nw n0 y code maxL ret T h sf cells slots) {x z : Value} (d : D code pc (.dup2) 1 pc')  (hc : x.category = 1) (hc' : z.category = 1) (w : WP p e below Φ T (mkF m pc' L (x :: z :: x :: z :: S))) : WP p e below Φ T (mkF m pc L (x :: z :: S)) := by
  obtain ⟨hd, rfl⟩ := d
  exact WP.st (fun _ q => XT.dup2 W.here W.hx rfl (hb W.hby hd) rfl hc hc' q) w
theorem k_dup2L (W : WS p l e R s m args below meth c Z a0 EL nw n0 y code maxL ret T h sf cells slots) {x : Int64} (d : D code pc (.dup2) 1 pc')  (w : WP p e below Φ T (mkF m pc' L (.long x :: .long x :: S))) : WP p e below Φ T (mkF m pc L (.long x :: S)) := by
  obtain ⟨hd, rfl⟩ := d
  exact WP.st (fun _ q => XT.dup2L W.here W.hx rfl (hb W.hby hd) rfl q) w
theorem k_iinc (W : WS p l e R s m args below meth c Z a0 EL nw n0 y code maxL ret T h sf cells slots) {k : Nat} {cst : Int} {x z : Int32} {L' : Array Slot} (d : D code pc (.iinc k cst) 3 pc')     (hl : L[k]? = some (.val (.int x))) (hz : x + Int32.ofInt cst = z) (hl' : storeLocals L k (.int z) = some L') (w : WP p e below Φ T (mkF m pc' L' (S))) : WP p e below Φ T (mkF m pc L (S)) := by
  obtain ⟨hd, rfl⟩ := d
  exact WP.st (fun _ q => XS.iinc W.here W.hx rfl (hb W.hby hd) hl (by rw [hz]; exact hl') q) w
theorem k_goto (W : WS p l e R s m args below meth c Z a0 EL nw n0 y code maxL ret T h sf cells slots) {o : Int} (pc1 : Nat) (d : D code pc (.goto o) 3 pc') (ho : 0 ≤ (pc : Int) + o ∧ ((pc : Int) + o).toNat = pc1) (w : WP p e below Φ T (mkF m pc1 L S)) : WP p e below Φ T (mkF m pc L S) := by
  obtain ⟨hd, rfl⟩ := d
  exact WP.st (fun _ q => XS.goto W.here W.hx rfl (pc0 := pc) (pc' := pc1) rfl (hb W.hby hd) ho.1 ho.2 q) w
def icP : ClassFile.Cond → Int32 → Prop
  | .eq, x => x = 0
  | .ne, x => ¬ x = 0
  | .lt, x => x < 0
  | .ge, x => ¬ x < 0
  | .gt, x => 0 < x
  | .le, x => ¬ 0 < x
def ic2 : ClassFile.Cond → Int32 → Int32 → Prop
  | .eq, x, y => x = y
  | .ne, x, y => ¬ x = y
  | .lt, x, y => x < y
  | .ge, x, y => ¬ x < y
  | .gt, x, y => y < x
  | .le, x, y => ¬ y < x
theorem icP_iff (cd : ClassFile.Cond) (x : Int32) : ifCond.holds cd x = true ↔ icP cd x := by
  cases cd <;> simp [ifCond.holds, icP, Int32.not_lt, Int32.not_le]
theorem ic2_iff (cd : ClassFile.Cond) (x y : Int32) : if_icmp.holds cd x y = true ↔ ic2 cd x y := by
  cases cd <;> simp [if_icmp.holds, ic2, Int32.not_lt, Int32.not_le]
theorem k_ifY (W : WS p l e R s m args below meth c Z a0 EL nw n0 y code maxL ret T h sf cells slots) {cd : ClassFile.Cond} {x : Int32} {o : Int} (pc1 : Nat) (d : D code pc (.ifCond cd o) 3 pc') (ho : 0 ≤ (pc : Int) + o ∧ ((pc : Int) + o).toNat = pc1) (hc : icP cd x) (w : WP p e below Φ T (mkF m pc1 L S)) : WP p e below Φ T (mkF m pc L (.int x :: S)) := by
  obtain ⟨hd, rfl⟩ := d
  exact WP.st (fun _ q => XS.ifYes W.here W.hx rfl (pc0 := pc) (pc' := pc1) rfl (hb W.hby hd) rfl ((icP_iff _ _).mpr hc) ho.1 ho.2 q) w
theorem k_ifN (W : WS p l e R s m args below meth c Z a0 EL nw n0 y code maxL ret T h sf cells slots) {cd : ClassFile.Cond} {x : Int32} {o : Int} (d : D code pc (.ifCond cd o) 3 pc') (hc : ¬ icP cd x) (w : WP p e below Φ T (mkF m pc' L S)) : WP p e below Φ T (mkF m pc L (.int x :: S)) := by
  obtain ⟨hd, rfl⟩ := d
  exact WP.st (fun _ q => XS.ifNo W.here W.hx rfl (hb W.hby hd) rfl (by cases hh : ifCond.holds cd x with | false => rfl | true => exact absurd ((icP_iff _ _).mp hh) hc) q) w
theorem k_if (W : WS p l e R s m args below meth c Z a0 EL nw n0 y code maxL ret T h sf cells slots) {cd : ClassFile.Cond} {x : Int32} {o : Int} (pc1 : Nat) (d : D code pc (.ifCond cd o) 3 pc') (ho : 0 ≤ (pc : Int) + o ∧ ((pc : Int) + o).toNat = pc1) (w1 : icP cd x → WP p e below Φ T (mkF m pc1 L S)) (w2 : ¬ icP cd x → WP p e below Φ T (mkF m pc' L S)) : WP p e below Φ T (mkF m pc L (.int x :: S)) := by
  by_cases q : icP cd x
  · exact k_ifY W pc1 d ho q (w1 q)
  · exact k_ifN W d q (w2 q)
theorem k_icY (W : WS p l e R s m args below meth c Z a0 EL nw n0 y code maxL ret T h sf cells slots) {cd : ClassFile.Cond} {x z : Int32} {o : Int} (pc1 : Nat) (d : D code pc (.if_icmp cd o) 3 pc') (ho : 0 ≤ (pc : Int) + o ∧ ((pc : Int) + o).toNat = pc1) (hc : ic2 cd x z) (w : WP p e below Φ T (mkF m pc1 L S)) : WP p e below Φ T (mkF m pc L (.int z :: .int x :: S)) := by
  obtain ⟨hd, rfl⟩ := d
  exact WP.st (fun _ q => XS.icmpYes W.here W.hx rfl (pc0 := pc) (pc' := pc1) rfl (hb W.hby hd) rfl ((ic2_iff _ _ _).mpr hc) ho.1 ho.2 q) w
theorem k_icN (W : WS p l e R s m args below meth c Z a0 EL nw n0 y code maxL ret T h sf cells slots) {cd : ClassFile.Cond} {x z : Int32} {o : Int} (d : D code pc (.if_icmp cd o) 3 pc') (hc : ¬ ic2 cd x z) (w : WP p e below Φ T (mkF m pc' L S)) : WP p e below Φ T (mkF m pc L (.int z :: .int x :: S)) := by
  obtain ⟨hd, rfl⟩ := d
  exact WP.st (fun _ q => XS.icmpNo W.here W.hx rfl (hb W.hby hd) rfl (by cases hh : if_icmp.holds cd x z with | false => rfl | true => exact absurd ((ic2_iff _ _ _).mp hh) hc) q) w
theorem k_ic (W : WS p l e R s m args below meth c Z a0 EL nw n0 y code maxL ret T h sf cells slots) {cd : ClassFile.Cond} {x z : Int32} {o : Int} (pc1 : Nat) (d : D code pc (.if_icmp cd o) 3 pc') (ho : 0 ≤ (pc : Int) + o ∧ ((pc : Int) + o).toNat = pc1) (w1 : ic2 cd x z → WP p e below Φ T (mkF m pc1 L S)) (w2 : ¬ ic2 cd x z → WP p e below Φ T (mkF m pc' L S)) : WP p e below Φ T (mkF m pc L (.int z :: .int x :: S)) := by
  by_cases q : ic2 cd x z
  · exact k_icY W pc1 d ho q (w1 q)
  · exact k_icN W d q (w2 q)
theorem k_nullY (W : WS p l e R s m args below meth c Z a0 EL nw n0 y code maxL ret T h sf cells slots) {o : Int} (pc1 : Nat) (d : D code pc (.ifnull o) 3 pc') (ho : 0 ≤ (pc : Int) + o ∧ ((pc : Int) + o).toNat = pc1) (w : WP p e below Φ T (mkF m pc1 L S)) : WP p e below Φ T (mkF m pc L (.null :: S)) := by
  obtain ⟨hd, rfl⟩ := d
  exact WP.st (fun _ q => XS.ifnullYes W.here W.hx rfl (pc0 := pc) (pc' := pc1) rfl (hb W.hby hd) rfl ho.1 ho.2 q) w
theorem k_nullN (W : WS p l e R s m args below meth c Z a0 EL nw n0 y code maxL ret T h sf cells slots) {o : Int} {b : Addr} (d : D code pc (.ifnull o) 3 pc') (w : WP p e below Φ T (mkF m pc' L S)) : WP p e below Φ T (mkF m pc L (.ref b :: S)) := by
  obtain ⟨hd, rfl⟩ := d
  exact WP.st (fun _ q => XS.ifnullNo W.here W.hx rfl (hb W.hby hd) rfl q) w
theorem k_nnY (W : WS p l e R s m args below meth c Z a0 EL nw n0 y code maxL ret T h sf cells slots) {o : Int} {b : Addr} (pc1 : Nat) (d : D code pc (.ifnonnull o) 3 pc') (ho : 0 ≤ (pc : Int) + o ∧ ((pc : Int) + o).toNat = pc1) (w : WP p e below Φ T (mkF m pc1 L S)) : WP p e below Φ T (mkF m pc L (.ref b :: S)) := by
  obtain ⟨hd, rfl⟩ := d
  exact WP.st (fun _ q => XS.ifnonnullYes W.here W.hx rfl (pc0 := pc) (pc' := pc1) rfl (hb W.hby hd) rfl ho.1 ho.2 q) w
theorem k_nnN (W : WS p l e R s m args below meth c Z a0 EL nw n0 y code maxL ret T h sf cells slots) {o : Int} (d : D code pc (.ifnonnull o) 3 pc') (w : WP p e below Φ T (mkF m pc' L S)) : WP p e below Φ T (mkF m pc L (.null :: S)) := by
  obtain ⟨hd, rfl⟩ := d
  exact WP.st (fun _ q => XS.ifnonnullNo W.here W.hx rfl (hb W.hby hd) rfl q) w
def acP : ACond → Value → Value → Prop
  | .eq, x, y => x = y
  | .ne, x, y => ¬ x = y
theorem k_acY (W : WS p l e R s m args below meth c Z a0 EL nw n0 y code maxL ret T h sf cells slots) {cd : ACond} {x z : Value} {o : Int} (pc1 : Nat) (d : D code pc (.if_acmp cd o) 3 pc') (h1 : x.isRef = true) (h2 : z.isRef = true) (ho : 0 ≤ (pc : Int) + o ∧ ((pc : Int) + o).toNat = pc1) (hc : acP cd x z) (w : WP p e below Φ T (mkF m pc1 L S)) : WP p e below Φ T (mkF m pc L (z :: x :: S)) := by
  obtain ⟨hd, rfl⟩ := d
  obtain ⟨locs, X, -⟩ := id W
  cases cd
  · exact WP.st (fun _ q => Jvm.RoadKit.acmp X W.hx rfl h1 h2 (pc0 := pc) (pc' := pc1) (same := true) rfl (hb W.hby hd) rfl (decide_eq_true hc) ho.1 (by simp [acV, ho.2]) q) w
  · exact WP.st (fun _ q => Jvm.RoadKit.acmp X W.hx rfl h1 h2 (pc0 := pc) (pc' := pc1) (same := false) rfl (hb W.hby hd) rfl (decide_eq_false hc) ho.1 (by simp [acV, ho.2]) q) w
theorem k_acN (W : WS p l e R s m args below meth c Z a0 EL nw n0 y code maxL ret T h sf cells slots) {cd : ACond} {x z : Value} {o : Int} (d : D code pc (.if_acmp cd o) 3 pc') (h1 : x.isRef = true) (h2 : z.isRef = true) (ho : 0 ≤ (pc : Int) + o) (hc : ¬ acP cd x z) (w : WP p e below Φ T (mkF m pc' L S)) : WP p e below Φ T (mkF m pc L (z :: x :: S)) := by
  obtain ⟨hd, rfl⟩ := d
  obtain ⟨locs, X, -⟩ := id W
  cases cd
  · exact WP.st (fun _ q => Jvm.RoadKit.acmp X W.hx rfl h1 h2 (pc0 := pc) (pc' := pc + 3) (same := false) rfl (hb W.hby hd) rfl (decide_eq_false hc) ho (by simp [acV]) q) w
  · exact WP.st (fun _ q => Jvm.RoadKit.acmp X W.hx rfl h1 h2 (pc0 := pc) (pc' := pc + 3) (same := true) rfl (hb W.hby hd) rfl (decide_eq_true (Classical.not_not.mp hc)) ho (by simp [acV]) q) w
end Base

/-! ## small facts on numbers -/
abbrev i2c (x : Int32) : Int32 := x.toUInt32.toUInt16.toUInt32.toInt32
abbrev i2b (x : Int32) : Int32 := x.toInt8.toInt32
abbrev Rg (x : Int32) (n : Int) : Prop := 0 ≤ x.toInt ∧ x.toInt < n
theorem Rg.mono {x : Int32} {n k : Int} (q : Rg x n) (h : n ≤ k) : Rg x k := ⟨q.1, Int.lt_of_lt_of_le q.2 h⟩
theorem toInt_and_nonneg (x m : Int32) (hm : 0 ≤ m.toInt) : 0 ≤ (x &&& m).toInt ∧ (x &&& m).toInt ≤ m.toInt := by
  have e1 : (x &&& m).toBitVec = x.toBitVec &&& m.toBitVec := rfl
  have h1 : m.toInt = m.toBitVec.toNat := by
    have : m.toInt = m.toBitVec.toInt := rfl
    rw [this] at hm ⊢
    rw [BitVec.toInt_eq_toNat_cond] at hm ⊢
    split at hm <;> split <;> omega
  have h2 : (x.toBitVec &&& m.toBitVec).toNat ≤ m.toBitVec.toNat := by rw [BitVec.toNat_and]; exact Nat.and_le_right
  have hm2 : 2 * m.toBitVec.toNat < 2 ^ 32 := by
    have : m.toInt < 2 ^ 31 := Int32.toInt_lt m
    omega
  have h3 : (x &&& m).toInt = (x.toBitVec &&& m.toBitVec).toNat := by
    show (x.toBitVec &&& m.toBitVec).toInt = _
    rw [BitVec.toInt_eq_toNat_cond, if_pos (by omega)]
  rw [h3, h1]; omega
theorem Rg.and (x m : Int32) {n : Int} (hm : 0 ≤ m.toInt ∧ m.toInt < n) : Rg (x &&& m) n := by
  have := toInt_and_nonneg x m hm.1; exact ⟨this.1, by omega⟩
theorem toInt_i2c (x : Int32) : (i2c x).toInt = x.toBitVec.toNat % 65536 := by
  have h : (i2c x).toBitVec = (x.toBitVec.setWidth 16).setWidth 32 := rfl
  show (i2c x).toBitVec.toInt = _
  rw [h, BitVec.toInt_eq_toNat_cond, BitVec.toNat_setWidth, BitVec.toNat_setWidth]
  have : x.toBitVec.toNat % 2 ^ 16 < 2 ^ 16 := Nat.mod_lt _ (by decide)
  rw [Nat.mod_eq_of_lt (a := x.toBitVec.toNat % 2 ^ 16) (by omega), if_pos (by omega)]
  rfl
theorem rg_i2c (x : Int32) : Rg (i2c x) 65536 := by rw [Rg, toInt_i2c]; omega
theorem natOf {x : Int32} (q : 0 ≤ x.toInt) : (x.toBitVec.toNat : Int) = x.toInt := by
  have : x.toInt = x.toBitVec.toInt := rfl
  rw [this] at q ⊢
  rw [BitVec.toInt_eq_toNat_cond] at q ⊢
  split at q <;> split <;> omega
theorem Rg.c {x : Int32} (q : Rg x 65536) : i2c x = x := by
  apply Int32.toInt_inj.mp
  have := natOf q.1; rw [toInt_i2c]; have h2 := q.2; omega
theorem Rg.nar {x : Int32} (q : Rg x 65536) : nar .char x = x := q.c
theorem Rg.fits {x : Int32} (q : Rg x 65536) : fits .char (.int x) = true := by
  have h0 : (0 : Int32) ≤ x := Int32.le_iff_toInt_le.mpr q.1
  have h1 : x ≤ 65535 := Int32.le_iff_toInt_le.mpr (by have := q.2; have e : (65535 : Int32).toInt = 65535 := by decide
                                                       omega)
  simp [Jvm.fits, h0, h1]
theorem Rg.le255 {x : Int32} (q : Rg x 256) : ¬ 255 < x := by rw [Int32.lt_iff_toInt_lt]; have := q.2; have h : (255 : Int32).toInt = 255 := by decide
                                                              omega
theorem nar_i2b (x : Int32) : nar .byte (i2b x) = i2b x := by simp [nar, i2b]
theorem fits_i2b (x : Int32) : Jvm.fits .byte (.int (i2b x)) = true := by
  have e : (i2b x).toInt = x.toInt8.toInt := Int8.toInt_toInt32 _
  have h0 : (-128 : Int32) ≤ i2b x := Int32.le_iff_toInt_le.mpr (by rw [e]; exact Int8.le_toInt _)
  have h1 : i2b x ≤ 127 := Int32.le_iff_toInt_le.mpr (by rw [e]; exact Int8.toInt_le _)
  simp [Jvm.fits, h0, h1]
theorem shr0 (x : Int32) : x >>> ((0 : Int32) &&& 31) = x := by
  have : ((0 : Int32) &&& 31) = 0 := by decide
  rw [this]; simp
theorem Rg.fin {x : Int32} (q : Rg x 256) : ∃ k : Fin 256, x = Int32.ofNat k.val := by
  obtain ⟨h1, h2⟩ := q
  obtain ⟨n, hn⟩ : ∃ n : Nat, x.toInt = n := ⟨x.toInt.toNat, (Int.toNat_of_nonneg h1).symm⟩
  refine ⟨⟨n, by omega⟩, ?_⟩
  apply Int32.toInt_inj.mp
  rw [Int32.toInt_ofNat_of_lt (by simp; omega), hn]
theorem lo_all : ∀ k : Fin 256, (i2b (Int32.ofNat k.val)) &&& 255 = Int32.ofNat k.val := by decide +kernel
theorem lo_i2b {x : Int32} (q : Rg x 256) : (i2b x) &&& 255 = x := by
  obtain ⟨k, rfl⟩ := q.fin; exact lo_all k
theorem i2b_inj {x y : Int32} (q : Rg x 256) (r : Rg y 256) (h : i2b x = i2b y) : x = y := by
  rw [← lo_i2b q, ← lo_i2b r, h]
theorem Rg.mod {x k : Int32} {n : Int} (q : Rg x n) (hk : 0 < k.toInt) : Rg (x % k) k.toInt := by
  have h : (x % k).toInt = x.toInt.tmod k.toInt := Int32.toInt_mod _ _
  rw [Rg, h]
  have h1 := q.1
  rw [Int.tmod_eq_emod_of_nonneg h1]
  exact ⟨Int.emod_nonneg _ (by omega), Int.emod_lt_of_pos _ hk⟩
theorem Rg.add {x y : Int32} {n k : Int} (q : Rg x n) (r : Rg y k) (h : n + k ≤ 2147483648) : Rg (x + y) (n + k - 1) := by
  have e : (x + y).toInt = x.toInt + y.toInt := by
    rw [Int32.toInt_add]
    have h1 := q.1; have h2 := q.2; have h3 := r.1; have h4 := r.2
    rw [Int.bmod_eq_of_le (by omega) (by omega)]
  rw [Rg, e]
  have h1 := q.1; have h2 := q.2; have h3 := r.1; have h4 := r.2
  omega
theorem toInt_of {i : Nat} (h : i < 2147483648) : (Int32.ofNat i).toInt = i := Int32.toInt_ofNat_of_lt (by simpa using h)
theorem ix_of {i : Nat} (h : i < 2147483648) : ¬ Int32.ofNat i < 0 ∧ (Int32.ofNat i).toNatClampNeg = i := by
  refine ⟨?_, ?_⟩
  · rw [Int32.lt_iff_toInt_lt, toInt_of h]; simp
  · unfold Int32.toNatClampNeg; rw [toInt_of h]; rfl
theorem of_lt {i n : Nat} (h : i < n) (hn : n < 2147483648) : Int32.ofNat i < Int32.ofNat n := by
  rw [Int32.lt_iff_toInt_lt, toInt_of hn, toInt_of (by omega)]; omega
theorem of_ge {i n : Nat} (h : n ≤ i) (hn : i < 2147483648) : ¬ Int32.ofNat i < Int32.ofNat n := by
  rw [Int32.lt_iff_toInt_lt, toInt_of hn, toInt_of (by omega)]; omega
theorem of_sub {i n : Nat} (h : n ≤ i) (hi : i < 2147483648) : ¬ Int32.ofNat i - Int32.ofNat n < 0 := by
  have e : Int32.ofNat i - Int32.ofNat n = Int32.ofNat (i - n) := by
    apply Int32.toInt_inj.mp
    rw [Int32.toInt_sub, toInt_of hi, toInt_of (i := n) (by omega), toInt_of (i := i - n) (by omega), Int.bmod_eq_of_le (by omega) (by omega)]; omega
  rw [e]; exact (ix_of (by omega)).1
theorem of_inj {i n : Nat} (hi : i < 2147483648) (hn : n < 2147483648) (h : Int32.ofNat i = Int32.ofNat n) : i = n := by
  have := congrArg Int32.toInt h; rw [toInt_of hi, toInt_of hn] at this; omega
theorem of_ne0 {n : Nat} (h : 0 < n) (hn : n < 2147483648) : ¬ Int32.ofNat n = 0 := fun q => by
  have h1 := congrArg Int32.toInt q; rw [toInt_of hn] at h1
  have h2 : (0 : Int32).toInt = 0 := by decide
  omega
theorem cmp_step {cs : List Int32} {vs : List Value} {i : Nat} {ci : Int32} (hci : cs[i]? = some ci) (hl : vs.length = cs.length) : (((cs.take i).map i2b).map Value.int ++ vs.drop i).set i (.int (i2b ci)) = ((cs.take (i + 1)).map i2b).map Value.int ++ vs.drop (i + 1) := by
  have h0 : i < cs.length := (List.getElem?_eq_some_iff.mp hci).1
  have h1 : (((cs.take i).map i2b).map Value.int).length = i := by simp; omega
  have h2 : i < vs.length := by omega
  rw [List.set_append_right _ _ (by omega), h1, Nat.sub_self, List.drop_eq_getElem_cons h2, List.set_cons_zero, List.take_add_one, hci]
  simp
theorem le7 {n : Nat} (h : n ≤ 7) : ¬ (7 : Int32) < Int32.ofNat n := by
  have h7 : (7 : Int32) = Int32.ofNat 7 := rfl
  rw [h7]; exact of_ge h (by decide)
theorem of_succ (i : Nat) : Int32.ofNat i + Int32.ofInt 1 = Int32.ofNat (i + 1) := by
  rw [Int32.ofNat_add]; rfl
theorem rgS {x : Int32} {L : List Int32} {n : Int} (q : Rg x n) (r : ∀ c ∈ L, Rg c n) : ∀ c ∈ x :: L, Rg c n := fun c hc => (List.mem_cons.mp hc).elim (fun e => e ▸ q) (r c)
theorem cat_ref {v : Value} (h : v.isRef = true) : v.category = 1 := by cases v <;> simp_all [Value.isRef, Value.category]
theorem cat_i (x : Int32) : (Value.int x).category = 1 := rfl
theorem cat_l (x : Int64) : (Value.long x).category = 2 := rfl
theorem cat_r (x : Addr) : (Value.ref x).category = 1 := rfl
theorem cat_n : Value.null.category = 1 := rfl
theorem nar_refv {t : FieldType} {v : Value} (h : v.isRef = true) (ht : t.isReference = true) : narrow t v = v := by cases t <;> simp_all [narrow, FieldType.isReference]
theorem fits_refv {t : FieldType} {v : Value} (h : v.isRef = true) (ht : t.isReference = true) : Jvm.fits t v = true := by cases t <;> cases v <;> simp_all [Jvm.fits, Value.isRef, FieldType.isReference]

/-! ## what is known of a heap -/
section Facts
variable {Z : State} {h h' : Heap} {a b : Addr} {ty : FieldType} {vs : List Value} {ws : List Addr} {C : String}
def Av (Z : State) (h : Heap) (a : Addr) (ty : FieldType) (vs : List Value) : Prop :=
  ∃ c : Cell, Arr Z h a c ty ∧ c.slots.toList = vs ∧ vs.length < 2147483648 ∧ ∀ v ∈ vs, fits ty v = true
theorem Av.lt (F : Av Z h a ty vs) : a < h.size := by obtain ⟨c, A, -⟩ := F; exact A.lt
theorem Av.keep (F : Av Z h a ty vs) (K : Keep h h' ws) (q : a ∉ ws) : Av Z h' a ty vs := by obtain ⟨c, A, r⟩ := F; exact ⟨c, ⟨K.2.1 a c A.1 q, A.2⟩, r⟩
theorem Av.len (F : Av Z h a ty vs) : vs.length < 2147483648 := F.choose_spec.2.2.1
theorem fits_default (ty : FieldType) : fits ty (defaultValue ty) = true := by cases ty <;> simp [fits, defaultValue]
theorem Av.new {k : ClassId} {z : Int32} (A : Arr Z h a (newA k ty z) ty) (n : Nat) (q : z.toNatClampNeg = n) : Av Z h a ty (List.replicate n (defaultValue ty)) := by
  refine ⟨_, A, by simp [newA, q], ?_, fun v hv => ?_⟩
  · rw [List.length_replicate, ← q]; have := Int32.toInt_lt z; unfold Int32.toNatClampNeg; omega
  · rw [List.eq_of_mem_replicate hv]; exact fits_default ty
theorem Av.set {j : Nat} {v : Value} (F : Av Z h a ty vs) (W : Wr h h' a j v) (hv : fits ty v = true) : Av Z h' a ty (vs.set j v) := by
  obtain ⟨c, A, r1, r2, r3⟩ := F
  refine ⟨c.setSlot j v, A.same W, by simp [Cell.setSlot, r1], by simpa using r2, fun u hu => ?_⟩
  rcases List.mem_or_eq_of_mem_set hu with q | q
  · exact r3 u q
  · rw [q]; exact hv
theorem Av.of_arv {k : ClassId} {z : Int32} {d : Value} (F : Arv Z h a k ty z vs d) (q : z.toNatClampNeg = vs.length) : Av Z h a ty vs := by
  obtain ⟨c, A, -, r1, r2, H, G⟩ := F
  have e : c.slots.toList = vs := by
    apply List.ext_getElem?; intro i
    by_cases hi : i < c.slots.size
    · have := H i hi
      rw [Array.getElem?_toList, this, List.getD_eq_getElem?_getD]
      have hv : i < vs.length := by omega
      simp [hv]
    · rw [Array.getElem?_toList, Array.getElem?_eq_none (by omega), List.getElem?_eq_none (by omega)]
  refine ⟨c, A, e, ?_, fun v hv => ?_⟩
  · rw [← q]; have := Int32.toInt_lt z; unfold Int32.toNatClampNeg; omega
  · obtain ⟨i, hi, rfl⟩ := List.mem_iff_getElem.mp hv
    have := G i (by omega)
    rwa [List.getD_eq_getElem?_getD, List.getElem?_eq_getElem hi] at this
theorem keep_ext (E : Ext h h') (ws : List Addr) : Keep h h' ws := (Keep.refl h ws).ext E
theorem nin1 {x y : Addr} (q : x ≠ y) : x ∉ [y] := ninS q nin0
theorem Sta.keep {n d : String} {v : Value} (F : Sta Z h C n d v) (K : Keep h h' ws) (q : ∀ x ∈ ws, ∀ cell : Cell, h[x]? = some cell → cell.vm.isStatics = false) : Sta Z h' C n d v := by
  obtain ⟨cf, i, k, f, st, cell, h1, h2, h3, h4, h5, h6, h7⟩ := F
  exact ⟨cf, i, k, f, st, cell, h1, h2, h3, h4, K.2.1 _ _ h5 (fun hm => by have := q _ hm _ h5; rw [h6] at this; cases this), h6, h7⟩
theorem Av.plain (F : Av Z h a ty vs) : ∀ cell : Cell, h[a]? = some cell → cell.vm.isStatics = false := fun cell q => by
  obtain ⟨c, A, -⟩ := F; cases A.1.symm.trans q; exact Arr.plain A
theorem Exa.plain (F : Exa Z h a C) : ∀ cell : Cell, h[a]? = some cell → cell.vm.isStatics = false := fun cell q => by
  obtain ⟨c, _, h1, _, _, h4, _⟩ := F; cases h1.symm.trans q; exact h4
theorem ne_av {ty' : FieldType} {vs' : List Value} (F : Av Z h a ty vs) (G : Av Z h b ty' vs') (q : ty ≠ ty') : a ≠ b := fun e => by
  subst e
  obtain ⟨c, A, -⟩ := F; obtain ⟨c', A', -⟩ := G
  cases A.1.symm.trans A'.1
  obtain ⟨-, k, hk, comp, hkind⟩ := A.2.1
  obtain ⟨-, k', hk', comp', hkind'⟩ := A'.2.1
  cases hk.symm.trans hk'
  have := hkind.symm.trans hkind'
  injection this with _ e
  exact q e
theorem ne_len {vs' : List Value} (F : Av Z h a ty vs) (G : Av Z h b ty vs') (q : vs ≠ vs') : a ≠ b := fun e => by
  subst e
  obtain ⟨c, A, r, -⟩ := F; obtain ⟨c', A', r', -⟩ := G
  cases A.1.symm.trans A'.1
  exact q (r.symm.trans r')
theorem ne_exav {n : Nat} {a0 : Array Value} (E : Exa Z h a C) (w : (Cond.instantiable C n).before a0 Z = true) (F : Av Z h b ty vs) : a ≠ b := by
  obtain ⟨c, A, -⟩ := F; exact ne_arr E w A
/-- a String of Latin-1 bytes (as signed), its byte[] at b -/
def St (Z : State) (h : Heap) (a b : Addr) (bs : List Int32) : Prop :=
  Exa Z h a "java/lang/String" ∧ Fld Z h a "java/lang/String" "coder" "B" (.int 0) ∧ Fld Z h a "java/lang/String" "value" "[B" (.ref b) ∧ Av Z h b .byte (bs.map Value.int)
theorem St.keep {bs : List Int32} (F : St Z h a b bs) (K : Keep h h' ws) (q : a ∉ ws) (r : b ∉ ws) : St Z h' a b bs := ⟨F.1.keep K, F.2.1.keep K q, F.2.2.1.keep K q, F.2.2.2.keep K r⟩
end Facts

/-! ## a body's entry and its ends -/
section Ends
variable {p : Program} {l : Launch} {e : Env} {R : Room} {s : State} {m : MethodId} {args : Array Value} {below : List Frame} {meth : Method} {c : Code} {Z : State} {EL : List (String × Nat)} {nw : Bool} {n0 : Nat} {y : MethodName} {code : ByteArray} {maxL : Nat} {ret : Option FieldType} {T : State} {h : Heap} {sf : List Addr} {cells slots : Nat} {Φ : Outcome → State → Prop} {a0 : Array Value} {pc pc' : Nat} {L : Array Slot} {S : List Value} {rm : Room} {Q : Option Value → Heap → List Addr → Prop}
theorem Ct.body {as' : Array Value} (hp : plainFor y = true)
    (body : ∀ p e s m below meth c s₁, WS p l e rm s m as' below meth c Z a0 EL nw n0 y code maxL ret s₁ h sf 0 0 → WP p e below (Fne s n0 Z EL nw rm Q) s₁ (entryFrame m as' maxL)) : Ct l Z a0 EL nw y code maxL ret rm as' h sf n0 Q := by
  intro ws
  refine MetFree.of_bodySF hp hisR ?_
  intro p e s m args below meth c s₁ Bd hml hP hK
  obtain ⟨rfl, hZ, hh, hC, hn, hE, hsf⟩ := hP
  have X0 : Stand p l e rm s m args below meth c s₁ [] 0 0 := Stand.of_body Bd
  have e0 : s₁.heap = h := by rw [← hh, Bd.state]; rfl
  have ev : s₁.vm = s.vm := by rw [Bd.state]; rfl
  have hs : s.heap = h := hh
  refine body p e s m below meth c s₁ ⟨[], X0.retabled X0.warmed.wide, e0, X0.warmed.since _, wtrans hZ X0.warmed, ?_, ?_, Fr.nil _, hn, ?_, hE, fun _ => X0.warmed, Bd.exec, Bd.bytes, Bd.returns, Bd.notSynchronized, hml, (name_of_methodNamed Bd.named Bd.method).1⟩
  · rw [ev]; exact findClass_of_methodNamed Bd.named
  · rw [ev, hs]; exact CHr.refl hC
  · rw [ev]; exact hsf
theorem WS.fin (W : WS p l e R s m args below meth c Z a0 EL nw n0 y code maxL ret T h sf cells slots) (so : List Addr) (hso : ∀ x ∈ so, x ∈ sf) {v : Option Value} (hv : meth.sig.returnType = none → v = none) (hc : cells ≤ rm.cells) (hs : slots ≤ rm.slots) (q : Q v h so) :
    ∃ fs, (∀ (f : JFrame) (acts : List Action), f.method = m → f.locked = none → f.entered = [] → (doReturn e (T.setTop f) acts v).1 = T.setFrames fs) ∧ (T.setFrames fs).status = .running ∧ Ended (T.setFrames fs) below (.returned v) ∧ Fne s n0 Z EL nw rm Q (.returned v) (T.setFrames fs) := by
  obtain ⟨locs, X, a1, a2, a3, a4, a5, a6, a7, a8, a9, aW, b1, b2, b3, b4, b5⟩ := W
  obtain ⟨fs, q1, q2, q3, q4⟩ := (X.mono hc hs).leaveW a2 (by rw [a1]; exact Nat.le_refl _) hv b4
  refine ⟨fs, q1, q2, q3, v, locs, so, rfl, ?_, a6, ?_, ?_, aW, q4⟩
  · show Q v T.heap so; rw [a1]; exact q
  · show CHr Z EL s.vm s.heap T.vm T.heap; rw [a1]; exact a5
  · show ∀ x ∈ so, n0 ≤ x ∧ x < T.heap.size ∧ Safe Z EL T.vm T.heap x; rw [a1]; exact fun x hx => a8 x (hso x hx)
theorem k_ret (W : WS p l e R s m args below meth c Z a0 EL nw n0 y code maxL ret T h sf cells slots) (d : D code pc .return_ 1 pc') (hr : ret = none) (so : List Addr) (hso : ∀ x ∈ so, x ∈ sf) (hc : cells ≤ rm.cells) (hs : slots ≤ rm.slots) (q : Q none h so) : WP p e below (Fne s n0 Z EL nw rm Q) T (mkF m pc L []) := by
  have hret : meth.sig.returnType = ret := by obtain ⟨_, _, _, _, _, _, _, _, _, _, _, _, _, _, q, -⟩ := W; exact q
  obtain ⟨fs, q1, q2, q3, q4⟩ := W.fin so hso (v := none) (fun _ => rfl) hc hs q
  obtain ⟨locs, X, -⟩ := id W
  exact ⟨_, _, X.returnOut W.hx (hret.trans hr) (W.hd d) q1, q2, q3, q4⟩
theorem k_ireturn (W : WS p l e R s m args below meth c Z a0 EL nw n0 y code maxL ret T h sf cells slots) {z : Int32} (d : D code pc .ireturn 1 pc') (hr : ret = some .int) (so : List Addr) (hso : ∀ x ∈ so, x ∈ sf) (hc : cells ≤ rm.cells) (hs : slots ≤ rm.slots) (q : Q (some (.int z)) h so) : WP p e below (Fne s n0 Z EL nw rm Q) T (mkF m pc L (.int z :: S)) := by
  have hret : meth.sig.returnType = ret := by obtain ⟨_, _, _, _, _, _, _, _, _, _, _, _, _, _, q, -⟩ := W; exact q
  obtain ⟨fs, q1, q2, q3, q4⟩ := W.fin so hso (v := some (.int z)) (fun u => by rw [hret, hr] at u; cases u) hc hs q
  obtain ⟨locs, X, -⟩ := id W
  exact ⟨_, _, retOut X W.hx (hret.trans hr) rfl (Or.inl ⟨rfl, Or.inl rfl, z, rfl⟩) (W.hd d) q1, q2, q3, q4⟩
theorem k_retN (W : WS p l e R s m args below meth c Z a0 EL nw n0 y code maxL ret T h sf cells slots) {z z' : Int32} {t : FieldType} (d : D code pc .ireturn 1 pc') (hr : ret = some t) (ht : t = .boolean ∨ t = .byte ∨ t = .char ∨ t = .short) (hz : nar t z = z') (so : List Addr) (hso : ∀ x ∈ so, x ∈ sf) (hc : cells ≤ rm.cells) (hs : slots ≤ rm.slots) (q : Q (some (.int z')) h so) : WP p e below (Fne s n0 Z EL nw rm Q) T (mkF m pc L (.int z :: S)) := by
  have hret : meth.sig.returnType = ret := by obtain ⟨_, _, _, _, _, _, _, _, _, _, _, _, _, _, q, -⟩ := W; exact q
  obtain ⟨fs, q1, q2, q3, q4⟩ := W.fin so hso (v := some (.int z')) (fun u => by rw [hret, hr] at u; cases u) hc hs q
  obtain ⟨locs, X, -⟩ := id W
  subst hz
  exact ⟨_, _, retN X W.hx (t := t) (hret.trans hr) ht (W.hd d) q1, q2, q3, q4⟩
theorem k_lreturn (W : WS p l e R s m args below meth c Z a0 EL nw n0 y code maxL ret T h sf cells slots) {z : Int64} (d : D code pc .lreturn 1 pc') (hr : ret = some .long) (so : List Addr) (hso : ∀ x ∈ so, x ∈ sf) (hc : cells ≤ rm.cells) (hs : slots ≤ rm.slots) (q : Q (some (.long z)) h so) : WP p e below (Fne s n0 Z EL nw rm Q) T (mkF m pc L (.long z :: S)) := by
  have hret : meth.sig.returnType = ret := by obtain ⟨_, _, _, _, _, _, _, _, _, _, _, _, _, _, q, -⟩ := W; exact q
  obtain ⟨fs, q1, q2, q3, q4⟩ := W.fin so hso (v := some (.long z)) (fun u => by rw [hret, hr] at u; cases u) hc hs q
  obtain ⟨locs, X, -⟩ := id W
  exact ⟨_, _, retOut X W.hx (hret.trans hr) rfl (Or.inr (Or.inl ⟨rfl, rfl, z, rfl⟩)) (W.hd d) q1, q2, q3, q4⟩
theorem k_areturn (W : WS p l e R s m args below meth c Z a0 EL nw n0 y code maxL ret T h sf cells slots) {v : Value} {t : FieldType} (d : D code pc .areturn 1 pc') (hr : ret = some t) (ht : t.isReference = true) (hv : v.isRef = true) (so : List Addr) (hso : ∀ x ∈ so, x ∈ sf) (hc : cells ≤ rm.cells) (hs : slots ≤ rm.slots) (q : Q (some v) h so) : WP p e below (Fne s n0 Z EL nw rm Q) T (mkF m pc L (v :: S)) := by
  have hret : meth.sig.returnType = ret := by obtain ⟨_, _, _, _, _, _, _, _, _, _, _, _, _, _, q, -⟩ := W; exact q
  obtain ⟨fs, q1, q2, q3, q4⟩ := W.fin so hso (v := some v) (fun u => by rw [hret, hr] at u; cases u) hc hs q
  obtain ⟨locs, X, -⟩ := id W
  have hn : narrow t v = v := by cases t <;> simp_all [narrow, FieldType.isReference]
  exact ⟨_, _, retOut X W.hx (hret.trans hr) hn (Or.inr (Or.inr (Or.inr (Or.inr ⟨rfl, ht, hv⟩)))) (W.hd d) q1, q2, q3, q4⟩
end Ends

/-! ## steps on the heap -/
section Steps
variable {p : Program} {l : Launch} {e : Env} {R : Room} {s : State} {m : MethodId} {args : Array Value} {below : List Frame} {meth : Method} {c : Code} {Z : State} {EL : List (String × Nat)} {nw : Bool} {n0 : Nat} {y : MethodName} {code : ByteArray} {maxL : Nat} {ret : Option FieldType} {T : State} {h : Heap} {sf : List Addr} {cells slots : Nat} {Φ : Outcome → State → Prop} {a0 : Array Value} {pc pc' : Nat} {L : Array Slot} {S : List Value}
abbrev catS (S : List Value) : Nat := (S.map fun v => v.category).sum
abbrev Ix (j : Int32) (i : Nat) : Prop := ¬ j < 0 ∧ j.toNatClampNeg = i
theorem Ix.ok {j : Int32} {i n : Nat} (q : Ix j i) (hi : i < n) : ¬ (j < 0 ∨ n ≤ j.toNatClampNeg) := by
  rintro (u | u)
  · exact q.1 u
  · rw [q.2] at u; omega

theorem k_getF (W : WS p l e R s m args below meth c Z a0 EL nw n0 y code maxL ret T h sf cells slots) {index : Nat} {R0 O n d host : String} (dd : D code pc (.getfield index) 3 pc') (w : (Cond.fieldLink y.cls index R0 n d).before a0 Z = true ∨ (Cond.fieldLinkNest y.cls index R0 n d host).before a0 Z = true) (via : Via Z R0 O n d) {a : Addr} {v : Value} (F : Fld Z h a O n d v)
    (k : ∀ T', WS p l e R s m args below meth c Z a0 EL nw n0 y code maxL ret T' h sf cells slots → WP p e below Φ T' (mkF m pc' L (v :: S))) : WP p e below Φ T (mkF m pc L (.ref a :: S)) := by
  obtain ⟨locs, X, eT, hS, hZ, hown, hC, hN, hn, hsf, hE, hWm, b1, b2, b3, b4, b5, b6⟩ := id W
  obtain ⟨T', X', e', st⟩ := getF X W.hx hZ hown w via eT F (g := mkF m pc L (.ref a :: S)) rfl rfl (W.hd dd)
  obtain ⟨hd, rfl⟩ := dd
  exact WP.st (fun t q => st t q) (k T' (W.pack X' e' hN (Nat.le_refl _) (fun H => ⟨H, fun _ q => q⟩) (fun x hx => Or.inl hx)))

theorem k_getS (W : WS p l e R s m args below meth c Z a0 EL nw n0 y code maxL ret T h sf cells slots) {index : Nat} {R0 O n d : String} (dd : D code pc (.getstatic index) 3 pc') (w : (Cond.fieldLink y.cls index R0 n d).before a0 Z = true) (via : Via Z R0 O n d) {v : Value} (F : Sta Z h O n d v)
    (k : ∀ T', WS p l e R s m args below meth c Z a0 EL nw n0 y code maxL ret T' h sf cells slots → WP p e below Φ T' (mkF m pc' L (v :: S))) : WP p e below Φ T (mkF m pc L (S)) := by
  obtain ⟨locs, X, eT, hS, hZ, hown, hC, hN, hn, hsf, hE, hWm, b1, b2, b3, b4, b5, b6⟩ := id W
  obtain ⟨T', X', e', st⟩ := getS X W.hx hZ (host := "") hown w via eT F (g := mkF m pc L S) rfl (W.hd dd)
  obtain ⟨hd, rfl⟩ := dd
  exact WP.st (fun t q => st t q) (k T' (W.pack X' e' hN (Nat.le_refl _) (fun H => ⟨H, fun _ q => q⟩) (fun x hx => Or.inl hx)))

theorem k_putF (W : WS p l e R s m args below meth c Z a0 EL nw n0 y code maxL ret T h sf cells slots) {index kk : Nat} {R0 O n d C : String} {ty : FieldType} (dd : D code pc (.putfield index) 3 pc') (w : (Cond.fieldLink y.cls index R0 n d).before a0 Z = true) (via : Via Z R0 O n d) {a : Addr} {v v' old : Value} (ha : a ∈ sf) (F : Fld Z h a O n d old) (E : Exa Z h a C)
    (Lw : (Cond.lays C O n d).before a0 Z = true ∨ ((Cond.laysFinal C O n d).before a0 Z = true ∧ y.cls = O ∧ y.name = "<init>")) (wi : (Cond.instantiable C kk).before a0 Z = true) (hty : parseFieldDescriptor d = some ty) (hnr : narrow ty v = v') (hf : fits ty v' = true)
    (k : ∀ T' h', WS p l e R s m args below meth c Z a0 EL nw n0 y code maxL ret T' h' sf cells slots → Wr h h' a (Jvm.RoadKit.slotOf Z O n d) v' → WP p e below Φ T' (mkF m pc' L (S))) : WP p e below Φ T (mkF m pc L (v :: .ref a :: S)) := by
  obtain ⟨locs, X, eT, hS, hZ, hown, hC, hN, hn, hsf, hE, hWm, b1, b2, b3, b4, b5, b6⟩ := id W
  obtain ⟨T', h', X', e', Wh, st⟩ := putFN X W.hx hZ hown w via eT F E (Lw.imp id fun q => ⟨q.1, q.2.1, b6.trans q.2.2⟩) wi hty hnr hf (g := mkF m pc L (v :: .ref a :: S)) rfl rfl (W.hd dd)
  obtain ⟨hd, rfl⟩ := dd
  exact WP.st (fun t q => st t q) (k T' h' (W.pack X' e' (Fr.snoc X' hN (hsf a ha).1) (Nat.le_of_eq Wh.size.symm) (fun H => H.wrStep Wh (hsf a ha).2.2) (fun x hx => Or.inl hx)) Wh)

theorem k_new (W : WS p l e R s m args below meth c Z a0 EL nw n0 y code maxL ret T h sf cells slots) {index n : Nat} {C : String} (c' s' : Nat) (dd : D code pc (.new index) 3 pc') (w : (Cond.classLink y.cls index C).before a0 Z = true) (wi : (Cond.instantiable C n).before a0 Z = true) (wz : (Cond.initialized C).before a0 Z = true) (hc : cells + 1 = c' ∧ c' ≤ R.cells) (hl : slots + n = s' ∧ s' ≤ R.slots)
    (k : ∀ T' h' a, a = h.size → WS p l e R s m args below meth c Z a0 EL nw n0 y code maxL ret T' h' (a :: sf) c' s' → Ext h h' → Exa Z h' a C → (∀ {O nm d : String} {ty : FieldType}, Laid Z a0 C O nm d → parseFieldDescriptor d = some ty → Fld Z h' a O nm d (defaultValue ty)) → WP p e below Φ T' (mkF m pc' L (.ref a :: S))) : WP p e below Φ T (mkF m pc L (S)) := by
  obtain ⟨locs, X, eT, hS, hZ, hown, hC, hN, hn, hsf, hE, hWm, b1, b2, b3, b4, b5, b6⟩ := id W
  obtain ⟨rfl, hc⟩ := hc
  obtain ⟨rfl, hl⟩ := hl
  obtain ⟨T', h', X', e', E, A, Dd, -, st⟩ := newO X W.hx hZ hown w wi wz eT (g := mkF m pc L S) rfl (W.hd dd) hc hl
  obtain ⟨hd, rfl⟩ := dd
  exact WP.st (fun t q => st t q) (k T' h' _ rfl (W.pack X' e' hN E.1 (fun H => H.step fun _ _ _ q => E.2 _ _ q) (fun x hx => (List.mem_cons.mp hx).elim (fun q => Or.inr (by subst q; exact ⟨Nat.le_refl _, A.lt⟩)) Or.inl)) E A Dd)

theorem k_newarr (W : WS p l e R s m args below meth c Z a0 EL nw n0 y code maxL ret T h sf cells slots) {aty : ArrayType} {z : Int32} (n c' s' : Nat) (dd : D code pc (.newarray aty) 2 pc') (w : (Cond.arrayClass (newarray.typeOf aty)).before a0 Z = true) (hz : Ix z n) (hb : n * 8 ≤ 536870912) (hc : cells + 1 = c' ∧ c' ≤ R.cells) (hl : slots + n = s' ∧ s' ≤ R.slots)
    (k : ∀ T' h' a, a = h.size → WS p l e R s m args below meth c Z a0 EL nw n0 y code maxL ret T' h' (a :: sf) c' s' → Ext h h' → Av Z h' a (newarray.typeOf aty) (List.replicate n (defaultValue (newarray.typeOf aty))) → WP p e below Φ T' (mkF m pc' L (.ref a :: S))) : WP p e below Φ T (mkF m pc L (.int z :: S)) := by
  obtain ⟨locs, X, eT, hS, hZ, hown, hC, hN, hn, hsf, hE, hWm, b1, b2, b3, b4, b5, b6⟩ := id W
  obtain ⟨rfl, hc⟩ := hc
  obtain ⟨rfl, hl⟩ := hl
  obtain ⟨T', h', cA, X', e', E, A, st⟩ := newP X W.hx hZ w eT (g := mkF m pc L (.int z :: S)) rfl (W.hd dd) rfl hz.1 (cap := n) (Nat.le_of_eq hz.2) hb hc hl
  obtain ⟨hd, rfl⟩ := dd
  exact WP.st (fun t q => st t q) (k T' h' _ rfl (W.pack X' e' hN E.1 (fun H => H.step fun _ _ _ q => E.2 _ _ q) (fun x hx => (List.mem_cons.mp hx).elim (fun q => Or.inr (by subst q; exact ⟨Nat.le_refl _, A.lt⟩)) Or.inl)) E (Av.new A n hz.2))

theorem k_castore (W : WS p l e R s m args below meth c Z a0 EL nw n0 y code maxL ret T h sf cells slots) {a : Addr} {vs : List Value} {j x z : Int32} (i : Nat) (dd : D code pc (.castore) 1 pc') (ha : a ∈ sf) (F : Av Z h a .char vs) (hj : Ix j i) (hi : i < vs.length) (hz : nar .char x = z) (hf : fits .char (.int z) = true)
    (k : ∀ T' h', WS p l e R s m args below meth c Z a0 EL nw n0 y code maxL ret T' h' sf cells slots → Wr h h' a i (.int z) → Av Z h' a .char (vs.set i (.int z)) → WP p e below Φ T' (mkF m pc' L (S))) : WP p e below Φ T (mkF m pc L (.int x :: .int j :: .ref a :: S)) := by
  obtain ⟨locs, X, eT, hS, hZ, hown, hC, hN, hn, hsf, hE, hWm, b1, b2, b3, b4, b5, b6⟩ := id W
  obtain ⟨cl, A, r1, r2, r3⟩ := id F
  have hsz : cl.slots.size = vs.length := by rw [← r1]; simp
  obtain ⟨T', h', X', e', Wh, st⟩ := stC X W.hx hZ eT A (j := j) (x := x) (hj.ok (by rw [hsz]; exact hi)) (g := mkF m pc L (.int x :: .int j :: .ref a :: S)) rfl rfl (W.hd dd)
  rw [hj.2] at X' Wh
  subst hz
  obtain ⟨hd, rfl⟩ := dd
  exact WP.st (fun t q => st t q) (k T' h' (W.pack X' e' (Fr.snoc X' hN (hsf a ha).1) (Nat.le_of_eq Wh.size.symm) (fun H => H.wrStep Wh (hsf a ha).2.2) (fun x hx => Or.inl hx)) Wh (F.set Wh hf))

theorem k_bastore (W : WS p l e R s m args below meth c Z a0 EL nw n0 y code maxL ret T h sf cells slots) {a : Addr} {vs : List Value} {j x z : Int32} (i : Nat) (dd : D code pc (.bastore) 1 pc') (ha : a ∈ sf) (F : Av Z h a .byte vs) (hj : Ix j i) (hi : i < vs.length) (hz : nar .byte x = z) (hf : fits .byte (.int z) = true)
    (k : ∀ T' h', WS p l e R s m args below meth c Z a0 EL nw n0 y code maxL ret T' h' sf cells slots → Wr h h' a i (.int z) → Av Z h' a .byte (vs.set i (.int z)) → WP p e below Φ T' (mkF m pc' L (S))) : WP p e below Φ T (mkF m pc L (.int x :: .int j :: .ref a :: S)) := by
  obtain ⟨locs, X, eT, hS, hZ, hown, hC, hN, hn, hsf, hE, hWm, b1, b2, b3, b4, b5, b6⟩ := id W
  obtain ⟨cl, A, r1, r2, r3⟩ := id F
  have hsz : cl.slots.size = vs.length := by rw [← r1]; simp
  obtain ⟨T', h', X', e', Wh, st⟩ := stB X W.hx hZ eT A (j := j) (x := x) (hj.ok (by rw [hsz]; exact hi)) (g := mkF m pc L (.int x :: .int j :: .ref a :: S)) rfl rfl (W.hd dd)
  rw [hj.2] at X' Wh
  subst hz
  obtain ⟨hd, rfl⟩ := dd
  exact WP.st (fun t q => st t q) (k T' h' (W.pack X' e' (Fr.snoc X' hN (hsf a ha).1) (Nat.le_of_eq Wh.size.symm) (fun H => H.wrStep Wh (hsf a ha).2.2) (fun x hx => Or.inl hx)) Wh (F.set Wh hf))

theorem k_iastore (W : WS p l e R s m args below meth c Z a0 EL nw n0 y code maxL ret T h sf cells slots) {a : Addr} {vs : List Value} {j x z : Int32} (i : Nat) (dd : D code pc (.iastore) 1 pc') (ha : a ∈ sf) (F : Av Z h a .int vs) (hj : Ix j i) (hi : i < vs.length) (hz : x = z) (hf : fits .int (.int z) = true)
    (k : ∀ T' h', WS p l e R s m args below meth c Z a0 EL nw n0 y code maxL ret T' h' sf cells slots → Wr h h' a i (.int z) → Av Z h' a .int (vs.set i (.int z)) → WP p e below Φ T' (mkF m pc' L (S))) : WP p e below Φ T (mkF m pc L (.int x :: .int j :: .ref a :: S)) := by
  obtain ⟨locs, X, eT, hS, hZ, hown, hC, hN, hn, hsf, hE, hWm, b1, b2, b3, b4, b5, b6⟩ := id W
  obtain ⟨cl, A, r1, r2, r3⟩ := id F
  have hsz : cl.slots.size = vs.length := by rw [← r1]; simp
  obtain ⟨T', h', X', e', Wh, st⟩ := stI X W.hx hZ eT A (j := j) (x := x) (hj.ok (by rw [hsz]; exact hi)) (g := mkF m pc L (.int x :: .int j :: .ref a :: S)) rfl rfl (W.hd dd)
  rw [hj.2] at X' Wh
  subst hz
  obtain ⟨hd, rfl⟩ := dd
  exact WP.st (fun t q => st t q) (k T' h' (W.pack X' e' (Fr.snoc X' hN (hsf a ha).1) (Nat.le_of_eq Wh.size.symm) (fun H => H.wrStep Wh (hsf a ha).2.2) (fun x hx => Or.inl hx)) Wh (F.set Wh hf))

theorem k_sastore (W : WS p l e R s m args below meth c Z a0 EL nw n0 y code maxL ret T h sf cells slots) {a : Addr} {vs : List Value} {j x z : Int32} (i : Nat) (dd : D code pc (.sastore) 1 pc') (ha : a ∈ sf) (F : Av Z h a .short vs) (hj : Ix j i) (hi : i < vs.length) (hz : nar .short x = z) (hf : fits .short (.int z) = true)
    (k : ∀ T' h', WS p l e R s m args below meth c Z a0 EL nw n0 y code maxL ret T' h' sf cells slots → Wr h h' a i (.int z) → Av Z h' a .short (vs.set i (.int z)) → WP p e below Φ T' (mkF m pc' L (S))) : WP p e below Φ T (mkF m pc L (.int x :: .int j :: .ref a :: S)) := by
  obtain ⟨locs, X, eT, hS, hZ, hown, hC, hN, hn, hsf, hE, hWm, b1, b2, b3, b4, b5, b6⟩ := id W
  obtain ⟨cl, A, r1, r2, r3⟩ := id F
  have hsz : cl.slots.size = vs.length := by rw [← r1]; simp
  obtain ⟨T', h', X', e', Wh, st⟩ := stS X W.hx hZ eT A (j := j) (x := x) (hj.ok (by rw [hsz]; exact hi)) (g := mkF m pc L (.int x :: .int j :: .ref a :: S)) rfl rfl (W.hd dd)
  rw [hj.2] at X' Wh
  subst hz
  obtain ⟨hd, rfl⟩ := dd
  exact WP.st (fun t q => st t q) (k T' h' (W.pack X' e' (Fr.snoc X' hN (hsf a ha).1) (Nat.le_of_eq Wh.size.symm) (fun H => H.wrStep Wh (hsf a ha).2.2) (fun x hx => Or.inl hx)) Wh (F.set Wh hf))

theorem k_zastore (W : WS p l e R s m args below meth c Z a0 EL nw n0 y code maxL ret T h sf cells slots) {a : Addr} {vs : List Value} {j x z : Int32} (i : Nat) (dd : D code pc (.bastore) 1 pc') (ha : a ∈ sf) (F : Av Z h a .boolean vs) (hj : Ix j i) (hi : i < vs.length) (hz : nar .boolean x = z) (hf : fits .boolean (.int z) = true)
    (k : ∀ T' h', WS p l e R s m args below meth c Z a0 EL nw n0 y code maxL ret T' h' sf cells slots → Wr h h' a i (.int z) → Av Z h' a .boolean (vs.set i (.int z)) → WP p e below Φ T' (mkF m pc' L (S))) : WP p e below Φ T (mkF m pc L (.int x :: .int j :: .ref a :: S)) := by
  obtain ⟨locs, X, eT, hS, hZ, hown, hC, hN, hn, hsf, hE, hWm, b1, b2, b3, b4, b5, b6⟩ := id W
  obtain ⟨cl, A, r1, r2, r3⟩ := id F
  have hsz : cl.slots.size = vs.length := by rw [← r1]; simp
  obtain ⟨T', h', X', e', Wh, st⟩ := stZ X W.hx hZ eT A (j := j) (x := x) (hj.ok (by rw [hsz]; exact hi)) (g := mkF m pc L (.int x :: .int j :: .ref a :: S)) rfl rfl (W.hd dd)
  rw [hj.2] at X' Wh
  subst hz
  obtain ⟨hd, rfl⟩ := dd
  exact WP.st (fun t q => st t q) (k T' h' (W.pack X' e' (Fr.snoc X' hN (hsf a ha).1) (Nat.le_of_eq Wh.size.symm) (fun H => H.wrStep Wh (hsf a ha).2.2) (fun x hx => Or.inl hx)) Wh (F.set Wh hf))

theorem k_caload (W : WS p l e R s m args below meth c Z a0 EL nw n0 y code maxL ret T h sf cells slots) {a : Addr} {vs : List Value} {j : Int32} {v : Value} (i : Nat) (dd : D code pc (.caload) 1 pc') (F : Av Z h a .char vs) (hj : Ix j i) (hi : vs[i]? = some v)
    (w : WP p e below Φ T (mkF m pc' L (v :: S))) : WP p e below Φ T (mkF m pc L (.int j :: .ref a :: S)) := by
  obtain ⟨locs, X, eT, hS, hZ, hown, hC, hN, hn, hsf, hE, hWm, b1, b2, b3, b4, b5, b6⟩ := id W
  obtain ⟨cl, A, r1, r2, r3⟩ := id F
  have hsz : cl.slots.size = vs.length := by rw [← r1]; simp
  have hlt : i < vs.length := (List.getElem?_eq_some_iff.mp hi).1
  have hv : cl.slots[j.toNatClampNeg]? = some v := by rw [hj.2, ← Array.getElem?_toList, r1]; exact hi
  have hA : (s.setVm T.vm).isArrayOf cl .char := State.isArrayOf_alike hZ.alike A.2.1
  obtain ⟨hd, rfl⟩ := id dd
  exact WP.st (fun t q => X.caload W.hx (by rw [eT]; exact A.1) hA A.2.2 (hj.ok (by rw [hsz]; exact hlt)) hv (g := mkF m pc L (.int j :: .ref a :: S)) rfl rfl (W.hd dd) _ q) w

theorem k_iaload (W : WS p l e R s m args below meth c Z a0 EL nw n0 y code maxL ret T h sf cells slots) {a : Addr} {vs : List Value} {j : Int32} {v : Value} (i : Nat) (dd : D code pc (.iaload) 1 pc') (F : Av Z h a .int vs) (hj : Ix j i) (hi : vs[i]? = some v)
    (w : WP p e below Φ T (mkF m pc' L (v :: S))) : WP p e below Φ T (mkF m pc L (.int j :: .ref a :: S)) := by
  obtain ⟨locs, X, eT, hS, hZ, hown, hC, hN, hn, hsf, hE, hWm, b1, b2, b3, b4, b5, b6⟩ := id W
  obtain ⟨cl, A, r1, r2, r3⟩ := id F
  have hsz : cl.slots.size = vs.length := by rw [← r1]; simp
  have hlt : i < vs.length := (List.getElem?_eq_some_iff.mp hi).1
  have hv : cl.slots[j.toNatClampNeg]? = some v := by rw [hj.2, ← Array.getElem?_toList, r1]; exact hi
  have hA : (s.setVm T.vm).isArrayOf cl .int := State.isArrayOf_alike hZ.alike A.2.1
  obtain ⟨hd, rfl⟩ := id dd
  exact WP.st (fun t q => X.iaload W.hx (by rw [eT]; exact A.1) hA A.2.2 (hj.ok (by rw [hsz]; exact hlt)) hv (g := mkF m pc L (.int j :: .ref a :: S)) rfl rfl (W.hd dd) _ q) w

theorem k_baload (W : WS p l e R s m args below meth c Z a0 EL nw n0 y code maxL ret T h sf cells slots) {a : Addr} {vs : List Value} {j : Int32} {v : Value} (i : Nat) (dd : D code pc (.baload) 1 pc') (F : Av Z h a .byte vs) (hj : Ix j i) (hi : vs[i]? = some v)
    (w : WP p e below Φ T (mkF m pc' L (v :: S))) : WP p e below Φ T (mkF m pc L (.int j :: .ref a :: S)) := by
  obtain ⟨locs, X, eT, hS, hZ, hown, hC, hN, hn, hsf, hE, hWm, b1, b2, b3, b4, b5, b6⟩ := id W
  obtain ⟨cl, A, r1, r2, r3⟩ := id F
  have hsz : cl.slots.size = vs.length := by rw [← r1]; simp
  have hlt : i < vs.length := (List.getElem?_eq_some_iff.mp hi).1
  have hv : cl.slots[j.toNatClampNeg]? = some v := by rw [hj.2, ← Array.getElem?_toList, r1]; exact hi
  have hA : (s.setVm T.vm).isArrayOf cl .byte := State.isArrayOf_alike hZ.alike A.2.1
  obtain ⟨hd, rfl⟩ := id dd
  exact WP.st (fun t q => X.baloadBytes W.hx (by rw [eT]; exact A.1) hA A.2.2 (hj.ok (by rw [hsz]; exact hlt)) hv (g := mkF m pc L (.int j :: .ref a :: S)) rfl rfl (W.hd dd) _ q) w

theorem k_aaload (W : WS p l e R s m args below meth c Z a0 EL nw n0 y code maxL ret T h sf cells slots) {a : Addr} {vs : List Value} {ty : FieldType} {j : Int32} {v : Value} (i : Nat) (dd : D code pc .aaload 1 pc') (F : Av Z h a ty vs) (hty : ty.isReference = true) (hj : Ix j i) (hi : vs[i]? = some v)
    (w : WP p e below Φ T (mkF m pc' L (v :: S))) : WP p e below Φ T (mkF m pc L (.int j :: .ref a :: S)) := by
  obtain ⟨locs, X, eT, hS, hZ, hown, hC, hN, hn, hsf, hE, hWm, b1, b2, b3, b4, b5, b6⟩ := id W
  obtain ⟨cl, A, r1, r2, r3⟩ := id F
  have hsz : cl.slots.size = vs.length := by rw [← r1]; simp
  have hlt : i < vs.length := (List.getElem?_eq_some_iff.mp hi).1
  have hv : cl.slots[j.toNatClampNeg]? = some v := by rw [hj.2, ← Array.getElem?_toList, r1]; exact hi
  have hA : (s.setVm T.vm).isArrayOf cl ty := State.isArrayOf_alike hZ.alike A.2.1
  obtain ⟨hd, rfl⟩ := id dd
  exact WP.st (fun t q => X.aaload W.hx (by rw [eT]; exact A.1) hA hty A.2.2 (hj.ok (by rw [hsz]; exact hlt)) hv (g := mkF m pc L (.int j :: .ref a :: S)) rfl rfl (W.hd dd) _ q) w

theorem k_arraylength (W : WS p l e R s m args below meth c Z a0 EL nw n0 y code maxL ret T h sf cells slots) {a : Addr} {ty : FieldType} {vs : List Value} {z : Int32} (dd : D code pc .arraylength 1 pc') (F : Av Z h a ty vs) (hz : vs.length.toInt32 = z) (w : WP p e below Φ T (mkF m pc' L (.int z :: S))) : WP p e below Φ T (mkF m pc L (.ref a :: S)) := by
  obtain ⟨locs, X, eT, hS, hZ, hown, hC, hN, hn, hsf, hE, hWm, b1, b2, b3, b4, b5, b6⟩ := id W
  obtain ⟨cl, A, r1, r2, r3⟩ := id F
  have hsz : cl.slots.size = vs.length := by rw [← r1]; simp
  have hA : (s.setVm T.vm).isArrayOf cl ty := State.isArrayOf_alike hZ.alike A.2.1
  obtain ⟨hd, rfl⟩ := id dd
  exact WP.st (fun t q => X.arraylength W.hx (by rw [eT]; exact A.1) hA (g := mkF m pc L (.ref a :: S)) rfl rfl (W.hd dd) _ (by rw [hsz, hz]; exact q)) w

theorem k_cast (W : WS p l e R s m args below meth c Z a0 EL nw n0 y code maxL ret T h sf cells slots) {index : Nat} {K : String} {a : Addr} (dd : D code pc (.checkcast index) 3 pc') (w : (Cond.classLink y.cls index K).before a0 Z = true) (F : Ins Z h a K true)
    (k : ∀ T', WS p l e R s m args below meth c Z a0 EL nw n0 y code maxL ret T' h sf cells slots → WP p e below Φ T' (mkF m pc' L (.ref a :: S))) : WP p e below Φ T (mkF m pc L (.ref a :: S)) := by
  obtain ⟨locs, X, eT, hS, hZ, hown, hC, hN, hn, hsf, hE, hWm, b1, b2, b3, b4, b5, b6⟩ := id W
  obtain ⟨T', X', e', st⟩ := castY X W.hx hZ hown w eT F (g := mkF m pc L (.ref a :: S)) rfl rfl (W.hd dd)
  obtain ⟨hd, rfl⟩ := dd
  exact WP.st (fun t q => st t q) (k T' (W.pack X' e' hN (Nat.le_refl _) (fun H => ⟨H, fun _ q => q⟩) (fun x hx => Or.inl hx)))
theorem k_instY (W : WS p l e R s m args below meth c Z a0 EL nw n0 y code maxL ret T h sf cells slots) {index : Nat} {K : String} {a : Addr} (dd : D code pc (.instanceof index) 3 pc') (w : (Cond.classLink y.cls index K).before a0 Z = true) (F : Ins Z h a K true)
    (k : ∀ T', WS p l e R s m args below meth c Z a0 EL nw n0 y code maxL ret T' h sf cells slots → WP p e below Φ T' (mkF m pc' L (.int 1 :: S))) : WP p e below Φ T (mkF m pc L (.ref a :: S)) := by
  obtain ⟨locs, X, eT, hS, hZ, hown, hC, hN, hn, hsf, hE, hWm, b1, b2, b3, b4, b5, b6⟩ := id W
  obtain ⟨T', X', e', st⟩ := instY X W.hx hZ hown w eT F (g := mkF m pc L (.ref a :: S)) rfl rfl (W.hd dd)
  obtain ⟨hd, rfl⟩ := dd
  exact WP.st (fun t q => st t q) (k T' (W.pack X' e' hN (Nat.le_refl _) (fun H => ⟨H, fun _ q => q⟩) (fun x hx => Or.inl hx)))

theorem nsRoot {O K : String} {n : Nat} (w : (Cond.noSuperclass O).before a0 Z = true) (wk : (Cond.instantiable K n).before a0 Z = true) (hn : O ≠ K) : NS Z O K := by
  obtain ⟨c, k, h1, h2, h3, -, -⟩ := Cond.noSuperclass_spec w
  obtain ⟨t, -, g1, -⟩ := Cond.instantiable_spec wk
  have ne := ids_ne h1 g1 hn
  refine ⟨c, t, h1, g1, fun fuel => ?_⟩
  cases fuel with
  | zero => rfl
  | succ f => simp [Vm.isSubclassAux, ne, h2, h3]
theorem nsNo {C S K : String} {n : Nat} (w : (Cond.superclass C S).before a0 Z = true) (wk : (Cond.instantiable K n).before a0 Z = true) (q : NS Z C K) (hn : C ≠ K) : ∃ c t, Z.vm.findClass C = some c ∧ Z.vm.findClass K = some t ∧ Z.vm.assignable c t = false := by
  obtain ⟨c, t, h0, g0, n3⟩ := q
  obtain ⟨p, k, kp, h1, h2, h3, h4, h5, -, h7⟩ := Cond.superclass_spec h0 w
  obtain ⟨t', k', g1, g2, g3, g4, -⟩ := Cond.instantiable_spec wk
  cases g0.symm.trans g1
  have g5 : k'.isInterface = false := by cases hh : k'.isInterface <;> simp [hh] at g4 ⊢
  have ne := ids_ne h0 g0 hn
  refine ⟨c, t, h0, g0, ?_⟩
  show Z.vm.assignableAux (255 + 1) c t = false
  simp [Vm.assignableAux, ne, h2, g2, h5, g3, g5, Vm.isSubclass, n3]
theorem k_instN (W : WS p l e R s m args below meth c Z a0 EL nw n0 y code maxL ret T h sf cells slots) {index : Nat} {K C : String} {a : Addr} (dd : D code pc (.instanceof index) 3 pc') (w : (Cond.classLink y.cls index K).before a0 Z = true) (E : Exa Z h a C) (F : ∃ c t, Z.vm.findClass C = some c ∧ Z.vm.findClass K = some t ∧ Z.vm.assignable c t = false)
    (k : ∀ T', WS p l e R s m args below meth c Z a0 EL nw n0 y code maxL ret T' h sf cells slots → WP p e below Φ T' (mkF m pc' L (.int 0 :: S))) : WP p e below Φ T (mkF m pc L (.ref a :: S)) := by
  obtain ⟨locs, X, eT, hS, hZ, hown, hC, hN, hn, hsf, hE, hWm, b1, b2, b3, b4, b5, b6⟩ := id W
  obtain ⟨T', X', e', st⟩ := instNo X W.hx hZ hown w eT E F (g := mkF m pc L (.ref a :: S)) rfl rfl (W.hd dd)
  obtain ⟨hd, rfl⟩ := dd
  exact WP.st (fun t q => st t q) (k T' (W.pack X' e' hN (Nat.le_refl _) (fun H => ⟨H, fun _ q => q⟩) (fun x hx => Or.inl hx)))
theorem k_instNull (W : WS p l e R s m args below meth c Z a0 EL nw n0 y code maxL ret T h sf cells slots) {index : Nat} (dd : D code pc (.instanceof index) 3 pc') (w : WP p e below Φ T (mkF m pc' L (.int 0 :: S))) : WP p e below Φ T (mkF m pc L (.null :: S)) := by
  obtain ⟨locs, X, eT, hS, hZ, hown, hC, hN, hn, hsf, hE, hWm, b1, b2, b3, b4, b5, b6⟩ := id W
  obtain ⟨hd, rfl⟩ := id dd
  exact WP.st (fun t q => X.instanceofNull W.hx (g := mkF m pc L (.null :: S)) rfl rfl (W.hd dd) _ q) w
theorem k_castNull (W : WS p l e R s m args below meth c Z a0 EL nw n0 y code maxL ret T h sf cells slots) {index : Nat} (dd : D code pc (.checkcast index) 3 pc') (w : WP p e below Φ T (mkF m pc' L (.null :: S))) : WP p e below Φ T (mkF m pc L (.null :: S)) := by
  obtain ⟨locs, X, eT, hS, hZ, hown, hC, hN, hn, hsf, hE, hWm, b1, b2, b3, b4, b5, b6⟩ := id W
  obtain ⟨hd, rfl⟩ := id dd
  exact WP.st (fun t q => X.checkcastNull W.hx (g := mkF m pc L (.null :: S)) rfl rfl (W.hd dd) _ q) w

theorem k_ldcI (W : WS p l e R s m args below meth c Z a0 EL nw n0 y code maxL ret T h sf cells slots) {index : Nat} {v : Int32} (dd : D code pc (.ldc index) 2 pc') (w : (Cond.constant y.cls index v).before a0 Z = true) (k : WP p e below Φ T (mkF m pc' L (.int v :: S))) : WP p e below Φ T (mkF m pc L (S)) := by
  obtain ⟨locs, X, eT, hS, hZ, hown, hC, hN, hn, hsf, hE, hWm, b1, b2, b3, b4, b5, b6⟩ := id W
  obtain ⟨hd, rfl⟩ := id dd
  exact WP.st (fun t q => Jvm.Stand.ldcI X W.hx hown (mv (s := s.setVm T.vm) hZ w) (g := mkF m pc L S) rfl (W.hd dd) q) k
theorem k_ldc2J (W : WS p l e R s m args below meth c Z a0 EL nw n0 y code maxL ret T h sf cells slots) {index : Nat} {v : Int64} (dd : D code pc (.ldc2_w index) 3 pc') (w : (Cond.constantLong y.cls index v).before a0 Z = true) (k : WP p e below Φ T (mkF m pc' L (.long v :: S))) : WP p e below Φ T (mkF m pc L (S)) := by
  obtain ⟨locs, X, eT, hS, hZ, hown, hC, hN, hn, hsf, hE, hWm, b1, b2, b3, b4, b5, b6⟩ := id W
  obtain ⟨hd, rfl⟩ := id dd
  exact WP.st (fun t q => Jvm.Stand.ldc2J X W.hx hown (mv (s := s.setVm T.vm) hZ w) (g := mkF m pc L S) rfl (W.hd dd) q) k

theorem k_initO (W : WS p l e R s m args below meth c Z a0 EL nw n0 y code maxL ret T h sf cells slots) {index : Nat} {a : Addr} (Wd : Nat) (dd : D code pc (.invokespecial index) 3 pc') (w1 : (Cond.methodLink y.cls index Lib.objectInit).before a0 Z = true) (w2 : (Cond.instanceMethod Lib.objectInit).before a0 Z = true) (w3 : (Cond.code Lib.objectInit ⟨#[0xb1]⟩ 1 none).before a0 Z = true)
    (hL : L.size = maxL) (hW : catS S ≤ Wd) (hf : 1 ≤ R.frames) (hl : Wd + 12 ≤ R.locals) (k : ∀ T', WS p l e R s m args below meth c Z a0 EL nw n0 y code maxL ret T' h sf cells slots → WP p e below Φ T' (mkF m pc' L (S))) : WP p e below Φ T (mkF m pc L (.ref a :: S)) := by
  obtain ⟨locs, X, eT, hS, hZ, hown, hC, hN, hn, hsf, hE, hWm, b1, b2, b3, b4, b5, b6⟩ := id W
  obtain ⟨T', X', e', st⟩ := initO X W.hx hZ hown w1 w2 w3 eT (g := mkF m pc L (.ref a :: S)) rfl (hL.trans b5.symm) rfl (W.hd dd) hf (W := Wd) (by show 2 * 0 + _ ≤ _; rw [Nat.mul_zero, Nat.zero_add]; exact hW) hl
  obtain ⟨hd, rfl⟩ := dd
  exact WP.st (fun t q => st t q) (k T' (W.pack X' e' hN (Nat.le_refl _) (fun H => ⟨H, fun _ q => q⟩) (fun x hx => Or.inl hx)))

theorem k_ldcO (W : WS p l e R s m args below meth c Z a0 EL nw n0 y code maxL ret T h sf cells slots) {index : Nat} {text : String} (n c' s' : Nat) (hnw : nw = false) (dd : D code pc (.ldc index) 2 pc') (w : (Cond.stringLink y.cls index text).before a0 Z = true) (wS : ∀ a ∈ Bundle.stringAtoms, a.before a0 Z = true) (hn1 : 4 * text.toList.length ≤ n ∧ n ≤ 536870912) (hc : cells + 2 = c' ∧ c' ≤ R.cells) (hl : slots + (n + 4) = s' ∧ s' ≤ R.slots)
    (k : ∀ T' h' a, WS p l e R s m args below meth c Z a0 EL nw n0 y code maxL ret T' h' sf c' s' → Ext h h' → WP p e below Φ T' (mkF m pc' L (.ref a :: S))) : WP p e below Φ T (mkF m pc L (S)) := by
  obtain ⟨locs, X, eT, hS, hZ, hown, hC, hN, hn, hsf, hE, hWm, b1, b2, b3, b4, b5, b6⟩ := id W
  obtain ⟨rfl, hc⟩ := hc
  obtain ⟨rfl, hl⟩ := hl
  obtain ⟨a, T', h', k1, X', e', E, hS', hk', hW', hown', hC', -, st⟩ := ldcOH (EL := EL) X W.hx hZ hown w wS eT hS (Nat.le_refl _) hE hC.1 (g := mkF m pc L S) rfl (W.hd dd) hn1.1 hn1.2 hc hl
  obtain ⟨hd, rfl⟩ := dd
  refine WP.st (fun t q => st t q) (k T' h' a ⟨locs, X', e', ⟨hS'.1, fun j p u v => ⟨(hS'.2 j p u v).1, Nat.lt_of_lt_of_le (hS'.2 j p u v).2 hk'⟩⟩, hW', hown', hC.trans hC', hN, Nat.le_trans hn E.1, fun x hx => ?_, hE, fun u => by (rw [hnw] at u; cases u), b1, b2, b3, b4, b5, b6⟩ E)
  obtain ⟨g1, g2, g3⟩ := hsf x hx
  exact ⟨g1, Nat.lt_of_lt_of_le g2 E.1, hC'.safe g2 g3⟩
theorem k_ldcS (W : WS p l e R s m args below meth c Z a0 EL nw n0 y code maxL ret T h sf cells slots) {index : Nat} {text : String} (bs : List Int32) (n c' s' : Nat) (hnw : nw = false) (dd : D code pc (.ldc index) 2 pc') (w : (Cond.stringLink y.cls index text).before a0 Z = true) (wS : ∀ a ∈ Bundle.stringAtoms, a.before a0 Z = true) (hmem : (y.cls, index) ∈ EL)
    (ht : (∀ c ∈ text.toList, c.toNat < 256) ∧ text.toList.map (fun c => Value.int (Jvm.Lit.byteI c.toNat.toUInt16)) = bs.map Value.int) (hlen : bs.length < 2147483648) (hn1 : 4 * text.toList.length ≤ n ∧ n ≤ 536870912) (hc : cells + 2 = c' ∧ c' ≤ R.cells) (hl : slots + (n + 4) = s' ∧ s' ≤ R.slots)
    (k : ∀ T' h' a b, WS p l e R s m args below meth c Z a0 EL nw n0 y code maxL ret T' h' sf c' s' → Ext h h' → St Z h' a b bs → (∀ x ∈ sf, x ≠ a ∧ x ≠ b) → WP p e below Φ T' (mkF m pc' L (.ref a :: S))) : WP p e below Φ T (mkF m pc L (S)) := by
  obtain ⟨locs, X, eT, hS, hZ, hown, hC, hN, hn, hsf, hE, hWm, b1, b2, b3, b4, b5, b6⟩ := id W
  obtain ⟨rfl, hc⟩ := hc
  obtain ⟨rfl, hl⟩ := hl
  have hzz : (Int32.ofNat bs.length).toNatClampNeg = (bs.map Value.int).length := by
    rw [List.length_map]; unfold Int32.toNatClampNeg; rw [Int32.toInt_ofNat_of_lt (by simpa using hlen)]; rfl
  have hz0 : ¬ Int32.ofNat bs.length < 0 := by
    rw [Int32.lt_iff_toInt_lt, Int32.toInt_ofNat_of_lt (by simpa using hlen)]; simp
  obtain ⟨a, T', h', k1, b, kk, X', e', E, hS', hk', hW', hown', G1, G2, G3, G4, -, -, hC', -, hne, st⟩ := ldcCH (EL := EL) X W.hx hZ hown w wS eT hS (Nat.le_refl _) hE hmem hC.1 (vs := bs.map Value.int) (z := Int32.ofNat bs.length) ht hz0 hzz (g := mkF m pc L S) rfl (W.hd dd) hn1.1 hn1.2 hc hl
  obtain ⟨hd, rfl⟩ := dd
  have hsf' : ∀ x ∈ sf, n0 ≤ x ∧ x < h'.size ∧ Safe Z EL T'.vm h' x := fun x hx => by
    obtain ⟨g1, g2, g3⟩ := hsf x hx
    exact ⟨g1, Nat.lt_of_lt_of_le g2 E.1, hC'.safe g2 g3⟩
  exact WP.st (fun t q => st t q) (k T' h' a b ⟨locs, X', e', ⟨hS'.1, fun j p u v => ⟨(hS'.2 j p u v).1, Nat.lt_of_lt_of_le (hS'.2 j p u v).2 hk'⟩⟩, hW', hown', hC.trans hC', hN, Nat.le_trans hn E.1, hsf', hE, fun u => by (rw [hnw] at u; cases u), b1, b2, b3, b4, b5, b6⟩ E ⟨G1, G2, G3, Av.of_arv G4 hzz⟩ (fun x hx => hne x (hsf' x hx).2.2))
end Steps

/-! ## calls by contract -/
section Calls
variable {p : Program} {l : Launch} {e : Env} {R : Room} {s : State} {m : MethodId} {args : Array Value} {below : List Frame} {meth : Method} {c : Code} {Z : State} {EL : List (String × Nat)} {nw : Bool} {n0 : Nat} {y : MethodName} {code : ByteArray} {maxL : Nat} {ret : Option FieldType} {T : State} {h : Heap} {sf : List Addr} {cells slots : Nat} {Φ : Outcome → State → Prop} {a0 : Array Value} {pc pc' : Nat} {L : Array Slot} {S : List Value}
theorem backCt {z : MethodName} {bytes : ByteArray} {mL : Nat} {rt : Option FieldType} {rm : Room} {as' : Array Value} {sfc : List Addr} {Q : Option Value → Heap → List Addr → Prop} {len Wd : Nat} {vm0 : Vm}
    (hM : Ct l Z a0 EL nw z bytes mL rt rm as' h sfc n0 Q) (hZ : Z.Warmed39 vm0) (wc : (Cond.code z bytes mL rt).before a0 Z = true) (wz : (Cond.initialized z.cls).before a0 Z = true) (hf : rm.frames + 1 ≤ R.frames) (hl : Wd + (mL + 11) + rm.locals ≤ R.locals) (hE : EW Z a0 EL) (hn : n0 ≤ h.size) (H : CHv Z EL vm0 h) (hsf : ∀ x ∈ sfc, n0 ≤ x ∧ x < h.size ∧ Safe Z EL vm0 h x) :
    BackS l R p e below (s.setVm vm0) args z len Wd (fun A a => a = as' ∧ A.U.heap = h ∧ A.cells + rm.cells ≤ R.cells ∧ A.slots + rm.slots ≤ R.slots)
      (fun A _ v B => ∃ L so, Q v B.U.heap so ∧ Fr n0 L ∧ B.locs = A.locs ++ L ∧ B.cells = A.cells + rm.cells ∧ B.slots = A.slots + rm.slots ∧ CHr Z EL vm0 h B.U.vm B.U.heap ∧ (nw = true → (s.setVm vm0).WarmedH B.U.vm) ∧ ∀ x ∈ so, n0 ≤ x ∧ x < B.U.heap.size ∧ Safe Z EL B.U.vm B.U.heap x) := by
  refine BackS.of_freeW (bytes := bytes) (maxL := mL) (ret := rt) (E := fun _ first o t L k n => k = rm.cells ∧ n = rm.slots ∧ ∃ v so, o = .returned v ∧ Q v t.heap so ∧ Fr n0 L ∧ CHr Z EL first.vm first.heap t.vm t.heap ∧ (nw = true → first.WarmedH t.vm) ∧ ∀ x ∈ so, n0 ≤ x ∧ x < t.heap.size ∧ Safe Z EL t.vm t.heap x) (hM []) hf hl ?_ ?_ (fun _ _ _ _ _ _ _ _ _ => trivial) ?_ ?_
  · intro m meth c A a Y hp
    have hU : Z.Warmed39 A.U.vm := wtrans (s := s.setVm vm0) hZ Y.warmed
    exact ⟨by show (Cond.and _ .tt).before a A.U = true; rw [Cond.before_and, mv hU wc]; rfl, mv hU wc, mv hU wz, hp.2.2.1, hp.2.2.2⟩
  · intro m meth c A a g mk Y hp
    have C := CHv.at Y hZ hE H
    refine ⟨hp.1, wtrans (s := s.setVm vm0) hZ Y.warmed, hp.2.1, C.1, hn, hE, fun x hx => ?_⟩
    obtain ⟨q1, q2, q3⟩ := hsf x hx
    exact ⟨q1, q2, C.safe q2 q3⟩
  · rintro a first o t ⟨v, L, so, q1, q2, q3, q4, q5, qw, q6⟩
    exact ⟨L, _, _, q6, rfl, rfl, v, so, q1, q2, q3, q4, qw, q5⟩
  · rintro m meth c A a g mk v t L k n Y hp - - ⟨rfl, rfl, v', so, q1, q2, q3, q4, qw, q5⟩
    cases q1
    refine ⟨L, so, q2, q3, rfl, rfl, rfl, (CHv.at Y hZ hE H).trans ?_, fun u => State.WarmedH.trans Y.warmed (qw u), q5⟩
    rw [← hp.2.1]; exact q4

theorem k_callS (W : WS p l e R s m args below meth c Z a0 EL nw n0 y code maxL ret T h sf cells slots) {z : MethodName} {bytes : ByteArray} {mL : Nat} {rt : Option FieldType} {rm : Room} {sfc : List Addr} {Q : Option Value → Heap → List Addr → Prop} (Wd c' s' : Nat) {argsL rest : List Value} {index : Nat} (dd : D code pc (.invokestatic index) 3 pc') (w1 : (Cond.methodLink y.cls index z).before a0 Z = true) (w2 : (Cond.static z).before a0 Z = true) (hy : z.cls ≠ "java/lang/invoke/MethodHandle" ∧ z.cls ≠ "java/lang/invoke/VarHandle") (hlen : ∀ sig, parseMethodDescriptor z.desc = some sig → argsL.length = sig.parameters.length) (hC : Ct l Z a0 EL nw z bytes mL rt rm argsL.toArray h sfc n0 Q) (w4 : (Cond.code z bytes mL rt).before a0 Z = true) (w3 : (Cond.initialized z.cls).before a0 Z = true) (hsfc : ∀ x ∈ sfc, x ∈ sf) (hL : L.size = maxL) (hW : catS rest ≤ Wd) (hf : rm.frames + 1 ≤ R.frames) (hl : Wd + (mL + 11) + rm.locals ≤ R.locals) (hc : cells + rm.cells = c' ∧ c' ≤ R.cells) (hs : slots + rm.slots = s' ∧ s' ≤ R.slots) (hst : S = argsL.reverse ++ rest) (hnv : ∀ h so, ¬ Q none h so)
    (k : ∀ T' h' (v : Value) so, WS p l e R s m args below meth c Z a0 EL nw n0 y code maxL ret T' h' sf c' s' → Q (some v) h' so → WP p e below Φ T' (mkF m pc' L (v :: rest))) : WP p e below Φ T (mkF m pc L S) := by
  obtain ⟨locs, X, eT, hS, hZ, hown, hC0, hN, hn, hsf, hE, hWm, b1, b2, b3, b4, b5, b6⟩ := id W
  obtain ⟨rfl, hc⟩ := hc
  obtain ⟨rfl, hs⟩ := hs
  have hB := backCt (R := R) (p := p) (e := e) (below := below) (s := s) (args := args) (len := 3) (Wd := Wd) hC hZ w4 w3 hf hl hE hn hC0.1 (fun x hx => hsf x (hsfc x hx))
  obtain ⟨v, vm₁, ⟨U', L', c1, s1⟩, -, X', hS', hg, hpost, st⟩ := callSS X W.hx hown (mvT (s := s.setVm T.vm) hZ w1) (mvT (s := s.setVm T.vm) hZ w2) (mvT (s := s.setVm T.vm) hZ w3) (mvT (s := s.setVm T.vm) hZ w4) hy hB (g := mkF m pc L S) rfl (hL.trans b5.symm) (argsL := argsL) (rest := rest) hlen hst (by show 2 * 0 + _ ≤ _; rw [Nat.mul_zero, Nat.zero_add]; exact hW) (W.hd dd) (fun vm₁ _ => ⟨rfl, eT, hc, hs⟩)
  obtain ⟨L1, so, q1, q2, q3, q4, q5, q6, qw, q7⟩ := hpost
  dsimp only [Pt.U, Pt.locs, Pt.cells, Pt.slots] at X' hS' hg q1 q2 q3 q4 q5 q6 qw q7 st
  subst q3 q4 q5
  obtain ⟨hd, rfl⟩ := dd
  have WW : WS p l e R s m args below meth c Z a0 EL nw n0 y code maxL ret U' U'.heap (so ++ sf) (cells + rm.cells) (slots + rm.slots) := by
    refine ⟨_, X', rfl, hS.trans hS' (by rw [← eT]; exact hg), State.Warmed39.trans (t := s.setVm T.vm) hZ hS'.1, by rw [hS'.1.alike.findClass]; exact hown, hC0.trans q6, hN.app q2, Nat.le_trans hn (by rw [← eT]; exact hg), fun x hx => ?_, hE, fun u => State.WarmedH.trans (t := s.setVm T.vm) (hWm u) (qw u), b1, b2, b3, b4, b5, b6⟩
    rcases List.mem_append.mp hx with u | u
    · exact q7 x u
    · obtain ⟨g1, g2, g3⟩ := hsf x u
      exact ⟨g1, Nat.lt_of_lt_of_le g2 (by rw [← eT]; exact hg), q6.safe g2 g3⟩
  cases v with
  | none => exact absurd q1 (hnv _ _)
  | some v =>
  refine WP.steps st (k _ _ v so (WS.mono (sf' := sf) WW (Nat.le_refl _) (Nat.le_refl _) (fun x hx => List.mem_append_right _ hx)) q1)

theorem k_callS0 (W : WS p l e R s m args below meth c Z a0 EL nw n0 y code maxL ret T h sf cells slots) {z : MethodName} {bytes : ByteArray} {mL : Nat} {rt : Option FieldType} {rm : Room} {sfc : List Addr} {Q : Option Value → Heap → List Addr → Prop} (Wd c' s' : Nat) {argsL rest : List Value} {index : Nat} (dd : D code pc (.invokestatic index) 3 pc') (w1 : (Cond.methodLink y.cls index z).before a0 Z = true) (w2 : (Cond.static z).before a0 Z = true) (hy : z.cls ≠ "java/lang/invoke/MethodHandle" ∧ z.cls ≠ "java/lang/invoke/VarHandle") (hlen : ∀ sig, parseMethodDescriptor z.desc = some sig → argsL.length = sig.parameters.length) (hC : Ct l Z a0 EL nw z bytes mL rt rm argsL.toArray h sfc n0 Q) (w4 : (Cond.code z bytes mL rt).before a0 Z = true) (w3 : (Cond.initialized z.cls).before a0 Z = true) (hsfc : ∀ x ∈ sfc, x ∈ sf) (hL : L.size = maxL) (hW : catS rest ≤ Wd) (hf : rm.frames + 1 ≤ R.frames) (hl : Wd + (mL + 11) + rm.locals ≤ R.locals) (hc : cells + rm.cells = c' ∧ c' ≤ R.cells) (hs : slots + rm.slots = s' ∧ s' ≤ R.slots) (hst : S = argsL.reverse ++ rest) (hnv : ∀ v h so, ¬ Q (some v) h so)
    (k : ∀ T' h'  so, WS p l e R s m args below meth c Z a0 EL nw n0 y code maxL ret T' h' sf c' s' → Q none h' so → WP p e below Φ T' (mkF m pc' L rest)) : WP p e below Φ T (mkF m pc L S) := by
  obtain ⟨locs, X, eT, hS, hZ, hown, hC0, hN, hn, hsf, hE, hWm, b1, b2, b3, b4, b5, b6⟩ := id W
  obtain ⟨rfl, hc⟩ := hc
  obtain ⟨rfl, hs⟩ := hs
  have hB := backCt (R := R) (p := p) (e := e) (below := below) (s := s) (args := args) (len := 3) (Wd := Wd) hC hZ w4 w3 hf hl hE hn hC0.1 (fun x hx => hsf x (hsfc x hx))
  obtain ⟨v, vm₁, ⟨U', L', c1, s1⟩, -, X', hS', hg, hpost, st⟩ := callSS X W.hx hown (mvT (s := s.setVm T.vm) hZ w1) (mvT (s := s.setVm T.vm) hZ w2) (mvT (s := s.setVm T.vm) hZ w3) (mvT (s := s.setVm T.vm) hZ w4) hy hB (g := mkF m pc L S) rfl (hL.trans b5.symm) (argsL := argsL) (rest := rest) hlen hst (by show 2 * 0 + _ ≤ _; rw [Nat.mul_zero, Nat.zero_add]; exact hW) (W.hd dd) (fun vm₁ _ => ⟨rfl, eT, hc, hs⟩)
  obtain ⟨L1, so, q1, q2, q3, q4, q5, q6, qw, q7⟩ := hpost
  dsimp only [Pt.U, Pt.locs, Pt.cells, Pt.slots] at X' hS' hg q1 q2 q3 q4 q5 q6 qw q7 st
  subst q3 q4 q5
  obtain ⟨hd, rfl⟩ := dd
  have WW : WS p l e R s m args below meth c Z a0 EL nw n0 y code maxL ret U' U'.heap (so ++ sf) (cells + rm.cells) (slots + rm.slots) := by
    refine ⟨_, X', rfl, hS.trans hS' (by rw [← eT]; exact hg), State.Warmed39.trans (t := s.setVm T.vm) hZ hS'.1, by rw [hS'.1.alike.findClass]; exact hown, hC0.trans q6, hN.app q2, Nat.le_trans hn (by rw [← eT]; exact hg), fun x hx => ?_, hE, fun u => State.WarmedH.trans (t := s.setVm T.vm) (hWm u) (qw u), b1, b2, b3, b4, b5, b6⟩
    rcases List.mem_append.mp hx with u | u
    · exact q7 x u
    · obtain ⟨g1, g2, g3⟩ := hsf x u
      exact ⟨g1, Nat.lt_of_lt_of_le g2 (by rw [← eT]; exact hg), q6.safe g2 g3⟩
  cases v with
  | some v => exact absurd q1 (hnv _ _ _)
  | none =>
  refine WP.steps st (k _ _ so (WS.mono (sf' := sf) WW (Nat.le_refl _) (Nat.le_refl _) (fun x hx => List.mem_append_right _ hx)) q1)

theorem k_callSn (W : WS p l e R s m args below meth c Z a0 EL nw n0 y code maxL ret T h sf cells slots) {z : MethodName} {bytes : ByteArray} {mL : Nat} {rt : Option FieldType} {rm : Room} {sfc : List Addr} {Q : Option Value → Heap → List Addr → Prop} (Wd c' s' : Nat) {argsL rest : List Value} {index : Nat} (dd : D code pc (.invokestatic index) 3 pc') (w1 : (Cond.methodLink y.cls index z).before a0 Z = true) (w2 : (Cond.static z).before a0 Z = true) (hy : z.cls ≠ "java/lang/invoke/MethodHandle" ∧ z.cls ≠ "java/lang/invoke/VarHandle") (hlen : ∀ sig, parseMethodDescriptor z.desc = some sig → argsL.length = sig.parameters.length) (hC : Ct l Z a0 EL nw z bytes mL rt rm argsL.toArray h sfc n0 Q) (w4 : (Cond.code z bytes mL rt).before a0 Z = true) (w3 : (Cond.initialized z.cls).before a0 Z = true) (hsfc : ∀ x ∈ sfc, x ∈ sf) (hL : L.size = maxL) (hW : catS rest ≤ Wd) (hf : rm.frames + 1 ≤ R.frames) (hl : Wd + (mL + 11) + rm.locals ≤ R.locals) (hc : cells + rm.cells = c' ∧ c' ≤ R.cells) (hs : slots + rm.slots = s' ∧ s' ≤ R.slots) (hst : S = argsL.reverse ++ rest) (hnv : ∀ h so, ¬ Q none h so)
    (k : ∀ T' h' (v : Value) so, WS p l e R s m args below meth c Z a0 EL nw n0 y code maxL ret T' h' (so ++ sf) c' s' → Q (some v) h' so → WP p e below Φ T' (mkF m pc' L (v :: rest))) : WP p e below Φ T (mkF m pc L S) := by
  obtain ⟨locs, X, eT, hS, hZ, hown, hC0, hN, hn, hsf, hE, hWm, b1, b2, b3, b4, b5, b6⟩ := id W
  obtain ⟨rfl, hc⟩ := hc
  obtain ⟨rfl, hs⟩ := hs
  have hB := backCt (R := R) (p := p) (e := e) (below := below) (s := s) (args := args) (len := 3) (Wd := Wd) hC hZ w4 w3 hf hl hE hn hC0.1 (fun x hx => hsf x (hsfc x hx))
  obtain ⟨v, vm₁, ⟨U', L', c1, s1⟩, -, X', hS', hg, hpost, st⟩ := callSS X W.hx hown (mvT (s := s.setVm T.vm) hZ w1) (mvT (s := s.setVm T.vm) hZ w2) (mvT (s := s.setVm T.vm) hZ w3) (mvT (s := s.setVm T.vm) hZ w4) hy hB (g := mkF m pc L S) rfl (hL.trans b5.symm) (argsL := argsL) (rest := rest) hlen hst (by show 2 * 0 + _ ≤ _; rw [Nat.mul_zero, Nat.zero_add]; exact hW) (W.hd dd) (fun vm₁ _ => ⟨rfl, eT, hc, hs⟩)
  obtain ⟨L1, so, q1, q2, q3, q4, q5, q6, qw, q7⟩ := hpost
  dsimp only [Pt.U, Pt.locs, Pt.cells, Pt.slots] at X' hS' hg q1 q2 q3 q4 q5 q6 qw q7 st
  subst q3 q4 q5
  obtain ⟨hd, rfl⟩ := dd
  have WW : WS p l e R s m args below meth c Z a0 EL nw n0 y code maxL ret U' U'.heap (so ++ sf) (cells + rm.cells) (slots + rm.slots) := by
    refine ⟨_, X', rfl, hS.trans hS' (by rw [← eT]; exact hg), State.Warmed39.trans (t := s.setVm T.vm) hZ hS'.1, by rw [hS'.1.alike.findClass]; exact hown, hC0.trans q6, hN.app q2, Nat.le_trans hn (by rw [← eT]; exact hg), fun x hx => ?_, hE, fun u => State.WarmedH.trans (t := s.setVm T.vm) (hWm u) (qw u), b1, b2, b3, b4, b5, b6⟩
    rcases List.mem_append.mp hx with u | u
    · exact q7 x u
    · obtain ⟨g1, g2, g3⟩ := hsf x u
      exact ⟨g1, Nat.lt_of_lt_of_le g2 (by rw [← eT]; exact hg), q6.safe g2 g3⟩
  cases v with
  | none => exact absurd q1 (hnv _ _)
  | some v =>
  refine WP.steps st (k _ _ v so WW q1)

theorem k_callI0 (W : WS p l e R s m args below meth c Z a0 EL nw n0 y code maxL ret T h sf cells slots) {z : MethodName} {bytes : ByteArray} {mL : Nat} {rt : Option FieldType} {rm : Room} {sfc : List Addr} {Q : Option Value → Heap → List Addr → Prop} (Wd c' s' : Nat) {argsL rest : List Value} {index : Nat} {a : Addr} (dd : D code pc (.invokespecial index) 3 pc') (hrt : rt = none) (hz : z.name = "<init>") (w1 : (Cond.methodLink y.cls index z).before a0 Z = true) (w2 : (Cond.instanceMethod z).before a0 Z = true) (hy : z.cls ≠ "java/lang/invoke/MethodHandle" ∧ z.cls ≠ "java/lang/invoke/VarHandle") (hlen : ∀ sig, parseMethodDescriptor z.desc = some sig → argsL.length = sig.parameters.length) (hC : Ct l Z a0 EL nw z bytes mL rt rm (.ref a :: argsL).toArray h sfc n0 Q) (w4 : (Cond.code z bytes mL rt).before a0 Z = true) (w3 : (Cond.initialized z.cls).before a0 Z = true) (hsfc : ∀ x ∈ sfc, x ∈ sf) (hL : L.size = maxL) (hW : catS rest ≤ Wd) (hf : rm.frames + 1 ≤ R.frames) (hl : Wd + (mL + 11) + rm.locals ≤ R.locals) (hc : cells + rm.cells = c' ∧ c' ≤ R.cells) (hs : slots + rm.slots = s' ∧ s' ≤ R.slots) (hst : S = argsL.reverse ++ .ref a :: rest) (hnv : ∀ v h so, ¬ Q (some v) h so)
    (k : ∀ T' h'  so, WS p l e R s m args below meth c Z a0 EL nw n0 y code maxL ret T' h' sf c' s' → Q none h' so → WP p e below Φ T' (mkF m pc' L rest)) : WP p e below Φ T (mkF m pc L S) := by
  obtain ⟨locs, X, eT, hS, hZ, hown, hC0, hN, hn, hsf, hE, hWm, b1, b2, b3, b4, b5, b6⟩ := id W
  obtain ⟨rfl, hc⟩ := hc
  obtain ⟨rfl, hs⟩ := hs
  have hB := backCt (R := R) (p := p) (e := e) (below := below) (s := s) (args := args) (len := 3) (Wd := Wd) hC hZ w4 w3 hf hl hE hn hC0.1 (fun x hx => hsf x (hsfc x hx))
  subst hrt
  obtain ⟨v, vm₁, ⟨U', L', c1, s1⟩, -, X', hS', hg, hpost, st⟩ := X.specialBackS W.hx (y := z) hz hown (mvT (s := s.setVm T.vm) hZ w1) (mvT (s := s.setVm T.vm) hZ w2) (mvT (s := s.setVm T.vm) hZ w4) hy hB (g := mkF m pc L S) rfl (hL.trans b5.symm) (Steps.refl _) (a := a) (argsL := argsL) (rest := rest) hlen hst (by show 2 * 0 + _ ≤ _; rw [Nat.mul_zero, Nat.zero_add]; exact hW) (W.hd dd) (fun vm₁ _ => ⟨rfl, eT, hc, hs⟩)
  obtain ⟨L1, so, q1, q2, q3, q4, q5, q6, qw, q7⟩ := hpost
  dsimp only [Pt.U, Pt.locs, Pt.cells, Pt.slots] at X' hS' hg q1 q2 q3 q4 q5 q6 qw q7 st
  subst q3 q4 q5
  obtain ⟨hd, rfl⟩ := dd
  have WW : WS p l e R s m args below meth c Z a0 EL nw n0 y code maxL ret U' U'.heap (so ++ sf) (cells + rm.cells) (slots + rm.slots) := by
    refine ⟨_, X', rfl, hS.trans hS' (by rw [← eT]; exact hg), State.Warmed39.trans (t := s.setVm T.vm) hZ hS'.1, by rw [hS'.1.alike.findClass]; exact hown, hC0.trans q6, hN.app q2, Nat.le_trans hn (by rw [← eT]; exact hg), fun x hx => ?_, hE, fun u => State.WarmedH.trans (t := s.setVm T.vm) (hWm u) (qw u), b1, b2, b3, b4, b5, b6⟩
    rcases List.mem_append.mp hx with u | u
    · exact q7 x u
    · obtain ⟨g1, g2, g3⟩ := hsf x u
      exact ⟨g1, Nat.lt_of_lt_of_le g2 (by rw [← eT]; exact hg), q6.safe g2 g3⟩
  cases v with
  | some v => exact absurd q1 (hnv _ _ _)
  | none =>
  refine WP.steps st (k _ _ so (WS.mono (sf' := sf) WW (Nat.le_refl _) (Nat.le_refl _) (fun x hx => List.mem_append_right _ hx)) q1)

theorem k_callV (W : WS p l e R s m args below meth c Z a0 EL nw n0 y code maxL ret T h sf cells slots) {z : MethodName} {bytes : ByteArray} {mL : Nat} {rt : Option FieldType} {rm : Room} {sfc : List Addr} {Q : Option Value → Heap → List Addr → Prop} (Wd c' s' : Nat) {argsL rest : List Value} {index : Nat} {a : Addr} {C : String} {z0 : MethodName} (dd : D code pc (.invokevirtual index) 3 pc') (w1 : (Cond.methodLink y.cls index z0).before a0 Z = true) (w2 : (Cond.declares z0).before a0 Z = true) (nf : ∀ s' : State, Z.Warmed39 s'.vm → NotFace s' z0) (w5 : (Cond.selects C z0 z).before a0 Z = true) (w6 : (Cond.instanceMethod z).before a0 Z = true) (hy : z0.cls ≠ "java/lang/invoke/MethodHandle" ∧ z0.cls ≠ "java/lang/invoke/VarHandle") (hlen : ∀ sig, parseMethodDescriptor z0.desc = some sig → argsL.length = sig.parameters.length) (E : Exa Z h a C) (hC : Ct l Z a0 EL nw z bytes mL rt rm (.ref a :: argsL).toArray h sfc n0 Q) (w4 : (Cond.code z bytes mL rt).before a0 Z = true) (w3 : (Cond.initialized z.cls).before a0 Z = true) (hsfc : ∀ x ∈ sfc, x ∈ sf) (hL : L.size = maxL) (hW : catS rest ≤ Wd) (hf : rm.frames + 1 ≤ R.frames) (hl : Wd + (mL + 11) + rm.locals ≤ R.locals) (hc : cells + rm.cells = c' ∧ c' ≤ R.cells) (hs : slots + rm.slots = s' ∧ s' ≤ R.slots) (hst : S = argsL.reverse ++ .ref a :: rest) (hnv : ∀ h so, ¬ Q none h so)
    (k : ∀ T' h' (v : Value) so, WS p l e R s m args below meth c Z a0 EL nw n0 y code maxL ret T' h' sf c' s' → Q (some v) h' so → WP p e below Φ T' (mkF m pc' L (v :: rest))) : WP p e below Φ T (mkF m pc L S) := by
  obtain ⟨locs, X, eT, hS, hZ, hown, hC0, hN, hn, hsf, hE, hWm, b1, b2, b3, b4, b5, b6⟩ := id W
  obtain ⟨rfl, hc⟩ := hc
  obtain ⟨rfl, hs⟩ := hs
  have hB := backCt (R := R) (p := p) (e := e) (below := below) (s := s) (args := args) (len := 3) (Wd := Wd) hC hZ w4 w3 hf hl hE hn hC0.1 (fun x hx => hsf x (hsfc x hx))
  obtain ⟨cq, kq, qa, qb, qc⟩ := isOf (s := s.setVm T.vm) hZ eT E
  obtain ⟨v, vm₁, ⟨U', L', c1, s1⟩, -, X', hS', hg, hpost, st⟩ := X.virtualBackS W.hx (y := z0) (z := z) hown (mvT (s := s.setVm T.vm) hZ w1) (mvT (s := s.setVm T.vm) hZ w2) (nf (s.setVm T.vm) hZ) (mvT (s := s.setVm T.vm) hZ w5) (mvT (s := s.setVm T.vm) hZ w6) hy hB qa qc (g := mkF m pc L S) rfl (hL.trans b5.symm) (Steps.refl _) (argsL := argsL) (rest := rest) hlen hst (by show 2 * 0 + _ ≤ _; rw [Nat.mul_zero, Nat.zero_add]; exact hW) (W.hd dd) (fun vm₁ _ => ⟨rfl, eT, hc, hs⟩)
  obtain ⟨L1, so, q1, q2, q3, q4, q5, q6, qw, q7⟩ := hpost
  dsimp only [Pt.U, Pt.locs, Pt.cells, Pt.slots] at X' hS' hg q1 q2 q3 q4 q5 q6 qw q7 st
  subst q3 q4 q5
  obtain ⟨hd, rfl⟩ := dd
  have WW : WS p l e R s m args below meth c Z a0 EL nw n0 y code maxL ret U' U'.heap (so ++ sf) (cells + rm.cells) (slots + rm.slots) := by
    refine ⟨_, X', rfl, hS.trans hS' (by rw [← eT]; exact hg), State.Warmed39.trans (t := s.setVm T.vm) hZ hS'.1, by rw [hS'.1.alike.findClass]; exact hown, hC0.trans q6, hN.app q2, Nat.le_trans hn (by rw [← eT]; exact hg), fun x hx => ?_, hE, fun u => State.WarmedH.trans (t := s.setVm T.vm) (hWm u) (qw u), b1, b2, b3, b4, b5, b6⟩
    rcases List.mem_append.mp hx with u | u
    · exact q7 x u
    · obtain ⟨g1, g2, g3⟩ := hsf x u
      exact ⟨g1, Nat.lt_of_lt_of_le g2 (by rw [← eT]; exact hg), q6.safe g2 g3⟩
  cases v with
  | none => exact absurd q1 (hnv _ _)
  | some v =>
  refine WP.steps st (k _ _ v so (WS.mono (sf' := sf) WW (Nat.le_refl _) (Nat.le_refl _) (fun x hx => List.mem_append_right _ hx)) q1)

theorem k_callV0 (W : WS p l e R s m args below meth c Z a0 EL nw n0 y code maxL ret T h sf cells slots) {z : MethodName} {bytes : ByteArray} {mL : Nat} {rt : Option FieldType} {rm : Room} {sfc : List Addr} {Q : Option Value → Heap → List Addr → Prop} (Wd c' s' : Nat) {argsL rest : List Value} {index : Nat} {a : Addr} {C : String} {z0 : MethodName} (dd : D code pc (.invokevirtual index) 3 pc') (w1 : (Cond.methodLink y.cls index z0).before a0 Z = true) (w2 : (Cond.declares z0).before a0 Z = true) (nf : ∀ s' : State, Z.Warmed39 s'.vm → NotFace s' z0) (w5 : (Cond.selects C z0 z).before a0 Z = true) (w6 : (Cond.instanceMethod z).before a0 Z = true) (hy : z0.cls ≠ "java/lang/invoke/MethodHandle" ∧ z0.cls ≠ "java/lang/invoke/VarHandle") (hlen : ∀ sig, parseMethodDescriptor z0.desc = some sig → argsL.length = sig.parameters.length) (E : Exa Z h a C) (hC : Ct l Z a0 EL nw z bytes mL rt rm (.ref a :: argsL).toArray h sfc n0 Q) (w4 : (Cond.code z bytes mL rt).before a0 Z = true) (w3 : (Cond.initialized z.cls).before a0 Z = true) (hsfc : ∀ x ∈ sfc, x ∈ sf) (hL : L.size = maxL) (hW : catS rest ≤ Wd) (hf : rm.frames + 1 ≤ R.frames) (hl : Wd + (mL + 11) + rm.locals ≤ R.locals) (hc : cells + rm.cells = c' ∧ c' ≤ R.cells) (hs : slots + rm.slots = s' ∧ s' ≤ R.slots) (hst : S = argsL.reverse ++ .ref a :: rest) (hnv : ∀ v h so, ¬ Q (some v) h so)
    (k : ∀ T' h'  so, WS p l e R s m args below meth c Z a0 EL nw n0 y code maxL ret T' h' sf c' s' → Q none h' so → WP p e below Φ T' (mkF m pc' L rest)) : WP p e below Φ T (mkF m pc L S) := by
  obtain ⟨locs, X, eT, hS, hZ, hown, hC0, hN, hn, hsf, hE, hWm, b1, b2, b3, b4, b5, b6⟩ := id W
  obtain ⟨rfl, hc⟩ := hc
  obtain ⟨rfl, hs⟩ := hs
  have hB := backCt (R := R) (p := p) (e := e) (below := below) (s := s) (args := args) (len := 3) (Wd := Wd) hC hZ w4 w3 hf hl hE hn hC0.1 (fun x hx => hsf x (hsfc x hx))
  obtain ⟨cq, kq, qa, qb, qc⟩ := isOf (s := s.setVm T.vm) hZ eT E
  obtain ⟨v, vm₁, ⟨U', L', c1, s1⟩, -, X', hS', hg, hpost, st⟩ := X.virtualBackS W.hx (y := z0) (z := z) hown (mvT (s := s.setVm T.vm) hZ w1) (mvT (s := s.setVm T.vm) hZ w2) (nf (s.setVm T.vm) hZ) (mvT (s := s.setVm T.vm) hZ w5) (mvT (s := s.setVm T.vm) hZ w6) hy hB qa qc (g := mkF m pc L S) rfl (hL.trans b5.symm) (Steps.refl _) (argsL := argsL) (rest := rest) hlen hst (by show 2 * 0 + _ ≤ _; rw [Nat.mul_zero, Nat.zero_add]; exact hW) (W.hd dd) (fun vm₁ _ => ⟨rfl, eT, hc, hs⟩)
  obtain ⟨L1, so, q1, q2, q3, q4, q5, q6, qw, q7⟩ := hpost
  dsimp only [Pt.U, Pt.locs, Pt.cells, Pt.slots] at X' hS' hg q1 q2 q3 q4 q5 q6 qw q7 st
  subst q3 q4 q5
  obtain ⟨hd, rfl⟩ := dd
  have WW : WS p l e R s m args below meth c Z a0 EL nw n0 y code maxL ret U' U'.heap (so ++ sf) (cells + rm.cells) (slots + rm.slots) := by
    refine ⟨_, X', rfl, hS.trans hS' (by rw [← eT]; exact hg), State.Warmed39.trans (t := s.setVm T.vm) hZ hS'.1, by rw [hS'.1.alike.findClass]; exact hown, hC0.trans q6, hN.app q2, Nat.le_trans hn (by rw [← eT]; exact hg), fun x hx => ?_, hE, fun u => State.WarmedH.trans (t := s.setVm T.vm) (hWm u) (qw u), b1, b2, b3, b4, b5, b6⟩
    rcases List.mem_append.mp hx with u | u
    · exact q7 x u
    · obtain ⟨g1, g2, g3⟩ := hsf x u
      exact ⟨g1, Nat.lt_of_lt_of_le g2 (by rw [← eT]; exact hg), q6.safe g2 g3⟩
  cases v with
  | some v => exact absurd q1 (hnv _ _ _)
  | none =>
  refine WP.steps st (k _ _ so (WS.mono (sf' := sf) WW (Nat.le_refl _) (Nat.le_refl _) (fun x hx => List.mem_append_right _ hx)) q1)

theorem k_callVn (W : WS p l e R s m args below meth c Z a0 EL nw n0 y code maxL ret T h sf cells slots) {z : MethodName} {bytes : ByteArray} {mL : Nat} {rt : Option FieldType} {rm : Room} {sfc : List Addr} {Q : Option Value → Heap → List Addr → Prop} (Wd c' s' : Nat) {argsL rest : List Value} {index : Nat} {a : Addr} {C : String} {z0 : MethodName} (dd : D code pc (.invokevirtual index) 3 pc') (w1 : (Cond.methodLink y.cls index z0).before a0 Z = true) (w2 : (Cond.declares z0).before a0 Z = true) (nf : ∀ s' : State, Z.Warmed39 s'.vm → NotFace s' z0) (w5 : (Cond.selects C z0 z).before a0 Z = true) (w6 : (Cond.instanceMethod z).before a0 Z = true) (hy : z0.cls ≠ "java/lang/invoke/MethodHandle" ∧ z0.cls ≠ "java/lang/invoke/VarHandle") (hlen : ∀ sig, parseMethodDescriptor z0.desc = some sig → argsL.length = sig.parameters.length) (E : Exa Z h a C) (hC : Ct l Z a0 EL nw z bytes mL rt rm (.ref a :: argsL).toArray h sfc n0 Q) (w4 : (Cond.code z bytes mL rt).before a0 Z = true) (w3 : (Cond.initialized z.cls).before a0 Z = true) (hsfc : ∀ x ∈ sfc, x ∈ sf) (hL : L.size = maxL) (hW : catS rest ≤ Wd) (hf : rm.frames + 1 ≤ R.frames) (hl : Wd + (mL + 11) + rm.locals ≤ R.locals) (hc : cells + rm.cells = c' ∧ c' ≤ R.cells) (hs : slots + rm.slots = s' ∧ s' ≤ R.slots) (hst : S = argsL.reverse ++ .ref a :: rest) (hnv : ∀ h so, ¬ Q none h so)
    (k : ∀ T' h' (v : Value) so, WS p l e R s m args below meth c Z a0 EL nw n0 y code maxL ret T' h' (so ++ sf) c' s' → Q (some v) h' so → WP p e below Φ T' (mkF m pc' L (v :: rest))) : WP p e below Φ T (mkF m pc L S) := by
  obtain ⟨locs, X, eT, hS, hZ, hown, hC0, hN, hn, hsf, hE, hWm, b1, b2, b3, b4, b5, b6⟩ := id W
  obtain ⟨rfl, hc⟩ := hc
  obtain ⟨rfl, hs⟩ := hs
  have hB := backCt (R := R) (p := p) (e := e) (below := below) (s := s) (args := args) (len := 3) (Wd := Wd) hC hZ w4 w3 hf hl hE hn hC0.1 (fun x hx => hsf x (hsfc x hx))
  obtain ⟨cq, kq, qa, qb, qc⟩ := isOf (s := s.setVm T.vm) hZ eT E
  obtain ⟨v, vm₁, ⟨U', L', c1, s1⟩, -, X', hS', hg, hpost, st⟩ := X.virtualBackS W.hx (y := z0) (z := z) hown (mvT (s := s.setVm T.vm) hZ w1) (mvT (s := s.setVm T.vm) hZ w2) (nf (s.setVm T.vm) hZ) (mvT (s := s.setVm T.vm) hZ w5) (mvT (s := s.setVm T.vm) hZ w6) hy hB qa qc (g := mkF m pc L S) rfl (hL.trans b5.symm) (Steps.refl _) (argsL := argsL) (rest := rest) hlen hst (by show 2 * 0 + _ ≤ _; rw [Nat.mul_zero, Nat.zero_add]; exact hW) (W.hd dd) (fun vm₁ _ => ⟨rfl, eT, hc, hs⟩)
  obtain ⟨L1, so, q1, q2, q3, q4, q5, q6, qw, q7⟩ := hpost
  dsimp only [Pt.U, Pt.locs, Pt.cells, Pt.slots] at X' hS' hg q1 q2 q3 q4 q5 q6 qw q7 st
  subst q3 q4 q5
  obtain ⟨hd, rfl⟩ := dd
  have WW : WS p l e R s m args below meth c Z a0 EL nw n0 y code maxL ret U' U'.heap (so ++ sf) (cells + rm.cells) (slots + rm.slots) := by
    refine ⟨_, X', rfl, hS.trans hS' (by rw [← eT]; exact hg), State.Warmed39.trans (t := s.setVm T.vm) hZ hS'.1, by rw [hS'.1.alike.findClass]; exact hown, hC0.trans q6, hN.app q2, Nat.le_trans hn (by rw [← eT]; exact hg), fun x hx => ?_, hE, fun u => State.WarmedH.trans (t := s.setVm T.vm) (hWm u) (qw u), b1, b2, b3, b4, b5, b6⟩
    rcases List.mem_append.mp hx with u | u
    · exact q7 x u
    · obtain ⟨g1, g2, g3⟩ := hsf x u
      exact ⟨g1, Nat.lt_of_lt_of_le g2 (by rw [← eT]; exact hg), q6.safe g2 g3⟩
  cases v with
  | none => exact absurd q1 (hnv _ _)
  | some v =>
  refine WP.steps st (k _ _ v so WW q1)

theorem k_callP (W : WS p l e R s m args below meth c Z a0 EL nw n0 y code maxL ret T h sf cells slots) {z : MethodName} {bytes : ByteArray} {mL : Nat} {rt : Option FieldType} {rm : Room} {sfc : List Addr} {Q : Option Value → Heap → List Addr → Prop} (Wd c' s' : Nat) {argsL rest : List Value} {index : Nat} {a : Addr} {C : String} (dd : D code pc (.invokevirtual index) 3 pc') (w1 : (Cond.methodLink y.cls index z).before a0 Z = true) (w2 : (Cond.instanceMethod z).before a0 Z = true) (w5 : (Cond.selects z.cls z z).before a0 Z = true) (w6 : (Cond.privateMethod z).before a0 Z = true) (hy : z.cls ≠ "java/lang/invoke/MethodHandle" ∧ z.cls ≠ "java/lang/invoke/VarHandle") (hlen : ∀ sig, parseMethodDescriptor z.desc = some sig → argsL.length = sig.parameters.length) (E : Exa Z h a C) (hC : Ct l Z a0 EL nw z bytes mL rt rm (.ref a :: argsL).toArray h sfc n0 Q) (w4 : (Cond.code z bytes mL rt).before a0 Z = true) (w3 : (Cond.initialized z.cls).before a0 Z = true) (hsfc : ∀ x ∈ sfc, x ∈ sf) (hL : L.size = maxL) (hW : catS rest ≤ Wd) (hf : rm.frames + 1 ≤ R.frames) (hl : Wd + (mL + 11) + rm.locals ≤ R.locals) (hc : cells + rm.cells = c' ∧ c' ≤ R.cells) (hs : slots + rm.slots = s' ∧ s' ≤ R.slots) (hst : S = argsL.reverse ++ .ref a :: rest) (hnv : ∀ h so, ¬ Q none h so)
    (k : ∀ T' h' (v : Value) so, WS p l e R s m args below meth c Z a0 EL nw n0 y code maxL ret T' h' sf c' s' → Q (some v) h' so → WP p e below Φ T' (mkF m pc' L (v :: rest))) : WP p e below Φ T (mkF m pc L S) := by
  obtain ⟨locs, X, eT, hS, hZ, hown, hC0, hN, hn, hsf, hE, hWm, b1, b2, b3, b4, b5, b6⟩ := id W
  obtain ⟨rfl, hc⟩ := hc
  obtain ⟨rfl, hs⟩ := hs
  have hB := backCt (R := R) (p := p) (e := e) (below := below) (s := s) (args := args) (len := 3) (Wd := Wd) hC hZ w4 w3 hf hl hE hn hC0.1 (fun x hx => hsf x (hsfc x hx))
  obtain ⟨cc, hc1, hc2⟩ := E.cell
  obtain ⟨v, vm₁, ⟨U', L', c1, s1⟩, -, X', hS', hg, hpost, st⟩ := X.privateBackS W.hx (y := z) hown (mvT (s := s.setVm T.vm) hZ w1) (mvT (s := s.setVm T.vm) hZ w2) (mvT (s := s.setVm T.vm) hZ w5) (Cond.privateMethod_at (mvP (s := s.setVm T.vm) hZ w6 (args := #[]))) (mvT (s := s.setVm T.vm) hZ w4) hy hB (g := mkF m pc L S) rfl (hL.trans b5.symm) (Steps.refl _) (a := a) (by rw [eT]; exact hc1) hc2 (argsL := argsL) (rest := rest) hlen hst (by show 2 * 0 + _ ≤ _; rw [Nat.mul_zero, Nat.zero_add]; exact hW) (W.hd dd) (fun vm₁ _ => ⟨rfl, eT, hc, hs⟩)
  obtain ⟨L1, so, q1, q2, q3, q4, q5, q6, qw, q7⟩ := hpost
  dsimp only [Pt.U, Pt.locs, Pt.cells, Pt.slots] at X' hS' hg q1 q2 q3 q4 q5 q6 qw q7 st
  subst q3 q4 q5
  obtain ⟨hd, rfl⟩ := dd
  have WW : WS p l e R s m args below meth c Z a0 EL nw n0 y code maxL ret U' U'.heap (so ++ sf) (cells + rm.cells) (slots + rm.slots) := by
    refine ⟨_, X', rfl, hS.trans hS' (by rw [← eT]; exact hg), State.Warmed39.trans (t := s.setVm T.vm) hZ hS'.1, by rw [hS'.1.alike.findClass]; exact hown, hC0.trans q6, hN.app q2, Nat.le_trans hn (by rw [← eT]; exact hg), fun x hx => ?_, hE, fun u => State.WarmedH.trans (t := s.setVm T.vm) (hWm u) (qw u), b1, b2, b3, b4, b5, b6⟩
    rcases List.mem_append.mp hx with u | u
    · exact q7 x u
    · obtain ⟨g1, g2, g3⟩ := hsf x u
      exact ⟨g1, Nat.lt_of_lt_of_le g2 (by rw [← eT]; exact hg), q6.safe g2 g3⟩
  cases v with
  | none => exact absurd q1 (hnv _ _)
  | some v =>
  refine WP.steps st (k _ _ v so (WS.mono (sf' := sf) WW (Nat.le_refl _) (Nat.le_refl _) (fun x hx => List.mem_append_right _ hx)) q1)

theorem k_callP0 (W : WS p l e R s m args below meth c Z a0 EL nw n0 y code maxL ret T h sf cells slots) {z : MethodName} {bytes : ByteArray} {mL : Nat} {rt : Option FieldType} {rm : Room} {sfc : List Addr} {Q : Option Value → Heap → List Addr → Prop} (Wd c' s' : Nat) {argsL rest : List Value} {index : Nat} {a : Addr} {C : String} (dd : D code pc (.invokevirtual index) 3 pc') (w1 : (Cond.methodLink y.cls index z).before a0 Z = true) (w2 : (Cond.instanceMethod z).before a0 Z = true) (w5 : (Cond.selects z.cls z z).before a0 Z = true) (w6 : (Cond.privateMethod z).before a0 Z = true) (hy : z.cls ≠ "java/lang/invoke/MethodHandle" ∧ z.cls ≠ "java/lang/invoke/VarHandle") (hlen : ∀ sig, parseMethodDescriptor z.desc = some sig → argsL.length = sig.parameters.length) (E : Exa Z h a C) (hC : Ct l Z a0 EL nw z bytes mL rt rm (.ref a :: argsL).toArray h sfc n0 Q) (w4 : (Cond.code z bytes mL rt).before a0 Z = true) (w3 : (Cond.initialized z.cls).before a0 Z = true) (hsfc : ∀ x ∈ sfc, x ∈ sf) (hL : L.size = maxL) (hW : catS rest ≤ Wd) (hf : rm.frames + 1 ≤ R.frames) (hl : Wd + (mL + 11) + rm.locals ≤ R.locals) (hc : cells + rm.cells = c' ∧ c' ≤ R.cells) (hs : slots + rm.slots = s' ∧ s' ≤ R.slots) (hst : S = argsL.reverse ++ .ref a :: rest) (hnv : ∀ v h so, ¬ Q (some v) h so)
    (k : ∀ T' h'  so, WS p l e R s m args below meth c Z a0 EL nw n0 y code maxL ret T' h' sf c' s' → Q none h' so → WP p e below Φ T' (mkF m pc' L rest)) : WP p e below Φ T (mkF m pc L S) := by
  obtain ⟨locs, X, eT, hS, hZ, hown, hC0, hN, hn, hsf, hE, hWm, b1, b2, b3, b4, b5, b6⟩ := id W
  obtain ⟨rfl, hc⟩ := hc
  obtain ⟨rfl, hs⟩ := hs
  have hB := backCt (R := R) (p := p) (e := e) (below := below) (s := s) (args := args) (len := 3) (Wd := Wd) hC hZ w4 w3 hf hl hE hn hC0.1 (fun x hx => hsf x (hsfc x hx))
  obtain ⟨cc, hc1, hc2⟩ := E.cell
  obtain ⟨v, vm₁, ⟨U', L', c1, s1⟩, -, X', hS', hg, hpost, st⟩ := X.privateBackS W.hx (y := z) hown (mvT (s := s.setVm T.vm) hZ w1) (mvT (s := s.setVm T.vm) hZ w2) (mvT (s := s.setVm T.vm) hZ w5) (Cond.privateMethod_at (mvP (s := s.setVm T.vm) hZ w6 (args := #[]))) (mvT (s := s.setVm T.vm) hZ w4) hy hB (g := mkF m pc L S) rfl (hL.trans b5.symm) (Steps.refl _) (a := a) (by rw [eT]; exact hc1) hc2 (argsL := argsL) (rest := rest) hlen hst (by show 2 * 0 + _ ≤ _; rw [Nat.mul_zero, Nat.zero_add]; exact hW) (W.hd dd) (fun vm₁ _ => ⟨rfl, eT, hc, hs⟩)
  obtain ⟨L1, so, q1, q2, q3, q4, q5, q6, qw, q7⟩ := hpost
  dsimp only [Pt.U, Pt.locs, Pt.cells, Pt.slots] at X' hS' hg q1 q2 q3 q4 q5 q6 qw q7 st
  subst q3 q4 q5
  obtain ⟨hd, rfl⟩ := dd
  have WW : WS p l e R s m args below meth c Z a0 EL nw n0 y code maxL ret U' U'.heap (so ++ sf) (cells + rm.cells) (slots + rm.slots) := by
    refine ⟨_, X', rfl, hS.trans hS' (by rw [← eT]; exact hg), State.Warmed39.trans (t := s.setVm T.vm) hZ hS'.1, by rw [hS'.1.alike.findClass]; exact hown, hC0.trans q6, hN.app q2, Nat.le_trans hn (by rw [← eT]; exact hg), fun x hx => ?_, hE, fun u => State.WarmedH.trans (t := s.setVm T.vm) (hWm u) (qw u), b1, b2, b3, b4, b5, b6⟩
    rcases List.mem_append.mp hx with u | u
    · exact q7 x u
    · obtain ⟨g1, g2, g3⟩ := hsf x u
      exact ⟨g1, Nat.lt_of_lt_of_le g2 (by rw [← eT]; exact hg), q6.safe g2 g3⟩
  cases v with
  | some v => exact absurd q1 (hnv _ _ _)
  | none =>
  refine WP.steps st (k _ _ so (WS.mono (sf' := sf) WW (Nat.le_refl _) (Nat.le_refl _) (fun x hx => List.mem_append_right _ hx)) q1)

theorem k_callPn (W : WS p l e R s m args below meth c Z a0 EL nw n0 y code maxL ret T h sf cells slots) {z : MethodName} {bytes : ByteArray} {mL : Nat} {rt : Option FieldType} {rm : Room} {sfc : List Addr} {Q : Option Value → Heap → List Addr → Prop} (Wd c' s' : Nat) {argsL rest : List Value} {index : Nat} {a : Addr} {C : String} (dd : D code pc (.invokevirtual index) 3 pc') (w1 : (Cond.methodLink y.cls index z).before a0 Z = true) (w2 : (Cond.instanceMethod z).before a0 Z = true) (w5 : (Cond.selects z.cls z z).before a0 Z = true) (w6 : (Cond.privateMethod z).before a0 Z = true) (hy : z.cls ≠ "java/lang/invoke/MethodHandle" ∧ z.cls ≠ "java/lang/invoke/VarHandle") (hlen : ∀ sig, parseMethodDescriptor z.desc = some sig → argsL.length = sig.parameters.length) (E : Exa Z h a C) (hC : Ct l Z a0 EL nw z bytes mL rt rm (.ref a :: argsL).toArray h sfc n0 Q) (w4 : (Cond.code z bytes mL rt).before a0 Z = true) (w3 : (Cond.initialized z.cls).before a0 Z = true) (hsfc : ∀ x ∈ sfc, x ∈ sf) (hL : L.size = maxL) (hW : catS rest ≤ Wd) (hf : rm.frames + 1 ≤ R.frames) (hl : Wd + (mL + 11) + rm.locals ≤ R.locals) (hc : cells + rm.cells = c' ∧ c' ≤ R.cells) (hs : slots + rm.slots = s' ∧ s' ≤ R.slots) (hst : S = argsL.reverse ++ .ref a :: rest) (hnv : ∀ h so, ¬ Q none h so)
    (k : ∀ T' h' (v : Value) so, WS p l e R s m args below meth c Z a0 EL nw n0 y code maxL ret T' h' (so ++ sf) c' s' → Q (some v) h' so → WP p e below Φ T' (mkF m pc' L (v :: rest))) : WP p e below Φ T (mkF m pc L S) := by
  obtain ⟨locs, X, eT, hS, hZ, hown, hC0, hN, hn, hsf, hE, hWm, b1, b2, b3, b4, b5, b6⟩ := id W
  obtain ⟨rfl, hc⟩ := hc
  obtain ⟨rfl, hs⟩ := hs
  have hB := backCt (R := R) (p := p) (e := e) (below := below) (s := s) (args := args) (len := 3) (Wd := Wd) hC hZ w4 w3 hf hl hE hn hC0.1 (fun x hx => hsf x (hsfc x hx))
  obtain ⟨cc, hc1, hc2⟩ := E.cell
  obtain ⟨v, vm₁, ⟨U', L', c1, s1⟩, -, X', hS', hg, hpost, st⟩ := X.privateBackS W.hx (y := z) hown (mvT (s := s.setVm T.vm) hZ w1) (mvT (s := s.setVm T.vm) hZ w2) (mvT (s := s.setVm T.vm) hZ w5) (Cond.privateMethod_at (mvP (s := s.setVm T.vm) hZ w6 (args := #[]))) (mvT (s := s.setVm T.vm) hZ w4) hy hB (g := mkF m pc L S) rfl (hL.trans b5.symm) (Steps.refl _) (a := a) (by rw [eT]; exact hc1) hc2 (argsL := argsL) (rest := rest) hlen hst (by show 2 * 0 + _ ≤ _; rw [Nat.mul_zero, Nat.zero_add]; exact hW) (W.hd dd) (fun vm₁ _ => ⟨rfl, eT, hc, hs⟩)
  obtain ⟨L1, so, q1, q2, q3, q4, q5, q6, qw, q7⟩ := hpost
  dsimp only [Pt.U, Pt.locs, Pt.cells, Pt.slots] at X' hS' hg q1 q2 q3 q4 q5 q6 qw q7 st
  subst q3 q4 q5
  obtain ⟨hd, rfl⟩ := dd
  have WW : WS p l e R s m args below meth c Z a0 EL nw n0 y code maxL ret U' U'.heap (so ++ sf) (cells + rm.cells) (slots + rm.slots) := by
    refine ⟨_, X', rfl, hS.trans hS' (by rw [← eT]; exact hg), State.Warmed39.trans (t := s.setVm T.vm) hZ hS'.1, by rw [hS'.1.alike.findClass]; exact hown, hC0.trans q6, hN.app q2, Nat.le_trans hn (by rw [← eT]; exact hg), fun x hx => ?_, hE, fun u => State.WarmedH.trans (t := s.setVm T.vm) (hWm u) (qw u), b1, b2, b3, b4, b5, b6⟩
    rcases List.mem_append.mp hx with u | u
    · exact q7 x u
    · obtain ⟨g1, g2, g3⟩ := hsf x u
      exact ⟨g1, Nat.lt_of_lt_of_le g2 (by rw [← eT]; exact hg), q6.safe g2 g3⟩
  cases v with
  | none => exact absurd q1 (hnv _ _)
  | some v =>
  refine WP.steps st (k _ _ v so WW q1)

theorem nfSel {C : String} {z0 : MethodName} (w : (Cond.selects C z0 z0).before a0 Z = true) (s' : State) (hZ : Z.Warmed39 s'.vm) : NotFace s' z0 := notFace_of_selects (args := #[]) (mvT hZ w)
end Calls

/-! ## facts out of the case's words -/
section Start
variable {args : Array Value} {Z : State} {t u : Term} {a : Addr} {C n d : String} {v : Value} {ty : FieldType} {z : Int32} {vs : List Value}
theorem eq_start (h : (Cond.eq t (Term.int z)).value args Z none Z [] = some true) : t.eval args Z none [] Z = some (.int z) := by
  have hz : (Term.int z).eval args Z none [] Z = some (.int z) := rfl
  simp only [Cond.value, hz] at h
  cases ht : t.eval args Z none [] Z with
  | none => rw [ht] at h; cases h
  | some w => cases w <;> simp [ht] at h; rw [h]
theorem eqR_start (h : (Cond.eq t u).value args Z none Z [] = some true) (hu : u.eval args Z none [] Z = some (.ref a)) : t.eval args Z none [] Z = some (.ref a) := by
  simp only [Cond.value, hu] at h
  cases ht : t.eval args Z none [] Z with
  | none => rw [ht] at h; cases h
  | some w => cases w <;> simp [ht] at h; rw [h]
theorem exa_start (h : (Cond.exactly t C).value args Z none Z [] = some true) : ∃ a, t.eval args Z none [] Z = some (.ref a) ∧ Exa Z Z.heap a C := by
  obtain ⟨a', c', cell, k, e1, e2, e3, e4, e5, rfl, e7⟩ := Cond.exactly_spec (Cond.before_iff.mpr h)
  exact ⟨a', e1, cell, k, e3, e2, e4, e5, e7⟩
theorem fld_start (ht : t.eval args Z none [] Z = some (.ref a)) (hf : (Term.field t C n d).eval args Z none [] Z = some v) : Fld Z Z.heap a C n d v := Fld.start (by simpa [Term.eval, ht] using hf)
def Els (t : Term) (args : Array Value) (Z : State) : Nat → List Value → Prop
  | _, [] => True
  | i, v :: vs => (Term.elem t (Term.int (Int32.ofNat i))).eval args Z none [] Z = some v ∧ Els t args Z (i + 1) vs
theorem Els.get : ∀ {vs : List Value} {k : Nat}, Els t args Z k vs → ∀ i, i < vs.length → (Term.elem t (Term.int (Int32.ofNat (k + i)))).eval args Z none [] Z = vs[i]?
  | [], _, _, i, hi => by simp at hi
  | v :: vs, k, h, 0, _ => by simpa using h.1
  | v :: vs, k, h, i + 1, hi => by
    have := Els.get h.2 i (by simpa using hi)
    rw [show k + (i + 1) = k + 1 + i by omega]; simpa using this
theorem ref_of_arr (h : (Cond.arrayOf t ty).value args Z none Z [] = some true) : ∃ a, t.eval args Z none [] Z = some (.ref a) := by
  simp only [Cond.value] at h
  split at h
  · cases h
  · cases ht : t.eval args Z none [] Z with
    | none => rw [ht] at h; cases h
    | some w => cases w <;> simp [ht] at h <;> exact ⟨_, rfl⟩
theorem av_start (hf : Fit Z) (ht : t.eval args Z none [] Z = some (.ref a)) (h : (Cond.arrayOf t ty).value args Z none Z [] = some true) (hl : (Term.length t).eval args Z none [] Z = some (.int z)) (hz : Int32.ofNat vs.length = z) (hv : vs.length < 2147483648) (he : Els t args Z 0 vs) : Av Z Z.heap a ty vs := by
  obtain ⟨c, A⟩ := Arr.start ht h
  have hA : Z.arrayAt? a = some c := A.fin (Vm.Alike.refl _)
  have hs : c.slots.size = vs.length := by
    simp only [Term.eval, ht, Option.bind_eq_bind, Option.bind_some, hA, Option.pure_def] at hl
    split at hl
    · rename_i hlt
      have e1 : c.slots.size.toInt32 = z := by simpa using hl
      exact of_inj (by simpa using hlt) hv (e1.trans hz.symm)
    · cases hl
  have hg : ∀ i, i < vs.length → c.slots[i]? = vs[i]? := fun i hi => by
    have q := he.get i hi
    have hx := ix_of (i := i) (by omega)
    rw [Nat.zero_add] at q
    simp only [Term.eval, ht, Option.bind_eq_bind, Option.bind_some, hA, if_neg hx.1, hx.2] at q
    exact q
  have e : c.slots.toList = vs := by
    apply List.ext_getElem?; intro i
    by_cases hi : i < vs.length
    · rw [Array.getElem?_toList]; exact hg i hi
    · rw [Array.getElem?_toList, Array.getElem?_eq_none (by omega), List.getElem?_eq_none (by omega)]
  refine ⟨c, A, e, hv, fun w hw => ?_⟩
  obtain ⟨i, hi, rfl⟩ := List.mem_iff_getElem.mp hw
  have hx := ix_of (i := i) (by omega)
  obtain ⟨w', q1, q2⟩ := elem_fit hf A (j := Int32.ofNat i) (by rintro (u | u); exact hx.1 u; rw [hx.2] at u; omega)
  rw [hx.2, hg i hi, List.getElem?_eq_getElem hi] at q1
  cases q1; exact q2
end Start

end Jvm.OwnK
namespace Jvm.Pilot.@@N@@
open Jvm Jvm.ClassFile Sem Op Lib Jvm.Free Jvm.Stand Jvm.LawKit Jvm.RoadKit Bundle Jvm.OwnK Jvm.Pilot.@@N@@.Jvm.D
def own_EL : List (String × Nat) := [("com/example/lean_envelope/leanenvelope/check/ValidationError", 7), ("com/example/lean_envelope/leanenvelope/check/ValidationError", 15), ("com/example/lean_envelope/leanenvelope/check/ValidationError", 17)]
theorem w0 {Z : State} {a0 : Array Value} (hw : ∀ d ∈ tables_1, d.before a0 Z = true) : (Jvm.Cond.arrayClass Jvm.ClassFile.FieldType.char).before a0 Z = true := hw _ (List.mem_of_getElem? (i := 0) rfl)
theorem w1 {Z : State} {a0 : Array Value} (hw : ∀ d ∈ tables_1, d.before a0 Z = true) : (Jvm.Cond.classLink "com/example/lean_envelope/leanenvelope/check/ValidationErrorEqualsPinLaw" (7 : Nat) "com/example/lean_envelope/leanenvelope/check/ValidationError").before a0 Z = true := hw _ (List.mem_of_getElem? (i := 1) rfl)
theorem w2 {Z : State} {a0 : Array Value} (hw : ∀ d ∈ tables_1, d.before a0 Z = true) : (Jvm.Cond.instantiable "com/example/lean_envelope/leanenvelope/check/ValidationError" (2 : Nat)).before a0 Z = true := hw _ (List.mem_of_getElem? (i := 2) rfl)
theorem w3 {Z : State} {a0 : Array Value} (hw : ∀ d ∈ tables_1, d.before a0 Z = true) : (Jvm.Cond.initialized "com/example/lean_envelope/leanenvelope/check/ValidationError").before a0 Z = true := hw _ (List.mem_of_getElem? (i := 3) rfl)
theorem w4 {Z : State} {a0 : Array Value} (hw : ∀ d ∈ tables_1, d.before a0 Z = true) : (Jvm.Cond.classLink "com/example/lean_envelope/leanenvelope/check/ValidationErrorEqualsPinLaw" (9 : Nat) "java/lang/String").before a0 Z = true := hw _ (List.mem_of_getElem? (i := 4) rfl)
theorem w5 {Z : State} {a0 : Array Value} (hw : ∀ d ∈ tables_1, d.before a0 Z = true) : (Jvm.Cond.instantiable "java/lang/String" (4 : Nat)).before a0 Z = true := hw _ (List.mem_of_getElem? (i := 5) rfl)
theorem w6 {Z : State} {a0 : Array Value} (hw : ∀ d ∈ tables_1, d.before a0 Z = true) : (Jvm.Cond.initialized "java/lang/String").before a0 Z = true := hw _ (List.mem_of_getElem? (i := 6) rfl)
theorem w7 {Z : State} {a0 : Array Value} (hw : ∀ d ∈ tables_1, d.before a0 Z = true) : (Jvm.Cond.methodLink "com/example/lean_envelope/leanenvelope/check/ValidationErrorEqualsPinLaw" (11 : Nat) ({ cls := "java/lang/String", name := "<init>", desc := "([C)V" } : Jvm.MethodName)).before a0 Z = true := hw _ (List.mem_of_getElem? (i := 7) rfl)
theorem w8 {Z : State} {a0 : Array Value} (hw : ∀ d ∈ tables_1, d.before a0 Z = true) : (Jvm.Cond.instanceMethod ({ cls := "java/lang/String", name := "<init>", desc := "([C)V" } : Jvm.MethodName)).before a0 Z = true := hw _ (List.mem_of_getElem? (i := 8) rfl)
theorem w9 {Z : State} {a0 : Array Value} (hw : ∀ d ∈ tables_1, d.before a0 Z = true) : (Jvm.Cond.code ({ cls := "java/lang/String", name := "<init>", desc := "([C)V" } : Jvm.MethodName) jdk_42_method_3_code (2 : Nat) (Option.none : Option Jvm.ClassFile.FieldType)).before a0 Z = true := hw _ (List.mem_of_getElem? (i := 9) rfl)
theorem w10 {Z : State} {a0 : Array Value} (hw : ∀ d ∈ tables_1, d.before a0 Z = true) : (Jvm.Cond.methodLink "java/lang/String" (27 : Nat) ({ cls := "java/lang/String", name := "<init>", desc := "([CIILjava/lang/Void;)V" } : Jvm.MethodName)).before a0 Z = true := hw _ (List.mem_of_getElem? (i := 10) rfl)
theorem w11 {Z : State} {a0 : Array Value} (hw : ∀ d ∈ tables_1, d.before a0 Z = true) : (Jvm.Cond.instanceMethod ({ cls := "java/lang/String", name := "<init>", desc := "([CIILjava/lang/Void;)V" } : Jvm.MethodName)).before a0 Z = true := hw _ (List.mem_of_getElem? (i := 11) rfl)
theorem w13 {Z : State} {a0 : Array Value} (hw : ∀ d ∈ tables_1, d.before a0 Z = true) : (Jvm.Cond.code ({ cls := "java/lang/String", name := "<init>", desc := "([CIILjava/lang/Void;)V" } : Jvm.MethodName) jdk_42_method_149_code (6 : Nat) (Option.none : Option Jvm.ClassFile.FieldType)).before a0 Z = true := hw _ (List.mem_of_getElem? (i := 13) rfl)
theorem w14 {Z : State} {a0 : Array Value} (hw : ∀ d ∈ tables_1, d.before a0 Z = true) : (Jvm.Cond.methodLink "java/lang/String" (1 : Nat) ({ cls := "java/lang/Object", name := "<init>", desc := "()V" } : Jvm.MethodName)).before a0 Z = true := hw _ (List.mem_of_getElem? (i := 14) rfl)
theorem w15 {Z : State} {a0 : Array Value} (hw : ∀ d ∈ tables_1, d.before a0 Z = true) : (Jvm.Cond.instanceMethod ({ cls := "java/lang/Object", name := "<init>", desc := "()V" } : Jvm.MethodName)).before a0 Z = true := hw _ (List.mem_of_getElem? (i := 15) rfl)
theorem w16 {Z : State} {a0 : Array Value} (hw : ∀ d ∈ tables_1, d.before a0 Z = true) : (Jvm.Cond.code ({ cls := "java/lang/Object", name := "<init>", desc := "()V" } : Jvm.MethodName) object_method_1_code (1 : Nat) (Option.none : Option Jvm.ClassFile.FieldType)).before a0 Z = true := hw _ (List.mem_of_getElem? (i := 16) rfl)
theorem w17 {Z : State} {a0 : Array Value} (hw : ∀ d ∈ tables_1, d.before a0 Z = true) : (Jvm.Cond.fieldLink "java/lang/String" (38 : Nat) "java/lang/String" "COMPACT_STRINGS" "Z").before a0 Z = true := hw _ (List.mem_of_getElem? (i := 17) rfl)
theorem w18 {Z : State} {a0 : Array Value} (hw : ∀ d ∈ tables_1, d.before a0 Z = true) : (Jvm.Cond.methodLink "java/lang/String" (177 : Nat) ({ cls := "java/lang/StringUTF16", name := "compress", desc := "([CII)[B" } : Jvm.MethodName)).before a0 Z = true := hw _ (List.mem_of_getElem? (i := 18) rfl)
theorem w19 {Z : State} {a0 : Array Value} (hw : ∀ d ∈ tables_1, d.before a0 Z = true) : (Jvm.Cond.static ({ cls := "java/lang/StringUTF16", name := "compress", desc := "([CII)[B" } : Jvm.MethodName)).before a0 Z = true := hw _ (List.mem_of_getElem? (i := 19) rfl)
theorem w20 {Z : State} {a0 : Array Value} (hw : ∀ d ∈ tables_1, d.before a0 Z = true) : (Jvm.Cond.initialized "java/lang/StringUTF16").before a0 Z = true := hw _ (List.mem_of_getElem? (i := 20) rfl)
theorem w21 {Z : State} {a0 : Array Value} (hw : ∀ d ∈ tables_1, d.before a0 Z = true) : (Jvm.Cond.code ({ cls := "java/lang/StringUTF16", name := "compress", desc := "([CII)[B" } : Jvm.MethodName) jdk_52_method_16_code (6 : Nat) (Option.some (Jvm.ClassFile.FieldType.array Jvm.ClassFile.FieldType.byte))).before a0 Z = true := hw _ (List.mem_of_getElem? (i := 21) rfl)
theorem w22 {Z : State} {a0 : Array Value} (hw : ∀ d ∈ tables_1, d.before a0 Z = true) : (Jvm.Cond.arrayClass Jvm.ClassFile.FieldType.byte).before a0 Z = true := hw _ (List.mem_of_getElem? (i := 22) rfl)
theorem w23 {Z : State} {a0 : Array Value} (hw : ∀ d ∈ tables_1, d.before a0 Z = true) : (Jvm.Cond.methodLink "java/lang/StringUTF16" (115 : Nat) ({ cls := "java/lang/StringUTF16", name := "compress", desc := "([CI[BII)I" } : Jvm.MethodName)).before a0 Z = true := hw _ (List.mem_of_getElem? (i := 23) rfl)
theorem w24 {Z : State} {a0 : Array Value} (hw : ∀ d ∈ tables_1, d.before a0 Z = true) : (Jvm.Cond.static ({ cls := "java/lang/StringUTF16", name := "compress", desc := "([CI[BII)I" } : Jvm.MethodName)).before a0 Z = true := hw _ (List.mem_of_getElem? (i := 24) rfl)
theorem w25 {Z : State} {a0 : Array Value} (hw : ∀ d ∈ tables_1, d.before a0 Z = true) : (Jvm.Cond.code ({ cls := "java/lang/StringUTF16", name := "compress", desc := "([CI[BII)I" } : Jvm.MethodName) jdk_52_method_21_code (7 : Nat) (Option.some Jvm.ClassFile.FieldType.int)).before a0 Z = true := hw _ (List.mem_of_getElem? (i := 25) rfl)
theorem w26 {Z : State} {a0 : Array Value} (hw : ∀ d ∈ tables_1, d.before a0 Z = true) : (Jvm.Cond.methodLink "java/lang/String" (47 : Nat) ({ cls := "java/lang/StringUTF16", name := "coderFromArrayLen", desc := "([BI)B" } : Jvm.MethodName)).before a0 Z = true := hw _ (List.mem_of_getElem? (i := 26) rfl)
theorem w27 {Z : State} {a0 : Array Value} (hw : ∀ d ∈ tables_1, d.before a0 Z = true) : (Jvm.Cond.static ({ cls := "java/lang/StringUTF16", name := "coderFromArrayLen", desc := "([BI)B" } : Jvm.MethodName)).before a0 Z = true := hw _ (List.mem_of_getElem? (i := 27) rfl)
theorem w28 {Z : State} {a0 : Array Value} (hw : ∀ d ∈ tables_1, d.before a0 Z = true) : (Jvm.Cond.code ({ cls := "java/lang/StringUTF16", name := "coderFromArrayLen", desc := "([BI)B" } : Jvm.MethodName) jdk_52_method_15_code (2 : Nat) (Option.some Jvm.ClassFile.FieldType.byte)).before a0 Z = true := hw _ (List.mem_of_getElem? (i := 28) rfl)
theorem w29 {Z : State} {a0 : Array Value} (hw : ∀ d ∈ tables_1, d.before a0 Z = true) : (Jvm.Cond.fieldLink "java/lang/String" (15 : Nat) "java/lang/String" "coder" "B").before a0 Z = true := hw _ (List.mem_of_getElem? (i := 29) rfl)
theorem w30 {Z : State} {a0 : Array Value} (hw : ∀ d ∈ tables_1, d.before a0 Z = true) : (Jvm.Cond.laysFinal "java/lang/String" "java/lang/String" "coder" "B").before a0 Z = true := hw _ (List.mem_of_getElem? (i := 30) rfl)
theorem w31 {Z : State} {a0 : Array Value} (hw : ∀ d ∈ tables_1, d.before a0 Z = true) : (Jvm.Cond.fieldLink "java/lang/String" (9 : Nat) "java/lang/String" "value" "[B").before a0 Z = true := hw _ (List.mem_of_getElem? (i := 31) rfl)
theorem w32 {Z : State} {a0 : Array Value} (hw : ∀ d ∈ tables_1, d.before a0 Z = true) : (Jvm.Cond.laysFinal "java/lang/String" "java/lang/String" "value" "[B").before a0 Z = true := hw _ (List.mem_of_getElem? (i := 32) rfl)
theorem w33 {Z : State} {a0 : Array Value} (hw : ∀ d ∈ tables_1, d.before a0 Z = true) : (Jvm.Cond.methodLink "com/example/lean_envelope/leanenvelope/check/ValidationErrorEqualsPinLaw" (14 : Nat) ({ cls := "com/example/lean_envelope/leanenvelope/check/ValidationError", name := "<init>", desc := "(Ljava/lang/String;Ljava/lang/String;)V" } : Jvm.MethodName)).before a0 Z = true := hw _ (List.mem_of_getElem? (i := 33) rfl)
theorem w34 {Z : State} {a0 : Array Value} (hw : ∀ d ∈ tables_1, d.before a0 Z = true) : (Jvm.Cond.instanceMethod ({ cls := "com/example/lean_envelope/leanenvelope/check/ValidationError", name := "<init>", desc := "(Ljava/lang/String;Ljava/lang/String;)V" } : Jvm.MethodName)).before a0 Z = true := hw _ (List.mem_of_getElem? (i := 34) rfl)
theorem w35 {Z : State} {a0 : Array Value} (hw : ∀ d ∈ tables_1, d.before a0 Z = true) : (Jvm.Cond.code ({ cls := "com/example/lean_envelope/leanenvelope/check/ValidationError", name := "<init>", desc := "(Ljava/lang/String;Ljava/lang/String;)V" } : Jvm.MethodName) prog_7_method_1_code (3 : Nat) (Option.none : Option Jvm.ClassFile.FieldType)).before a0 Z = true := hw _ (List.mem_of_getElem? (i := 35) rfl)
theorem w36 {Z : State} {a0 : Array Value} (hw : ∀ d ∈ tables_1, d.before a0 Z = true) : (Jvm.Cond.methodLink "com/example/lean_envelope/leanenvelope/check/ValidationError" (1 : Nat) ({ cls := "java/lang/Object", name := "<init>", desc := "()V" } : Jvm.MethodName)).before a0 Z = true := hw _ (List.mem_of_getElem? (i := 36) rfl)
theorem w37 {Z : State} {a0 : Array Value} (hw : ∀ d ∈ tables_1, d.before a0 Z = true) : (Jvm.Cond.stringLink "com/example/lean_envelope/leanenvelope/check/ValidationError" (7 : Nat) "path").before a0 Z = true := hw _ (List.mem_of_getElem? (i := 37) rfl)
theorem w40 {Z : State} {a0 : Array Value} (hw : ∀ d ∈ tables_1, d.before a0 Z = true) : (Jvm.Cond.methodLink "com/example/lean_envelope/leanenvelope/check/ValidationError" (9 : Nat) ({ cls := "java/util/Objects", name := "requireNonNull", desc := "(Ljava/lang/Object;Ljava/lang/String;)Ljava/lang/Object;" } : Jvm.MethodName)).before a0 Z = true := hw _ (List.mem_of_getElem? (i := 40) rfl)
theorem w41 {Z : State} {a0 : Array Value} (hw : ∀ d ∈ tables_1, d.before a0 Z = true) : (Jvm.Cond.static ({ cls := "java/util/Objects", name := "requireNonNull", desc := "(Ljava/lang/Object;Ljava/lang/String;)Ljava/lang/Object;" } : Jvm.MethodName)).before a0 Z = true := hw _ (List.mem_of_getElem? (i := 41) rfl)
theorem w42 {Z : State} {a0 : Array Value} (hw : ∀ d ∈ tables_1, d.before a0 Z = true) : (Jvm.Cond.initialized "java/util/Objects").before a0 Z = true := hw _ (List.mem_of_getElem? (i := 42) rfl)
theorem w43 {Z : State} {a0 : Array Value} (hw : ∀ d ∈ tables_1, d.before a0 Z = true) : (Jvm.Cond.code ({ cls := "java/util/Objects", name := "requireNonNull", desc := "(Ljava/lang/Object;Ljava/lang/String;)Ljava/lang/Object;" } : Jvm.MethodName) jdk_31_method_11_code (2 : Nat) (Option.some (Jvm.ClassFile.FieldType.object "java/lang/Object"))).before a0 Z = true := hw _ (List.mem_of_getElem? (i := 43) rfl)
theorem w44 {Z : State} {a0 : Array Value} (hw : ∀ d ∈ tables_1, d.before a0 Z = true) : (Jvm.Cond.stringLink "com/example/lean_envelope/leanenvelope/check/ValidationError" (15 : Nat) "message").before a0 Z = true := hw _ (List.mem_of_getElem? (i := 44) rfl)
theorem w45 {Z : State} {a0 : Array Value} (hw : ∀ d ∈ tables_1, d.before a0 Z = true) : (Jvm.Cond.stringLink "com/example/lean_envelope/leanenvelope/check/ValidationError" (17 : Nat) "$").before a0 Z = true := hw _ (List.mem_of_getElem? (i := 45) rfl)
theorem w46 {Z : State} {a0 : Array Value} (hw : ∀ d ∈ tables_1, d.before a0 Z = true) : (Jvm.Cond.methodLink "com/example/lean_envelope/leanenvelope/check/ValidationError" (19 : Nat) ({ cls := "java/lang/String", name := "startsWith", desc := "(Ljava/lang/String;)Z" } : Jvm.MethodName)).before a0 Z = true := hw _ (List.mem_of_getElem? (i := 46) rfl)
theorem w47 {Z : State} {a0 : Array Value} (hw : ∀ d ∈ tables_1, d.before a0 Z = true) : (Jvm.Cond.declares ({ cls := "java/lang/String", name := "startsWith", desc := "(Ljava/lang/String;)Z" } : Jvm.MethodName)).before a0 Z = true := hw _ (List.mem_of_getElem? (i := 47) rfl)
theorem w48 {Z : State} {a0 : Array Value} (hw : ∀ d ∈ tables_1, d.before a0 Z = true) : (Jvm.Cond.instanceMethod ({ cls := "java/lang/String", name := "startsWith", desc := "(Ljava/lang/String;)Z" } : Jvm.MethodName)).before a0 Z = true := hw _ (List.mem_of_getElem? (i := 48) rfl)
theorem w49 {Z : State} {a0 : Array Value} (hw : ∀ d ∈ tables_1, d.before a0 Z = true) : (Jvm.Cond.selects "java/lang/String" ({ cls := "java/lang/String", name := "startsWith", desc := "(Ljava/lang/String;)Z" } : Jvm.MethodName) ({ cls := "java/lang/String", name := "startsWith", desc := "(Ljava/lang/String;)Z" } : Jvm.MethodName)).before a0 Z = true := hw _ (List.mem_of_getElem? (i := 49) rfl)
theorem w50 {Z : State} {a0 : Array Value} (hw : ∀ d ∈ tables_1, d.before a0 Z = true) : (Jvm.Cond.code ({ cls := "java/lang/String", name := "startsWith", desc := "(Ljava/lang/String;)Z" } : Jvm.MethodName) jdk_42_method_76_code (2 : Nat) (Option.some Jvm.ClassFile.FieldType.boolean)).before a0 Z = true := hw _ (List.mem_of_getElem? (i := 50) rfl)
theorem w51 {Z : State} {a0 : Array Value} (hw : ∀ d ∈ tables_1, d.before a0 Z = true) : (Jvm.Cond.methodLink "java/lang/String" (624 : Nat) ({ cls := "java/lang/String", name := "startsWith", desc := "(Ljava/lang/String;I)Z" } : Jvm.MethodName)).before a0 Z = true := hw _ (List.mem_of_getElem? (i := 51) rfl)
theorem w52 {Z : State} {a0 : Array Value} (hw : ∀ d ∈ tables_1, d.before a0 Z = true) : (Jvm.Cond.declares ({ cls := "java/lang/String", name := "startsWith", desc := "(Ljava/lang/String;I)Z" } : Jvm.MethodName)).before a0 Z = true := hw _ (List.mem_of_getElem? (i := 52) rfl)
theorem w53 {Z : State} {a0 : Array Value} (hw : ∀ d ∈ tables_1, d.before a0 Z = true) : (Jvm.Cond.instanceMethod ({ cls := "java/lang/String", name := "startsWith", desc := "(Ljava/lang/String;I)Z" } : Jvm.MethodName)).before a0 Z = true := hw _ (List.mem_of_getElem? (i := 53) rfl)
theorem w54 {Z : State} {a0 : Array Value} (hw : ∀ d ∈ tables_1, d.before a0 Z = true) : (Jvm.Cond.selects "java/lang/String" ({ cls := "java/lang/String", name := "startsWith", desc := "(Ljava/lang/String;I)Z" } : Jvm.MethodName) ({ cls := "java/lang/String", name := "startsWith", desc := "(Ljava/lang/String;I)Z" } : Jvm.MethodName)).before a0 Z = true := hw _ (List.mem_of_getElem? (i := 54) rfl)
theorem w55 {Z : State} {a0 : Array Value} (hw : ∀ d ∈ tables_1, d.before a0 Z = true) : (Jvm.Cond.code ({ cls := "java/lang/String", name := "startsWith", desc := "(Ljava/lang/String;I)Z" } : Jvm.MethodName) jdk_42_method_75_code (8 : Nat) (Option.some Jvm.ClassFile.FieldType.boolean)).before a0 Z = true := hw _ (List.mem_of_getElem? (i := 55) rfl)
theorem w56 {Z : State} {a0 : Array Value} (hw : ∀ d ∈ tables_1, d.before a0 Z = true) : (Jvm.Cond.methodLink "java/lang/String" (505 : Nat) ({ cls := "java/lang/String", name := "length", desc := "()I" } : Jvm.MethodName)).before a0 Z = true := hw _ (List.mem_of_getElem? (i := 56) rfl)
theorem w57 {Z : State} {a0 : Array Value} (hw : ∀ d ∈ tables_1, d.before a0 Z = true) : (Jvm.Cond.declares ({ cls := "java/lang/String", name := "length", desc := "()I" } : Jvm.MethodName)).before a0 Z = true := hw _ (List.mem_of_getElem? (i := 57) rfl)
theorem w58 {Z : State} {a0 : Array Value} (hw : ∀ d ∈ tables_1, d.before a0 Z = true) : (Jvm.Cond.instanceMethod ({ cls := "java/lang/String", name := "length", desc := "()I" } : Jvm.MethodName)).before a0 Z = true := hw _ (List.mem_of_getElem? (i := 58) rfl)
theorem w59 {Z : State} {a0 : Array Value} (hw : ∀ d ∈ tables_1, d.before a0 Z = true) : (Jvm.Cond.selects "java/lang/String" ({ cls := "java/lang/String", name := "length", desc := "()I" } : Jvm.MethodName) ({ cls := "java/lang/String", name := "length", desc := "()I" } : Jvm.MethodName)).before a0 Z = true := hw _ (List.mem_of_getElem? (i := 59) rfl)
theorem w60 {Z : State} {a0 : Array Value} (hw : ∀ d ∈ tables_1, d.before a0 Z = true) : (Jvm.Cond.code ({ cls := "java/lang/String", name := "length", desc := "()I" } : Jvm.MethodName) jdk_42_method_54_code (1 : Nat) (Option.some Jvm.ClassFile.FieldType.int)).before a0 Z = true := hw _ (List.mem_of_getElem? (i := 60) rfl)
theorem w61 {Z : State} {a0 : Array Value} (hw : ∀ d ∈ tables_1, d.before a0 Z = true) : (Jvm.Cond.methodLink "java/lang/String" (335 : Nat) ({ cls := "java/lang/String", name := "coder", desc := "()B" } : Jvm.MethodName)).before a0 Z = true := hw _ (List.mem_of_getElem? (i := 61) rfl)
theorem w62 {Z : State} {a0 : Array Value} (hw : ∀ d ∈ tables_1, d.before a0 Z = true) : (Jvm.Cond.declares ({ cls := "java/lang/String", name := "coder", desc := "()B" } : Jvm.MethodName)).before a0 Z = true := hw _ (List.mem_of_getElem? (i := 62) rfl)
theorem w63 {Z : State} {a0 : Array Value} (hw : ∀ d ∈ tables_1, d.before a0 Z = true) : (Jvm.Cond.instanceMethod ({ cls := "java/lang/String", name := "coder", desc := "()B" } : Jvm.MethodName)).before a0 Z = true := hw _ (List.mem_of_getElem? (i := 63) rfl)
theorem w64 {Z : State} {a0 : Array Value} (hw : ∀ d ∈ tables_1, d.before a0 Z = true) : (Jvm.Cond.selects "java/lang/String" ({ cls := "java/lang/String", name := "coder", desc := "()B" } : Jvm.MethodName) ({ cls := "java/lang/String", name := "coder", desc := "()B" } : Jvm.MethodName)).before a0 Z = true := hw _ (List.mem_of_getElem? (i := 64) rfl)
theorem w65 {Z : State} {a0 : Array Value} (hw : ∀ d ∈ tables_1, d.before a0 Z = true) : (Jvm.Cond.code ({ cls := "java/lang/String", name := "coder", desc := "()B" } : Jvm.MethodName) jdk_42_method_152_code (1 : Nat) (Option.some Jvm.ClassFile.FieldType.byte)).before a0 Z = true := hw _ (List.mem_of_getElem? (i := 65) rfl)
theorem w66 {Z : State} {a0 : Array Value} (hw : ∀ d ∈ tables_1, d.before a0 Z = true) : (Jvm.Cond.methodLink "java/lang/String" (607 : Nat) ({ cls := "jdk/internal/util/ArraysSupport", name := "mismatch", desc := "([BI[BII)I" } : Jvm.MethodName)).before a0 Z = true := hw _ (List.mem_of_getElem? (i := 66) rfl)
theorem w67 {Z : State} {a0 : Array Value} (hw : ∀ d ∈ tables_1, d.before a0 Z = true) : (Jvm.Cond.static ({ cls := "jdk/internal/util/ArraysSupport", name := "mismatch", desc := "([BI[BII)I" } : Jvm.MethodName)).before a0 Z = true := hw _ (List.mem_of_getElem? (i := 67) rfl)
theorem w68 {Z : State} {a0 : Array Value} (hw : ∀ d ∈ tables_1, d.before a0 Z = true) : (Jvm.Cond.initialized "jdk/internal/util/ArraysSupport").before a0 Z = true := hw _ (List.mem_of_getElem? (i := 68) rfl)
theorem w69 {Z : State} {a0 : Array Value} (hw : ∀ d ∈ tables_1, d.before a0 Z = true) : (Jvm.Cond.code ({ cls := "jdk/internal/util/ArraysSupport", name := "mismatch", desc := "([BI[BII)I" } : Jvm.MethodName) jdk_48_method_14_code (8 : Nat) (Option.some Jvm.ClassFile.FieldType.int)).before a0 Z = true := hw _ (List.mem_of_getElem? (i := 69) rfl)
theorem w70 {Z : State} {a0 : Array Value} (hw : ∀ d ∈ tables_1, d.before a0 Z = true) : (Jvm.Cond.methodLink "com/example/lean_envelope/leanenvelope/check/ValidationError" (34 : Nat) ({ cls := "java/lang/String", name := "isBlank", desc := "()Z" } : Jvm.MethodName)).before a0 Z = true := hw _ (List.mem_of_getElem? (i := 70) rfl)
theorem w71 {Z : State} {a0 : Array Value} (hw : ∀ d ∈ tables_1, d.before a0 Z = true) : (Jvm.Cond.declares ({ cls := "java/lang/String", name := "isBlank", desc := "()Z" } : Jvm.MethodName)).before a0 Z = true := hw _ (List.mem_of_getElem? (i := 71) rfl)
theorem w72 {Z : State} {a0 : Array Value} (hw : ∀ d ∈ tables_1, d.before a0 Z = true) : (Jvm.Cond.instanceMethod ({ cls := "java/lang/String", name := "isBlank", desc := "()Z" } : Jvm.MethodName)).before a0 Z = true := hw _ (List.mem_of_getElem? (i := 72) rfl)
theorem w73 {Z : State} {a0 : Array Value} (hw : ∀ d ∈ tables_1, d.before a0 Z = true) : (Jvm.Cond.selects "java/lang/String" ({ cls := "java/lang/String", name := "isBlank", desc := "()Z" } : Jvm.MethodName) ({ cls := "java/lang/String", name := "isBlank", desc := "()Z" } : Jvm.MethodName)).before a0 Z = true := hw _ (List.mem_of_getElem? (i := 73) rfl)
theorem w74 {Z : State} {a0 : Array Value} (hw : ∀ d ∈ tables_1, d.before a0 Z = true) : (Jvm.Cond.code ({ cls := "java/lang/String", name := "isBlank", desc := "()Z" } : Jvm.MethodName) jdk_42_method_117_code (1 : Nat) (Option.some Jvm.ClassFile.FieldType.boolean)).before a0 Z = true := hw _ (List.mem_of_getElem? (i := 74) rfl)
theorem w75 {Z : State} {a0 : Array Value} (hw : ∀ d ∈ tables_1, d.before a0 Z = true) : (Jvm.Cond.methodLink "java/lang/String" (876 : Nat) ({ cls := "java/lang/String", name := "indexOfNonWhitespace", desc := "()I" } : Jvm.MethodName)).before a0 Z = true := hw _ (List.mem_of_getElem? (i := 75) rfl)
theorem w76 {Z : State} {a0 : Array Value} (hw : ∀ d ∈ tables_1, d.before a0 Z = true) : (Jvm.Cond.instanceMethod ({ cls := "java/lang/String", name := "indexOfNonWhitespace", desc := "()I" } : Jvm.MethodName)).before a0 Z = true := hw _ (List.mem_of_getElem? (i := 76) rfl)
theorem w77 {Z : State} {a0 : Array Value} (hw : ∀ d ∈ tables_1, d.before a0 Z = true) : (Jvm.Cond.privateMethod ({ cls := "java/lang/String", name := "indexOfNonWhitespace", desc := "()I" } : Jvm.MethodName)).before a0 Z = true := hw _ (List.mem_of_getElem? (i := 77) rfl)
theorem w78 {Z : State} {a0 : Array Value} (hw : ∀ d ∈ tables_1, d.before a0 Z = true) : (Jvm.Cond.selects "java/lang/String" ({ cls := "java/lang/String", name := "indexOfNonWhitespace", desc := "()I" } : Jvm.MethodName) ({ cls := "java/lang/String", name := "indexOfNonWhitespace", desc := "()I" } : Jvm.MethodName)).before a0 Z = true := hw _ (List.mem_of_getElem? (i := 78) rfl)
theorem w79 {Z : State} {a0 : Array Value} (hw : ∀ d ∈ tables_1, d.before a0 Z = true) : (Jvm.Cond.code ({ cls := "java/lang/String", name := "indexOfNonWhitespace", desc := "()I" } : Jvm.MethodName) jdk_42_method_120_code (1 : Nat) (Option.some Jvm.ClassFile.FieldType.int)).before a0 Z = true := hw _ (List.mem_of_getElem? (i := 79) rfl)
theorem w80 {Z : State} {a0 : Array Value} (hw : ∀ d ∈ tables_1, d.before a0 Z = true) : (Jvm.Cond.methodLink "java/lang/String" (492 : Nat) ({ cls := "java/lang/String", name := "isLatin1", desc := "()Z" } : Jvm.MethodName)).before a0 Z = true := hw _ (List.mem_of_getElem? (i := 80) rfl)
theorem w81 {Z : State} {a0 : Array Value} (hw : ∀ d ∈ tables_1, d.before a0 Z = true) : (Jvm.Cond.declares ({ cls := "java/lang/String", name := "isLatin1", desc := "()Z" } : Jvm.MethodName)).before a0 Z = true := hw _ (List.mem_of_getElem? (i := 81) rfl)
theorem w82 {Z : State} {a0 : Array Value} (hw : ∀ d ∈ tables_1, d.before a0 Z = true) : (Jvm.Cond.instanceMethod ({ cls := "java/lang/String", name := "isLatin1", desc := "()Z" } : Jvm.MethodName)).before a0 Z = true := hw _ (List.mem_of_getElem? (i := 82) rfl)
theorem w83 {Z : State} {a0 : Array Value} (hw : ∀ d ∈ tables_1, d.before a0 Z = true) : (Jvm.Cond.selects "java/lang/String" ({ cls := "java/lang/String", name := "isLatin1", desc := "()Z" } : Jvm.MethodName) ({ cls := "java/lang/String", name := "isLatin1", desc := "()Z" } : Jvm.MethodName)).before a0 Z = true := hw _ (List.mem_of_getElem? (i := 83) rfl)
theorem w84 {Z : State} {a0 : Array Value} (hw : ∀ d ∈ tables_1, d.before a0 Z = true) : (Jvm.Cond.code ({ cls := "java/lang/String", name := "isLatin1", desc := "()Z" } : Jvm.MethodName) jdk_42_method_154_code (1 : Nat) (Option.some Jvm.ClassFile.FieldType.boolean)).before a0 Z = true := hw _ (List.mem_of_getElem? (i := 84) rfl)
theorem w85 {Z : State} {a0 : Array Value} (hw : ∀ d ∈ tables_1, d.before a0 Z = true) : (Jvm.Cond.methodLink "java/lang/String" (924 : Nat) ({ cls := "java/lang/StringLatin1", name := "indexOfNonWhitespace", desc := "([B)I" } : Jvm.MethodName)).before a0 Z = true := hw _ (List.mem_of_getElem? (i := 85) rfl)
theorem w86 {Z : State} {a0 : Array Value} (hw : ∀ d ∈ tables_1, d.before a0 Z = true) : (Jvm.Cond.static ({ cls := "java/lang/StringLatin1", name := "indexOfNonWhitespace", desc := "([B)I" } : Jvm.MethodName)).before a0 Z = true := hw _ (List.mem_of_getElem? (i := 86) rfl)
theorem w87 {Z : State} {a0 : Array Value} (hw : ∀ d ∈ tables_1, d.before a0 Z = true) : (Jvm.Cond.initialized "java/lang/StringLatin1").before a0 Z = true := hw _ (List.mem_of_getElem? (i := 87) rfl)
theorem w88 {Z : State} {a0 : Array Value} (hw : ∀ d ∈ tables_1, d.before a0 Z = true) : (Jvm.Cond.code ({ cls := "java/lang/StringLatin1", name := "indexOfNonWhitespace", desc := "([B)I" } : Jvm.MethodName) jdk_43_method_37_code (4 : Nat) (Option.some Jvm.ClassFile.FieldType.int)).before a0 Z = true := hw _ (List.mem_of_getElem? (i := 88) rfl)
theorem w89 {Z : State} {a0 : Array Value} (hw : ∀ d ∈ tables_1, d.before a0 Z = true) : (Jvm.Cond.methodLink "java/lang/StringLatin1" (50 : Nat) ({ cls := "java/lang/StringLatin1", name := "getChar", desc := "([BI)C" } : Jvm.MethodName)).before a0 Z = true := hw _ (List.mem_of_getElem? (i := 89) rfl)
theorem w90 {Z : State} {a0 : Array Value} (hw : ∀ d ∈ tables_1, d.before a0 Z = true) : (Jvm.Cond.static ({ cls := "java/lang/StringLatin1", name := "getChar", desc := "([BI)C" } : Jvm.MethodName)).before a0 Z = true := hw _ (List.mem_of_getElem? (i := 90) rfl)
theorem w91 {Z : State} {a0 : Array Value} (hw : ∀ d ∈ tables_1, d.before a0 Z = true) : (Jvm.Cond.code ({ cls := "java/lang/StringLatin1", name := "getChar", desc := "([BI)C" } : Jvm.MethodName) jdk_43_method_44_code (2 : Nat) (Option.some Jvm.ClassFile.FieldType.char)).before a0 Z = true := hw _ (List.mem_of_getElem? (i := 91) rfl)
theorem w92 {Z : State} {a0 : Array Value} (hw : ∀ d ∈ tables_1, d.before a0 Z = true) : (Jvm.Cond.fieldLink "java/lang/StringLatin1" (66 : Nat) "java/lang/CharacterDataLatin1" "instance" "Ljava/lang/CharacterDataLatin1;").before a0 Z = true := hw _ (List.mem_of_getElem? (i := 92) rfl)
theorem w93 {Z : State} {a0 : Array Value} (hw : ∀ d ∈ tables_1, d.before a0 Z = true) : (Jvm.Cond.initialized "java/lang/CharacterDataLatin1").before a0 Z = true := hw _ (List.mem_of_getElem? (i := 93) rfl)
theorem w94 {Z : State} {a0 : Array Value} (hw : ∀ d ∈ tables_1, d.before a0 Z = true) : (Jvm.Cond.methodLink "java/lang/StringLatin1" (211 : Nat) ({ cls := "java/lang/CharacterDataLatin1", name := "isWhitespace", desc := "(I)Z" } : Jvm.MethodName)).before a0 Z = true := hw _ (List.mem_of_getElem? (i := 94) rfl)
theorem w95 {Z : State} {a0 : Array Value} (hw : ∀ d ∈ tables_1, d.before a0 Z = true) : (Jvm.Cond.declares ({ cls := "java/lang/CharacterDataLatin1", name := "isWhitespace", desc := "(I)Z" } : Jvm.MethodName)).before a0 Z = true := hw _ (List.mem_of_getElem? (i := 95) rfl)
theorem w96 {Z : State} {a0 : Array Value} (hw : ∀ d ∈ tables_1, d.before a0 Z = true) : (Jvm.Cond.instanceMethod ({ cls := "java/lang/CharacterDataLatin1", name := "isWhitespace", desc := "(I)Z" } : Jvm.MethodName)).before a0 Z = true := hw _ (List.mem_of_getElem? (i := 96) rfl)
theorem w97 {Z : State} {a0 : Array Value} (hw : ∀ d ∈ tables_1, d.before a0 Z = true) : (Jvm.Cond.selects "java/lang/CharacterDataLatin1" ({ cls := "java/lang/CharacterDataLatin1", name := "isWhitespace", desc := "(I)Z" } : Jvm.MethodName) ({ cls := "java/lang/CharacterDataLatin1", name := "isWhitespace", desc := "(I)Z" } : Jvm.MethodName)).before a0 Z = true := hw _ (List.mem_of_getElem? (i := 97) rfl)
theorem w98 {Z : State} {a0 : Array Value} (hw : ∀ d ∈ tables_1, d.before a0 Z = true) : (Jvm.Cond.code ({ cls := "java/lang/CharacterDataLatin1", name := "isWhitespace", desc := "(I)Z" } : Jvm.MethodName) jdk_116_method_26_code (3 : Nat) (Option.some Jvm.ClassFile.FieldType.boolean)).before a0 Z = true := hw _ (List.mem_of_getElem? (i := 98) rfl)
theorem w99 {Z : State} {a0 : Array Value} (hw : ∀ d ∈ tables_1, d.before a0 Z = true) : (Jvm.Cond.methodLink "java/lang/CharacterDataLatin1" (15 : Nat) ({ cls := "java/lang/CharacterDataLatin1", name := "getProperties", desc := "(I)I" } : Jvm.MethodName)).before a0 Z = true := hw _ (List.mem_of_getElem? (i := 99) rfl)
theorem w100 {Z : State} {a0 : Array Value} (hw : ∀ d ∈ tables_1, d.before a0 Z = true) : (Jvm.Cond.declares ({ cls := "java/lang/CharacterDataLatin1", name := "getProperties", desc := "(I)I" } : Jvm.MethodName)).before a0 Z = true := hw _ (List.mem_of_getElem? (i := 100) rfl)
theorem w101 {Z : State} {a0 : Array Value} (hw : ∀ d ∈ tables_1, d.before a0 Z = true) : (Jvm.Cond.instanceMethod ({ cls := "java/lang/CharacterDataLatin1", name := "getProperties", desc := "(I)I" } : Jvm.MethodName)).before a0 Z = true := hw _ (List.mem_of_getElem? (i := 101) rfl)
theorem w102 {Z : State} {a0 : Array Value} (hw : ∀ d ∈ tables_1, d.before a0 Z = true) : (Jvm.Cond.selects "java/lang/CharacterDataLatin1" ({ cls := "java/lang/CharacterDataLatin1", name := "getProperties", desc := "(I)I" } : Jvm.MethodName) ({ cls := "java/lang/CharacterDataLatin1", name := "getProperties", desc := "(I)I" } : Jvm.MethodName)).before a0 Z = true := hw _ (List.mem_of_getElem? (i := 102) rfl)
theorem w103 {Z : State} {a0 : Array Value} (hw : ∀ d ∈ tables_1, d.before a0 Z = true) : (Jvm.Cond.code ({ cls := "java/lang/CharacterDataLatin1", name := "getProperties", desc := "(I)I" } : Jvm.MethodName) jdk_116_method_1_code (4 : Nat) (Option.some Jvm.ClassFile.FieldType.int)).before a0 Z = true := hw _ (List.mem_of_getElem? (i := 103) rfl)
theorem w104 {Z : State} {a0 : Array Value} (hw : ∀ d ∈ tables_1, d.before a0 Z = true) : (Jvm.Cond.fieldLink "java/lang/CharacterDataLatin1" (1 : Nat) "java/lang/CharacterDataLatin1" "A" "[I").before a0 Z = true := hw _ (List.mem_of_getElem? (i := 104) rfl)
theorem w105 {Z : State} {a0 : Array Value} (hw : ∀ d ∈ tables_1, d.before a0 Z = true) : (Jvm.Cond.fieldLink "com/example/lean_envelope/leanenvelope/check/ValidationError" (40 : Nat) "com/example/lean_envelope/leanenvelope/check/ValidationError" "path" "Ljava/lang/String;").before a0 Z = true := hw _ (List.mem_of_getElem? (i := 105) rfl)
theorem w106 {Z : State} {a0 : Array Value} (hw : ∀ d ∈ tables_1, d.before a0 Z = true) : (Jvm.Cond.laysFinal "com/example/lean_envelope/leanenvelope/check/ValidationError" "com/example/lean_envelope/leanenvelope/check/ValidationError" "path" "Ljava/lang/String;").before a0 Z = true := hw _ (List.mem_of_getElem? (i := 106) rfl)
theorem w107 {Z : State} {a0 : Array Value} (hw : ∀ d ∈ tables_1, d.before a0 Z = true) : (Jvm.Cond.fieldLink "com/example/lean_envelope/leanenvelope/check/ValidationError" (45 : Nat) "com/example/lean_envelope/leanenvelope/check/ValidationError" "message" "Ljava/lang/String;").before a0 Z = true := hw _ (List.mem_of_getElem? (i := 107) rfl)
theorem w108 {Z : State} {a0 : Array Value} (hw : ∀ d ∈ tables_1, d.before a0 Z = true) : (Jvm.Cond.laysFinal "com/example/lean_envelope/leanenvelope/check/ValidationError" "com/example/lean_envelope/leanenvelope/check/ValidationError" "message" "Ljava/lang/String;").before a0 Z = true := hw _ (List.mem_of_getElem? (i := 108) rfl)
theorem w109 {Z : State} {a0 : Array Value} (hw : ∀ d ∈ tables_1, d.before a0 Z = true) : (Jvm.Cond.methodLink "com/example/lean_envelope/leanenvelope/check/ValidationErrorEqualsPinLaw" (17 : Nat) ({ cls := "com/example/lean_envelope/leanenvelope/check/ValidationError", name := "equals", desc := "(Ljava/lang/Object;)Z" } : Jvm.MethodName)).before a0 Z = true := hw _ (List.mem_of_getElem? (i := 109) rfl)
theorem w110 {Z : State} {a0 : Array Value} (hw : ∀ d ∈ tables_1, d.before a0 Z = true) : (Jvm.Cond.declares ({ cls := "com/example/lean_envelope/leanenvelope/check/ValidationError", name := "equals", desc := "(Ljava/lang/Object;)Z" } : Jvm.MethodName)).before a0 Z = true := hw _ (List.mem_of_getElem? (i := 110) rfl)
theorem w111 {Z : State} {a0 : Array Value} (hw : ∀ d ∈ tables_1, d.before a0 Z = true) : (Jvm.Cond.instanceMethod ({ cls := "com/example/lean_envelope/leanenvelope/check/ValidationError", name := "equals", desc := "(Ljava/lang/Object;)Z" } : Jvm.MethodName)).before a0 Z = true := hw _ (List.mem_of_getElem? (i := 111) rfl)
theorem w112 {Z : State} {a0 : Array Value} (hw : ∀ d ∈ tables_1, d.before a0 Z = true) : (Jvm.Cond.selects "com/example/lean_envelope/leanenvelope/check/ValidationError" ({ cls := "com/example/lean_envelope/leanenvelope/check/ValidationError", name := "equals", desc := "(Ljava/lang/Object;)Z" } : Jvm.MethodName) ({ cls := "com/example/lean_envelope/leanenvelope/check/ValidationError", name := "equals", desc := "(Ljava/lang/Object;)Z" } : Jvm.MethodName)).before a0 Z = true := hw _ (List.mem_of_getElem? (i := 112) rfl)
theorem w113 {Z : State} {a0 : Array Value} (hw : ∀ d ∈ tables_1, d.before a0 Z = true) : (Jvm.Cond.code ({ cls := "com/example/lean_envelope/leanenvelope/check/ValidationError", name := "equals", desc := "(Ljava/lang/Object;)Z" } : Jvm.MethodName) prog_7_method_6_code (4 : Nat) (Option.some Jvm.ClassFile.FieldType.boolean)).before a0 Z = true := hw _ (List.mem_of_getElem? (i := 113) rfl)
theorem w114 {Z : State} {a0 : Array Value} (hw : ∀ d ∈ tables_1, d.before a0 Z = true) : (Jvm.Cond.classLink "com/example/lean_envelope/leanenvelope/check/ValidationError" (41 : Nat) "com/example/lean_envelope/leanenvelope/check/ValidationError").before a0 Z = true := hw _ (List.mem_of_getElem? (i := 114) rfl)
theorem w116 {Z : State} {a0 : Array Value} (hw : ∀ d ∈ tables_1, d.before a0 Z = true) : (Jvm.Cond.methodLink "com/example/lean_envelope/leanenvelope/check/ValidationError" (66 : Nat) ({ cls := "java/lang/String", name := "equals", desc := "(Ljava/lang/Object;)Z" } : Jvm.MethodName)).before a0 Z = true := hw _ (List.mem_of_getElem? (i := 116) rfl)
theorem w117 {Z : State} {a0 : Array Value} (hw : ∀ d ∈ tables_1, d.before a0 Z = true) : (Jvm.Cond.declares ({ cls := "java/lang/String", name := "equals", desc := "(Ljava/lang/Object;)Z" } : Jvm.MethodName)).before a0 Z = true := hw _ (List.mem_of_getElem? (i := 117) rfl)
theorem w118 {Z : State} {a0 : Array Value} (hw : ∀ d ∈ tables_1, d.before a0 Z = true) : (Jvm.Cond.instanceMethod ({ cls := "java/lang/String", name := "equals", desc := "(Ljava/lang/Object;)Z" } : Jvm.MethodName)).before a0 Z = true := hw _ (List.mem_of_getElem? (i := 118) rfl)
theorem w119 {Z : State} {a0 : Array Value} (hw : ∀ d ∈ tables_1, d.before a0 Z = true) : (Jvm.Cond.selects "java/lang/String" ({ cls := "java/lang/String", name := "equals", desc := "(Ljava/lang/Object;)Z" } : Jvm.MethodName) ({ cls := "java/lang/String", name := "equals", desc := "(Ljava/lang/Object;)Z" } : Jvm.MethodName)).before a0 Z = true := hw _ (List.mem_of_getElem? (i := 119) rfl)
theorem w120 {Z : State} {a0 : Array Value} (hw : ∀ d ∈ tables_1, d.before a0 Z = true) : (Jvm.Cond.code ({ cls := "java/lang/String", name := "equals", desc := "(Ljava/lang/Object;)Z" } : Jvm.MethodName) jdk_42_method_66_code (3 : Nat) (Option.some Jvm.ClassFile.FieldType.boolean)).before a0 Z = true := hw _ (List.mem_of_getElem? (i := 120) rfl)
theorem w121 {Z : State} {a0 : Array Value} (hw : ∀ d ∈ tables_1, d.before a0 Z = true) : (Jvm.Cond.classLink "java/lang/String" (10 : Nat) "java/lang/String").before a0 Z = true := hw _ (List.mem_of_getElem? (i := 121) rfl)
theorem w122 {Z : State} {a0 : Array Value} (hw : ∀ d ∈ tables_1, d.before a0 Z = true) : (Jvm.Cond.methodLink "java/lang/String" (541 : Nat) ({ cls := "java/lang/StringLatin1", name := "equals", desc := "([B[B)Z" } : Jvm.MethodName)).before a0 Z = true := hw _ (List.mem_of_getElem? (i := 122) rfl)
theorem w123 {Z : State} {a0 : Array Value} (hw : ∀ d ∈ tables_1, d.before a0 Z = true) : (Jvm.Cond.static ({ cls := "java/lang/StringLatin1", name := "equals", desc := "([B[B)Z" } : Jvm.MethodName)).before a0 Z = true := hw _ (List.mem_of_getElem? (i := 123) rfl)
theorem w124 {Z : State} {a0 : Array Value} (hw : ∀ d ∈ tables_1, d.before a0 Z = true) : (Jvm.Cond.code ({ cls := "java/lang/StringLatin1", name := "equals", desc := "([B[B)Z" } : Jvm.MethodName) jdk_43_method_13_code (3 : Nat) (Option.some Jvm.ClassFile.FieldType.boolean)).before a0 Z = true := hw _ (List.mem_of_getElem? (i := 124) rfl)
theorem w125 {Z : State} {a0 : Array Value} (hw : ∀ d ∈ tables_1, d.before a0 Z = true) : (Jvm.Cond.superclass "java/lang/String" "java/lang/Object").before a0 Z = true := hw _ (List.mem_of_getElem? (i := 125) rfl)
theorem w126 {Z : State} {a0 : Array Value} (hw : ∀ d ∈ tables_1, d.before a0 Z = true) : (Jvm.Cond.noSuperclass "java/lang/Object").before a0 Z = true := hw _ (List.mem_of_getElem? (i := 126) rfl)
theorem d_jdk_52_21_0 : D jdk_52_method_21_code 0 (.iconst 0) 1 1 := And.intro (by decide +kernel) rfl
theorem d_jdk_52_21_1 : D jdk_52_method_21_code 1 (.istore 5) 2 3 := And.intro (by decide +kernel) rfl
theorem d_jdk_52_21_3 : D jdk_52_method_21_code 3 (.iload 5) 2 5 := And.intro (by decide +kernel) rfl
theorem d_jdk_52_21_5 : D jdk_52_method_21_code 5 (.iload 4) 2 7 := And.intro (by decide +kernel) rfl
theorem d_jdk_52_21_7 : D jdk_52_method_21_code 7 (.if_icmp .ge 37) 3 10 := And.intro (by decide +kernel) rfl
theorem d_jdk_52_21_44 : D jdk_52_method_21_code 44 (.iload 4) 2 46 := And.intro (by decide +kernel) rfl
theorem d_jdk_52_21_46 : D jdk_52_method_21_code 46 (.ireturn) 1 47 := And.intro (by decide +kernel) rfl
theorem d_jdk_52_21_10 : D jdk_52_method_21_code 10 (.aload_n 0) 1 11 := And.intro (by decide +kernel) rfl
theorem d_jdk_52_21_11 : D jdk_52_method_21_code 11 (.iload_n 1) 1 12 := And.intro (by decide +kernel) rfl
theorem d_jdk_52_21_12 : D jdk_52_method_21_code 12 (.caload) 1 13 := And.intro (by decide +kernel) rfl
theorem d_jdk_52_21_13 : D jdk_52_method_21_code 13 (.istore 6) 2 15 := And.intro (by decide +kernel) rfl
theorem d_jdk_52_21_15 : D jdk_52_method_21_code 15 (.iload 6) 2 17 := And.intro (by decide +kernel) rfl
theorem d_jdk_52_21_17 : D jdk_52_method_21_code 17 (.sipush 255) 3 20 := And.intro (by decide +kernel) rfl
theorem d_jdk_52_21_20 : D jdk_52_method_21_code 20 (.if_icmp .le 6) 3 23 := And.intro (by decide +kernel) rfl
theorem d_jdk_52_21_26 : D jdk_52_method_21_code 26 (.aload_n 2) 1 27 := And.intro (by decide +kernel) rfl
theorem d_jdk_52_21_27 : D jdk_52_method_21_code 27 (.iload_n 3) 1 28 := And.intro (by decide +kernel) rfl
theorem d_jdk_52_21_28 : D jdk_52_method_21_code 28 (.iload 6) 2 30 := And.intro (by decide +kernel) rfl
theorem d_jdk_52_21_30 : D jdk_52_method_21_code 30 (.i2b) 1 31 := And.intro (by decide +kernel) rfl
theorem d_jdk_52_21_31 : D jdk_52_method_21_code 31 (.bastore) 1 32 := And.intro (by decide +kernel) rfl
theorem d_jdk_52_21_32 : D jdk_52_method_21_code 32 (.iinc 1 1) 3 35 := And.intro (by decide +kernel) rfl
theorem d_jdk_52_21_35 : D jdk_52_method_21_code 35 (.iinc 3 1) 3 38 := And.intro (by decide +kernel) rfl
theorem d_jdk_52_21_38 : D jdk_52_method_21_code 38 (.iinc 5 1) 3 41 := And.intro (by decide +kernel) rfl
theorem d_jdk_52_21_41 : D jdk_52_method_21_code 41 (.goto (-38)) 3 44 := And.intro (by decide +kernel) rfl
theorem pn0 : plainName "java/lang/StringUTF16" = true := by first | (simp [plainName, overriddenIn]; done) | decide +kernel
theorem d_jdk_52_16_0 : D jdk_52_method_16_code 0 (.iload_n 2) 1 1 := And.intro (by decide +kernel) rfl
theorem d_jdk_52_16_1 : D jdk_52_method_16_code 1 (.newarray .byte) 2 3 := And.intro (by decide +kernel) rfl
theorem d_jdk_52_16_3 : D jdk_52_method_16_code 3 (.astore_n 3) 1 4 := And.intro (by decide +kernel) rfl
theorem d_jdk_52_16_4 : D jdk_52_method_16_code 4 (.aload_n 0) 1 5 := And.intro (by decide +kernel) rfl
theorem d_jdk_52_16_5 : D jdk_52_method_16_code 5 (.iload_n 1) 1 6 := And.intro (by decide +kernel) rfl
theorem d_jdk_52_16_6 : D jdk_52_method_16_code 6 (.aload_n 3) 1 7 := And.intro (by decide +kernel) rfl
theorem d_jdk_52_16_7 : D jdk_52_method_16_code 7 (.iconst 0) 1 8 := And.intro (by decide +kernel) rfl
theorem d_jdk_52_16_8 : D jdk_52_method_16_code 8 (.iload_n 2) 1 9 := And.intro (by decide +kernel) rfl
theorem d_jdk_52_16_9 : D jdk_52_method_16_code 9 (.invokestatic 115) 3 12 := And.intro (by decide +kernel) rfl
theorem pd0 : parseMethodDescriptor "([CI[BII)I" = some ⟨[(.array .char), .int, (.array .byte), .int, .int], some .int⟩ := by decide +kernel
theorem d_jdk_52_16_12 : D jdk_52_method_16_code 12 (.istore 4) 2 14 := And.intro (by decide +kernel) rfl
theorem d_jdk_52_16_14 : D jdk_52_method_16_code 14 (.iload 4) 2 16 := And.intro (by decide +kernel) rfl
theorem d_jdk_52_16_16 : D jdk_52_method_16_code 16 (.iload_n 2) 1 17 := And.intro (by decide +kernel) rfl
theorem d_jdk_52_16_17 : D jdk_52_method_16_code 17 (.if_icmp .eq 40) 3 20 := And.intro (by decide +kernel) rfl
theorem d_jdk_52_16_57 : D jdk_52_method_16_code 57 (.aload_n 3) 1 58 := And.intro (by decide +kernel) rfl
theorem d_jdk_52_16_58 : D jdk_52_method_16_code 58 (.areturn) 1 59 := And.intro (by decide +kernel) rfl
theorem d_jdk_52_15_0 : D jdk_52_method_15_code 0 (.iload_n 1) 1 1 := And.intro (by decide +kernel) rfl
theorem d_jdk_52_15_1 : D jdk_52_method_15_code 1 (.aload_n 0) 1 2 := And.intro (by decide +kernel) rfl
theorem d_jdk_52_15_2 : D jdk_52_method_15_code 2 (.arraylength) 1 3 := And.intro (by decide +kernel) rfl
theorem d_jdk_52_15_3 : D jdk_52_method_15_code 3 (.isub) 1 4 := And.intro (by decide +kernel) rfl
theorem d_jdk_52_15_4 : D jdk_52_method_15_code 4 (.bipush 31) 2 6 := And.intro (by decide +kernel) rfl
theorem d_jdk_52_15_6 : D jdk_52_method_15_code 6 (.iushr) 1 7 := And.intro (by decide +kernel) rfl
theorem d_jdk_52_15_7 : D jdk_52_method_15_code 7 (.i2b) 1 8 := And.intro (by decide +kernel) rfl
theorem d_jdk_52_15_8 : D jdk_52_method_15_code 8 (.ireturn) 1 9 := And.intro (by decide +kernel) rfl
theorem d_jdk_42_149_0 : D jdk_42_method_149_code 0 (.aload_n 0) 1 1 := And.intro (by decide +kernel) rfl
theorem d_jdk_42_149_1 : D jdk_42_method_149_code 1 (.invokespecial 1) 3 4 := And.intro (by decide +kernel) rfl
theorem d_jdk_42_149_4 : D jdk_42_method_149_code 4 (.iload_n 3) 1 5 := And.intro (by decide +kernel) rfl
theorem d_jdk_42_149_5 : D jdk_42_method_149_code 5 (.ifCond .ne 22) 3 8 := And.intro (by decide +kernel) rfl
theorem d_jdk_42_149_27 : D jdk_42_method_149_code 27 (.getstatic 38) 3 30 := And.intro (by decide +kernel) rfl
theorem d_jdk_42_149_30 : D jdk_42_method_149_code 30 (.ifCond .eq 28) 3 33 := And.intro (by decide +kernel) rfl
theorem d_jdk_42_149_33 : D jdk_42_method_149_code 33 (.aload_n 1) 1 34 := And.intro (by decide +kernel) rfl
theorem d_jdk_42_149_34 : D jdk_42_method_149_code 34 (.iload_n 2) 1 35 := And.intro (by decide +kernel) rfl
theorem d_jdk_42_149_35 : D jdk_42_method_149_code 35 (.iload_n 3) 1 36 := And.intro (by decide +kernel) rfl
theorem d_jdk_42_149_36 : D jdk_42_method_149_code 36 (.invokestatic 177) 3 39 := And.intro (by decide +kernel) rfl
theorem pd1 : parseMethodDescriptor "([CII)[B" = some ⟨[(.array .char), .int, .int], some (.array .byte)⟩ := by decide +kernel
theorem d_jdk_42_149_39 : D jdk_42_method_149_code 39 (.astore 5) 2 41 := And.intro (by decide +kernel) rfl
theorem d_jdk_42_149_41 : D jdk_42_method_149_code 41 (.aload_n 0) 1 42 := And.intro (by decide +kernel) rfl
theorem d_jdk_42_149_42 : D jdk_42_method_149_code 42 (.aload 5) 2 44 := And.intro (by decide +kernel) rfl
theorem d_jdk_42_149_44 : D jdk_42_method_149_code 44 (.iload_n 3) 1 45 := And.intro (by decide +kernel) rfl
theorem d_jdk_42_149_45 : D jdk_42_method_149_code 45 (.invokestatic 47) 3 48 := And.intro (by decide +kernel) rfl
theorem pd2 : parseMethodDescriptor "([BI)B" = some ⟨[(.array .byte), .int], some .byte⟩ := by decide +kernel
theorem d_jdk_42_149_48 : D jdk_42_method_149_code 48 (.putfield 15) 3 51 := And.intro (by decide +kernel) rfl
theorem d_jdk_42_149_51 : D jdk_42_method_149_code 51 (.aload_n 0) 1 52 := And.intro (by decide +kernel) rfl
theorem d_jdk_42_149_52 : D jdk_42_method_149_code 52 (.aload 5) 2 54 := And.intro (by decide +kernel) rfl
theorem d_jdk_42_149_54 : D jdk_42_method_149_code 54 (.putfield 9) 3 57 := And.intro (by decide +kernel) rfl
theorem d_jdk_42_149_57 : D jdk_42_method_149_code 57 (.return_) 1 58 := And.intro (by decide +kernel) rfl
theorem pn1 : plainName "java/lang/String" = true := by first | (simp [plainName, overriddenIn]; done) | decide +kernel
theorem d_jdk_42_3_0 : D jdk_42_method_3_code 0 (.aload_n 0) 1 1 := And.intro (by decide +kernel) rfl
theorem d_jdk_42_3_1 : D jdk_42_method_3_code 1 (.aload_n 1) 1 2 := And.intro (by decide +kernel) rfl
theorem d_jdk_42_3_2 : D jdk_42_method_3_code 2 (.iconst 0) 1 3 := And.intro (by decide +kernel) rfl
theorem d_jdk_42_3_3 : D jdk_42_method_3_code 3 (.aload_n 1) 1 4 := And.intro (by decide +kernel) rfl
theorem d_jdk_42_3_4 : D jdk_42_method_3_code 4 (.arraylength) 1 5 := And.intro (by decide +kernel) rfl
theorem d_jdk_42_3_5 : D jdk_42_method_3_code 5 (.aconst_null) 1 6 := And.intro (by decide +kernel) rfl
theorem d_jdk_42_3_6 : D jdk_42_method_3_code 6 (.invokespecial 27) 3 9 := And.intro (by decide +kernel) rfl
theorem pd3 : parseMethodDescriptor "([CIILjava/lang/Void;)V" = some ⟨[(.array .char), .int, .int, (.object "java/lang/Void")], none⟩ := by decide +kernel
theorem d_jdk_42_3_9 : D jdk_42_method_3_code 9 (.return_) 1 10 := And.intro (by decide +kernel) rfl
theorem d_jdk_42_152_0 : D jdk_42_method_152_code 0 (.getstatic 38) 3 3 := And.intro (by decide +kernel) rfl
theorem d_jdk_42_152_3 : D jdk_42_method_152_code 3 (.ifCond .eq 10) 3 6 := And.intro (by decide +kernel) rfl
theorem d_jdk_42_152_6 : D jdk_42_method_152_code 6 (.aload_n 0) 1 7 := And.intro (by decide +kernel) rfl
theorem d_jdk_42_152_7 : D jdk_42_method_152_code 7 (.getfield 15) 3 10 := And.intro (by decide +kernel) rfl
theorem d_jdk_42_152_10 : D jdk_42_method_152_code 10 (.goto 4) 3 13 := And.intro (by decide +kernel) rfl
theorem d_jdk_42_152_14 : D jdk_42_method_152_code 14 (.ireturn) 1 15 := And.intro (by decide +kernel) rfl
theorem d_jdk_42_54_0 : D jdk_42_method_54_code 0 (.aload_n 0) 1 1 := And.intro (by decide +kernel) rfl
theorem d_jdk_42_54_1 : D jdk_42_method_54_code 1 (.getfield 9) 3 4 := And.intro (by decide +kernel) rfl
theorem d_jdk_42_54_4 : D jdk_42_method_54_code 4 (.arraylength) 1 5 := And.intro (by decide +kernel) rfl
theorem d_jdk_42_54_5 : D jdk_42_method_54_code 5 (.aload_n 0) 1 6 := And.intro (by decide +kernel) rfl
theorem d_jdk_42_54_6 : D jdk_42_method_54_code 6 (.invokevirtual 335) 3 9 := And.intro (by decide +kernel) rfl
theorem pd4 : parseMethodDescriptor "()B" = some ⟨[], some .byte⟩ := by decide +kernel
theorem d_jdk_42_54_9 : D jdk_42_method_54_code 9 (.ishr) 1 10 := And.intro (by decide +kernel) rfl
theorem d_jdk_42_54_10 : D jdk_42_method_54_code 10 (.ireturn) 1 11 := And.intro (by decide +kernel) rfl
theorem d_jdk_48_14_0 : D jdk_48_method_14_code 0 (.iconst 0) 1 1 := And.intro (by decide +kernel) rfl
theorem d_jdk_48_14_1 : D jdk_48_method_14_code 1 (.istore 5) 2 3 := And.intro (by decide +kernel) rfl
theorem d_jdk_48_14_3 : D jdk_48_method_14_code 3 (.iload 4) 2 5 := And.intro (by decide +kernel) rfl
theorem d_jdk_48_14_5 : D jdk_48_method_14_code 5 (.bipush 7) 2 7 := And.intro (by decide +kernel) rfl
theorem d_jdk_48_14_7 : D jdk_48_method_14_code 7 (.if_icmp .le 63) 3 10 := And.intro (by decide +kernel) rfl
theorem d_jdk_48_14_70 : D jdk_48_method_14_code 70 (.iload 5) 2 72 := And.intro (by decide +kernel) rfl
theorem d_jdk_48_14_72 : D jdk_48_method_14_code 72 (.iload 4) 2 74 := And.intro (by decide +kernel) rfl
theorem d_jdk_48_14_74 : D jdk_48_method_14_code 74 (.if_icmp .ge 27) 3 77 := And.intro (by decide +kernel) rfl
theorem d_jdk_48_14_101 : D jdk_48_method_14_code 101 (.iconst (-1)) 1 102 := And.intro (by decide +kernel) rfl
theorem d_jdk_48_14_102 : D jdk_48_method_14_code 102 (.ireturn) 1 103 := And.intro (by decide +kernel) rfl
theorem d_jdk_48_14_77 : D jdk_48_method_14_code 77 (.aload_n 0) 1 78 := And.intro (by decide +kernel) rfl
theorem d_jdk_48_14_78 : D jdk_48_method_14_code 78 (.iload_n 1) 1 79 := And.intro (by decide +kernel) rfl
theorem d_jdk_48_14_79 : D jdk_48_method_14_code 79 (.iload 5) 2 81 := And.intro (by decide +kernel) rfl
theorem d_jdk_48_14_81 : D jdk_48_method_14_code 81 (.iadd) 1 82 := And.intro (by decide +kernel) rfl
theorem d_jdk_48_14_82 : D jdk_48_method_14_code 82 (.baload) 1 83 := And.intro (by decide +kernel) rfl
theorem d_jdk_48_14_83 : D jdk_48_method_14_code 83 (.aload_n 2) 1 84 := And.intro (by decide +kernel) rfl
theorem d_jdk_48_14_84 : D jdk_48_method_14_code 84 (.iload_n 3) 1 85 := And.intro (by decide +kernel) rfl
theorem d_jdk_48_14_85 : D jdk_48_method_14_code 85 (.iload 5) 2 87 := And.intro (by decide +kernel) rfl
theorem d_jdk_48_14_87 : D jdk_48_method_14_code 87 (.iadd) 1 88 := And.intro (by decide +kernel) rfl
theorem d_jdk_48_14_88 : D jdk_48_method_14_code 88 (.baload) 1 89 := And.intro (by decide +kernel) rfl
theorem d_jdk_48_14_89 : D jdk_48_method_14_code 89 (.if_icmp .eq 6) 3 92 := And.intro (by decide +kernel) rfl
theorem d_jdk_48_14_95 : D jdk_48_method_14_code 95 (.iinc 5 1) 3 98 := And.intro (by decide +kernel) rfl
theorem d_jdk_48_14_98 : D jdk_48_method_14_code 98 (.goto (-28)) 3 101 := And.intro (by decide +kernel) rfl
theorem d_jdk_48_14_92 : D jdk_48_method_14_code 92 (.iload 5) 2 94 := And.intro (by decide +kernel) rfl
theorem d_jdk_48_14_94 : D jdk_48_method_14_code 94 (.ireturn) 1 95 := And.intro (by decide +kernel) rfl
theorem pn2 : plainName "jdk/internal/util/ArraysSupport" = true := by first | (simp [plainName, overriddenIn]; done) | decide +kernel
theorem d_jdk_42_75_0 : D jdk_42_method_75_code 0 (.iload_n 2) 1 1 := And.intro (by decide +kernel) rfl
theorem d_jdk_42_75_1 : D jdk_42_method_75_code 1 (.ifCond .lt 16) 3 4 := And.intro (by decide +kernel) rfl
theorem d_jdk_42_75_4 : D jdk_42_method_75_code 4 (.iload_n 2) 1 5 := And.intro (by decide +kernel) rfl
theorem d_jdk_42_75_5 : D jdk_42_method_75_code 5 (.aload_n 0) 1 6 := And.intro (by decide +kernel) rfl
theorem d_jdk_42_75_6 : D jdk_42_method_75_code 6 (.invokevirtual 505) 3 9 := And.intro (by decide +kernel) rfl
theorem pd5 : parseMethodDescriptor "()I" = some ⟨[], some .int⟩ := by decide +kernel
theorem d_jdk_42_75_9 : D jdk_42_method_75_code 9 (.aload_n 1) 1 10 := And.intro (by decide +kernel) rfl
theorem d_jdk_42_75_10 : D jdk_42_method_75_code 10 (.invokevirtual 505) 3 13 := And.intro (by decide +kernel) rfl
theorem d_jdk_42_75_13 : D jdk_42_method_75_code 13 (.isub) 1 14 := And.intro (by decide +kernel) rfl
theorem d_jdk_42_75_14 : D jdk_42_method_75_code 14 (.if_icmp .le 5) 3 17 := And.intro (by decide +kernel) rfl
theorem d_jdk_42_75_19 : D jdk_42_method_75_code 19 (.aload_n 0) 1 20 := And.intro (by decide +kernel) rfl
theorem d_jdk_42_75_20 : D jdk_42_method_75_code 20 (.getfield 9) 3 23 := And.intro (by decide +kernel) rfl
theorem d_jdk_42_75_23 : D jdk_42_method_75_code 23 (.astore_n 3) 1 24 := And.intro (by decide +kernel) rfl
theorem d_jdk_42_75_24 : D jdk_42_method_75_code 24 (.aload_n 1) 1 25 := And.intro (by decide +kernel) rfl
theorem d_jdk_42_75_25 : D jdk_42_method_75_code 25 (.getfield 9) 3 28 := And.intro (by decide +kernel) rfl
theorem d_jdk_42_75_28 : D jdk_42_method_75_code 28 (.astore 4) 2 30 := And.intro (by decide +kernel) rfl
theorem d_jdk_42_75_30 : D jdk_42_method_75_code 30 (.iconst 0) 1 31 := And.intro (by decide +kernel) rfl
theorem d_jdk_42_75_31 : D jdk_42_method_75_code 31 (.istore 5) 2 33 := And.intro (by decide +kernel) rfl
theorem d_jdk_42_75_33 : D jdk_42_method_75_code 33 (.aload 4) 2 35 := And.intro (by decide +kernel) rfl
theorem d_jdk_42_75_35 : D jdk_42_method_75_code 35 (.arraylength) 1 36 := And.intro (by decide +kernel) rfl
theorem d_jdk_42_75_36 : D jdk_42_method_75_code 36 (.istore 6) 2 38 := And.intro (by decide +kernel) rfl
theorem d_jdk_42_75_38 : D jdk_42_method_75_code 38 (.aload_n 0) 1 39 := And.intro (by decide +kernel) rfl
theorem d_jdk_42_75_39 : D jdk_42_method_75_code 39 (.invokevirtual 335) 3 42 := And.intro (by decide +kernel) rfl
theorem d_jdk_42_75_42 : D jdk_42_method_75_code 42 (.istore 7) 2 44 := And.intro (by decide +kernel) rfl
theorem d_jdk_42_75_44 : D jdk_42_method_75_code 44 (.iload 7) 2 46 := And.intro (by decide +kernel) rfl
theorem d_jdk_42_75_46 : D jdk_42_method_75_code 46 (.aload_n 1) 1 47 := And.intro (by decide +kernel) rfl
theorem d_jdk_42_75_47 : D jdk_42_method_75_code 47 (.invokevirtual 335) 3 50 := And.intro (by decide +kernel) rfl
theorem d_jdk_42_75_50 : D jdk_42_method_75_code 50 (.if_icmp .ne 32) 3 53 := And.intro (by decide +kernel) rfl
theorem d_jdk_42_75_53 : D jdk_42_method_75_code 53 (.iload 7) 2 55 := And.intro (by decide +kernel) rfl
theorem d_jdk_42_75_55 : D jdk_42_method_75_code 55 (.iconst 1) 1 56 := And.intro (by decide +kernel) rfl
theorem d_jdk_42_75_56 : D jdk_42_method_75_code 56 (.if_icmp .ne 7) 3 59 := And.intro (by decide +kernel) rfl
theorem d_jdk_42_75_63 : D jdk_42_method_75_code 63 (.aload_n 3) 1 64 := And.intro (by decide +kernel) rfl
theorem d_jdk_42_75_64 : D jdk_42_method_75_code 64 (.iload_n 2) 1 65 := And.intro (by decide +kernel) rfl
theorem d_jdk_42_75_65 : D jdk_42_method_75_code 65 (.aload 4) 2 67 := And.intro (by decide +kernel) rfl
theorem d_jdk_42_75_67 : D jdk_42_method_75_code 67 (.iconst 0) 1 68 := And.intro (by decide +kernel) rfl
theorem d_jdk_42_75_68 : D jdk_42_method_75_code 68 (.iload 6) 2 70 := And.intro (by decide +kernel) rfl
theorem d_jdk_42_75_70 : D jdk_42_method_75_code 70 (.invokestatic 607) 3 73 := And.intro (by decide +kernel) rfl
theorem pd6 : parseMethodDescriptor "([BI[BII)I" = some ⟨[(.array .byte), .int, (.array .byte), .int, .int], some .int⟩ := by decide +kernel
theorem d_jdk_42_75_73 : D jdk_42_method_75_code 73 (.ifCond .ge 7) 3 76 := And.intro (by decide +kernel) rfl
theorem d_jdk_42_75_76 : D jdk_42_method_75_code 76 (.iconst 1) 1 77 := And.intro (by decide +kernel) rfl
theorem d_jdk_42_75_77 : D jdk_42_method_75_code 77 (.goto 4) 3 80 := And.intro (by decide +kernel) rfl
theorem d_jdk_42_75_81 : D jdk_42_method_75_code 81 (.ireturn) 1 82 := And.intro (by decide +kernel) rfl
theorem d_jdk_42_75_80 : D jdk_42_method_75_code 80 (.iconst 0) 1 81 := And.intro (by decide +kernel) rfl
theorem d_jdk_42_76_0 : D jdk_42_method_76_code 0 (.aload_n 0) 1 1 := And.intro (by decide +kernel) rfl
theorem d_jdk_42_76_1 : D jdk_42_method_76_code 1 (.aload_n 1) 1 2 := And.intro (by decide +kernel) rfl
theorem d_jdk_42_76_2 : D jdk_42_method_76_code 2 (.iconst 0) 1 3 := And.intro (by decide +kernel) rfl
theorem d_jdk_42_76_3 : D jdk_42_method_76_code 3 (.invokevirtual 624) 3 6 := And.intro (by decide +kernel) rfl
theorem pd7 : parseMethodDescriptor "(Ljava/lang/String;I)Z" = some ⟨[(.object "java/lang/String"), .int], some .boolean⟩ := by decide +kernel
theorem d_jdk_42_76_6 : D jdk_42_method_76_code 6 (.ireturn) 1 7 := And.intro (by decide +kernel) rfl
theorem d_jdk_43_13_0 : D jdk_43_method_13_code 0 (.aload_n 0) 1 1 := And.intro (by decide +kernel) rfl
theorem d_jdk_43_13_1 : D jdk_43_method_13_code 1 (.arraylength) 1 2 := And.intro (by decide +kernel) rfl
theorem d_jdk_43_13_2 : D jdk_43_method_13_code 2 (.aload_n 1) 1 3 := And.intro (by decide +kernel) rfl
theorem d_jdk_43_13_3 : D jdk_43_method_13_code 3 (.arraylength) 1 4 := And.intro (by decide +kernel) rfl
theorem d_jdk_43_13_4 : D jdk_43_method_13_code 4 (.if_icmp .ne 30) 3 7 := And.intro (by decide +kernel) rfl
theorem d_jdk_43_13_34 : D jdk_43_method_13_code 34 (.iconst 0) 1 35 := And.intro (by decide +kernel) rfl
theorem d_jdk_43_13_35 : D jdk_43_method_13_code 35 (.ireturn) 1 36 := And.intro (by decide +kernel) rfl
theorem d_jdk_43_13_7 : D jdk_43_method_13_code 7 (.iconst 0) 1 8 := And.intro (by decide +kernel) rfl
theorem d_jdk_43_13_8 : D jdk_43_method_13_code 8 (.istore_n 2) 1 9 := And.intro (by decide +kernel) rfl
theorem d_jdk_43_13_9 : D jdk_43_method_13_code 9 (.iload_n 2) 1 10 := And.intro (by decide +kernel) rfl
theorem d_jdk_43_13_10 : D jdk_43_method_13_code 10 (.aload_n 0) 1 11 := And.intro (by decide +kernel) rfl
theorem d_jdk_43_13_11 : D jdk_43_method_13_code 11 (.arraylength) 1 12 := And.intro (by decide +kernel) rfl
theorem d_jdk_43_13_12 : D jdk_43_method_13_code 12 (.if_icmp .ge 20) 3 15 := And.intro (by decide +kernel) rfl
theorem d_jdk_43_13_32 : D jdk_43_method_13_code 32 (.iconst 1) 1 33 := And.intro (by decide +kernel) rfl
theorem d_jdk_43_13_33 : D jdk_43_method_13_code 33 (.ireturn) 1 34 := And.intro (by decide +kernel) rfl
theorem d_jdk_43_13_15 : D jdk_43_method_13_code 15 (.aload_n 0) 1 16 := And.intro (by decide +kernel) rfl
theorem d_jdk_43_13_16 : D jdk_43_method_13_code 16 (.iload_n 2) 1 17 := And.intro (by decide +kernel) rfl
theorem d_jdk_43_13_17 : D jdk_43_method_13_code 17 (.baload) 1 18 := And.intro (by decide +kernel) rfl
theorem d_jdk_43_13_18 : D jdk_43_method_13_code 18 (.aload_n 1) 1 19 := And.intro (by decide +kernel) rfl
theorem d_jdk_43_13_19 : D jdk_43_method_13_code 19 (.iload_n 2) 1 20 := And.intro (by decide +kernel) rfl
theorem d_jdk_43_13_20 : D jdk_43_method_13_code 20 (.baload) 1 21 := And.intro (by decide +kernel) rfl
theorem d_jdk_43_13_21 : D jdk_43_method_13_code 21 (.if_icmp .eq 5) 3 24 := And.intro (by decide +kernel) rfl
theorem d_jdk_43_13_26 : D jdk_43_method_13_code 26 (.iinc 2 1) 3 29 := And.intro (by decide +kernel) rfl
theorem d_jdk_43_13_29 : D jdk_43_method_13_code 29 (.goto (-20)) 3 32 := And.intro (by decide +kernel) rfl
theorem d_jdk_43_13_24 : D jdk_43_method_13_code 24 (.iconst 0) 1 25 := And.intro (by decide +kernel) rfl
theorem d_jdk_43_13_25 : D jdk_43_method_13_code 25 (.ireturn) 1 26 := And.intro (by decide +kernel) rfl
theorem pn3 : plainName "java/lang/StringLatin1" = true := by first | (simp [plainName, overriddenIn]; done) | decide +kernel
theorem d_jdk_42_66_0 : D jdk_42_method_66_code 0 (.aload_n 0) 1 1 := And.intro (by decide +kernel) rfl
theorem d_jdk_42_66_1 : D jdk_42_method_66_code 1 (.aload_n 1) 1 2 := And.intro (by decide +kernel) rfl
theorem d_jdk_42_66_2 : D jdk_42_method_66_code 2 (.if_acmp .ne 5) 3 5 := And.intro (by decide +kernel) rfl
theorem d_jdk_42_66_7 : D jdk_42_method_66_code 7 (.aload_n 1) 1 8 := And.intro (by decide +kernel) rfl
theorem d_jdk_42_66_8 : D jdk_42_method_66_code 8 (.instanceof 10) 3 11 := And.intro (by decide +kernel) rfl
theorem d_jdk_42_66_11 : D jdk_42_method_66_code 11 (.ifCond .eq 43) 3 14 := And.intro (by decide +kernel) rfl
theorem d_jdk_42_66_14 : D jdk_42_method_66_code 14 (.aload_n 1) 1 15 := And.intro (by decide +kernel) rfl
theorem d_jdk_42_66_15 : D jdk_42_method_66_code 15 (.checkcast 10) 3 18 := And.intro (by decide +kernel) rfl
theorem d_jdk_42_66_18 : D jdk_42_method_66_code 18 (.astore_n 2) 1 19 := And.intro (by decide +kernel) rfl
theorem d_jdk_42_66_19 : D jdk_42_method_66_code 19 (.getstatic 38) 3 22 := And.intro (by decide +kernel) rfl
theorem d_jdk_42_66_22 : D jdk_42_method_66_code 22 (.ifCond .eq 14) 3 25 := And.intro (by decide +kernel) rfl
theorem d_jdk_42_66_25 : D jdk_42_method_66_code 25 (.aload_n 0) 1 26 := And.intro (by decide +kernel) rfl
theorem d_jdk_42_66_26 : D jdk_42_method_66_code 26 (.getfield 15) 3 29 := And.intro (by decide +kernel) rfl
theorem d_jdk_42_66_29 : D jdk_42_method_66_code 29 (.aload_n 2) 1 30 := And.intro (by decide +kernel) rfl
theorem d_jdk_42_66_30 : D jdk_42_method_66_code 30 (.getfield 15) 3 33 := And.intro (by decide +kernel) rfl
theorem d_jdk_42_66_33 : D jdk_42_method_66_code 33 (.if_icmp .ne 21) 3 36 := And.intro (by decide +kernel) rfl
theorem d_jdk_42_66_36 : D jdk_42_method_66_code 36 (.aload_n 0) 1 37 := And.intro (by decide +kernel) rfl
theorem d_jdk_42_66_37 : D jdk_42_method_66_code 37 (.getfield 9) 3 40 := And.intro (by decide +kernel) rfl
theorem d_jdk_42_66_40 : D jdk_42_method_66_code 40 (.aload_n 2) 1 41 := And.intro (by decide +kernel) rfl
theorem d_jdk_42_66_41 : D jdk_42_method_66_code 41 (.getfield 9) 3 44 := And.intro (by decide +kernel) rfl
theorem d_jdk_42_66_44 : D jdk_42_method_66_code 44 (.invokestatic 541) 3 47 := And.intro (by decide +kernel) rfl
theorem pd8 : parseMethodDescriptor "([B[B)Z" = some ⟨[(.array .byte), (.array .byte)], some .boolean⟩ := by decide +kernel
theorem d_jdk_42_66_47 : D jdk_42_method_66_code 47 (.ifCond .eq 7) 3 50 := And.intro (by decide +kernel) rfl
theorem d_jdk_42_66_50 : D jdk_42_method_66_code 50 (.iconst 1) 1 51 := And.intro (by decide +kernel) rfl
theorem d_jdk_42_66_51 : D jdk_42_method_66_code 51 (.goto 4) 3 54 := And.intro (by decide +kernel) rfl
theorem d_jdk_42_66_55 : D jdk_42_method_66_code 55 (.ireturn) 1 56 := And.intro (by decide +kernel) rfl
theorem d_jdk_42_66_54 : D jdk_42_method_66_code 54 (.iconst 0) 1 55 := And.intro (by decide +kernel) rfl
theorem d_jdk_42_66_5 : D jdk_42_method_66_code 5 (.iconst 1) 1 6 := And.intro (by decide +kernel) rfl
theorem d_jdk_42_66_6 : D jdk_42_method_66_code 6 (.ireturn) 1 7 := And.intro (by decide +kernel) rfl
theorem d_jdk_42_154_0 : D jdk_42_method_154_code 0 (.getstatic 38) 3 3 := And.intro (by decide +kernel) rfl
theorem d_jdk_42_154_3 : D jdk_42_method_154_code 3 (.ifCond .eq 14) 3 6 := And.intro (by decide +kernel) rfl
theorem d_jdk_42_154_6 : D jdk_42_method_154_code 6 (.aload_n 0) 1 7 := And.intro (by decide +kernel) rfl
theorem d_jdk_42_154_7 : D jdk_42_method_154_code 7 (.getfield 15) 3 10 := And.intro (by decide +kernel) rfl
theorem d_jdk_42_154_10 : D jdk_42_method_154_code 10 (.ifCond .ne 7) 3 13 := And.intro (by decide +kernel) rfl
theorem d_jdk_42_154_13 : D jdk_42_method_154_code 13 (.iconst 1) 1 14 := And.intro (by decide +kernel) rfl
theorem d_jdk_42_154_14 : D jdk_42_method_154_code 14 (.goto 4) 3 17 := And.intro (by decide +kernel) rfl
theorem d_jdk_42_154_18 : D jdk_42_method_154_code 18 (.ireturn) 1 19 := And.intro (by decide +kernel) rfl
theorem d_jdk_116_1_0 : D jdk_116_method_1_code 0 (.iload_n 1) 1 1 := And.intro (by decide +kernel) rfl
theorem d_jdk_116_1_1 : D jdk_116_method_1_code 1 (.i2c) 1 2 := And.intro (by decide +kernel) rfl
theorem d_jdk_116_1_2 : D jdk_116_method_1_code 2 (.istore_n 2) 1 3 := And.intro (by decide +kernel) rfl
theorem d_jdk_116_1_3 : D jdk_116_method_1_code 3 (.getstatic 1) 3 6 := And.intro (by decide +kernel) rfl
theorem d_jdk_116_1_6 : D jdk_116_method_1_code 6 (.iload_n 2) 1 7 := And.intro (by decide +kernel) rfl
theorem d_jdk_116_1_7 : D jdk_116_method_1_code 7 (.iaload) 1 8 := And.intro (by decide +kernel) rfl
theorem d_jdk_116_1_8 : D jdk_116_method_1_code 8 (.istore_n 3) 1 9 := And.intro (by decide +kernel) rfl
theorem d_jdk_116_1_9 : D jdk_116_method_1_code 9 (.iload_n 3) 1 10 := And.intro (by decide +kernel) rfl
theorem d_jdk_116_1_10 : D jdk_116_method_1_code 10 (.ireturn) 1 11 := And.intro (by decide +kernel) rfl
theorem pn4 : plainName "java/lang/CharacterDataLatin1" = true := by first | (simp [plainName, overriddenIn]; done) | decide +kernel
theorem d_jdk_116_26_0 : D jdk_116_method_26_code 0 (.aload_n 0) 1 1 := And.intro (by decide +kernel) rfl
theorem d_jdk_116_26_1 : D jdk_116_method_26_code 1 (.iload_n 1) 1 2 := And.intro (by decide +kernel) rfl
theorem d_jdk_116_26_2 : D jdk_116_method_26_code 2 (.invokevirtual 15) 3 5 := And.intro (by decide +kernel) rfl
theorem pd9 : parseMethodDescriptor "(I)I" = some ⟨[.int], some .int⟩ := by decide +kernel
theorem d_jdk_116_26_5 : D jdk_116_method_26_code 5 (.istore_n 2) 1 6 := And.intro (by decide +kernel) rfl
theorem d_jdk_116_26_6 : D jdk_116_method_26_code 6 (.iload_n 2) 1 7 := And.intro (by decide +kernel) rfl
theorem d_jdk_116_26_7 : D jdk_116_method_26_code 7 (.sipush 28672) 3 10 := And.intro (by decide +kernel) rfl
theorem d_jdk_116_26_10 : D jdk_116_method_26_code 10 (.iand) 1 11 := And.intro (by decide +kernel) rfl
theorem d_jdk_116_26_11 : D jdk_116_method_26_code 11 (.sipush 16384) 3 14 := And.intro (by decide +kernel) rfl
theorem d_jdk_116_26_14 : D jdk_116_method_26_code 14 (.if_icmp .ne 7) 3 17 := And.intro (by decide +kernel) rfl
theorem d_jdk_116_26_21 : D jdk_116_method_26_code 21 (.iconst 0) 1 22 := And.intro (by decide +kernel) rfl
theorem d_jdk_116_26_22 : D jdk_116_method_26_code 22 (.ireturn) 1 23 := And.intro (by decide +kernel) rfl
theorem d_jdk_116_26_17 : D jdk_116_method_26_code 17 (.iconst 1) 1 18 := And.intro (by decide +kernel) rfl
theorem d_jdk_116_26_18 : D jdk_116_method_26_code 18 (.goto 4) 3 21 := And.intro (by decide +kernel) rfl
theorem d_jdk_43_44_0 : D jdk_43_method_44_code 0 (.aload_n 0) 1 1 := And.intro (by decide +kernel) rfl
theorem d_jdk_43_44_1 : D jdk_43_method_44_code 1 (.iload_n 1) 1 2 := And.intro (by decide +kernel) rfl
theorem d_jdk_43_44_2 : D jdk_43_method_44_code 2 (.baload) 1 3 := And.intro (by decide +kernel) rfl
theorem d_jdk_43_44_3 : D jdk_43_method_44_code 3 (.sipush 255) 3 6 := And.intro (by decide +kernel) rfl
theorem d_jdk_43_44_6 : D jdk_43_method_44_code 6 (.iand) 1 7 := And.intro (by decide +kernel) rfl
theorem d_jdk_43_44_7 : D jdk_43_method_44_code 7 (.i2c) 1 8 := And.intro (by decide +kernel) rfl
theorem d_jdk_43_44_8 : D jdk_43_method_44_code 8 (.ireturn) 1 9 := And.intro (by decide +kernel) rfl
theorem d_jdk_43_37_0 : D jdk_43_method_37_code 0 (.aload_n 0) 1 1 := And.intro (by decide +kernel) rfl
theorem d_jdk_43_37_1 : D jdk_43_method_37_code 1 (.arraylength) 1 2 := And.intro (by decide +kernel) rfl
theorem d_jdk_43_37_2 : D jdk_43_method_37_code 2 (.istore_n 1) 1 3 := And.intro (by decide +kernel) rfl
theorem d_jdk_43_37_3 : D jdk_43_method_37_code 3 (.iconst 0) 1 4 := And.intro (by decide +kernel) rfl
theorem d_jdk_43_37_4 : D jdk_43_method_37_code 4 (.istore_n 2) 1 5 := And.intro (by decide +kernel) rfl
theorem d_jdk_43_37_5 : D jdk_43_method_37_code 5 (.iload_n 2) 1 6 := And.intro (by decide +kernel) rfl
theorem d_jdk_43_37_6 : D jdk_43_method_37_code 6 (.iload_n 1) 1 7 := And.intro (by decide +kernel) rfl
theorem d_jdk_43_37_7 : D jdk_43_method_37_code 7 (.if_icmp .ge 40) 3 10 := And.intro (by decide +kernel) rfl
theorem d_jdk_43_37_10 : D jdk_43_method_37_code 10 (.aload_n 0) 1 11 := And.intro (by decide +kernel) rfl
theorem d_jdk_43_37_11 : D jdk_43_method_37_code 11 (.iload_n 2) 1 12 := And.intro (by decide +kernel) rfl
theorem d_jdk_43_37_12 : D jdk_43_method_37_code 12 (.invokestatic 50) 3 15 := And.intro (by decide +kernel) rfl
theorem pd10 : parseMethodDescriptor "([BI)C" = some ⟨[(.array .byte), .int], some .char⟩ := by decide +kernel
theorem d_jdk_43_37_15 : D jdk_43_method_37_code 15 (.istore_n 3) 1 16 := And.intro (by decide +kernel) rfl
theorem d_jdk_43_37_16 : D jdk_43_method_37_code 16 (.iload_n 3) 1 17 := And.intro (by decide +kernel) rfl
theorem d_jdk_43_37_17 : D jdk_43_method_37_code 17 (.bipush 32) 2 19 := And.intro (by decide +kernel) rfl
theorem d_jdk_43_37_19 : D jdk_43_method_37_code 19 (.if_icmp .eq 22) 3 22 := And.intro (by decide +kernel) rfl
theorem d_jdk_43_37_22 : D jdk_43_method_37_code 22 (.iload_n 3) 1 23 := And.intro (by decide +kernel) rfl
theorem d_jdk_43_37_23 : D jdk_43_method_37_code 23 (.bipush 9) 2 25 := And.intro (by decide +kernel) rfl
theorem d_jdk_43_37_25 : D jdk_43_method_37_code 25 (.if_icmp .eq 16) 3 28 := And.intro (by decide +kernel) rfl
theorem d_jdk_43_37_28 : D jdk_43_method_37_code 28 (.getstatic 66) 3 31 := And.intro (by decide +kernel) rfl
theorem d_jdk_43_37_31 : D jdk_43_method_37_code 31 (.iload_n 3) 1 32 := And.intro (by decide +kernel) rfl
theorem d_jdk_43_37_32 : D jdk_43_method_37_code 32 (.invokevirtual 211) 3 35 := And.intro (by decide +kernel) rfl
theorem pd11 : parseMethodDescriptor "(I)Z" = some ⟨[.int], some .boolean⟩ := by decide +kernel
theorem d_jdk_43_37_35 : D jdk_43_method_37_code 35 (.ifCond .ne 6) 3 38 := And.intro (by decide +kernel) rfl
theorem d_jdk_43_37_38 : D jdk_43_method_37_code 38 (.goto 9) 3 41 := And.intro (by decide +kernel) rfl
theorem d_jdk_43_37_47 : D jdk_43_method_37_code 47 (.iload_n 2) 1 48 := And.intro (by decide +kernel) rfl
theorem d_jdk_43_37_48 : D jdk_43_method_37_code 48 (.ireturn) 1 49 := And.intro (by decide +kernel) rfl
theorem d_jdk_43_37_41 : D jdk_43_method_37_code 41 (.iinc 2 1) 3 44 := And.intro (by decide +kernel) rfl
theorem d_jdk_43_37_44 : D jdk_43_method_37_code 44 (.goto (-39)) 3 47 := And.intro (by decide +kernel) rfl
theorem d_jdk_42_120_0 : D jdk_42_method_120_code 0 (.aload_n 0) 1 1 := And.intro (by decide +kernel) rfl
theorem d_jdk_42_120_1 : D jdk_42_method_120_code 1 (.invokevirtual 492) 3 4 := And.intro (by decide +kernel) rfl
theorem pd12 : parseMethodDescriptor "()Z" = some ⟨[], some .boolean⟩ := by decide +kernel
theorem d_jdk_42_120_4 : D jdk_42_method_120_code 4 (.ifCond .eq 13) 3 7 := And.intro (by decide +kernel) rfl
theorem d_jdk_42_120_7 : D jdk_42_method_120_code 7 (.aload_n 0) 1 8 := And.intro (by decide +kernel) rfl
theorem d_jdk_42_120_8 : D jdk_42_method_120_code 8 (.getfield 9) 3 11 := And.intro (by decide +kernel) rfl
theorem d_jdk_42_120_11 : D jdk_42_method_120_code 11 (.invokestatic 924) 3 14 := And.intro (by decide +kernel) rfl
theorem pd13 : parseMethodDescriptor "([B)I" = some ⟨[(.array .byte)], some .int⟩ := by decide +kernel
theorem d_jdk_42_120_14 : D jdk_42_method_120_code 14 (.goto 10) 3 17 := And.intro (by decide +kernel) rfl
theorem d_jdk_42_120_24 : D jdk_42_method_120_code 24 (.ireturn) 1 25 := And.intro (by decide +kernel) rfl
theorem d_jdk_42_117_0 : D jdk_42_method_117_code 0 (.aload_n 0) 1 1 := And.intro (by decide +kernel) rfl
theorem d_jdk_42_117_1 : D jdk_42_method_117_code 1 (.invokevirtual 876) 3 4 := And.intro (by decide +kernel) rfl
theorem d_jdk_42_117_4 : D jdk_42_method_117_code 4 (.aload_n 0) 1 5 := And.intro (by decide +kernel) rfl
theorem d_jdk_42_117_5 : D jdk_42_method_117_code 5 (.invokevirtual 505) 3 8 := And.intro (by decide +kernel) rfl
theorem d_jdk_42_117_8 : D jdk_42_method_117_code 8 (.if_icmp .ne 7) 3 11 := And.intro (by decide +kernel) rfl
theorem d_jdk_42_117_15 : D jdk_42_method_117_code 15 (.iconst 0) 1 16 := And.intro (by decide +kernel) rfl
theorem d_jdk_42_117_16 : D jdk_42_method_117_code 16 (.ireturn) 1 17 := And.intro (by decide +kernel) rfl
theorem d_jdk_31_11_0 : D jdk_31_method_11_code 0 (.aload_n 0) 1 1 := And.intro (by decide +kernel) rfl
theorem d_jdk_31_11_1 : D jdk_31_method_11_code 1 (.ifnonnull 12) 3 4 := And.intro (by decide +kernel) rfl
theorem d_jdk_31_11_13 : D jdk_31_method_11_code 13 (.aload_n 0) 1 14 := And.intro (by decide +kernel) rfl
theorem d_jdk_31_11_14 : D jdk_31_method_11_code 14 (.areturn) 1 15 := And.intro (by decide +kernel) rfl
theorem pn5 : plainName "java/util/Objects" = true := by first | (simp [plainName, overriddenIn]; done) | decide +kernel
theorem d_prog_7_1_0 : D prog_7_method_1_code 0 (.aload_n 0) 1 1 := And.intro (by decide +kernel) rfl
theorem d_prog_7_1_1 : D prog_7_method_1_code 1 (.invokespecial 1) 3 4 := And.intro (by decide +kernel) rfl
theorem d_prog_7_1_4 : D prog_7_method_1_code 4 (.aload_n 1) 1 5 := And.intro (by decide +kernel) rfl
theorem d_prog_7_1_5 : D prog_7_method_1_code 5 (.ldc 7) 2 7 := And.intro (by decide +kernel) rfl
theorem d_prog_7_1_7 : D prog_7_method_1_code 7 (.invokestatic 9) 3 10 := And.intro (by decide +kernel) rfl
theorem pd14 : parseMethodDescriptor "(Ljava/lang/Object;Ljava/lang/String;)Ljava/lang/Object;" = some ⟨[(.object "java/lang/Object"), (.object "java/lang/String")], some (.object "java/lang/Object")⟩ := by decide +kernel
theorem d_prog_7_1_10 : D prog_7_method_1_code 10 (.pop) 1 11 := And.intro (by decide +kernel) rfl
theorem d_prog_7_1_11 : D prog_7_method_1_code 11 (.aload_n 2) 1 12 := And.intro (by decide +kernel) rfl
theorem d_prog_7_1_12 : D prog_7_method_1_code 12 (.ldc 15) 2 14 := And.intro (by decide +kernel) rfl
theorem d_prog_7_1_14 : D prog_7_method_1_code 14 (.invokestatic 9) 3 17 := And.intro (by decide +kernel) rfl
theorem d_prog_7_1_17 : D prog_7_method_1_code 17 (.pop) 1 18 := And.intro (by decide +kernel) rfl
theorem d_prog_7_1_18 : D prog_7_method_1_code 18 (.aload_n 1) 1 19 := And.intro (by decide +kernel) rfl
theorem d_prog_7_1_19 : D prog_7_method_1_code 19 (.ldc 17) 2 21 := And.intro (by decide +kernel) rfl
theorem d_prog_7_1_21 : D prog_7_method_1_code 21 (.invokevirtual 19) 3 24 := And.intro (by decide +kernel) rfl
theorem pd15 : parseMethodDescriptor "(Ljava/lang/String;)Z" = some ⟨[(.object "java/lang/String")], some .boolean⟩ := by decide +kernel
theorem d_prog_7_1_24 : D prog_7_method_1_code 24 (.ifCond .ne 17) 3 27 := And.intro (by decide +kernel) rfl
theorem d_prog_7_1_41 : D prog_7_method_1_code 41 (.aload_n 2) 1 42 := And.intro (by decide +kernel) rfl
theorem d_prog_7_1_42 : D prog_7_method_1_code 42 (.invokevirtual 34) 3 45 := And.intro (by decide +kernel) rfl
theorem d_prog_7_1_45 : D prog_7_method_1_code 45 (.ifCond .eq 13) 3 48 := And.intro (by decide +kernel) rfl
theorem d_prog_7_1_58 : D prog_7_method_1_code 58 (.aload_n 0) 1 59 := And.intro (by decide +kernel) rfl
theorem d_prog_7_1_59 : D prog_7_method_1_code 59 (.aload_n 1) 1 60 := And.intro (by decide +kernel) rfl
theorem d_prog_7_1_60 : D prog_7_method_1_code 60 (.putfield 40) 3 63 := And.intro (by decide +kernel) rfl
theorem d_prog_7_1_63 : D prog_7_method_1_code 63 (.aload_n 0) 1 64 := And.intro (by decide +kernel) rfl
theorem d_prog_7_1_64 : D prog_7_method_1_code 64 (.aload_n 2) 1 65 := And.intro (by decide +kernel) rfl
theorem d_prog_7_1_65 : D prog_7_method_1_code 65 (.putfield 45) 3 68 := And.intro (by decide +kernel) rfl
theorem d_prog_7_1_68 : D prog_7_method_1_code 68 (.return_) 1 69 := And.intro (by decide +kernel) rfl
theorem pn6 : plainName "com/example/lean_envelope/leanenvelope/check/ValidationError" = true := by first | (simp [plainName, overriddenIn]; done) | decide +kernel
theorem d_prog_7_6_0 : D prog_7_method_6_code 0 (.iconst 0) 1 1 := And.intro (by decide +kernel) rfl
theorem d_prog_7_6_1 : D prog_7_method_6_code 1 (.istore_n 2) 1 2 := And.intro (by decide +kernel) rfl
theorem d_prog_7_6_2 : D prog_7_method_6_code 2 (.aload_n 0) 1 3 := And.intro (by decide +kernel) rfl
theorem d_prog_7_6_3 : D prog_7_method_6_code 3 (.aload_n 1) 1 4 := And.intro (by decide +kernel) rfl
theorem d_prog_7_6_4 : D prog_7_method_6_code 4 (.if_acmp .ne 8) 3 7 := And.intro (by decide +kernel) rfl
theorem d_prog_7_6_7 : D prog_7_method_6_code 7 (.iconst 1) 1 8 := And.intro (by decide +kernel) rfl
theorem d_prog_7_6_8 : D prog_7_method_6_code 8 (.istore_n 2) 1 9 := And.intro (by decide +kernel) rfl
theorem d_prog_7_6_9 : D prog_7_method_6_code 9 (.goto 49) 3 12 := And.intro (by decide +kernel) rfl
theorem d_prog_7_6_58 : D prog_7_method_6_code 58 (.iload_n 2) 1 59 := And.intro (by decide +kernel) rfl
theorem d_prog_7_6_59 : D prog_7_method_6_code 59 (.ireturn) 1 60 := And.intro (by decide +kernel) rfl
theorem d_prog_7_6_12 : D prog_7_method_6_code 12 (.aload_n 1) 1 13 := And.intro (by decide +kernel) rfl
theorem d_prog_7_6_13 : D prog_7_method_6_code 13 (.instanceof 41) 3 16 := And.intro (by decide +kernel) rfl
theorem d_prog_7_6_16 : D prog_7_method_6_code 16 (.ifCond .eq 42) 3 19 := And.intro (by decide +kernel) rfl
theorem d_prog_7_6_19 : D prog_7_method_6_code 19 (.aload_n 1) 1 20 := And.intro (by decide +kernel) rfl
theorem d_prog_7_6_20 : D prog_7_method_6_code 20 (.checkcast 41) 3 23 := And.intro (by decide +kernel) rfl
theorem d_prog_7_6_23 : D prog_7_method_6_code 23 (.astore_n 3) 1 24 := And.intro (by decide +kernel) rfl
theorem d_prog_7_6_24 : D prog_7_method_6_code 24 (.aload_n 0) 1 25 := And.intro (by decide +kernel) rfl
theorem d_prog_7_6_25 : D prog_7_method_6_code 25 (.getfield 40) 3 28 := And.intro (by decide +kernel) rfl
theorem d_prog_7_6_28 : D prog_7_method_6_code 28 (.aload_n 3) 1 29 := And.intro (by decide +kernel) rfl
theorem d_prog_7_6_29 : D prog_7_method_6_code 29 (.getfield 40) 3 32 := And.intro (by decide +kernel) rfl
theorem d_prog_7_6_32 : D prog_7_method_6_code 32 (.invokevirtual 66) 3 35 := And.intro (by decide +kernel) rfl
theorem pd16 : parseMethodDescriptor "(Ljava/lang/Object;)Z" = some ⟨[(.object "java/lang/Object")], some .boolean⟩ := by decide +kernel
theorem d_prog_7_6_35 : D prog_7_method_6_code 35 (.ifCond .eq 21) 3 38 := And.intro (by decide +kernel) rfl
theorem d_prog_7_6_38 : D prog_7_method_6_code 38 (.aload_n 0) 1 39 := And.intro (by decide +kernel) rfl
theorem d_prog_7_6_39 : D prog_7_method_6_code 39 (.getfield 45) 3 42 := And.intro (by decide +kernel) rfl
theorem d_prog_7_6_42 : D prog_7_method_6_code 42 (.aload_n 3) 1 43 := And.intro (by decide +kernel) rfl
theorem d_prog_7_6_43 : D prog_7_method_6_code 43 (.getfield 45) 3 46 := And.intro (by decide +kernel) rfl
theorem d_prog_7_6_46 : D prog_7_method_6_code 46 (.invokevirtual 66) 3 49 := And.intro (by decide +kernel) rfl
theorem d_prog_7_6_49 : D prog_7_method_6_code 49 (.ifCond .eq 7) 3 52 := And.intro (by decide +kernel) rfl
theorem d_prog_7_6_52 : D prog_7_method_6_code 52 (.iconst 1) 1 53 := And.intro (by decide +kernel) rfl
theorem d_prog_7_6_53 : D prog_7_method_6_code 53 (.goto 4) 3 56 := And.intro (by decide +kernel) rfl
theorem d_prog_7_6_57 : D prog_7_method_6_code 57 (.istore_n 2) 1 58 := And.intro (by decide +kernel) rfl
theorem d_prog_7_6_56 : D prog_7_method_6_code 56 (.iconst 0) 1 57 := And.intro (by decide +kernel) rfl
theorem d_code_0 : D code 0 (.iload_n 0) 1 1 := And.intro at_0 rfl
theorem d_code_1 : D code 1 (.sipush 255) 3 4 := And.intro at_1 rfl
theorem d_code_4 : D code 4 (.iand) 1 5 := And.intro at_4 rfl
theorem d_code_5 : D code 5 (.i2c) 1 6 := And.intro at_5 rfl
theorem d_code_6 : D code 6 (.istore 5) 2 8 := And.intro at_6 rfl
theorem d_code_8 : D code 8 (.iload_n 0) 1 9 := And.intro at_8 rfl
theorem d_code_9 : D code 9 (.bipush 8) 2 11 := And.intro at_9 rfl
theorem d_code_11 : D code 11 (.iushr) 1 12 := And.intro at_11 rfl
theorem d_code_12 : D code 12 (.sipush 255) 3 15 := And.intro at_12 rfl
theorem d_code_15 : D code 15 (.iand) 1 16 := And.intro at_15 rfl
theorem d_code_16 : D code 16 (.i2c) 1 17 := And.intro at_16 rfl
theorem d_code_17 : D code 17 (.istore 6) 2 19 := And.intro at_17 rfl
theorem d_code_19 : D code 19 (.iload_n 1) 1 20 := And.intro at_19 rfl
theorem d_code_20 : D code 20 (.sipush 255) 3 23 := And.intro at_20 rfl
theorem d_code_23 : D code 23 (.iand) 1 24 := And.intro at_23 rfl
theorem d_code_24 : D code 24 (.i2c) 1 25 := And.intro at_24 rfl
theorem d_code_25 : D code 25 (.istore 7) 2 27 := And.intro at_25 rfl
theorem d_code_27 : D code 27 (.iload_n 1) 1 28 := And.intro at_27 rfl
theorem d_code_28 : D code 28 (.bipush 8) 2 30 := And.intro at_28 rfl
theorem d_code_30 : D code 30 (.iushr) 1 31 := And.intro at_30 rfl
theorem d_code_31 : D code 31 (.sipush 255) 3 34 := And.intro at_31 rfl
theorem d_code_34 : D code 34 (.iand) 1 35 := And.intro at_34 rfl
theorem d_code_35 : D code 35 (.i2c) 1 36 := And.intro at_35 rfl
theorem d_code_36 : D code 36 (.istore 8) 2 38 := And.intro at_36 rfl
theorem d_code_38 : D code 38 (.bipush 33) 2 40 := And.intro at_38 rfl
theorem d_code_40 : D code 40 (.iload_n 1) 1 41 := And.intro at_40 rfl
theorem d_code_41 : D code 41 (.bipush 16) 2 43 := And.intro at_41 rfl
theorem d_code_43 : D code 43 (.iushr) 1 44 := And.intro at_43 rfl
theorem d_code_44 : D code 44 (.bipush 63) 2 46 := And.intro at_44 rfl
theorem d_code_46 : D code 46 (.iand) 1 47 := And.intro at_46 rfl
theorem d_code_47 : D code 47 (.iadd) 1 48 := And.intro at_47 rfl
theorem d_code_48 : D code 48 (.i2c) 1 49 := And.intro at_48 rfl
theorem d_code_49 : D code 49 (.istore 9) 2 51 := And.intro at_49 rfl
theorem d_code_51 : D code 51 (.iload_n 2) 1 52 := And.intro at_51 rfl
theorem d_code_52 : D code 52 (.iconst 1) 1 53 := And.intro at_52 rfl
theorem d_code_53 : D code 53 (.iand) 1 54 := And.intro at_53 rfl
theorem d_code_54 : D code 54 (.ifCond .eq 7) 3 57 := And.intro at_54 rfl
theorem d_code_61 : D code 61 (.iconst 0) 1 62 := And.intro at_61 rfl
theorem d_code_57 : D code 57 (.iconst 1) 1 58 := And.intro at_57 rfl
theorem d_code_58 : D code 58 (.goto 4) 3 61 := And.intro at_58 rfl
theorem d_code_62 : D code 62 (.istore 10) 2 64 := And.intro at_62 rfl
theorem d_code_64 : D code 64 (.iload_n 2) 1 65 := And.intro at_64 rfl
theorem d_code_65 : D code 65 (.iconst 2) 1 66 := And.intro at_65 rfl
theorem d_code_66 : D code 66 (.iand) 1 67 := And.intro at_66 rfl
theorem d_code_67 : D code 67 (.ifCond .eq 15) 3 70 := And.intro at_67 rfl
theorem d_code_82 : D code 82 (.iload 5) 2 84 := And.intro at_82 rfl
theorem d_code_70 : D code 70 (.iload_n 2) 1 71 := And.intro at_70 rfl
theorem d_code_71 : D code 71 (.bipush 8) 2 73 := And.intro at_71 rfl
theorem d_code_73 : D code 73 (.iushr) 1 74 := And.intro at_73 rfl
theorem d_code_74 : D code 74 (.sipush 255) 3 77 := And.intro at_74 rfl
theorem d_code_77 : D code 77 (.iand) 1 78 := And.intro at_77 rfl
theorem d_code_78 : D code 78 (.i2c) 1 79 := And.intro at_78 rfl
theorem d_code_79 : D code 79 (.goto 5) 3 82 := And.intro at_79 rfl
theorem d_code_84 : D code 84 (.istore 11) 2 86 := And.intro at_84 rfl
theorem d_code_86 : D code 86 (.iload_n 2) 1 87 := And.intro at_86 rfl
theorem d_code_87 : D code 87 (.iconst 4) 1 88 := And.intro at_87 rfl
theorem d_code_88 : D code 88 (.iand) 1 89 := And.intro at_88 rfl
theorem d_code_89 : D code 89 (.ifCond .eq 15) 3 92 := And.intro at_89 rfl
theorem d_code_104 : D code 104 (.iload 6) 2 106 := And.intro at_104 rfl
theorem d_code_92 : D code 92 (.iload_n 2) 1 93 := And.intro at_92 rfl
theorem d_code_93 : D code 93 (.bipush 16) 2 95 := And.intro at_93 rfl
theorem d_code_95 : D code 95 (.iushr) 1 96 := And.intro at_95 rfl
theorem d_code_96 : D code 96 (.sipush 255) 3 99 := And.intro at_96 rfl
theorem d_code_99 : D code 99 (.iand) 1 100 := And.intro at_99 rfl
theorem d_code_100 : D code 100 (.i2c) 1 101 := And.intro at_100 rfl
theorem d_code_101 : D code 101 (.goto 5) 3 104 := And.intro at_101 rfl
theorem d_code_106 : D code 106 (.istore 12) 2 108 := And.intro at_106 rfl
theorem d_code_108 : D code 108 (.iload_n 3) 1 109 := And.intro at_108 rfl
theorem d_code_109 : D code 109 (.bipush 8) 2 111 := And.intro at_109 rfl
theorem d_code_111 : D code 111 (.iand) 1 112 := And.intro at_111 rfl
theorem d_code_112 : D code 112 (.ifCond .eq 7) 3 115 := And.intro at_112 rfl
theorem d_code_119 : D code 119 (.iconst 0) 1 120 := And.intro at_119 rfl
theorem d_code_115 : D code 115 (.iconst 1) 1 116 := And.intro at_115 rfl
theorem d_code_116 : D code 116 (.goto 4) 3 119 := And.intro at_116 rfl
theorem d_code_120 : D code 120 (.istore 13) 2 122 := And.intro at_120 rfl
theorem d_code_122 : D code 122 (.iload_n 3) 1 123 := And.intro at_122 rfl
theorem d_code_123 : D code 123 (.iconst 1) 1 124 := And.intro at_123 rfl
theorem d_code_124 : D code 124 (.iand) 1 125 := And.intro at_124 rfl
theorem d_code_125 : D code 125 (.ifCond .eq 15) 3 128 := And.intro at_125 rfl
theorem d_code_140 : D code 140 (.iload 7) 2 142 := And.intro at_140 rfl
theorem d_code_128 : D code 128 (.iload_n 3) 1 129 := And.intro at_128 rfl
theorem d_code_129 : D code 129 (.bipush 8) 2 131 := And.intro at_129 rfl
theorem d_code_131 : D code 131 (.iushr) 1 132 := And.intro at_131 rfl
theorem d_code_132 : D code 132 (.sipush 255) 3 135 := And.intro at_132 rfl
theorem d_code_135 : D code 135 (.iand) 1 136 := And.intro at_135 rfl
theorem d_code_136 : D code 136 (.i2c) 1 137 := And.intro at_136 rfl
theorem d_code_137 : D code 137 (.goto 5) 3 140 := And.intro at_137 rfl
theorem d_code_142 : D code 142 (.istore 14) 2 144 := And.intro at_142 rfl
theorem d_code_144 : D code 144 (.iload_n 3) 1 145 := And.intro at_144 rfl
theorem d_code_145 : D code 145 (.iconst 2) 1 146 := And.intro at_145 rfl
theorem d_code_146 : D code 146 (.iand) 1 147 := And.intro at_146 rfl
theorem d_code_147 : D code 147 (.ifCond .eq 15) 3 150 := And.intro at_147 rfl
theorem d_code_162 : D code 162 (.iload 8) 2 164 := And.intro at_162 rfl
theorem d_code_150 : D code 150 (.iload_n 3) 1 151 := And.intro at_150 rfl
theorem d_code_151 : D code 151 (.bipush 16) 2 153 := And.intro at_151 rfl
theorem d_code_153 : D code 153 (.iushr) 1 154 := And.intro at_153 rfl
theorem d_code_154 : D code 154 (.sipush 255) 3 157 := And.intro at_154 rfl
theorem d_code_157 : D code 157 (.iand) 1 158 := And.intro at_157 rfl
theorem d_code_158 : D code 158 (.i2c) 1 159 := And.intro at_158 rfl
theorem d_code_159 : D code 159 (.goto 5) 3 162 := And.intro at_159 rfl
theorem d_code_164 : D code 164 (.istore 15) 2 166 := And.intro at_164 rfl
theorem d_code_166 : D code 166 (.iload_n 3) 1 167 := And.intro at_166 rfl
theorem d_code_167 : D code 167 (.iconst 4) 1 168 := And.intro at_167 rfl
theorem d_code_168 : D code 168 (.iand) 1 169 := And.intro at_168 rfl
theorem d_code_169 : D code 169 (.ifCond .eq 17) 3 172 := And.intro at_169 rfl
theorem d_code_186 : D code 186 (.iload 9) 2 188 := And.intro at_186 rfl
theorem d_code_172 : D code 172 (.bipush 33) 2 174 := And.intro at_172 rfl
theorem d_code_174 : D code 174 (.iload_n 3) 1 175 := And.intro at_174 rfl
theorem d_code_175 : D code 175 (.bipush 24) 2 177 := And.intro at_175 rfl
theorem d_code_177 : D code 177 (.iushr) 1 178 := And.intro at_177 rfl
theorem d_code_178 : D code 178 (.bipush 63) 2 180 := And.intro at_178 rfl
theorem d_code_180 : D code 180 (.iand) 1 181 := And.intro at_180 rfl
theorem d_code_181 : D code 181 (.iadd) 1 182 := And.intro at_181 rfl
theorem d_code_182 : D code 182 (.i2c) 1 183 := And.intro at_182 rfl
theorem d_code_183 : D code 183 (.goto 5) 3 186 := And.intro at_183 rfl
theorem d_code_188 : D code 188 (.istore 16) 2 190 := And.intro at_188 rfl
theorem d_code_190 : D code 190 (.iconst 3) 1 191 := And.intro at_190 rfl
theorem d_code_191 : D code 191 (.newarray .char) 2 193 := And.intro at_191 rfl
theorem d_code_193 : D code 193 (.astore 17) 2 195 := And.intro at_193 rfl
theorem d_code_195 : D code 195 (.aload 17) 2 197 := And.intro at_195 rfl
theorem d_code_197 : D code 197 (.iconst 0) 1 198 := And.intro at_197 rfl
theorem d_code_198 : D code 198 (.bipush 36) 2 200 := And.intro at_198 rfl
theorem d_code_200 : D code 200 (.castore) 1 201 := And.intro at_200 rfl
theorem d_code_201 : D code 201 (.aload 17) 2 203 := And.intro at_201 rfl
theorem d_code_203 : D code 203 (.iconst 1) 1 204 := And.intro at_203 rfl
theorem d_code_204 : D code 204 (.iload 5) 2 206 := And.intro at_204 rfl
theorem d_code_206 : D code 206 (.castore) 1 207 := And.intro at_206 rfl
theorem d_code_207 : D code 207 (.aload 17) 2 209 := And.intro at_207 rfl
theorem d_code_209 : D code 209 (.iconst 2) 1 210 := And.intro at_209 rfl
theorem d_code_210 : D code 210 (.iload 6) 2 212 := And.intro at_210 rfl
theorem d_code_212 : D code 212 (.castore) 1 213 := And.intro at_212 rfl
theorem d_code_213 : D code 213 (.iload 10) 2 215 := And.intro at_213 rfl
theorem d_code_215 : D code 215 (.ifCond .eq 23) 3 218 := And.intro at_215 rfl
theorem d_code_238 : D code 238 (.iconst 3) 1 239 := And.intro at_238 rfl
theorem d_code_239 : D code 239 (.newarray .char) 2 241 := And.intro at_239 rfl
theorem d_code_241 : D code 241 (.astore 18) 2 243 := And.intro at_241 rfl
theorem d_code_243 : D code 243 (.aload 18) 2 245 := And.intro at_243 rfl
theorem d_code_245 : D code 245 (.iconst 0) 1 246 := And.intro at_245 rfl
theorem d_code_246 : D code 246 (.bipush 36) 2 248 := And.intro at_246 rfl
theorem d_code_248 : D code 248 (.castore) 1 249 := And.intro at_248 rfl
theorem d_code_249 : D code 249 (.aload 18) 2 251 := And.intro at_249 rfl
theorem d_code_251 : D code 251 (.iconst 1) 1 252 := And.intro at_251 rfl
theorem d_code_252 : D code 252 (.iload 11) 2 254 := And.intro at_252 rfl
theorem d_code_254 : D code 254 (.castore) 1 255 := And.intro at_254 rfl
theorem d_code_255 : D code 255 (.aload 18) 2 257 := And.intro at_255 rfl
theorem d_code_257 : D code 257 (.iconst 2) 1 258 := And.intro at_257 rfl
theorem d_code_258 : D code 258 (.iload 12) 2 260 := And.intro at_258 rfl
theorem d_code_260 : D code 260 (.castore) 1 261 := And.intro at_260 rfl
theorem d_code_261 : D code 261 (.iconst 3) 1 262 := And.intro at_261 rfl
theorem d_code_262 : D code 262 (.newarray .char) 2 264 := And.intro at_262 rfl
theorem d_code_264 : D code 264 (.astore 19) 2 266 := And.intro at_264 rfl
theorem d_code_266 : D code 266 (.aload 19) 2 268 := And.intro at_266 rfl
theorem d_code_268 : D code 268 (.iconst 0) 1 269 := And.intro at_268 rfl
theorem d_code_269 : D code 269 (.iload 7) 2 271 := And.intro at_269 rfl
theorem d_code_271 : D code 271 (.castore) 1 272 := And.intro at_271 rfl
theorem d_code_272 : D code 272 (.aload 19) 2 274 := And.intro at_272 rfl
theorem d_code_274 : D code 274 (.iconst 1) 1 275 := And.intro at_274 rfl
theorem d_code_275 : D code 275 (.iload 8) 2 277 := And.intro at_275 rfl
theorem d_code_277 : D code 277 (.castore) 1 278 := And.intro at_277 rfl
theorem d_code_278 : D code 278 (.aload 19) 2 280 := And.intro at_278 rfl
theorem d_code_280 : D code 280 (.iconst 2) 1 281 := And.intro at_280 rfl
theorem d_code_281 : D code 281 (.iload 9) 2 283 := And.intro at_281 rfl
theorem d_code_283 : D code 283 (.castore) 1 284 := And.intro at_283 rfl
theorem d_code_284 : D code 284 (.iload 13) 2 286 := And.intro at_284 rfl
theorem d_code_286 : D code 286 (.ifCond .eq 23) 3 289 := And.intro at_286 rfl
theorem d_code_309 : D code 309 (.iconst 3) 1 310 := And.intro at_309 rfl
theorem d_code_310 : D code 310 (.newarray .char) 2 312 := And.intro at_310 rfl
theorem d_code_312 : D code 312 (.astore 20) 2 314 := And.intro at_312 rfl
theorem d_code_314 : D code 314 (.aload 20) 2 316 := And.intro at_314 rfl
theorem d_code_316 : D code 316 (.iconst 0) 1 317 := And.intro at_316 rfl
theorem d_code_317 : D code 317 (.iload 14) 2 319 := And.intro at_317 rfl
theorem d_code_319 : D code 319 (.castore) 1 320 := And.intro at_319 rfl
theorem d_code_320 : D code 320 (.aload 20) 2 322 := And.intro at_320 rfl
theorem d_code_322 : D code 322 (.iconst 1) 1 323 := And.intro at_322 rfl
theorem d_code_323 : D code 323 (.iload 15) 2 325 := And.intro at_323 rfl
theorem d_code_325 : D code 325 (.castore) 1 326 := And.intro at_325 rfl
theorem d_code_326 : D code 326 (.aload 20) 2 328 := And.intro at_326 rfl
theorem d_code_328 : D code 328 (.iconst 2) 1 329 := And.intro at_328 rfl
theorem d_code_329 : D code 329 (.iload 16) 2 331 := And.intro at_329 rfl
theorem d_code_331 : D code 331 (.castore) 1 332 := And.intro at_331 rfl
theorem d_code_332 : D code 332 (.new 7) 3 335 := And.intro at_332 rfl
theorem d_code_335 : D code 335 (.dup) 1 336 := And.intro at_335 rfl
theorem d_code_336 : D code 336 (.new 9) 3 339 := And.intro at_336 rfl
theorem d_code_339 : D code 339 (.dup) 1 340 := And.intro at_339 rfl
theorem d_code_340 : D code 340 (.aload 17) 2 342 := And.intro at_340 rfl
theorem d_code_342 : D code 342 (.invokespecial 11) 3 345 := And.intro at_342 rfl
theorem pd17 : parseMethodDescriptor "([C)V" = some ⟨[(.array .char)], none⟩ := by decide +kernel
theorem d_code_345 : D code 345 (.new 9) 3 348 := And.intro at_345 rfl
theorem d_code_348 : D code 348 (.dup) 1 349 := And.intro at_348 rfl
theorem d_code_349 : D code 349 (.aload 19) 2 351 := And.intro at_349 rfl
theorem d_code_351 : D code 351 (.invokespecial 11) 3 354 := And.intro at_351 rfl
theorem d_code_354 : D code 354 (.invokespecial 14) 3 357 := And.intro at_354 rfl
theorem pd18 : parseMethodDescriptor "(Ljava/lang/String;Ljava/lang/String;)V" = some ⟨[(.object "java/lang/String"), (.object "java/lang/String")], none⟩ := by decide +kernel
theorem d_code_357 : D code 357 (.astore 21) 2 359 := And.intro at_357 rfl
theorem d_code_359 : D code 359 (.iload 4) 2 361 := And.intro at_359 rfl
theorem d_code_361 : D code 361 (.iconst 3) 1 362 := And.intro at_361 rfl
theorem d_code_362 : D code 362 (.iand) 1 363 := And.intro at_362 rfl
theorem d_code_363 : D code 363 (.istore 22) 2 365 := And.intro at_363 rfl
theorem d_code_365 : D code 365 (.iload 22) 2 367 := And.intro at_365 rfl
theorem d_code_367 : D code 367 (.iconst 1) 1 368 := And.intro at_367 rfl
theorem d_code_368 : D code 368 (.if_icmp .ne 11) 3 371 := And.intro at_368 rfl
theorem d_code_379 : D code 379 (.iload 22) 2 381 := And.intro at_379 rfl
theorem d_code_381 : D code 381 (.iconst 2) 1 382 := And.intro at_381 rfl
theorem d_code_382 : D code 382 (.if_icmp .ne 18) 3 385 := And.intro at_382 rfl
theorem d_code_400 : D code 400 (.iload 22) 2 402 := And.intro at_400 rfl
theorem d_code_402 : D code 402 (.iconst 3) 1 403 := And.intro at_402 rfl
theorem d_code_403 : D code 403 (.if_icmp .ne 26) 3 406 := And.intro at_403 rfl
theorem d_code_429 : D code 429 (.new 7) 3 432 := And.intro at_429 rfl
theorem d_code_432 : D code 432 (.dup) 1 433 := And.intro at_432 rfl
theorem d_code_433 : D code 433 (.new 9) 3 436 := And.intro at_433 rfl
theorem d_code_436 : D code 436 (.dup) 1 437 := And.intro at_436 rfl
theorem d_code_437 : D code 437 (.aload 18) 2 439 := And.intro at_437 rfl
theorem d_code_439 : D code 439 (.invokespecial 11) 3 442 := And.intro at_439 rfl
theorem d_code_442 : D code 442 (.new 9) 3 445 := And.intro at_442 rfl
theorem d_code_445 : D code 445 (.dup) 1 446 := And.intro at_445 rfl
theorem d_code_446 : D code 446 (.aload 20) 2 448 := And.intro at_446 rfl
theorem d_code_448 : D code 448 (.invokespecial 11) 3 451 := And.intro at_448 rfl
theorem d_code_451 : D code 451 (.invokespecial 14) 3 454 := And.intro at_451 rfl
theorem d_code_454 : D code 454 (.astore 23) 2 456 := And.intro at_454 rfl
theorem d_code_456 : D code 456 (.iload 10) 2 458 := And.intro at_456 rfl
theorem d_code_458 : D code 458 (.ifCond .ne 47) 3 461 := And.intro at_458 rfl
theorem d_code_461 : D code 461 (.iload 13) 2 463 := And.intro at_461 rfl
theorem d_code_463 : D code 463 (.ifCond .ne 42) 3 466 := And.intro at_463 rfl
theorem d_code_466 : D code 466 (.iload 5) 2 468 := And.intro at_466 rfl
theorem d_code_468 : D code 468 (.iload 11) 2 470 := And.intro at_468 rfl
theorem d_code_470 : D code 470 (.if_icmp .ne 35) 3 473 := And.intro at_470 rfl
theorem d_code_505 : D code 505 (.iconst 0) 1 506 := And.intro at_505 rfl
theorem d_code_506 : D code 506 (.istore 24) 2 508 := And.intro at_506 rfl
theorem d_code_508 : D code 508 (.aload 21) 2 510 := And.intro at_508 rfl
theorem d_code_510 : D code 510 (.aload 23) 2 512 := And.intro at_510 rfl
theorem d_code_512 : D code 512 (.invokevirtual 17) 3 515 := And.intro at_512 rfl
theorem d_code_515 : D code 515 (.iload 24) 2 517 := And.intro at_515 rfl
theorem d_code_517 : D code 517 (.if_icmp .ne 19) 3 520 := And.intro at_517 rfl
theorem d_code_520 : D code 520 (.aload 23) 2 522 := And.intro at_520 rfl
theorem d_code_522 : D code 522 (.aload 21) 2 524 := And.intro at_522 rfl
theorem d_code_524 : D code 524 (.invokevirtual 17) 3 527 := And.intro at_524 rfl
theorem d_code_527 : D code 527 (.iload 24) 2 529 := And.intro at_527 rfl
theorem d_code_529 : D code 529 (.if_icmp .ne 7) 3 532 := And.intro at_529 rfl
theorem d_code_532 : D code 532 (.iconst 1) 1 533 := And.intro at_532 rfl
theorem d_code_533 : D code 533 (.goto 4) 3 536 := And.intro at_533 rfl
theorem d_code_537 : D code 537 (.ireturn) 1 538 := And.intro at_537 rfl
theorem d_code_473 : D code 473 (.iload 6) 2 475 := And.intro at_473 rfl
theorem d_code_475 : D code 475 (.iload 12) 2 477 := And.intro at_475 rfl
theorem d_code_477 : D code 477 (.if_icmp .ne 28) 3 480 := And.intro at_477 rfl
theorem d_code_480 : D code 480 (.iload 7) 2 482 := And.intro at_480 rfl
theorem d_code_482 : D code 482 (.iload 14) 2 484 := And.intro at_482 rfl
theorem d_code_484 : D code 484 (.if_icmp .ne 21) 3 487 := And.intro at_484 rfl
theorem d_code_487 : D code 487 (.iload 8) 2 489 := And.intro at_487 rfl
theorem d_code_489 : D code 489 (.iload 15) 2 491 := And.intro at_489 rfl
theorem d_code_491 : D code 491 (.if_icmp .ne 14) 3 494 := And.intro at_491 rfl
theorem d_code_494 : D code 494 (.iload 9) 2 496 := And.intro at_494 rfl
theorem d_code_496 : D code 496 (.iload 16) 2 498 := And.intro at_496 rfl
theorem d_code_498 : D code 498 (.if_icmp .ne 7) 3 501 := And.intro at_498 rfl
theorem d_code_501 : D code 501 (.iconst 1) 1 502 := And.intro at_501 rfl
theorem d_code_502 : D code 502 (.goto 4) 3 505 := And.intro at_502 rfl
theorem d_code_406 : D code 406 (.aload 21) 2 408 := And.intro at_406 rfl
theorem d_code_408 : D code 408 (.new 9) 3 411 := And.intro at_408 rfl
theorem d_code_411 : D code 411 (.dup) 1 412 := And.intro at_411 rfl
theorem d_code_412 : D code 412 (.aload 17) 2 414 := And.intro at_412 rfl
theorem d_code_414 : D code 414 (.invokespecial 11) 3 417 := And.intro at_414 rfl
theorem d_code_417 : D code 417 (.invokevirtual 17) 3 420 := And.intro at_417 rfl
theorem d_code_420 : D code 420 (.ifCond .ne 7) 3 423 := And.intro at_420 rfl
theorem d_code_423 : D code 423 (.iconst 1) 1 424 := And.intro at_423 rfl
theorem d_code_424 : D code 424 (.goto 4) 3 427 := And.intro at_424 rfl
theorem d_code_428 : D code 428 (.ireturn) 1 429 := And.intro at_428 rfl
theorem d_code_385 : D code 385 (.aload 21) 2 387 := And.intro at_385 rfl
theorem d_code_387 : D code 387 (.aconst_null) 1 388 := And.intro at_387 rfl
theorem d_code_388 : D code 388 (.invokevirtual 17) 3 391 := And.intro at_388 rfl
theorem d_code_391 : D code 391 (.ifCond .ne 7) 3 394 := And.intro at_391 rfl
theorem d_code_394 : D code 394 (.iconst 1) 1 395 := And.intro at_394 rfl
theorem d_code_395 : D code 395 (.goto 4) 3 398 := And.intro at_395 rfl
theorem d_code_399 : D code 399 (.ireturn) 1 400 := And.intro at_399 rfl
theorem d_code_371 : D code 371 (.aload 21) 2 373 := And.intro at_371 rfl
theorem d_code_373 : D code 373 (.aload 21) 2 375 := And.intro at_373 rfl
theorem d_code_375 : D code 375 (.invokevirtual 17) 3 378 := And.intro at_375 rfl
theorem d_code_378 : D code 378 (.ireturn) 1 379 := And.intro at_378 rfl
theorem d_code_289 : D code 289 (.iconst 2) 1 290 := And.intro at_289 rfl
theorem d_code_290 : D code 290 (.newarray .char) 2 292 := And.intro at_290 rfl
theorem d_code_292 : D code 292 (.astore 20) 2 294 := And.intro at_292 rfl
theorem d_code_294 : D code 294 (.aload 20) 2 296 := And.intro at_294 rfl
theorem d_code_296 : D code 296 (.iconst 0) 1 297 := And.intro at_296 rfl
theorem d_code_297 : D code 297 (.iload 14) 2 299 := And.intro at_297 rfl
theorem d_code_299 : D code 299 (.castore) 1 300 := And.intro at_299 rfl
theorem d_code_300 : D code 300 (.aload 20) 2 302 := And.intro at_300 rfl
theorem d_code_302 : D code 302 (.iconst 1) 1 303 := And.intro at_302 rfl
theorem d_code_303 : D code 303 (.iload 16) 2 305 := And.intro at_303 rfl
theorem d_code_305 : D code 305 (.castore) 1 306 := And.intro at_305 rfl
theorem d_code_306 : D code 306 (.goto 26) 3 309 := And.intro at_306 rfl
theorem d_code_218 : D code 218 (.iconst 2) 1 219 := And.intro at_218 rfl
theorem d_code_219 : D code 219 (.newarray .char) 2 221 := And.intro at_219 rfl
theorem d_code_221 : D code 221 (.astore 18) 2 223 := And.intro at_221 rfl
theorem d_code_223 : D code 223 (.aload 18) 2 225 := And.intro at_223 rfl
theorem d_code_225 : D code 225 (.iconst 0) 1 226 := And.intro at_225 rfl
theorem d_code_226 : D code 226 (.bipush 36) 2 228 := And.intro at_226 rfl
theorem d_code_228 : D code 228 (.castore) 1 229 := And.intro at_228 rfl
theorem d_code_229 : D code 229 (.aload 18) 2 231 := And.intro at_229 rfl
theorem d_code_231 : D code 231 (.iconst 1) 1 232 := And.intro at_231 rfl
theorem d_code_232 : D code 232 (.iload 11) 2 234 := And.intro at_232 rfl
theorem d_code_234 : D code 234 (.castore) 1 235 := And.intro at_234 rfl
theorem d_code_235 : D code 235 (.goto 26) 3 238 := And.intro at_235 rfl
theorem pn7 : plainName "com/example/lean_envelope/leanenvelope/check/ValidationErrorEqualsPinLaw" = true := by first | (simp [plainName, overriddenIn]; done) | decide +kernel
theorem own_EW {Z : State} {a0 : Array Value} (hw : ∀ d ∈ tables_1, d.before a0 Z = true) : EW Z a0 own_EL := (EW.cons (w37 hw) (by decide) (EW.cons (w44 hw) (by decide) (EW.cons (w45 hw) (by decide) EW.nil)))
theorem wS {Z : State} {a0 : Array Value} (hw : ∀ d ∈ tables_1, d.before a0 Z = true) : ∀ a ∈ Bundle.stringAtoms, a.before a0 Z = true := fun a ha => hw a ((by decide +kernel : ∀ a ∈ Bundle.stringAtoms, a ∈ tables_1) a ha)
set_option maxRecDepth 65536 in
set_option maxHeartbeats 40000000 in
theorem ct_cmp5 (l : Launch) (Z : State) (a0 : Array Value) (hw : ∀ d ∈ tables_1, d.before a0 Z = true) (n0 : Nat) (h0 : Heap) (a b : Addr) (cs : List Int32) (vs : List Value) (A0 : Av Z h0 a .char (cs.map Value.int)) (B0 : Av Z h0 b .byte vs) (hlen : vs.length = cs.length) (hR : ∀ c ∈ cs, Rg c 256) : Ct l Z a0 own_EL false (⟨"java/lang/StringUTF16", "compress", "([CI[BII)I"⟩ : MethodName) jdk_52_method_21_code 7 (Option.some Jvm.ClassFile.FieldType.int) ({ frames := 0, cells := 0, slots := 0, locals := 0 } : Room) #[(.ref a), (.int (0 : Int32)), (.ref b), (.int (0 : Int32)), (.int (Int32.ofNat cs.length))] h0 [b] n0 (fun v h so => v = some (.int (Int32.ofNat cs.length)) ∧ Keep h0 h [b] ∧ Av Z h b .byte ((cs.map i2b).map Value.int)) := by
  refine Ct.body (plainFor_of_name pn0) ?_
  intro p e s m below meth c T W
  refine WP.cast (g' := (mkF m 0 #[.val (.ref a), .val (.int (0 : Int32)), .val (.ref b), .val (.int (0 : Int32)), .val (.int (Int32.ofNat cs.length)), .unset, .unset] [])) (by simp [entryFrame, mkF, argsToLocals, cat_i, cat_l, cat_r, cat_n]) ?_
  have hN : cs.length < 2147483648 := by have := A0.len; simpa using this
  have hab : a ≠ b := ne_av A0 B0 (by decide)
  refine k_iconst W d_jdk_52_21_0 (z := (0 : Int32)) rfl ?_
  refine k_istore W d_jdk_52_21_1 (L' := #[.val (.ref a), .val (.int (0 : Int32)), .val (.ref b), .val (.int (0 : Int32)), .val (.int (Int32.ofNat cs.length)), .val (.int (0 : Int32)), .unset]) rfl ?_
  have loop : ∀ (k i : Nat) (T : State) (h : Heap) (s6 : Slot), i + k = cs.length → (s6 = .unset ∨ ∃ w, s6 = .val w ∧ w.category = 1) → WS p l e ({ frames := 0, cells := 0, slots := 0, locals := 0 } : Room) s m #[(.ref a), (.int (0 : Int32)), (.ref b), (.int (0 : Int32)), (.int (Int32.ofNat cs.length))] below meth c Z a0 own_EL false n0 (⟨"java/lang/StringUTF16", "compress", "([CI[BII)I"⟩ : MethodName) jdk_52_method_21_code 7 (Option.some Jvm.ClassFile.FieldType.int) T h [b] 0 0 → Keep h0 h [b] → Av Z h b .byte (((cs.take i).map i2b).map Value.int ++ vs.drop i) → WP p e below (Fne s n0 Z own_EL false ({ frames := 0, cells := 0, slots := 0, locals := 0 } : Room) (fun v h so => v = some (.int (Int32.ofNat cs.length)) ∧ Keep h0 h [b] ∧ Av Z h b .byte ((cs.map i2b).map Value.int))) T (mkF m 3 #[.val (.ref a), .val (.int (Int32.ofNat i)), .val (.ref b), .val (.int (Int32.ofNat i)), .val (.int (Int32.ofNat cs.length)), .val (.int (Int32.ofNat i)), s6] []) := by
    intro k
    induction k with
    | zero =>
      intro i T h s6 hi h6 W KB AB
      obtain rfl : i = cs.length := by omega
      refine k_iload W d_jdk_52_21_3 rfl ?_
      refine k_iload W d_jdk_52_21_5 rfl ?_
      refine k_icY W 44 d_jdk_52_21_7 (by decide) (show ¬ (Int32.ofNat cs.length) < (Int32.ofNat cs.length) from (of_ge (Nat.le_refl _) hN)) ?_
      refine k_iload W d_jdk_52_21_44 rfl ?_
      exact k_ireturn W d_jdk_52_21_46 rfl [] (fun x hx => nomatch hx) (Nat.le_of_ble_eq_true rfl) (Nat.le_of_ble_eq_true rfl) ⟨rfl, KB, by rw [List.take_length, List.drop_eq_nil_of_le (by omega), List.append_nil] at AB; exact AB⟩
    | succ k ih =>
      intro i T h s6 hi h6 W KB AB
      have hlt : i < cs.length := by omega
      obtain ⟨ci, hci⟩ : ∃ c, cs[i]? = some c := ⟨_, List.getElem?_eq_getElem hlt⟩
      have hRi : Rg ci 256 := hR _ (List.mem_of_getElem? hci)
      refine k_iload W d_jdk_52_21_3 rfl ?_
      refine k_iload W d_jdk_52_21_5 rfl ?_
      refine k_icN W d_jdk_52_21_7 (show ¬ (¬ (Int32.ofNat i) < (Int32.ofNat cs.length)) from (fun q => q (of_lt hlt hN))) ?_
      refine k_aloadN W d_jdk_52_21_10 rfl rfl ?_
      refine k_iloadN W d_jdk_52_21_11 rfl ?_
      refine k_caload W (v := (.int ci)) i d_jdk_52_21_12 (A0.keep KB (nin1 hab)) (ix_of (by omega)) (by simp [hci]) ?_
      refine k_istore W d_jdk_52_21_13 (L' := #[.val (.ref a), .val (.int (Int32.ofNat i)), .val (.ref b), .val (.int (Int32.ofNat i)), .val (.int (Int32.ofNat cs.length)), .val (.int (Int32.ofNat i)), .val (.int ci)]) (XS.store1 rfl h6 rfl) ?_
      refine k_iload W d_jdk_52_21_15 rfl ?_
      refine k_sipush W d_jdk_52_21_17 (z := (255 : Int32)) rfl ?_
      refine k_icY W 26 d_jdk_52_21_20 (by decide) (show ¬ (255 : Int32) < ci from (Rg.le255 hRi)) ?_
      refine k_aloadN W d_jdk_52_21_26 rfl rfl ?_
      refine k_iloadN W d_jdk_52_21_27 rfl ?_
      refine k_iload W d_jdk_52_21_28 rfl ?_
      refine k_i2b W d_jdk_52_21_30 (z := (i2b ci)) rfl ?_
      refine k_bastore W (z := (i2b ci)) i d_jdk_52_21_31 (List.mem_of_getElem? (i := 0) rfl) AB (ix_of (by omega)) (by simp; omega) (nar_i2b _) (fits_i2b _) fun T h1 W Wr1 A1 => ?_
      have K1 : Keep h h1 [b] := Keep.of_wr Wr1
      refine k_iinc W d_jdk_52_21_32 rfl (z := (Int32.ofNat (i + 1))) (of_succ i) (L' := #[.val (.ref a), .val (.int (Int32.ofNat (i + 1))), .val (.ref b), .val (.int (Int32.ofNat i)), .val (.int (Int32.ofNat cs.length)), .val (.int (Int32.ofNat i)), .val (.int ci)]) rfl ?_
      refine k_iinc W d_jdk_52_21_35 rfl (z := (Int32.ofNat (i + 1))) (of_succ i) (L' := #[.val (.ref a), .val (.int (Int32.ofNat (i + 1))), .val (.ref b), .val (.int (Int32.ofNat (i + 1))), .val (.int (Int32.ofNat cs.length)), .val (.int (Int32.ofNat i)), .val (.int ci)]) rfl ?_
      refine k_iinc W d_jdk_52_21_38 rfl (z := (Int32.ofNat (i + 1))) (of_succ i) (L' := #[.val (.ref a), .val (.int (Int32.ofNat (i + 1))), .val (.ref b), .val (.int (Int32.ofNat (i + 1))), .val (.int (Int32.ofNat cs.length)), .val (.int (Int32.ofNat (i + 1))), .val (.int ci)]) rfl ?_
      refine k_goto W 3 d_jdk_52_21_41 (by decide) ?_
      refine ih (i + 1) T h1 _ (by omega) (Or.inr ⟨_, rfl, rfl⟩) W (KB.trans K1 (fun x hx => Or.inl hx)) ?_
      have hh := A1
      rw [cmp_step hci hlen] at hh; exact hh
  exact loop cs.length 0 T h0 .unset (by omega) (Or.inl rfl) W (Keep.refl _ _) (by simpa using B0)
set_option maxRecDepth 65536 in
set_option maxHeartbeats 40000000 in
theorem ct_cmp3 (l : Launch) (Z : State) (a0 : Array Value) (hw : ∀ d ∈ tables_1, d.before a0 Z = true) (n0 : Nat) (h0 : Heap) (a : Addr) (cs : List Int32) (N : Nat) (A0 : Av Z h0 a .char (cs.map Value.int)) (hR : ∀ c ∈ cs, Rg c 256) (hN : cs.length ≤ N) (hN2 : N ≤ 67108864) : Ct l Z a0 own_EL false (⟨"java/lang/StringUTF16", "compress", "([CII)[B"⟩ : MethodName) jdk_52_method_16_code 6 (Option.some (Jvm.ClassFile.FieldType.array Jvm.ClassFile.FieldType.byte)) ({ frames := 1, cells := 1, slots := N, locals := 18 } : Room) #[(.ref a), (.int (0 : Int32)), (.int (Int32.ofNat cs.length))] h0 [] n0 (fun v h so => ∃ b, v = some (.ref b) ∧ h0.size ≤ b ∧ Keep h0 h [] ∧ Av Z h b .byte ((cs.map i2b).map Value.int)) := by
  refine Ct.body (plainFor_of_name pn0) ?_
  intro p e s m below meth c T W
  refine WP.cast (g' := (mkF m 0 #[.val (.ref a), .val (.int (0 : Int32)), .val (.int (Int32.ofNat cs.length)), .unset, .unset, .unset] [])) (by simp [entryFrame, mkF, argsToLocals, cat_i, cat_l, cat_r, cat_n]) ?_
  refine k_iloadN W d_jdk_52_16_0 rfl ?_
  refine k_newarr W cs.length 1 (0 + cs.length) d_jdk_52_16_1 (w22 hw) (ix_of (by omega)) (by omega) ⟨rfl, Nat.le_of_ble_eq_true rfl⟩ ⟨rfl, (by show 0 + cs.length ≤ N; omega)⟩ fun T h2 a3 g3 W E3 A3 => ?_
  have K3 : Keep h0 h2 [] := keep_ext E3 []
  have A3 : Av Z h2 a3 .byte (List.replicate cs.length (defaultValue .byte)) := A3
  refine k_astoreN W d_jdk_52_16_3 rfl (L' := #[.val (.ref a), .val (.int (0 : Int32)), .val (.int (Int32.ofNat cs.length)), .val (.ref a3), .unset, .unset]) rfl ?_
  refine k_aloadN W d_jdk_52_16_4 rfl rfl ?_
  refine k_iloadN W d_jdk_52_16_5 rfl ?_
  refine k_aloadN W d_jdk_52_16_6 rfl rfl ?_
  refine k_iconst W d_jdk_52_16_7 (z := (0 : Int32)) rfl ?_
  refine k_iloadN W d_jdk_52_16_8 rfl ?_
  have f4 := (A0.keep K3 nin0)
  refine k_callS W 0 1 ((0 + cs.length) + 0) (argsL := [(.ref a), (.int (0 : Int32)), (.ref a3), (.int (0 : Int32)), (.int (Int32.ofNat cs.length))]) (rest := []) d_jdk_52_16_9 (w23 hw) (w24 hw) (by decide) (lenOf pd0 rfl) (ct_cmp5 l Z a0 hw n0 h2 a a3 cs (List.replicate cs.length (defaultValue .byte)) f4 A3 (by simp) hR) (w25 hw) (w20 hw) (fun x hx => hx) rfl (Nat.le_of_eq rfl) (Nat.le_of_ble_eq_true rfl) (Nat.le_of_ble_eq_true rfl) ⟨rfl, Nat.le_of_ble_eq_true rfl⟩ ⟨rfl, (by show 0 + cs.length ≤ N; omega)⟩ rfl (fun _ _ q => nomatch q.1) fun T h5 v so W hQ => ?_
  obtain ⟨hv, K5, B5⟩ := hQ
  obtain rfl := Option.some.inj hv
  refine k_istore W d_jdk_52_16_12 (L' := #[.val (.ref a), .val (.int (0 : Int32)), .val (.int (Int32.ofNat cs.length)), .val (.ref a3), .val (.int (Int32.ofNat cs.length)), .unset]) rfl ?_
  refine k_iload W d_jdk_52_16_14 rfl ?_
  refine k_iloadN W d_jdk_52_16_16 rfl ?_
  refine k_icY W 57 d_jdk_52_16_17 (by decide) (show (Int32.ofNat cs.length) = (Int32.ofNat cs.length) from rfl) ?_
  refine k_aloadN W d_jdk_52_16_57 rfl rfl ?_
  have KK6 : Keep h0 h2 [] := (Keep.refl h0 []).trans K3 all0
  have KK7 : Keep h0 h5 [] := KK6.trans K5 (allS (Or.inr (Nat.le_of_eq g3.symm)) all0)
  exact k_areturn W d_jdk_52_16_58 rfl rfl rfl [] (fun x hx => nomatch hx) (Nat.le_of_ble_eq_true rfl) (by show 0 + cs.length + 0 ≤ N; omega) ⟨_, rfl, (Nat.le_of_eq g3.symm), KK7, B5⟩
set_option maxRecDepth 65536 in
set_option maxHeartbeats 40000000 in
theorem ct_cfal (l : Launch) (Z : State) (a0 : Array Value) (hw : ∀ d ∈ tables_1, d.before a0 Z = true) (n0 : Nat) (h0 : Heap) (b : Addr) (vs : List Value) (B0 : Av Z h0 b .byte vs) : Ct l Z a0 own_EL false (⟨"java/lang/StringUTF16", "coderFromArrayLen", "([BI)B"⟩ : MethodName) jdk_52_method_15_code 2 (Option.some Jvm.ClassFile.FieldType.byte) ({ frames := 0, cells := 0, slots := 0, locals := 0 } : Room) #[(.ref b), (.int (Int32.ofNat vs.length))] h0 [] n0 (fun v h so => v = some (.int (0 : Int32)) ∧ h0 = h ∧ so = []) := by
  refine Ct.body (plainFor_of_name pn0) ?_
  intro p e s m below meth c T W
  refine WP.cast (g' := (mkF m 0 #[.val (.ref b), .val (.int (Int32.ofNat vs.length))] [])) (by simp [entryFrame, mkF, argsToLocals, cat_i, cat_l, cat_r, cat_n]) ?_
  refine k_iloadN W d_jdk_52_15_0 rfl ?_
  refine k_aloadN W d_jdk_52_15_1 rfl rfl ?_
  refine k_arraylength W (z := (Int32.ofNat vs.length)) d_jdk_52_15_2 B0 rfl ?_
  refine k_isub W d_jdk_52_15_3 (z := ((Int32.ofNat vs.length) - (Int32.ofNat vs.length))) rfl ?_
  refine k_bipush W d_jdk_52_15_4 (z := (31 : Int32)) rfl ?_
  obtain ⟨v8, ev8⟩ : ∃ z : Int32, z = (XT.ushr ((Int32.ofNat vs.length) - (Int32.ofNat vs.length)) (31 : Int32)) := ⟨_, rfl⟩
  refine k_iushr W d_jdk_52_15_6 ev8.symm ?_
  refine k_i2b W d_jdk_52_15_7 (z := (i2b v8)) rfl ?_
  exact k_retN W (t := .byte) (z' := (0 : Int32)) d_jdk_52_15_8 rfl (by simp) (by subst_vars; rw [Int32.sub_self]; decide) [] (fun x hx => nomatch hx) (Nat.le_of_ble_eq_true rfl) (Nat.le_of_ble_eq_true rfl) ⟨rfl, rfl, rfl⟩
set_option maxRecDepth 65536 in
set_option maxHeartbeats 40000000 in
theorem ct_sinit4 (l : Launch) (Z : State) (a0 : Array Value) (hw : ∀ d ∈ tables_1, d.before a0 Z = true) (n0 : Nat) (h0 : Heap) (x a : Addr) (cs : List Int32) (N : Nat) (zc : Int32) (v0 c0 : Value) (E0 : Exa Z h0 x "java/lang/String") (V0 : Fld Z h0 x "java/lang/String" "value" "[B" v0) (C0 : Fld Z h0 x "java/lang/String" "coder" "B" c0) (A0 : Av Z h0 a .char (cs.map Value.int)) (P0 : Sta Z h0 "java/lang/String" "COMPACT_STRINGS" "Z" (.int zc)) (hzc : zc ≠ 0) (hR : ∀ c ∈ cs, Rg c 256) (hp : 0 < cs.length) (hN : cs.length ≤ N) (hN2 : N ≤ 67108864) : Ct l Z a0 own_EL false (⟨"java/lang/String", "<init>", "([CIILjava/lang/Void;)V"⟩ : MethodName) jdk_42_method_149_code 6 (Option.none : Option Jvm.ClassFile.FieldType) ({ frames := 2, cells := 1, slots := N, locals := 35 } : Room) #[(.ref x), (.ref a), (.int (0 : Int32)), (.int (Int32.ofNat cs.length)), .null] h0 [x] n0 (fun v h so => v = none ∧ ∃ b, h0.size ≤ b ∧ Keep h0 h [x] ∧ St Z h x b (cs.map i2b)) := by
  refine Ct.body (plainFor_of_name pn1) ?_
  intro p e s m below meth c T W
  refine WP.cast (g' := (mkF m 0 #[.val (.ref x), .val (.ref a), .val (.int (0 : Int32)), .val (.int (Int32.ofNat cs.length)), .val .null, .unset] [])) (by simp [entryFrame, mkF, argsToLocals, cat_i, cat_l, cat_r, cat_n]) ?_
  have hL : cs.length < 2147483648 := by omega
  have hnz : ¬ Int32.ofNat cs.length = 0 := of_ne0 hp hL
  refine k_aloadN W d_jdk_42_149_0 rfl rfl ?_
  refine k_initO W 0 d_jdk_42_149_1 (w14 hw) (w15 hw) (w16 hw) rfl (Nat.le_of_eq rfl) (Nat.le_of_ble_eq_true rfl) (Nat.le_of_ble_eq_true rfl) fun T W => ?_
  refine k_iloadN W d_jdk_42_149_4 rfl ?_
  refine k_ifY W 27 d_jdk_42_149_5 (by decide) (show ¬ (Int32.ofNat cs.length) = 0 from hnz) ?_
  refine k_getS W d_jdk_42_149_27 (w17 hw) Via.refl P0 fun T W => ?_
  refine k_ifN W d_jdk_42_149_30 (show ¬ (zc = 0) from hzc) ?_
  refine k_aloadN W d_jdk_42_149_33 rfl rfl ?_
  refine k_iloadN W d_jdk_42_149_34 rfl ?_
  refine k_iloadN W d_jdk_42_149_35 rfl ?_
  refine k_callS W 0 1 (0 + N) (argsL := [(.ref a), (.int (0 : Int32)), (.int (Int32.ofNat cs.length))]) (rest := []) d_jdk_42_149_36 (w18 hw) (w19 hw) (by decide) (lenOf pd1 rfl) (ct_cmp3 l Z a0 hw n0 h0 a cs N A0 hR hN hN2) (w21 hw) (w20 hw) (fun x hx => nomatch hx) rfl (Nat.le_of_eq rfl) (Nat.le_of_ble_eq_true rfl) (Nat.le_of_ble_eq_true rfl) ⟨rfl, Nat.le_of_ble_eq_true rfl⟩ ⟨rfl, (by show 0 + N ≤ N; omega)⟩ rfl (fun _ _ ⟨_, q, _⟩ => nomatch q) fun T h9 v so W hQ => ?_
  obtain ⟨b9, hv, g9, K9, B9⟩ := hQ
  obtain rfl := Option.some.inj hv
  refine k_astore W d_jdk_42_149_39 rfl (L' := #[.val (.ref x), .val (.ref a), .val (.int (0 : Int32)), .val (.int (Int32.ofNat cs.length)), .val .null, .val (.ref b9)]) rfl ?_
  refine k_aloadN W d_jdk_42_149_41 rfl rfl ?_
  refine k_aload W d_jdk_42_149_42 rfl rfl ?_
  refine k_iloadN W d_jdk_42_149_44 rfl ?_
  have hvl : ((cs.map i2b).map Value.int).length = cs.length := by simp
  have hqc := ct_cfal l Z a0 hw n0 h9 b9 ((cs.map i2b).map Value.int) B9
  rw [hvl] at hqc
  refine k_callS W 1 1 ((0 + N) + 0) (argsL := [(.ref b9), (.int (Int32.ofNat cs.length))]) (rest := [(.ref x)]) d_jdk_42_149_45 (w26 hw) (w27 hw) (by decide) (lenOf pd2 rfl) hqc (w28 hw) (w20 hw) (fun x hx => nomatch hx) rfl (Nat.le_of_eq rfl) (Nat.le_of_ble_eq_true rfl) (Nat.le_of_ble_eq_true rfl) ⟨rfl, Nat.le_of_ble_eq_true rfl⟩ ⟨rfl, (by show 0 + N ≤ N; omega)⟩ rfl (fun _ _ q => nomatch q.1) fun T h10 v so W hQ => ?_
  obtain ⟨hv, rfl, -⟩ := hQ
  obtain rfl := Option.some.inj hv
  have f11 := (C0.keep K9 nin0)
  have f12 := (E0.keep K9)
  refine k_putF W d_jdk_42_149_48 (w29 hw) Via.refl (v' := (.int (0 : Int32))) (List.mem_of_getElem? (i := 0) rfl) f11 f12 (Or.inr ⟨(w30 hw), rfl, rfl⟩) (w5 hw) (ty := .byte) (by decide) (by decide) (by decide) fun T h13 W Wr13 => ?_
  have K13 : Keep h9 h13 [x] := Keep.of_wr Wr13
  refine k_aloadN W d_jdk_42_149_51 rfl rfl ?_
  refine k_aload W d_jdk_42_149_52 rfl rfl ?_
  have f14 := ((V0.keep K9 nin0).other Wr13 (Or.inr (slot_ne (Or.inr (w32 hw)) (Or.inr (w30 hw)) (by decide) (t := (.array .byte)) (t' := .byte) (by decide) (by decide))))
  have f15 := (f12.keep K13)
  refine k_putF W d_jdk_42_149_54 (w31 hw) Via.refl (v' := (.ref b9)) (List.mem_of_getElem? (i := 0) rfl) f14 f15 (Or.inr ⟨(w32 hw), rfl, rfl⟩) (w5 hw) (ty := (.array .byte)) (by decide) rfl rfl fun T h16 W Wr16 => ?_
  have K16 : Keep h13 h16 [x] := Keep.of_wr Wr16
  have KK17 : Keep h0 h9 [x] := (Keep.refl h0 [x]).trans K9 all0
  have KK18 : Keep h0 h13 [x] := KK17.trans K13 (allS (Or.inl (List.mem_of_getElem? (i := 0) rfl)) all0)
  have KK19 : Keep h0 h16 [x] := KK18.trans K16 (allS (Or.inl (List.mem_of_getElem? (i := 0) rfl)) all0)
  have f20 := (f15.keep K16)
  have f21 := ((Fld.same Wr13 f11).other Wr16 (Or.inr (slot_ne (Or.inr (w30 hw)) (Or.inr (w32 hw)) (by decide) (t := .byte) (t' := (.array .byte)) (by decide) (by decide))))
  have ne22 : b9 ≠ x := (Ne.symm (Nat.ne_of_lt (Nat.lt_of_lt_of_le E0.lt g9)))
  have f23 := ((B9.keep K13 (ninS ne22 nin0)).keep K16 (ninS ne22 nin0))
  exact k_ret W d_jdk_42_149_57 rfl [] (fun x hx => nomatch hx) (Nat.le_of_ble_eq_true rfl) (by show 0 + N ≤ N; omega) ⟨rfl, _, g9, KK19, f20, f21, (Fld.same Wr16 f14), f23⟩
set_option maxRecDepth 65536 in
set_option maxHeartbeats 40000000 in
theorem ct_sinit (l : Launch) (Z : State) (a0 : Array Value) (hw : ∀ d ∈ tables_1, d.before a0 Z = true) (n0 : Nat) (h0 : Heap) (x a : Addr) (cs : List Int32) (N : Nat) (zc : Int32) (v0 c0 : Value) (E0 : Exa Z h0 x "java/lang/String") (V0 : Fld Z h0 x "java/lang/String" "value" "[B" v0) (C0 : Fld Z h0 x "java/lang/String" "coder" "B" c0) (A0 : Av Z h0 a .char (cs.map Value.int)) (P0 : Sta Z h0 "java/lang/String" "COMPACT_STRINGS" "Z" (.int zc)) (hzc : zc ≠ 0) (hR : ∀ c ∈ cs, Rg c 256) (hp : 0 < cs.length) (hN : cs.length ≤ N) (hN2 : N ≤ 67108864) : Ct l Z a0 own_EL false (⟨"java/lang/String", "<init>", "([C)V"⟩ : MethodName) jdk_42_method_3_code 2 (Option.none : Option Jvm.ClassFile.FieldType) ({ frames := 3, cells := 1, slots := N, locals := 52 } : Room) #[(.ref x), (.ref a)] h0 [x] n0 (fun v h so => v = none ∧ ∃ b, h0.size ≤ b ∧ Keep h0 h [x] ∧ St Z h x b (cs.map i2b)) := by
  refine Ct.body (plainFor_of_name pn1) ?_
  intro p e s m below meth c T W
  refine WP.cast (g' := (mkF m 0 #[.val (.ref x), .val (.ref a)] [])) (by simp [entryFrame, mkF, argsToLocals, cat_i, cat_l, cat_r, cat_n]) ?_
  refine k_aloadN W d_jdk_42_3_0 rfl rfl ?_
  refine k_aloadN W d_jdk_42_3_1 rfl rfl ?_
  refine k_iconst W d_jdk_42_3_2 (z := (0 : Int32)) rfl ?_
  refine k_aloadN W d_jdk_42_3_3 rfl rfl ?_
  refine k_arraylength W (z := (Int32.ofNat cs.length)) d_jdk_42_3_4 A0 (by first | (rw [List.length_map]; done) | (rw [List.length_map]; rfl)) ?_
  refine k_aconst W d_jdk_42_3_5 ?_
  refine k_callI0 W 0 1 (0 + N) (argsL := [(.ref a), (.int (0 : Int32)), (.int (Int32.ofNat cs.length)), .null]) (rest := []) (a := x) d_jdk_42_3_6 rfl rfl (w10 hw) (w11 hw) (by decide) (lenOf pd3 rfl) (ct_sinit4 l Z a0 hw n0 h0 x a cs N zc v0 c0 E0 V0 C0 A0 P0 hzc hR hp hN hN2) (w13 hw) (w6 hw) (fun x hx => hx) rfl (Nat.le_of_eq rfl) (Nat.le_of_ble_eq_true rfl) (Nat.le_of_ble_eq_true rfl) ⟨rfl, Nat.le_of_ble_eq_true rfl⟩ ⟨rfl, (by show 0 + N ≤ N; omega)⟩ rfl (fun _ _ _ q => nomatch q.1) fun T h24 so W hQ => ?_
  have hq24 := hQ.2
  exact k_ret W d_jdk_42_3_9 rfl [] (fun x hx => nomatch hx) (Nat.le_of_ble_eq_true rfl) (by show 0 + N ≤ N; omega) ⟨rfl, hq24⟩
set_option maxRecDepth 65536 in
set_option maxHeartbeats 40000000 in
theorem ct_coder (l : Launch) (Z : State) (a0 : Array Value) (hw : ∀ d ∈ tables_1, d.before a0 Z = true) (n0 : Nat) (h0 : Heap) (x b : Addr) (bs : List Int32) (zc : Int32) (S0 : St Z h0 x b bs) (P0 : Sta Z h0 "java/lang/String" "COMPACT_STRINGS" "Z" (.int zc)) (hzc : zc ≠ 0) : Ct l Z a0 own_EL false (⟨"java/lang/String", "coder", "()B"⟩ : MethodName) jdk_42_method_152_code 1 (Option.some Jvm.ClassFile.FieldType.byte) ({ frames := 0, cells := 0, slots := 0, locals := 0 } : Room) #[(.ref x)] h0 [] n0 (fun v h so => v = some (.int (0 : Int32)) ∧ h0 = h ∧ so = []) := by
  refine Ct.body (plainFor_of_name pn1) ?_
  intro p e s m below meth c T W
  refine WP.cast (g' := (mkF m 0 #[.val (.ref x)] [])) (by simp [entryFrame, mkF, argsToLocals, cat_i, cat_l, cat_r, cat_n]) ?_
  refine k_getS W d_jdk_42_152_0 (w17 hw) Via.refl P0 fun T W => ?_
  refine k_ifN W d_jdk_42_152_3 (show ¬ (zc = 0) from hzc) ?_
  refine k_aloadN W d_jdk_42_152_6 rfl rfl ?_
  refine k_getF W d_jdk_42_152_7 (host := "") (Or.inl (w29 hw)) Via.refl S0.2.1 fun T W => ?_
  refine k_goto W 14 d_jdk_42_152_10 (by decide) ?_
  exact k_retN W (t := .byte) (z' := (0 : Int32)) d_jdk_42_152_14 rfl (by simp) (by decide) [] (fun x hx => nomatch hx) (Nat.le_of_ble_eq_true rfl) (Nat.le_of_ble_eq_true rfl) ⟨rfl, rfl, rfl⟩
set_option maxRecDepth 65536 in
set_option maxHeartbeats 40000000 in
theorem ct_len (l : Launch) (Z : State) (a0 : Array Value) (hw : ∀ d ∈ tables_1, d.before a0 Z = true) (n0 : Nat) (h0 : Heap) (x b : Addr) (bs : List Int32) (zc : Int32) (S0 : St Z h0 x b bs) (P0 : Sta Z h0 "java/lang/String" "COMPACT_STRINGS" "Z" (.int zc)) (hzc : zc ≠ 0) : Ct l Z a0 own_EL false (⟨"java/lang/String", "length", "()I"⟩ : MethodName) jdk_42_method_54_code 1 (Option.some Jvm.ClassFile.FieldType.int) ({ frames := 1, cells := 0, slots := 0, locals := 13 } : Room) #[(.ref x)] h0 [] n0 (fun v h so => v = some (.int (Int32.ofNat bs.length)) ∧ h0 = h ∧ so = []) := by
  refine Ct.body (plainFor_of_name pn1) ?_
  intro p e s m below meth c T W
  refine WP.cast (g' := (mkF m 0 #[.val (.ref x)] [])) (by simp [entryFrame, mkF, argsToLocals, cat_i, cat_l, cat_r, cat_n]) ?_
  refine k_aloadN W d_jdk_42_54_0 rfl rfl ?_
  refine k_getF W d_jdk_42_54_1 (host := "") (Or.inl (w31 hw)) Via.refl S0.2.2.1 fun T W => ?_
  refine k_arraylength W (z := (Int32.ofNat bs.length)) d_jdk_42_54_4 S0.2.2.2 (by first | (rw [List.length_map]; done) | (rw [List.length_map]; rfl)) ?_
  refine k_aloadN W d_jdk_42_54_5 rfl rfl ?_
  refine k_callV W 1 0 0 (argsL := []) (rest := [(.int (Int32.ofNat bs.length))]) (a := x) (C := "java/lang/String") (z0 := (⟨"java/lang/String", "coder", "()B"⟩ : MethodName)) (z := (⟨"java/lang/String", "coder", "()B"⟩ : MethodName)) d_jdk_42_54_6 (w61 hw) (w62 hw) (nfSel (w64 hw)) (w64 hw) (w63 hw) (by decide) (lenOf pd4 rfl) S0.1 (ct_coder l Z a0 hw n0 h0 x b bs zc S0 P0 hzc) (w65 hw) (w6 hw) (fun x hx => hx) rfl (Nat.le_of_eq rfl) (Nat.le_of_ble_eq_true rfl) (Nat.le_of_ble_eq_true rfl) ⟨rfl, Nat.le_of_ble_eq_true rfl⟩ ⟨rfl, Nat.le_of_ble_eq_true rfl⟩ rfl (fun _ _ q => nomatch q.1) fun T h25 v so W hQ => ?_
  obtain ⟨hv, rfl, -⟩ := hQ
  obtain rfl := Option.some.inj hv
  refine k_ishr W d_jdk_42_54_9 (z := (Int32.ofNat bs.length)) (shr0 _) ?_
  exact k_ireturn W d_jdk_42_54_10 rfl [] (fun x hx => nomatch hx) (Nat.le_of_ble_eq_true rfl) (Nat.le_of_ble_eq_true rfl) ⟨rfl, rfl, rfl⟩
set_option maxRecDepth 65536 in
set_option maxHeartbeats 40000000 in
theorem ct_mism (l : Launch) (Z : State) (a0 : Array Value) (hw : ∀ d ∈ tables_1, d.before a0 Z = true) (n0 : Nat) (h0 : Heap) (a b : Addr) (as bs : List Int32) (n : Nat) (hn : n ≤ 7) (ha : n ≤ as.length) (hb : n ≤ bs.length) (A0 : Av Z h0 a .byte (as.map Value.int)) (B0 : Av Z h0 b .byte (bs.map Value.int)) : Ct l Z a0 own_EL false (⟨"jdk/internal/util/ArraysSupport", "mismatch", "([BI[BII)I"⟩ : MethodName) jdk_48_method_14_code 8 (Option.some Jvm.ClassFile.FieldType.int) ({ frames := 0, cells := 0, slots := 0, locals := 0 } : Room) #[(.ref a), (.int (0 : Int32)), (.ref b), (.int (0 : Int32)), (.int (Int32.ofNat n))] h0 [] n0 (fun v h so => ∃ r : Int32, v = some (.int r) ∧ h0 = h ∧ ((as.take n = bs.take n ∧ r < 0) ∨ (as.take n ≠ bs.take n ∧ ¬ r < 0))) := by
  refine Ct.body (plainFor_of_name pn2) ?_
  intro p e s m below meth c T W
  refine WP.cast (g' := (mkF m 0 #[.val (.ref a), .val (.int (0 : Int32)), .val (.ref b), .val (.int (0 : Int32)), .val (.int (Int32.ofNat n)), .unset, .unset, .unset] [])) (by simp [entryFrame, mkF, argsToLocals, cat_i, cat_l, cat_r, cat_n]) ?_
  refine k_iconst W d_jdk_48_14_0 (z := (0 : Int32)) rfl ?_
  refine k_istore W d_jdk_48_14_1 (L' := #[.val (.ref a), .val (.int (0 : Int32)), .val (.ref b), .val (.int (0 : Int32)), .val (.int (Int32.ofNat n)), .val (.int (0 : Int32)), .unset, .unset]) rfl ?_
  refine k_iload W d_jdk_48_14_3 rfl ?_
  refine k_bipush W d_jdk_48_14_5 (z := (7 : Int32)) rfl ?_
  refine k_icY W 70 d_jdk_48_14_7 (by decide) (show ¬ (7 : Int32) < (Int32.ofNat n) from (le7 hn)) ?_
  have loop : ∀ (k i : Nat) (T : State), i + k = n → as.take i = bs.take i → WS p l e ({ frames := 0, cells := 0, slots := 0, locals := 0 } : Room) s m #[(.ref a), (.int (0 : Int32)), (.ref b), (.int (0 : Int32)), (.int (Int32.ofNat n))] below meth c Z a0 own_EL false n0 (⟨"jdk/internal/util/ArraysSupport", "mismatch", "([BI[BII)I"⟩ : MethodName) jdk_48_method_14_code 8 (Option.some Jvm.ClassFile.FieldType.int) T h0 [] 0 0 → WP p e below (Fne s n0 Z own_EL false ({ frames := 0, cells := 0, slots := 0, locals := 0 } : Room) (fun v h so => ∃ r : Int32, v = some (.int r) ∧ h0 = h ∧ ((as.take n = bs.take n ∧ r < 0) ∨ (as.take n ≠ bs.take n ∧ ¬ r < 0)))) T (mkF m 70 #[.val (.ref a), .val (.int (0 : Int32)), .val (.ref b), .val (.int (0 : Int32)), .val (.int (Int32.ofNat n)), .val (.int (Int32.ofNat i)), .unset, .unset] []) := by
    intro k
    induction k with
    | zero =>
      intro i T hi hE W
      obtain rfl : i = n := by omega
      refine k_iload W d_jdk_48_14_70 rfl ?_
      refine k_iload W d_jdk_48_14_72 rfl ?_
      refine k_icY W 101 d_jdk_48_14_74 (by decide) (show ¬ (Int32.ofNat i) < (Int32.ofNat i) from (of_ge (Nat.le_refl _) (by omega))) ?_
      refine k_iconst W d_jdk_48_14_101 (z := (-1 : Int32)) rfl ?_
      exact k_ireturn W d_jdk_48_14_102 rfl [] (fun x hx => nomatch hx) (Nat.le_of_ble_eq_true rfl) (Nat.le_of_ble_eq_true rfl) ⟨_, rfl, rfl, Or.inl ⟨hE, by decide⟩⟩
    | succ k ih =>
      intro i T hi hE W
      have h1 : i < as.length := by omega
      have h2 : i < bs.length := by omega
      obtain ⟨x, hx⟩ : ∃ c, as[i]? = some c := ⟨_, List.getElem?_eq_getElem h1⟩
      obtain ⟨y, hy⟩ : ∃ c, bs[i]? = some c := ⟨_, List.getElem?_eq_getElem h2⟩
      have hs : ∀ zs : List Int32, ∀ z, zs[i]? = some z → zs.take (i + 1) = zs.take i ++ [z] := fun zs z q => by rw [List.take_succ, q]; rfl
      refine k_iload W d_jdk_48_14_70 rfl ?_
      refine k_iload W d_jdk_48_14_72 rfl ?_
      refine k_icN W d_jdk_48_14_74 (show ¬ (¬ (Int32.ofNat i) < (Int32.ofNat n)) from (fun q => q (of_lt (by omega) (by omega)))) ?_
      refine k_aloadN W d_jdk_48_14_77 rfl rfl ?_
      refine k_iloadN W d_jdk_48_14_78 rfl ?_
      refine k_iload W d_jdk_48_14_79 rfl ?_
      refine k_iadd W d_jdk_48_14_81 (z := ((0 : Int32) + (Int32.ofNat i))) rfl ?_
      refine k_baload W (v := (.int x)) i d_jdk_48_14_82 A0 (by rw [Int32.zero_add]; exact ix_of (by omega)) (by simp [hx]) ?_
      refine k_aloadN W d_jdk_48_14_83 rfl rfl ?_
      refine k_iloadN W d_jdk_48_14_84 rfl ?_
      refine k_iload W d_jdk_48_14_85 rfl ?_
      refine k_iadd W d_jdk_48_14_87 (z := ((0 : Int32) + (Int32.ofNat i))) rfl ?_
      refine k_baload W (v := (.int y)) i d_jdk_48_14_88 B0 (by rw [Int32.zero_add]; exact ix_of (by omega)) (by simp [hy]) ?_
      refine k_ic W 95 d_jdk_48_14_89 (by decide) (fun (hc26 : x = y) => ?_) (fun (hc26 : ¬ (x = y)) => ?_)
      · -- pc 95
        refine k_iinc W d_jdk_48_14_95 rfl (z := (Int32.ofNat (i + 1))) (of_succ i) (L' := #[.val (.ref a), .val (.int (0 : Int32)), .val (.ref b), .val (.int (0 : Int32)), .val (.int (Int32.ofNat n)), .val (.int (Int32.ofNat (i + 1))), .unset, .unset]) rfl ?_
        refine k_goto W 70 d_jdk_48_14_98 (by decide) ?_
        exact ih (i + 1) T (by omega) (by rw [hs as x hx, hs bs y hy, hE, hc26]) W
      · -- pc 92
        refine k_iload W d_jdk_48_14_92 rfl ?_
        exact k_ireturn W d_jdk_48_14_94 rfl [] (fun x hx => nomatch hx) (Nat.le_of_ble_eq_true rfl) (Nat.le_of_ble_eq_true rfl) ⟨_, rfl, rfl, Or.inr ⟨fun q => hc26 (by
            have e1 : (as.take n)[i]? = some x := by rw [List.getElem?_take_of_lt (by omega)]; exact hx
            rw [q, List.getElem?_take_of_lt (by omega), hy] at e1; exact (Option.some.inj e1).symm), (ix_of (by omega)).1⟩⟩
  exact loop n 0 T (by omega) (by simp) W
set_option maxRecDepth 65536 in
set_option maxHeartbeats 40000000 in
theorem ct_sw2 (l : Launch) (Z : State) (a0 : Array Value) (hw : ∀ d ∈ tables_1, d.before a0 Z = true) (n0 : Nat) (h0 : Heap) (x b q d : Addr) (bs ps : List Int32) (zc : Int32) (hp : ps.length ≤ 7) (hl : ps.length ≤ bs.length) (S0 : St Z h0 x b bs) (S1 : St Z h0 q d ps) (P0 : Sta Z h0 "java/lang/String" "COMPACT_STRINGS" "Z" (.int zc)) (hzc : zc ≠ 0) : Ct l Z a0 own_EL false (⟨"java/lang/String", "startsWith", "(Ljava/lang/String;I)Z"⟩ : MethodName) jdk_42_method_75_code 8 (Option.some Jvm.ClassFile.FieldType.boolean) ({ frames := 2, cells := 0, slots := 0, locals := 27 } : Room) #[(.ref x), (.ref q), (.int (0 : Int32))] h0 [] n0 (fun v h so => ((bs.take ps.length = ps ∧ v = some (.int (1 : Int32))) ∨ (bs.take ps.length ≠ ps ∧ v = some (.int (0 : Int32)))) ∧ h0 = h) := by
  refine Ct.body (plainFor_of_name pn1) ?_
  intro p e s m below meth c T W
  refine WP.cast (g' := (mkF m 0 #[.val (.ref x), .val (.ref q), .val (.int (0 : Int32)), .unset, .unset, .unset, .unset, .unset] [])) (by simp [entryFrame, mkF, argsToLocals, cat_i, cat_l, cat_r, cat_n]) ?_
  have hL : bs.length < 2147483648 := by have := S0.2.2.2.len; simpa using this
  refine k_iloadN W d_jdk_42_75_0 rfl ?_
  refine k_ifN W d_jdk_42_75_1 (show ¬ ((0 : Int32) < 0) by decide) ?_
  refine k_iloadN W d_jdk_42_75_4 rfl ?_
  refine k_aloadN W d_jdk_42_75_5 rfl rfl ?_
  refine k_callV W 1 0 0 (argsL := []) (rest := [(.int (0 : Int32))]) (a := x) (C := "java/lang/String") (z0 := (⟨"java/lang/String", "length", "()I"⟩ : MethodName)) (z := (⟨"java/lang/String", "length", "()I"⟩ : MethodName)) d_jdk_42_75_6 (w56 hw) (w57 hw) (nfSel (w59 hw)) (w59 hw) (w58 hw) (by decide) (lenOf pd5 rfl) S0.1 (ct_len l Z a0 hw n0 h0 x b bs zc S0 P0 hzc) (w60 hw) (w6 hw) (fun x hx => hx) rfl (Nat.le_of_eq rfl) (Nat.le_of_ble_eq_true rfl) (Nat.le_of_ble_eq_true rfl) ⟨rfl, Nat.le_of_ble_eq_true rfl⟩ ⟨rfl, Nat.le_of_ble_eq_true rfl⟩ rfl (fun _ _ q => nomatch q.1) fun T h27 v so W hQ => ?_
  obtain ⟨hv, rfl, -⟩ := hQ
  obtain rfl := Option.some.inj hv
  refine k_aloadN W d_jdk_42_75_9 rfl rfl ?_
  refine k_callV W 2 0 0 (argsL := []) (rest := [(.int (Int32.ofNat bs.length)), (.int (0 : Int32))]) (a := q) (C := "java/lang/String") (z0 := (⟨"java/lang/String", "length", "()I"⟩ : MethodName)) (z := (⟨"java/lang/String", "length", "()I"⟩ : MethodName)) d_jdk_42_75_10 (w56 hw) (w57 hw) (nfSel (w59 hw)) (w59 hw) (w58 hw) (by decide) (lenOf pd5 rfl) S1.1 (ct_len l Z a0 hw n0 h0 q d ps zc S1 P0 hzc) (w60 hw) (w6 hw) (fun x hx => hx) rfl (Nat.le_of_eq rfl) (Nat.le_of_ble_eq_true rfl) (Nat.le_of_ble_eq_true rfl) ⟨rfl, Nat.le_of_ble_eq_true rfl⟩ ⟨rfl, Nat.le_of_ble_eq_true rfl⟩ rfl (fun _ _ q => nomatch q.1) fun T h28 v so W hQ => ?_
  obtain ⟨hv, rfl, -⟩ := hQ
  obtain rfl := Option.some.inj hv
  refine k_isub W d_jdk_42_75_13 (z := ((Int32.ofNat bs.length) - (Int32.ofNat ps.length))) rfl ?_
  refine k_icY W 19 d_jdk_42_75_14 (by decide) (show ¬ ((Int32.ofNat bs.length) - (Int32.ofNat ps.length)) < (0 : Int32) from (by show ¬ Int32.ofNat bs.length - Int32.ofNat ps.length < 0; exact of_sub hl hL)) ?_
  refine k_aloadN W d_jdk_42_75_19 rfl rfl ?_
  refine k_getF W d_jdk_42_75_20 (host := "") (Or.inl (w31 hw)) Via.refl S0.2.2.1 fun T W => ?_
  refine k_astoreN W d_jdk_42_75_23 rfl (L' := #[.val (.ref x), .val (.ref q), .val (.int (0 : Int32)), .val (.ref b), .unset, .unset, .unset, .unset]) rfl ?_
  refine k_aloadN W d_jdk_42_75_24 rfl rfl ?_
  refine k_getF W d_jdk_42_75_25 (host := "") (Or.inl (w31 hw)) Via.refl S1.2.2.1 fun T W => ?_
  refine k_astore W d_jdk_42_75_28 rfl (L' := #[.val (.ref x), .val (.ref q), .val (.int (0 : Int32)), .val (.ref b), .val (.ref d), .unset, .unset, .unset]) rfl ?_
  refine k_iconst W d_jdk_42_75_30 (z := (0 : Int32)) rfl ?_
  refine k_istore W d_jdk_42_75_31 (L' := #[.val (.ref x), .val (.ref q), .val (.int (0 : Int32)), .val (.ref b), .val (.ref d), .val (.int (0 : Int32)), .unset, .unset]) rfl ?_
  refine k_aload W d_jdk_42_75_33 rfl rfl ?_
  refine k_arraylength W (z := (Int32.ofNat ps.length)) d_jdk_42_75_35 S1.2.2.2 (by first | (rw [List.length_map]; done) | (rw [List.length_map]; rfl)) ?_
  refine k_istore W d_jdk_42_75_36 (L' := #[.val (.ref x), .val (.ref q), .val (.int (0 : Int32)), .val (.ref b), .val (.ref d), .val (.int (0 : Int32)), .val (.int (Int32.ofNat ps.length)), .unset]) rfl ?_
  refine k_aloadN W d_jdk_42_75_38 rfl rfl ?_
  refine k_callV W 0 0 0 (argsL := []) (rest := []) (a := x) (C := "java/lang/String") (z0 := (⟨"java/lang/String", "coder", "()B"⟩ : MethodName)) (z := (⟨"java/lang/String", "coder", "()B"⟩ : MethodName)) d_jdk_42_75_39 (w61 hw) (w62 hw) (nfSel (w64 hw)) (w64 hw) (w63 hw) (by decide) (lenOf pd4 rfl) S0.1 (ct_coder l Z a0 hw n0 h0 x b bs zc S0 P0 hzc) (w65 hw) (w6 hw) (fun x hx => hx) rfl (Nat.le_of_eq rfl) (Nat.le_of_ble_eq_true rfl) (Nat.le_of_ble_eq_true rfl) ⟨rfl, Nat.le_of_ble_eq_true rfl⟩ ⟨rfl, Nat.le_of_ble_eq_true rfl⟩ rfl (fun _ _ q => nomatch q.1) fun T h29 v so W hQ => ?_
  obtain ⟨hv, rfl, -⟩ := hQ
  obtain rfl := Option.some.inj hv
  refine k_istore W d_jdk_42_75_42 (L' := #[.val (.ref x), .val (.ref q), .val (.int (0 : Int32)), .val (.ref b), .val (.ref d), .val (.int (0 : Int32)), .val (.int (Int32.ofNat ps.length)), .val (.int (0 : Int32))]) rfl ?_
  refine k_iload W d_jdk_42_75_44 rfl ?_
  refine k_aloadN W d_jdk_42_75_46 rfl rfl ?_
  refine k_callV W 1 0 0 (argsL := []) (rest := [(.int (0 : Int32))]) (a := q) (C := "java/lang/String") (z0 := (⟨"java/lang/String", "coder", "()B"⟩ : MethodName)) (z := (⟨"java/lang/String", "coder", "()B"⟩ : MethodName)) d_jdk_42_75_47 (w61 hw) (w62 hw) (nfSel (w64 hw)) (w64 hw) (w63 hw) (by decide) (lenOf pd4 rfl) S1.1 (ct_coder l Z a0 hw n0 h0 q d ps zc S1 P0 hzc) (w65 hw) (w6 hw) (fun x hx => hx) rfl (Nat.le_of_eq rfl) (Nat.le_of_ble_eq_true rfl) (Nat.le_of_ble_eq_true rfl) ⟨rfl, Nat.le_of_ble_eq_true rfl⟩ ⟨rfl, Nat.le_of_ble_eq_true rfl⟩ rfl (fun _ _ q => nomatch q.1) fun T h30 v so W hQ => ?_
  obtain ⟨hv, rfl, -⟩ := hQ
  obtain rfl := Option.some.inj hv
  refine k_icN W d_jdk_42_75_50 (show ¬ (¬ (0 : Int32) = (0 : Int32)) from (fun q => q rfl)) ?_
  refine k_iload W d_jdk_42_75_53 rfl ?_
  refine k_iconst W d_jdk_42_75_55 (z := (1 : Int32)) rfl ?_
  refine k_icY W 63 d_jdk_42_75_56 (by decide) (show ¬ (0 : Int32) = (1 : Int32) by decide) ?_
  refine k_aloadN W d_jdk_42_75_63 rfl rfl ?_
  refine k_iloadN W d_jdk_42_75_64 rfl ?_
  refine k_aload W d_jdk_42_75_65 rfl rfl ?_
  refine k_iconst W d_jdk_42_75_67 (z := (0 : Int32)) rfl ?_
  refine k_iload W d_jdk_42_75_68 rfl ?_
  refine k_callS W 0 0 0 (argsL := [(.ref b), (.int (0 : Int32)), (.ref d), (.int (0 : Int32)), (.int (Int32.ofNat ps.length))]) (rest := []) d_jdk_42_75_70 (w66 hw) (w67 hw) (by decide) (lenOf pd6 rfl) (ct_mism l Z a0 hw n0 h0 b d bs ps ps.length hp hl (Nat.le_refl _) S0.2.2.2 S1.2.2.2) (w69 hw) (w68 hw) (fun x hx => hx) rfl (Nat.le_of_eq rfl) (Nat.le_of_ble_eq_true rfl) (Nat.le_of_ble_eq_true rfl) ⟨rfl, Nat.le_of_ble_eq_true rfl⟩ ⟨rfl, Nat.le_of_ble_eq_true rfl⟩ rfl (fun _ _ ⟨_, q, _⟩ => nomatch q) fun T h31 v so W hQ => ?_
  obtain ⟨r32, hv, rfl, hr32⟩ := hQ
  obtain rfl := Option.some.inj hv
  rw [List.take_length] at hr32
  rcases hr32 with hq | hq
  · --
    obtain ⟨he, hr⟩ := hq
    refine k_ifN W d_jdk_42_75_73 (show ¬ (¬ r32 < 0) from (fun z => z hr)) ?_
    refine k_iconst W d_jdk_42_75_76 (z := (1 : Int32)) rfl ?_
    refine k_goto W 81 d_jdk_42_75_77 (by decide) ?_
    exact k_retN W (t := .boolean) (z' := (1 : Int32)) d_jdk_42_75_81 rfl (by simp) (by decide) [] (fun x hx => nomatch hx) (Nat.le_of_ble_eq_true rfl) (Nat.le_of_ble_eq_true rfl) ⟨Or.inl ⟨he, rfl⟩, rfl⟩
  · --
    obtain ⟨he, hr⟩ := hq
    refine k_ifY W 80 d_jdk_42_75_73 (by decide) (show ¬ r32 < 0 from hr) ?_
    refine k_iconst W d_jdk_42_75_80 (z := (0 : Int32)) rfl ?_
    exact k_retN W (t := .boolean) (z' := (0 : Int32)) d_jdk_42_75_81 rfl (by simp) (by decide) [] (fun x hx => nomatch hx) (Nat.le_of_ble_eq_true rfl) (Nat.le_of_ble_eq_true rfl) ⟨Or.inr ⟨he, rfl⟩, rfl⟩
set_option maxRecDepth 65536 in
set_option maxHeartbeats 40000000 in
theorem ct_sw1 (l : Launch) (Z : State) (a0 : Array Value) (hw : ∀ d ∈ tables_1, d.before a0 Z = true) (n0 : Nat) (h0 : Heap) (x b q d : Addr) (bs ps : List Int32) (zc : Int32) (hp : ps.length ≤ 7) (hl : ps.length ≤ bs.length) (S0 : St Z h0 x b bs) (S1 : St Z h0 q d ps) (P0 : Sta Z h0 "java/lang/String" "COMPACT_STRINGS" "Z" (.int zc)) (hzc : zc ≠ 0) : Ct l Z a0 own_EL false (⟨"java/lang/String", "startsWith", "(Ljava/lang/String;)Z"⟩ : MethodName) jdk_42_method_76_code 2 (Option.some Jvm.ClassFile.FieldType.boolean) ({ frames := 3, cells := 0, slots := 0, locals := 46 } : Room) #[(.ref x), (.ref q)] h0 [] n0 (fun v h so => ((bs.take ps.length = ps ∧ v = some (.int (1 : Int32))) ∨ (bs.take ps.length ≠ ps ∧ v = some (.int (0 : Int32)))) ∧ h0 = h) := by
  refine Ct.body (plainFor_of_name pn1) ?_
  intro p e s m below meth c T W
  refine WP.cast (g' := (mkF m 0 #[.val (.ref x), .val (.ref q)] [])) (by simp [entryFrame, mkF, argsToLocals, cat_i, cat_l, cat_r, cat_n]) ?_
  refine k_aloadN W d_jdk_42_76_0 rfl rfl ?_
  refine k_aloadN W d_jdk_42_76_1 rfl rfl ?_
  refine k_iconst W d_jdk_42_76_2 (z := (0 : Int32)) rfl ?_
  refine k_callV W 0 0 0 (argsL := [(.ref q), (.int (0 : Int32))]) (rest := []) (a := x) (C := "java/lang/String") (z0 := (⟨"java/lang/String", "startsWith", "(Ljava/lang/String;I)Z"⟩ : MethodName)) (z := (⟨"java/lang/String", "startsWith", "(Ljava/lang/String;I)Z"⟩ : MethodName)) d_jdk_42_76_3 (w51 hw) (w52 hw) (nfSel (w54 hw)) (w54 hw) (w53 hw) (by decide) (lenOf pd7 rfl) S0.1 (ct_sw2 l Z a0 hw n0 h0 x b q d bs ps zc hp hl S0 S1 P0 hzc) (w55 hw) (w6 hw) (fun x hx => hx) rfl (Nat.le_of_eq rfl) (Nat.le_of_ble_eq_true rfl) (Nat.le_of_ble_eq_true rfl) ⟨rfl, Nat.le_of_ble_eq_true rfl⟩ ⟨rfl, Nat.le_of_ble_eq_true rfl⟩ rfl (fun _ _ q => by rcases q.1 with ⟨_, u⟩ | ⟨_, u⟩ <;> cases u) fun T h33 v so W hQ => ?_
  obtain ⟨hQ, rfl⟩ := hQ
  rcases hQ with ⟨he, hv⟩ | ⟨he, hv⟩
  · --
    obtain rfl := Option.some.inj hv
    exact k_retN W (t := .boolean) (z' := (1 : Int32)) d_jdk_42_76_6 rfl (by simp) (by decide) [] (fun x hx => nomatch hx) (Nat.le_of_ble_eq_true rfl) (Nat.le_of_ble_eq_true rfl) ⟨Or.inl ⟨he, rfl⟩, rfl⟩
  · --
    obtain rfl := Option.some.inj hv
    exact k_retN W (t := .boolean) (z' := (0 : Int32)) d_jdk_42_76_6 rfl (by simp) (by decide) [] (fun x hx => nomatch hx) (Nat.le_of_ble_eq_true rfl) (Nat.le_of_ble_eq_true rfl) ⟨Or.inr ⟨he, rfl⟩, rfl⟩
set_option maxRecDepth 65536 in
set_option maxHeartbeats 40000000 in
theorem ct_leq (l : Launch) (Z : State) (a0 : Array Value) (hw : ∀ d ∈ tables_1, d.before a0 Z = true) (n0 : Nat) (h0 : Heap) (a b : Addr) (as bs : List Int32) (A0 : Av Z h0 a .byte (as.map Value.int)) (B0 : Av Z h0 b .byte (bs.map Value.int)) : Ct l Z a0 own_EL false (⟨"java/lang/StringLatin1", "equals", "([B[B)Z"⟩ : MethodName) jdk_43_method_13_code 3 (Option.some Jvm.ClassFile.FieldType.boolean) ({ frames := 0, cells := 0, slots := 0, locals := 0 } : Room) #[(.ref a), (.ref b)] h0 [] n0 (fun v h so => ((as = bs ∧ v = some (.int (1 : Int32))) ∨ (as ≠ bs ∧ v = some (.int (0 : Int32)))) ∧ h0 = h) := by
  refine Ct.body (plainFor_of_name pn3) ?_
  intro p e s m below meth c T W
  refine WP.cast (g' := (mkF m 0 #[.val (.ref a), .val (.ref b), .unset] [])) (by simp [entryFrame, mkF, argsToLocals, cat_i, cat_l, cat_r, cat_n]) ?_
  have hA : as.length < 2147483648 := by have := A0.len; simpa using this
  have hB : bs.length < 2147483648 := by have := B0.len; simpa using this
  refine k_aloadN W d_jdk_43_13_0 rfl rfl ?_
  refine k_arraylength W (z := (Int32.ofNat as.length)) d_jdk_43_13_1 A0 (by first | (rw [List.length_map]; done) | (rw [List.length_map]; rfl)) ?_
  refine k_aloadN W d_jdk_43_13_2 rfl rfl ?_
  refine k_arraylength W (z := (Int32.ofNat bs.length)) d_jdk_43_13_3 B0 (by first | (rw [List.length_map]; done) | (rw [List.length_map]; rfl)) ?_
  refine k_ic W 34 d_jdk_43_13_4 (by decide) (fun (hc35 : ¬ (Int32.ofNat as.length) = (Int32.ofNat bs.length)) => ?_) (fun (hc35 : ¬ (¬ (Int32.ofNat as.length) = (Int32.ofNat bs.length))) => ?_)
  · --
    refine k_iconst W d_jdk_43_13_34 (z := (0 : Int32)) rfl ?_
    exact k_retN W (t := .boolean) (z' := (0 : Int32)) d_jdk_43_13_35 rfl (by simp) (by decide) [] (fun x hx => nomatch hx) (Nat.le_of_ble_eq_true rfl) (Nat.le_of_ble_eq_true rfl) ⟨Or.inr ⟨fun q => hc35 (by rw [q]), rfl⟩, rfl⟩
  · --
    have hl : as.length = bs.length := of_inj hA hB (Classical.not_not.mp hc35)
    refine k_iconst W d_jdk_43_13_7 (z := (0 : Int32)) rfl ?_
    refine k_istoreN W d_jdk_43_13_8 (L' := #[.val (.ref a), .val (.ref b), .val (.int (0 : Int32))]) rfl ?_
    have loop : ∀ (k i : Nat) (T : State), i + k = as.length → as.take i = bs.take i → WS p l e ({ frames := 0, cells := 0, slots := 0, locals := 0 } : Room) s m #[(.ref a), (.ref b)] below meth c Z a0 own_EL false n0 (⟨"java/lang/StringLatin1", "equals", "([B[B)Z"⟩ : MethodName) jdk_43_method_13_code 3 (Option.some Jvm.ClassFile.FieldType.boolean) T h0 [] 0 0 → WP p e below (Fne s n0 Z own_EL false ({ frames := 0, cells := 0, slots := 0, locals := 0 } : Room) (fun v h so => ((as = bs ∧ v = some (.int (1 : Int32))) ∨ (as ≠ bs ∧ v = some (.int (0 : Int32)))) ∧ h0 = h)) T (mkF m 9 #[.val (.ref a), .val (.ref b), .val (.int (Int32.ofNat i))] []) := by
      intro k
      induction k with
      | zero =>
        intro i T hi hE W
        obtain rfl : i = as.length := by omega
        refine k_iloadN W d_jdk_43_13_9 rfl ?_
        refine k_aloadN W d_jdk_43_13_10 rfl rfl ?_
        refine k_arraylength W (z := (Int32.ofNat as.length)) d_jdk_43_13_11 A0 (by first | (rw [List.length_map]; done) | (rw [List.length_map]; rfl)) ?_
        refine k_icY W 32 d_jdk_43_13_12 (by decide) (show ¬ (Int32.ofNat as.length) < (Int32.ofNat as.length) from (of_ge (Nat.le_refl _) hA)) ?_
        refine k_iconst W d_jdk_43_13_32 (z := (1 : Int32)) rfl ?_
        exact k_retN W (t := .boolean) (z' := (1 : Int32)) d_jdk_43_13_33 rfl (by simp) (by decide) [] (fun x hx => nomatch hx) (Nat.le_of_ble_eq_true rfl) (Nat.le_of_ble_eq_true rfl) ⟨Or.inl ⟨by rw [List.take_length, hl, List.take_length] at hE; exact hE, rfl⟩, rfl⟩
      | succ k ih =>
        intro i T hi hE W
        have h1 : i < as.length := by omega
        have h2 : i < bs.length := by omega
        obtain ⟨x, hx⟩ : ∃ c, as[i]? = some c := ⟨_, List.getElem?_eq_getElem h1⟩
        obtain ⟨y, hy⟩ : ∃ c, bs[i]? = some c := ⟨_, List.getElem?_eq_getElem h2⟩
        have hs : ∀ zs : List Int32, ∀ z, zs[i]? = some z → zs.take (i + 1) = zs.take i ++ [z] := fun zs z q => by rw [List.take_succ, q]; rfl
        refine k_iloadN W d_jdk_43_13_9 rfl ?_
        refine k_aloadN W d_jdk_43_13_10 rfl rfl ?_
        refine k_arraylength W (z := (Int32.ofNat as.length)) d_jdk_43_13_11 A0 (by first | (rw [List.length_map]; done) | (rw [List.length_map]; rfl)) ?_
        refine k_icN W d_jdk_43_13_12 (show ¬ (¬ (Int32.ofNat i) < (Int32.ofNat as.length)) from (fun q => q (of_lt h1 hA))) ?_
        refine k_aloadN W d_jdk_43_13_15 rfl rfl ?_
        refine k_iloadN W d_jdk_43_13_16 rfl ?_
        refine k_baload W (v := (.int x)) i d_jdk_43_13_17 A0 (ix_of (by omega)) (by simp [hx]) ?_
        refine k_aloadN W d_jdk_43_13_18 rfl rfl ?_
        refine k_iloadN W d_jdk_43_13_19 rfl ?_
        refine k_baload W (v := (.int y)) i d_jdk_43_13_20 B0 (ix_of (by omega)) (by simp [hy]) ?_
        refine k_ic W 26 d_jdk_43_13_21 (by decide) (fun (hc36 : x = y) => ?_) (fun (hc36 : ¬ (x = y)) => ?_)
        · -- pc 26
          refine k_iinc W d_jdk_43_13_26 rfl (z := (Int32.ofNat (i + 1))) (of_succ i) (L' := #[.val (.ref a), .val (.ref b), .val (.int (Int32.ofNat (i + 1)))]) rfl ?_
          refine k_goto W 9 d_jdk_43_13_29 (by decide) ?_
          exact ih (i + 1) T (by omega) (by rw [hs as x hx, hs bs y hy, hE, hc36]) W
        · -- pc 24
          refine k_iconst W d_jdk_43_13_24 (z := (0 : Int32)) rfl ?_
          exact k_retN W (t := .boolean) (z' := (0 : Int32)) d_jdk_43_13_25 rfl (by simp) (by decide) [] (fun x hx => nomatch hx) (Nat.le_of_ble_eq_true rfl) (Nat.le_of_ble_eq_true rfl) ⟨Or.inr ⟨fun q => hc36 (by rw [q, hy] at hx; exact (Option.some.inj hx).symm), rfl⟩, rfl⟩
    exact loop as.length 0 T (by omega) (by simp) W
set_option maxRecDepth 65536 in
set_option maxHeartbeats 40000000 in
theorem ct_seq (l : Launch) (Z : State) (a0 : Array Value) (hw : ∀ d ∈ tables_1, d.before a0 Z = true) (n0 : Nat) (h0 : Heap) (x a y b : Addr) (as bs : List Int32) (zc : Int32) (hne : x ≠ y) (S0 : St Z h0 x a as) (S1 : St Z h0 y b bs) (P0 : Sta Z h0 "java/lang/String" "COMPACT_STRINGS" "Z" (.int zc)) (hzc : zc ≠ 0) : Ct l Z a0 own_EL false (⟨"java/lang/String", "equals", "(Ljava/lang/Object;)Z"⟩ : MethodName) jdk_42_method_66_code 3 (Option.some Jvm.ClassFile.FieldType.boolean) ({ frames := 1, cells := 0, slots := 0, locals := 14 } : Room) #[(.ref x), (.ref y)] h0 [] n0 (fun v h so => ((as = bs ∧ v = some (.int (1 : Int32))) ∨ (as ≠ bs ∧ v = some (.int (0 : Int32)))) ∧ h0 = h) := by
  refine Ct.body (plainFor_of_name pn1) ?_
  intro p e s m below meth c T W
  refine WP.cast (g' := (mkF m 0 #[.val (.ref x), .val (.ref y), .unset] [])) (by simp [entryFrame, mkF, argsToLocals, cat_i, cat_l, cat_r, cat_n]) ?_
  refine k_aloadN W d_jdk_42_66_0 rfl rfl ?_
  refine k_aloadN W d_jdk_42_66_1 rfl rfl ?_
  refine k_acY W 7 d_jdk_42_66_2 rfl rfl (by decide) (fun q => hne (Value.ref.inj q)) ?_
  refine k_aloadN W d_jdk_42_66_7 rfl rfl ?_
  refine k_instY W d_jdk_42_66_8 (w121 hw) (Ins.self S1.1) fun T W => ?_
  refine k_ifN W d_jdk_42_66_11 (show ¬ ((1 : Int32) = 0) by decide) ?_
  refine k_aloadN W d_jdk_42_66_14 rfl rfl ?_
  refine k_cast W d_jdk_42_66_15 (w121 hw) (Ins.self S1.1) fun T W => ?_
  refine k_astoreN W d_jdk_42_66_18 rfl (L' := #[.val (.ref x), .val (.ref y), .val (.ref y)]) rfl ?_
  refine k_getS W d_jdk_42_66_19 (w17 hw) Via.refl P0 fun T W => ?_
  refine k_ifN W d_jdk_42_66_22 (show ¬ (zc = 0) from hzc) ?_
  refine k_aloadN W d_jdk_42_66_25 rfl rfl ?_
  refine k_getF W d_jdk_42_66_26 (host := "") (Or.inl (w29 hw)) Via.refl S0.2.1 fun T W => ?_
  refine k_aloadN W d_jdk_42_66_29 rfl rfl ?_
  refine k_getF W d_jdk_42_66_30 (host := "") (Or.inl (w29 hw)) Via.refl S1.2.1 fun T W => ?_
  refine k_icN W d_jdk_42_66_33 (show ¬ (¬ (0 : Int32) = (0 : Int32)) from (fun q => q rfl)) ?_
  refine k_aloadN W d_jdk_42_66_36 rfl rfl ?_
  refine k_getF W d_jdk_42_66_37 (host := "") (Or.inl (w31 hw)) Via.refl S0.2.2.1 fun T W => ?_
  refine k_aloadN W d_jdk_42_66_40 rfl rfl ?_
  refine k_getF W d_jdk_42_66_41 (host := "") (Or.inl (w31 hw)) Via.refl S1.2.2.1 fun T W => ?_
  refine k_callS W 0 0 0 (argsL := [(.ref a), (.ref b)]) (rest := []) d_jdk_42_66_44 (w122 hw) (w123 hw) (by decide) (lenOf pd8 rfl) (ct_leq l Z a0 hw n0 h0 a b as bs S0.2.2.2 S1.2.2.2) (w124 hw) (w87 hw) (fun x hx => hx) rfl (Nat.le_of_eq rfl) (Nat.le_of_ble_eq_true rfl) (Nat.le_of_ble_eq_true rfl) ⟨rfl, Nat.le_of_ble_eq_true rfl⟩ ⟨rfl, Nat.le_of_ble_eq_true rfl⟩ rfl (fun _ _ q => by rcases q.1 with ⟨_, u⟩ | ⟨_, u⟩ <;> cases u) fun T h37 v so W hQ => ?_
  obtain ⟨hQ, rfl⟩ := hQ
  rcases hQ with ⟨he, hv⟩ | ⟨he, hv⟩
  · --
    obtain rfl := Option.some.inj hv
    refine k_ifN W d_jdk_42_66_47 (show ¬ ((1 : Int32) = 0) by decide) ?_
    refine k_iconst W d_jdk_42_66_50 (z := (1 : Int32)) rfl ?_
    refine k_goto W 55 d_jdk_42_66_51 (by decide) ?_
    exact k_retN W (t := .boolean) (z' := (1 : Int32)) d_jdk_42_66_55 rfl (by simp) (by decide) [] (fun x hx => nomatch hx) (Nat.le_of_ble_eq_true rfl) (Nat.le_of_ble_eq_true rfl) ⟨Or.inl ⟨he, rfl⟩, rfl⟩
  · --
    obtain rfl := Option.some.inj hv
    refine k_ifY W 54 d_jdk_42_66_47 (by decide) (show (0 : Int32) = 0 by decide) ?_
    refine k_iconst W d_jdk_42_66_54 (z := (0 : Int32)) rfl ?_
    exact k_retN W (t := .boolean) (z' := (0 : Int32)) d_jdk_42_66_55 rfl (by simp) (by decide) [] (fun x hx => nomatch hx) (Nat.le_of_ble_eq_true rfl) (Nat.le_of_ble_eq_true rfl) ⟨Or.inr ⟨he, rfl⟩, rfl⟩
set_option maxRecDepth 65536 in
set_option maxHeartbeats 40000000 in
theorem ct_seqI (l : Launch) (Z : State) (a0 : Array Value) (hw : ∀ d ∈ tables_1, d.before a0 Z = true) (n0 : Nat) (h0 : Heap) (x : Addr) : Ct l Z a0 own_EL false (⟨"java/lang/String", "equals", "(Ljava/lang/Object;)Z"⟩ : MethodName) jdk_42_method_66_code 3 (Option.some Jvm.ClassFile.FieldType.boolean) ({ frames := 0, cells := 0, slots := 0, locals := 0 } : Room) #[(.ref x), (.ref x)] h0 [] n0 (fun v h so => v = some (.int (1 : Int32)) ∧ h0 = h ∧ so = []) := by
  refine Ct.body (plainFor_of_name pn1) ?_
  intro p e s m below meth c T W
  refine WP.cast (g' := (mkF m 0 #[.val (.ref x), .val (.ref x), .unset] [])) (by simp [entryFrame, mkF, argsToLocals, cat_i, cat_l, cat_r, cat_n]) ?_
  refine k_aloadN W d_jdk_42_66_0 rfl rfl ?_
  refine k_aloadN W d_jdk_42_66_1 rfl rfl ?_
  refine k_acN W d_jdk_42_66_2 rfl rfl (by decide) (fun q => q rfl) ?_
  refine k_iconst W d_jdk_42_66_5 (z := (1 : Int32)) rfl ?_
  exact k_retN W (t := .boolean) (z' := (1 : Int32)) d_jdk_42_66_6 rfl (by simp) (by decide) [] (fun x hx => nomatch hx) (Nat.le_of_ble_eq_true rfl) (Nat.le_of_ble_eq_true rfl) ⟨rfl, rfl, rfl⟩
set_option maxRecDepth 65536 in
set_option maxHeartbeats 40000000 in
theorem ct_isL1 (l : Launch) (Z : State) (a0 : Array Value) (hw : ∀ d ∈ tables_1, d.before a0 Z = true) (n0 : Nat) (h0 : Heap) (x b : Addr) (bs : List Int32) (zc : Int32) (S0 : St Z h0 x b bs) (P0 : Sta Z h0 "java/lang/String" "COMPACT_STRINGS" "Z" (.int zc)) (hzc : zc ≠ 0) : Ct l Z a0 own_EL false (⟨"java/lang/String", "isLatin1", "()Z"⟩ : MethodName) jdk_42_method_154_code 1 (Option.some Jvm.ClassFile.FieldType.boolean) ({ frames := 0, cells := 0, slots := 0, locals := 0 } : Room) #[(.ref x)] h0 [] n0 (fun v h so => v = some (.int (1 : Int32)) ∧ h0 = h ∧ so = []) := by
  refine Ct.body (plainFor_of_name pn1) ?_
  intro p e s m below meth c T W
  refine WP.cast (g' := (mkF m 0 #[.val (.ref x)] [])) (by simp [entryFrame, mkF, argsToLocals, cat_i, cat_l, cat_r, cat_n]) ?_
  refine k_getS W d_jdk_42_154_0 (w17 hw) Via.refl P0 fun T W => ?_
  refine k_ifN W d_jdk_42_154_3 (show ¬ (zc = 0) from hzc) ?_
  refine k_aloadN W d_jdk_42_154_6 rfl rfl ?_
  refine k_getF W d_jdk_42_154_7 (host := "") (Or.inl (w29 hw)) Via.refl S0.2.1 fun T W => ?_
  refine k_ifN W d_jdk_42_154_10 (show ¬ (¬ (0 : Int32) = 0) by decide) ?_
  refine k_iconst W d_jdk_42_154_13 (z := (1 : Int32)) rfl ?_
  refine k_goto W 18 d_jdk_42_154_14 (by decide) ?_
  exact k_retN W (t := .boolean) (z' := (1 : Int32)) d_jdk_42_154_18 rfl (by simp) (by decide) [] (fun x hx => nomatch hx) (Nat.le_of_ble_eq_true rfl) (Nat.le_of_ble_eq_true rfl) ⟨rfl, rfl, rfl⟩
def own_props : List Int32 := [1207963663, 1207963663, 1207963663, 1207963663, 1207963663, 1207963663, 1207963663, 1207963663, 1207963663, 1476411407, 1342193679, 1476411407, 1610629135, 1342193679, 1207963663, 1207963663, 1207963663, 1207963663, 1207963663, 1207963663, 1207963663, 1207963663, 1207963663, 1207963663, 1207963663, 1207963663, 1207963663, 1207963663, 1342193679, 1342193679, 1342193679, 1476411407, 1610629132, 1744830488, 1744830488, 671088664, 671113242, 671088664, 1744830488, 1744830488, -402653163, -402653162, 1744830488, 536870937, 939524120, 536870932, 939524120, 939524120, 402667017, 402667017, 402667017, 402667017, 402667017, 402667017, 402667017, 402667017, 402667017, 402667017, 939524120, 1744830488, -402653159, 1744830489, -402653159, 1744830488, 1744830488, 8552417, 8552417, 8552417, 8552417, 8552417, 8552417, 8552417, 8552417, 8552417, 8552417, 8552417, 8552417, 8552417, 8552417, 8552417, 8552417, 8552417, 8552417, 8552417, 8552417, 8552417, 8552417, 8552417, 8552417, 8552417, 8552417, -402653163, 1744830488, -402653162, 1744830491, 1744850967, 1744830491, 8486882, 8486882, 8486882, 8486882, 8486882, 8486882, 8486882, 8486882, 8486882, 8486882, 8486882, 8486882, 8486882, 8486882, 8486882, 8486882, 8486882, 8486882, 8486882, 8486882, 8486882, 8486882, 8486882, 8486882, 8486882, 8486882, -402653163, 1744830489, -402653162, 1744830489, 1207963663, 1207963663, 1207963663, 1207963663, 1207963663, 1207963663, 1342181391, 1207963663, 1207963663, 1207963663, 1207963663, 1207963663, 1207963663, 1207963663, 1207963663, 1207963663, 1207963663, 1207963663, 1207963663, 1207963663, 1207963663, 1207963663, 1207963663, 1207963663, 1207963663, 1207963663, 1207963663, 1207963663, 1207963663, 1207963663, 1207963663, 1207963663, 1207963663, 939524108, 1744830488, 671113242, 671113242, 671113242, 671113242, 1744830492, 1744830488, 1744830491, 1744830492, 28677, -402653155, 1744830489, 1207963664, 1744830492, 1744830491, 671088668, 671088665, 402654731, 402654731, 1744830491, 134049794, 1744830488, 1744830488, 1744830491, 402654475, 28677, -402653154, 1744832523, 1744832523, 1744832523, 1744830488, 8548353, 8548353, 8548353, 8548353, 8548353, 8548353, 8548353, 8548353, 8548353, 8548353, 8548353, 8548353, 8548353, 8548353, 8548353, 8548353, 8548353, 8548353, 8548353, 8548353, 8548353, 8548353, 8548353, 1744830489, 8548353, 8548353, 8548353, 8548353, 8548353, 8548353, 8548353, 134049794, 8482818, 8482818, 8482818, 8482818, 8482818, 8482818, 8482818, 8482818, 8482818, 8482818, 8482818, 8482818, 8482818, 8482818, 8482818, 8482818, 8482818, 8482818, 8482818, 8482818, 8482818, 8482818, 8482818, 1744830489, 8482818, 8482818, 8482818, 8482818, 8482818, 8482818, 8482818, 102592514]
def own_NW (c : Int32) : Prop := Rg c 256 ∧ ¬ (9 ≤ c.toInt ∧ c.toInt ≤ 13) ∧ ¬ (28 ≤ c.toInt ∧ c.toInt ≤ 32)
theorem own_plen : own_props.length = 256 := by decide +kernel
theorem own_ws : ∀ k : Fin 256, own_props.getD k.val 0 &&& 28672 = 16384 → (9 ≤ k.val ∧ k.val ≤ 13) ∨ (28 ≤ k.val ∧ k.val ≤ 32) := by decide +kernel
theorem own_nws {c : Int32} (q : own_NW c) : ¬ own_props.getD c.toNatClampNeg 0 &&& 28672 = 16384 := fun h => by
  obtain ⟨⟨q1, q2⟩, q3, q4⟩ := q
  have hn : (c.toNatClampNeg : Int) = c.toInt := by unfold Int32.toNatClampNeg; omega
  rcases own_ws ⟨c.toNatClampNeg, by omega⟩ h with u | u
  · exact q3 ⟨by have := u.1; simp only at this; omega, by have := u.2; simp only at this; omega⟩
  · exact q4 ⟨by have := u.1; simp only at this; omega, by have := u.2; simp only at this; omega⟩
theorem own_nw_of {c : Int32} (h : 33 ≤ c.toInt ∧ c.toInt < 256) : own_NW c := ⟨⟨by omega, h.2⟩, by omega, by omega⟩
theorem own_low {y : Int32} (q : Rg y 64) : 33 ≤ ((33 : Int32) + y).toInt ∧ ((33 : Int32) + y).toInt < 256 := by
  have e : ((33 : Int32) + y).toInt = 33 + y.toInt := by
    have h1 := q.1; have h2 := q.2; have h33 : (33 : Int32).toInt = 33 := by decide
    rw [Int32.toInt_add, h33, Int.bmod_eq_of_le (by omega) (by omega)]
  rw [e]; have h1 := q.1; have h2 := q.2; omega
theorem own_pget {n : Nat} (h : n < 256) : (own_props.map Value.int)[n]? = some (.int (own_props.getD n 0)) := by
  have : n < own_props.length := by rw [own_plen]; exact h
  simp [this]
theorem own_rgix {c : Int32} (q : Rg c 256) : Ix c c.toNatClampNeg := by
  refine ⟨?_, rfl⟩
  have h0 : (0 : Int32).toInt = 0 := by decide
  rw [Int32.lt_iff_toInt_lt]; have := q.1; omega
theorem own_rgn {c : Int32} (q : Rg c 256) : c.toNatClampNeg < 256 := by unfold Int32.toNatClampNeg; have := q.1; have := q.2; omega
set_option maxRecDepth 65536 in
set_option maxHeartbeats 40000000 in
theorem ct_gprop (l : Launch) (Z : State) (a0 : Array Value) (hw : ∀ d ∈ tables_1, d.before a0 Z = true) (n0 : Nat) (h0 : Heap) (cd ca : Addr) (ch : Int32) (hr : Rg ch 256) (CI : Sta Z h0 "java/lang/CharacterDataLatin1" "instance" "Ljava/lang/CharacterDataLatin1;" (.ref cd)) (CX : Exa Z h0 cd "java/lang/CharacterDataLatin1") (CA : Sta Z h0 "java/lang/CharacterDataLatin1" "A" "[I" (.ref ca)) (CV : Av Z h0 ca .int (own_props.map Value.int)) : Ct l Z a0 own_EL false (⟨"java/lang/CharacterDataLatin1", "getProperties", "(I)I"⟩ : MethodName) jdk_116_method_1_code 4 (Option.some Jvm.ClassFile.FieldType.int) ({ frames := 0, cells := 0, slots := 0, locals := 0 } : Room) #[(.ref cd), (.int ch)] h0 [] n0 (fun v h so => v = some (.int (own_props.getD ch.toNatClampNeg 0)) ∧ h0 = h ∧ so = []) := by
  refine Ct.body (plainFor_of_name pn4) ?_
  intro p e s m below meth c T W
  refine WP.cast (g' := (mkF m 0 #[.val (.ref cd), .val (.int ch), .unset, .unset] [])) (by simp [entryFrame, mkF, argsToLocals, cat_i, cat_l, cat_r, cat_n]) ?_
  refine k_iloadN W d_jdk_116_1_0 rfl ?_
  refine k_i2c W d_jdk_116_1_1 (z := ch) (Rg.c (Rg.mono hr (by decide))) ?_
  refine k_istoreN W d_jdk_116_1_2 (L' := #[.val (.ref cd), .val (.int ch), .val (.int ch), .unset]) rfl ?_
  refine k_getS W d_jdk_116_1_3 (w104 hw) Via.refl CA fun T W => ?_
  refine k_iloadN W d_jdk_116_1_6 rfl ?_
  refine k_iaload W (v := (.int (own_props.getD ch.toNatClampNeg 0))) ch.toNatClampNeg d_jdk_116_1_7 CV (own_rgix hr) (own_pget (own_rgn hr)) ?_
  refine k_istoreN W d_jdk_116_1_8 (L' := #[.val (.ref cd), .val (.int ch), .val (.int ch), .val (.int (own_props.getD ch.toNatClampNeg 0))]) rfl ?_
  refine k_iloadN W d_jdk_116_1_9 rfl ?_
  exact k_ireturn W d_jdk_116_1_10 rfl [] (fun x hx => nomatch hx) (Nat.le_of_ble_eq_true rfl) (Nat.le_of_ble_eq_true rfl) ⟨rfl, rfl, rfl⟩
set_option maxRecDepth 65536 in
set_option maxHeartbeats 40000000 in
theorem ct_isws (l : Launch) (Z : State) (a0 : Array Value) (hw : ∀ d ∈ tables_1, d.before a0 Z = true) (n0 : Nat) (h0 : Heap) (cd ca : Addr) (ch : Int32) (hr : Rg ch 256) (CI : Sta Z h0 "java/lang/CharacterDataLatin1" "instance" "Ljava/lang/CharacterDataLatin1;" (.ref cd)) (CX : Exa Z h0 cd "java/lang/CharacterDataLatin1") (CA : Sta Z h0 "java/lang/CharacterDataLatin1" "A" "[I" (.ref ca)) (CV : Av Z h0 ca .int (own_props.map Value.int)) : Ct l Z a0 own_EL false (⟨"java/lang/CharacterDataLatin1", "isWhitespace", "(I)Z"⟩ : MethodName) jdk_116_method_26_code 3 (Option.some Jvm.ClassFile.FieldType.boolean) ({ frames := 1, cells := 0, slots := 0, locals := 15 } : Room) #[(.ref cd), (.int ch)] h0 [] n0 (fun v h so => ((own_props.getD ch.toNatClampNeg 0 &&& 28672 = 16384 ∧ v = some (.int (1 : Int32))) ∨ (¬ own_props.getD ch.toNatClampNeg 0 &&& 28672 = 16384 ∧ v = some (.int (0 : Int32)))) ∧ h0 = h) := by
  refine Ct.body (plainFor_of_name pn4) ?_
  intro p e s m below meth c T W
  refine WP.cast (g' := (mkF m 0 #[.val (.ref cd), .val (.int ch), .unset] [])) (by simp [entryFrame, mkF, argsToLocals, cat_i, cat_l, cat_r, cat_n]) ?_
  refine k_aloadN W d_jdk_116_26_0 rfl rfl ?_
  refine k_iloadN W d_jdk_116_26_1 rfl ?_
  refine k_callV W 0 0 0 (argsL := [(.int ch)]) (rest := []) (a := cd) (C := "java/lang/CharacterDataLatin1") (z0 := (⟨"java/lang/CharacterDataLatin1", "getProperties", "(I)I"⟩ : MethodName)) (z := (⟨"java/lang/CharacterDataLatin1", "getProperties", "(I)I"⟩ : MethodName)) d_jdk_116_26_2 (w99 hw) (w100 hw) (nfSel (w102 hw)) (w102 hw) (w101 hw) (by decide) (lenOf pd9 rfl) CX (ct_gprop l Z a0 hw n0 h0 cd ca ch hr CI CX CA CV) (w103 hw) (w93 hw) (fun x hx => hx) rfl (Nat.le_of_eq rfl) (Nat.le_of_ble_eq_true rfl) (Nat.le_of_ble_eq_true rfl) ⟨rfl, Nat.le_of_ble_eq_true rfl⟩ ⟨rfl, Nat.le_of_ble_eq_true rfl⟩ rfl (fun _ _ q => nomatch q.1) fun T h38 v so W hQ => ?_
  obtain ⟨hv, rfl, -⟩ := hQ
  obtain rfl := Option.some.inj hv
  refine k_istoreN W d_jdk_116_26_5 (L' := #[.val (.ref cd), .val (.int ch), .val (.int (own_props.getD ch.toNatClampNeg 0))]) rfl ?_
  refine k_iloadN W d_jdk_116_26_6 rfl ?_
  refine k_sipush W d_jdk_116_26_7 (z := (28672 : Int32)) rfl ?_
  refine k_iand W d_jdk_116_26_10 (z := ((own_props.getD ch.toNatClampNeg 0) &&& (28672 : Int32))) rfl ?_
  refine k_sipush W d_jdk_116_26_11 (z := (16384 : Int32)) rfl ?_
  refine k_ic W 21 d_jdk_116_26_14 (by decide) (fun (hc39 : ¬ ((own_props.getD ch.toNatClampNeg 0) &&& (28672 : Int32)) = (16384 : Int32)) => ?_) (fun (hc39 : ¬ (¬ ((own_props.getD ch.toNatClampNeg 0) &&& (28672 : Int32)) = (16384 : Int32))) => ?_)
  · -- pc 21
    refine k_iconst W d_jdk_116_26_21 (z := (0 : Int32)) rfl ?_
    exact k_retN W (t := .boolean) (z' := (0 : Int32)) d_jdk_116_26_22 rfl (by simp) (by decide) [] (fun x hx => nomatch hx) (Nat.le_of_ble_eq_true rfl) (Nat.le_of_ble_eq_true rfl) ⟨Or.inr ⟨hc39, rfl⟩, rfl⟩
  · -- pc 17
    refine k_iconst W d_jdk_116_26_17 (z := (1 : Int32)) rfl ?_
    refine k_goto W 22 d_jdk_116_26_18 (by decide) ?_
    exact k_retN W (t := .boolean) (z' := (1 : Int32)) d_jdk_116_26_22 rfl (by simp) (by decide) [] (fun x hx => nomatch hx) (Nat.le_of_ble_eq_true rfl) (Nat.le_of_ble_eq_true rfl) ⟨Or.inl ⟨Classical.not_not.mp hc39, rfl⟩, rfl⟩
set_option maxRecDepth 65536 in
set_option maxHeartbeats 40000000 in
theorem ct_gchar (l : Launch) (Z : State) (a0 : Array Value) (hw : ∀ d ∈ tables_1, d.before a0 Z = true) (n0 : Nat) (h0 : Heap) (b : Addr) (bs : List Int32) (i : Nat) (bi : Int32) (hi : bs[i]? = some bi) (hL : bs.length < 2147483648) (B0 : Av Z h0 b .byte (bs.map Value.int)) : Ct l Z a0 own_EL false (⟨"java/lang/StringLatin1", "getChar", "([BI)C"⟩ : MethodName) jdk_43_method_44_code 2 (Option.some Jvm.ClassFile.FieldType.char) ({ frames := 0, cells := 0, slots := 0, locals := 0 } : Room) #[(.ref b), (.int (Int32.ofNat i))] h0 [] n0 (fun v h so => v = some (.int (bi &&& 255)) ∧ h0 = h ∧ so = []) := by
  refine Ct.body (plainFor_of_name pn3) ?_
  intro p e s m below meth c T W
  refine WP.cast (g' := (mkF m 0 #[.val (.ref b), .val (.int (Int32.ofNat i))] [])) (by simp [entryFrame, mkF, argsToLocals, cat_i, cat_l, cat_r, cat_n]) ?_
  have hlt : i < bs.length := (List.getElem?_eq_some_iff.mp hi).1
  refine k_aloadN W d_jdk_43_44_0 rfl rfl ?_
  refine k_iloadN W d_jdk_43_44_1 rfl ?_
  refine k_baload W (v := (.int bi)) i d_jdk_43_44_2 B0 (ix_of (Nat.lt_trans hlt hL)) (by simp [hi]) ?_
  refine k_sipush W d_jdk_43_44_3 (z := (255 : Int32)) rfl ?_
  refine k_iand W d_jdk_43_44_6 (z := (bi &&& (255 : Int32))) rfl ?_
  refine k_i2c W d_jdk_43_44_7 (z := (bi &&& (255 : Int32))) (Rg.c (Rg.mono (Rg.and (n := 256) bi (255 : Int32) (by decide)) (by decide))) ?_
  exact k_retN W (t := .char) (z' := (bi &&& (255 : Int32))) d_jdk_43_44_8 rfl (by simp) (Rg.nar (Rg.mono (Rg.and (n := 256) bi (255 : Int32) (by decide)) (by decide))) [] (fun x hx => nomatch hx) (Nat.le_of_ble_eq_true rfl) (Nat.le_of_ble_eq_true rfl) ⟨rfl, rfl, rfl⟩
set_option maxRecDepth 65536 in
set_option maxHeartbeats 40000000 in
theorem ct_lnws (l : Launch) (Z : State) (a0 : Array Value) (hw : ∀ d ∈ tables_1, d.before a0 Z = true) (n0 : Nat) (h0 : Heap) (cd ca : Addr) (b : Addr) (bs : List Int32) (j : Nat) (bj : Int32) (hj : bs[j]? = some bj) (hnw : own_NW (bj &&& 255)) (B0 : Av Z h0 b .byte (bs.map Value.int)) (CI : Sta Z h0 "java/lang/CharacterDataLatin1" "instance" "Ljava/lang/CharacterDataLatin1;" (.ref cd)) (CX : Exa Z h0 cd "java/lang/CharacterDataLatin1") (CA : Sta Z h0 "java/lang/CharacterDataLatin1" "A" "[I" (.ref ca)) (CV : Av Z h0 ca .int (own_props.map Value.int)) : Ct l Z a0 own_EL false (⟨"java/lang/StringLatin1", "indexOfNonWhitespace", "([B)I"⟩ : MethodName) jdk_43_method_37_code 4 (Option.some Jvm.ClassFile.FieldType.int) ({ frames := 2, cells := 0, slots := 0, locals := 29 } : Room) #[(.ref b)] h0 [] n0 (fun v h so => ∃ i, i < bs.length ∧ v = some (.int (Int32.ofNat i)) ∧ h0 = h) := by
  refine Ct.body (plainFor_of_name pn3) ?_
  intro p e s m below meth c T W
  refine WP.cast (g' := (mkF m 0 #[.val (.ref b), .unset, .unset, .unset] [])) (by simp [entryFrame, mkF, argsToLocals, cat_i, cat_l, cat_r, cat_n]) ?_
  have hL : bs.length < 2147483648 := by have := B0.len; simpa using this
  have hjl : j < bs.length := (List.getElem?_eq_some_iff.mp hj).1
  refine k_aloadN W d_jdk_43_37_0 rfl rfl ?_
  refine k_arraylength W (z := (Int32.ofNat bs.length)) d_jdk_43_37_1 B0 (by first | (rw [List.length_map]; done) | (rw [List.length_map]; rfl)) ?_
  refine k_istoreN W d_jdk_43_37_2 (L' := #[.val (.ref b), .val (.int (Int32.ofNat bs.length)), .unset, .unset]) rfl ?_
  refine k_iconst W d_jdk_43_37_3 (z := (0 : Int32)) rfl ?_
  refine k_istoreN W d_jdk_43_37_4 (L' := #[.val (.ref b), .val (.int (Int32.ofNat bs.length)), .val (.int (0 : Int32)), .unset]) rfl ?_
  have loop : ∀ (k i : Nat) (T : State) (s3 : Slot), i + k = j → (s3 = .unset ∨ ∃ w, s3 = .val w ∧ w.category = 1) → WS p l e ({ frames := 2, cells := 0, slots := 0, locals := 29 } : Room) s m #[(.ref b)] below meth c Z a0 own_EL false n0 (⟨"java/lang/StringLatin1", "indexOfNonWhitespace", "([B)I"⟩ : MethodName) jdk_43_method_37_code 4 (Option.some Jvm.ClassFile.FieldType.int) T h0 [] 0 0 → WP p e below (Fne s n0 Z own_EL false ({ frames := 2, cells := 0, slots := 0, locals := 29 } : Room) (fun v h so => ∃ i, i < bs.length ∧ v = some (.int (Int32.ofNat i)) ∧ h0 = h)) T (mkF m 5 #[.val (.ref b), .val (.int (Int32.ofNat bs.length)), .val (.int (Int32.ofNat i)), s3] []) := by
    intro k
    induction k with
    | zero =>
      intro i T s3 hi h3 W
      have hil : i < bs.length := by omega
      obtain ⟨bi, hbi⟩ : ∃ c, bs[i]? = some c := ⟨_, List.getElem?_eq_getElem hil⟩
      obtain rfl : i = j := by omega
      obtain rfl : bj = bi := Option.some.inj (hj.symm.trans hbi)
      have hnb := hnw
      have hb : bj = bj := rfl
      have hn32 : ¬ bj &&& 255 = 32 := fun q => by rw [q] at hnb; exact absurd hnb (by unfold own_NW; decide)
      have hn9 : ¬ bj &&& 255 = 9 := fun q => by rw [q] at hnb; exact absurd hnb (by unfold own_NW; decide)
      refine k_iloadN W d_jdk_43_37_5 rfl ?_
      refine k_iloadN W d_jdk_43_37_6 rfl ?_
      refine k_icN W d_jdk_43_37_7 (show ¬ (¬ (Int32.ofNat i) < (Int32.ofNat bs.length)) from (fun q => q (of_lt hil hL))) ?_
      refine k_aloadN W d_jdk_43_37_10 rfl rfl ?_
      refine k_iloadN W d_jdk_43_37_11 rfl ?_
      refine k_callS W 0 0 0 (argsL := [(.ref b), (.int (Int32.ofNat i))]) (rest := []) d_jdk_43_37_12 (w89 hw) (w90 hw) (by decide) (lenOf pd10 rfl) (ct_gchar l Z a0 hw n0 h0 b bs i bj hj hL B0) (w91 hw) (w87 hw) (fun x hx => hx) rfl (Nat.le_of_eq rfl) (Nat.le_of_ble_eq_true rfl) (Nat.le_of_ble_eq_true rfl) ⟨rfl, Nat.le_of_ble_eq_true rfl⟩ ⟨rfl, Nat.le_of_ble_eq_true rfl⟩ rfl (fun _ _ q => nomatch q.1) fun T h40 v so W hQ => ?_
      obtain ⟨hv, rfl, -⟩ := hQ
      obtain rfl := Option.some.inj hv
      refine k_istoreN W d_jdk_43_37_15 (L' := #[.val (.ref b), .val (.int (Int32.ofNat bs.length)), .val (.int (Int32.ofNat i)), .val (.int (bj &&& (255 : Int32)))]) (XS.store1 rfl h3 rfl) ?_
      refine k_iloadN W d_jdk_43_37_16 rfl ?_
      refine k_bipush W d_jdk_43_37_17 (z := (32 : Int32)) rfl ?_
      refine k_icN W d_jdk_43_37_19 (show ¬ ((bj &&& (255 : Int32)) = (32 : Int32)) from hn32) ?_
      refine k_iloadN W d_jdk_43_37_22 rfl ?_
      refine k_bipush W d_jdk_43_37_23 (z := (9 : Int32)) rfl ?_
      refine k_icN W d_jdk_43_37_25 (show ¬ ((bj &&& (255 : Int32)) = (9 : Int32)) from hn9) ?_
      refine k_getS W d_jdk_43_37_28 (w92 hw) Via.refl CI fun T W => ?_
      refine k_iloadN W d_jdk_43_37_31 rfl ?_
      refine k_callV W 0 0 0 (argsL := [(.int (bj &&& (255 : Int32)))]) (rest := []) (a := cd) (C := "java/lang/CharacterDataLatin1") (z0 := (⟨"java/lang/CharacterDataLatin1", "isWhitespace", "(I)Z"⟩ : MethodName)) (z := (⟨"java/lang/CharacterDataLatin1", "isWhitespace", "(I)Z"⟩ : MethodName)) d_jdk_43_37_32 (w94 hw) (w95 hw) (nfSel (w97 hw)) (w97 hw) (w96 hw) (by decide) (lenOf pd11 rfl) CX (ct_isws l Z a0 hw n0 h0 cd ca (bj &&& (255 : Int32)) (Rg.and _ _ (by decide)) CI CX CA CV) (w98 hw) (w93 hw) (fun x hx => hx) rfl (Nat.le_of_eq rfl) (Nat.le_of_ble_eq_true rfl) (Nat.le_of_ble_eq_true rfl) ⟨rfl, Nat.le_of_ble_eq_true rfl⟩ ⟨rfl, Nat.le_of_ble_eq_true rfl⟩ rfl (fun _ _ q => by rcases q.1 with ⟨_, u⟩ | ⟨_, u⟩ <;> cases u) fun T h41 v so W hQ => ?_
      obtain ⟨hQ, rfl⟩ := hQ
      rcases hQ with ⟨hws, hv⟩ | ⟨hws, hv⟩
      · --
        exact absurd hws (own_nws hnb)
      · --
        obtain rfl := Option.some.inj hv
        refine k_ifN W d_jdk_43_37_35 (show ¬ (¬ (0 : Int32) = 0) by decide) ?_
        refine k_goto W 47 d_jdk_43_37_38 (by decide) ?_
        refine k_iloadN W d_jdk_43_37_47 rfl ?_
        exact k_ireturn W d_jdk_43_37_48 rfl [] (fun x hx => nomatch hx) (Nat.le_of_ble_eq_true rfl) (Nat.le_of_ble_eq_true rfl) ⟨i, hil, rfl, rfl⟩
    | succ k ih =>
      intro i T s3 hi h3 W
      have hil : i < bs.length := by omega
      obtain ⟨bi, hbi⟩ : ∃ c, bs[i]? = some c := ⟨_, List.getElem?_eq_getElem hil⟩
      refine k_iloadN W d_jdk_43_37_5 rfl ?_
      refine k_iloadN W d_jdk_43_37_6 rfl ?_
      refine k_icN W d_jdk_43_37_7 (show ¬ (¬ (Int32.ofNat i) < (Int32.ofNat bs.length)) from (fun q => q (of_lt hil hL))) ?_
      refine k_aloadN W d_jdk_43_37_10 rfl rfl ?_
      refine k_iloadN W d_jdk_43_37_11 rfl ?_
      refine k_callS W 0 0 0 (argsL := [(.ref b), (.int (Int32.ofNat i))]) (rest := []) d_jdk_43_37_12 (w89 hw) (w90 hw) (by decide) (lenOf pd10 rfl) (ct_gchar l Z a0 hw n0 h0 b bs i bi hbi hL B0) (w91 hw) (w87 hw) (fun x hx => hx) rfl (Nat.le_of_eq rfl) (Nat.le_of_ble_eq_true rfl) (Nat.le_of_ble_eq_true rfl) ⟨rfl, Nat.le_of_ble_eq_true rfl⟩ ⟨rfl, Nat.le_of_ble_eq_true rfl⟩ rfl (fun _ _ q => nomatch q.1) fun T h42 v so W hQ => ?_
      obtain ⟨hv, rfl, -⟩ := hQ
      obtain rfl := Option.some.inj hv
      refine k_istoreN W d_jdk_43_37_15 (L' := #[.val (.ref b), .val (.int (Int32.ofNat bs.length)), .val (.int (Int32.ofNat i)), .val (.int (bi &&& (255 : Int32)))]) (XS.store1 rfl h3 rfl) ?_
      refine k_iloadN W d_jdk_43_37_16 rfl ?_
      refine k_bipush W d_jdk_43_37_17 (z := (32 : Int32)) rfl ?_
      refine k_ic W 41 d_jdk_43_37_19 (by decide) (fun (hc43 : (bi &&& (255 : Int32)) = (32 : Int32)) => ?_) (fun (hc43 : ¬ ((bi &&& (255 : Int32)) = (32 : Int32))) => ?_)
      · -- pc 41
        refine k_iinc W d_jdk_43_37_41 rfl (z := (Int32.ofNat (i + 1))) (of_succ i) (L' := #[.val (.ref b), .val (.int (Int32.ofNat bs.length)), .val (.int (Int32.ofNat (i + 1))), .val (.int (bi &&& (255 : Int32)))]) rfl ?_
        refine k_goto W 5 d_jdk_43_37_44 (by decide) ?_
        exact ih (i + 1) T _ (by omega) (Or.inr ⟨_, rfl, rfl⟩) W
      · -- pc 22
        refine k_iloadN W d_jdk_43_37_22 rfl ?_
        refine k_bipush W d_jdk_43_37_23 (z := (9 : Int32)) rfl ?_
        refine k_ic W 41 d_jdk_43_37_25 (by decide) (fun (hc44 : (bi &&& (255 : Int32)) = (9 : Int32)) => ?_) (fun (hc44 : ¬ ((bi &&& (255 : Int32)) = (9 : Int32))) => ?_)
        · -- pc 41
          refine k_iinc W d_jdk_43_37_41 rfl (z := (Int32.ofNat (i + 1))) (of_succ i) (L' := #[.val (.ref b), .val (.int (Int32.ofNat bs.length)), .val (.int (Int32.ofNat (i + 1))), .val (.int (bi &&& (255 : Int32)))]) rfl ?_
          refine k_goto W 5 d_jdk_43_37_44 (by decide) ?_
          exact ih (i + 1) T _ (by omega) (Or.inr ⟨_, rfl, rfl⟩) W
        · -- pc 28
          refine k_getS W d_jdk_43_37_28 (w92 hw) Via.refl CI fun T W => ?_
          refine k_iloadN W d_jdk_43_37_31 rfl ?_
          refine k_callV W 0 0 0 (argsL := [(.int (bi &&& (255 : Int32)))]) (rest := []) (a := cd) (C := "java/lang/CharacterDataLatin1") (z0 := (⟨"java/lang/CharacterDataLatin1", "isWhitespace", "(I)Z"⟩ : MethodName)) (z := (⟨"java/lang/CharacterDataLatin1", "isWhitespace", "(I)Z"⟩ : MethodName)) d_jdk_43_37_32 (w94 hw) (w95 hw) (nfSel (w97 hw)) (w97 hw) (w96 hw) (by decide) (lenOf pd11 rfl) CX (ct_isws l Z a0 hw n0 h0 cd ca (bi &&& (255 : Int32)) (Rg.and _ _ (by decide)) CI CX CA CV) (w98 hw) (w93 hw) (fun x hx => hx) rfl (Nat.le_of_eq rfl) (Nat.le_of_ble_eq_true rfl) (Nat.le_of_ble_eq_true rfl) ⟨rfl, Nat.le_of_ble_eq_true rfl⟩ ⟨rfl, Nat.le_of_ble_eq_true rfl⟩ rfl (fun _ _ q => by rcases q.1 with ⟨_, u⟩ | ⟨_, u⟩ <;> cases u) fun T h45 v so W hQ => ?_
          obtain ⟨hQ, rfl⟩ := hQ
          rcases hQ with ⟨hws, hv⟩ | ⟨hws, hv⟩
          · --
            obtain rfl := Option.some.inj hv
            refine k_ifY W 41 d_jdk_43_37_35 (by decide) (show ¬ (1 : Int32) = 0 by decide) ?_
            refine k_iinc W d_jdk_43_37_41 rfl (z := (Int32.ofNat (i + 1))) (of_succ i) (L' := #[.val (.ref b), .val (.int (Int32.ofNat bs.length)), .val (.int (Int32.ofNat (i + 1))), .val (.int (bi &&& (255 : Int32)))]) rfl ?_
            refine k_goto W 5 d_jdk_43_37_44 (by decide) ?_
            exact ih (i + 1) T _ (by omega) (Or.inr ⟨_, rfl, rfl⟩) W
          · --
            obtain rfl := Option.some.inj hv
            refine k_ifN W d_jdk_43_37_35 (show ¬ (¬ (0 : Int32) = 0) by decide) ?_
            refine k_goto W 47 d_jdk_43_37_38 (by decide) ?_
            refine k_iloadN W d_jdk_43_37_47 rfl ?_
            exact k_ireturn W d_jdk_43_37_48 rfl [] (fun x hx => nomatch hx) (Nat.le_of_ble_eq_true rfl) (Nat.le_of_ble_eq_true rfl) ⟨i, hil, rfl, rfl⟩
  exact loop j 0 T .unset (by omega) (Or.inl rfl) W
set_option maxRecDepth 65536 in
set_option maxHeartbeats 40000000 in
theorem ct_snws (l : Launch) (Z : State) (a0 : Array Value) (hw : ∀ d ∈ tables_1, d.before a0 Z = true) (n0 : Nat) (h0 : Heap) (cd ca : Addr) (x b : Addr) (zc : Int32) (bs : List Int32) (j : Nat) (bj : Int32) (hj : bs[j]? = some bj) (hnw : own_NW (bj &&& 255)) (S0 : St Z h0 x b bs) (P0 : Sta Z h0 "java/lang/String" "COMPACT_STRINGS" "Z" (.int zc)) (hzc : zc ≠ 0) (CI : Sta Z h0 "java/lang/CharacterDataLatin1" "instance" "Ljava/lang/CharacterDataLatin1;" (.ref cd)) (CX : Exa Z h0 cd "java/lang/CharacterDataLatin1") (CA : Sta Z h0 "java/lang/CharacterDataLatin1" "A" "[I" (.ref ca)) (CV : Av Z h0 ca .int (own_props.map Value.int)) : Ct l Z a0 own_EL false (⟨"java/lang/String", "indexOfNonWhitespace", "()I"⟩ : MethodName) jdk_42_method_120_code 1 (Option.some Jvm.ClassFile.FieldType.int) ({ frames := 3, cells := 0, slots := 0, locals := 44 } : Room) #[(.ref x)] h0 [] n0 (fun v h so => ∃ i, i < bs.length ∧ v = some (.int (Int32.ofNat i)) ∧ h0 = h) := by
  refine Ct.body (plainFor_of_name pn1) ?_
  intro p e s m below meth c T W
  refine WP.cast (g' := (mkF m 0 #[.val (.ref x)] [])) (by simp [entryFrame, mkF, argsToLocals, cat_i, cat_l, cat_r, cat_n]) ?_
  refine k_aloadN W d_jdk_42_120_0 rfl rfl ?_
  refine k_callV W 0 0 0 (argsL := []) (rest := []) (a := x) (C := "java/lang/String") (z0 := (⟨"java/lang/String", "isLatin1", "()Z"⟩ : MethodName)) (z := (⟨"java/lang/String", "isLatin1", "()Z"⟩ : MethodName)) d_jdk_42_120_1 (w80 hw) (w81 hw) (nfSel (w83 hw)) (w83 hw) (w82 hw) (by decide) (lenOf pd12 rfl) S0.1 (ct_isL1 l Z a0 hw n0 h0 x b bs zc S0 P0 hzc) (w84 hw) (w6 hw) (fun x hx => hx) rfl (Nat.le_of_eq rfl) (Nat.le_of_ble_eq_true rfl) (Nat.le_of_ble_eq_true rfl) ⟨rfl, Nat.le_of_ble_eq_true rfl⟩ ⟨rfl, Nat.le_of_ble_eq_true rfl⟩ rfl (fun _ _ q => nomatch q.1) fun T h46 v so W hQ => ?_
  obtain ⟨hv, rfl, -⟩ := hQ
  obtain rfl := Option.some.inj hv
  refine k_ifN W d_jdk_42_120_4 (show ¬ ((1 : Int32) = 0) by decide) ?_
  refine k_aloadN W d_jdk_42_120_7 rfl rfl ?_
  refine k_getF W d_jdk_42_120_8 (host := "") (Or.inl (w31 hw)) Via.refl S0.2.2.1 fun T W => ?_
  refine k_callS W 0 0 0 (argsL := [(.ref b)]) (rest := []) d_jdk_42_120_11 (w85 hw) (w86 hw) (by decide) (lenOf pd13 rfl) (ct_lnws l Z a0 hw n0 h0 cd ca b bs j bj hj hnw S0.2.2.2 CI CX CA CV) (w88 hw) (w87 hw) (fun x hx => hx) rfl (Nat.le_of_eq rfl) (Nat.le_of_ble_eq_true rfl) (Nat.le_of_ble_eq_true rfl) ⟨rfl, Nat.le_of_ble_eq_true rfl⟩ ⟨rfl, Nat.le_of_ble_eq_true rfl⟩ rfl (fun _ _ ⟨_, _, q, _⟩ => nomatch q) fun T h47 v so W hQ => ?_
  obtain ⟨i, hi, hv, rfl⟩ := hQ
  obtain rfl := Option.some.inj hv
  refine k_goto W 24 d_jdk_42_120_14 (by decide) ?_
  exact k_ireturn W d_jdk_42_120_24 rfl [] (fun x hx => nomatch hx) (Nat.le_of_ble_eq_true rfl) (Nat.le_of_ble_eq_true rfl) ⟨i, hi, rfl, rfl⟩
set_option maxRecDepth 65536 in
set_option maxHeartbeats 40000000 in
theorem ct_blank (l : Launch) (Z : State) (a0 : Array Value) (hw : ∀ d ∈ tables_1, d.before a0 Z = true) (n0 : Nat) (h0 : Heap) (cd ca : Addr) (x b : Addr) (zc : Int32) (bs : List Int32) (j : Nat) (bj : Int32) (hj : bs[j]? = some bj) (hnw : own_NW (bj &&& 255)) (S0 : St Z h0 x b bs) (P0 : Sta Z h0 "java/lang/String" "COMPACT_STRINGS" "Z" (.int zc)) (hzc : zc ≠ 0) (CI : Sta Z h0 "java/lang/CharacterDataLatin1" "instance" "Ljava/lang/CharacterDataLatin1;" (.ref cd)) (CX : Exa Z h0 cd "java/lang/CharacterDataLatin1") (CA : Sta Z h0 "java/lang/CharacterDataLatin1" "A" "[I" (.ref ca)) (CV : Av Z h0 ca .int (own_props.map Value.int)) : Ct l Z a0 own_EL false (⟨"java/lang/String", "isBlank", "()Z"⟩ : MethodName) jdk_42_method_117_code 1 (Option.some Jvm.ClassFile.FieldType.boolean) ({ frames := 4, cells := 0, slots := 0, locals := 56 } : Room) #[(.ref x)] h0 [] n0 (fun v h so => v = some (.int (0 : Int32)) ∧ h0 = h ∧ so = []) := by
  refine Ct.body (plainFor_of_name pn1) ?_
  intro p e s m below meth c T W
  refine WP.cast (g' := (mkF m 0 #[.val (.ref x)] [])) (by simp [entryFrame, mkF, argsToLocals, cat_i, cat_l, cat_r, cat_n]) ?_
  have hL : bs.length < 2147483648 := by have := S0.2.2.2.len; simpa using this
  refine k_aloadN W d_jdk_42_117_0 rfl rfl ?_
  refine k_callP W 0 0 0 (argsL := []) (rest := []) (a := x) (C := "java/lang/String") d_jdk_42_117_1 (w75 hw) (w76 hw) (w78 hw) (w77 hw) (by decide) (lenOf pd5 rfl) S0.1 (ct_snws l Z a0 hw n0 h0 cd ca x b zc bs j bj hj hnw S0 P0 hzc CI CX CA CV) (w79 hw) (w6 hw) (fun x hx => hx) rfl (Nat.le_of_eq rfl) (Nat.le_of_ble_eq_true rfl) (Nat.le_of_ble_eq_true rfl) ⟨rfl, Nat.le_of_ble_eq_true rfl⟩ ⟨rfl, Nat.le_of_ble_eq_true rfl⟩ rfl (fun _ _ ⟨_, _, q, _⟩ => nomatch q) fun T h48 v so W hQ => ?_
  obtain ⟨i, hi, hv, rfl⟩ := hQ
  obtain rfl := Option.some.inj hv
  refine k_aloadN W d_jdk_42_117_4 rfl rfl ?_
  refine k_callV W 1 0 0 (argsL := []) (rest := [(.int (Int32.ofNat i))]) (a := x) (C := "java/lang/String") (z0 := (⟨"java/lang/String", "length", "()I"⟩ : MethodName)) (z := (⟨"java/lang/String", "length", "()I"⟩ : MethodName)) d_jdk_42_117_5 (w56 hw) (w57 hw) (nfSel (w59 hw)) (w59 hw) (w58 hw) (by decide) (lenOf pd5 rfl) S0.1 (ct_len l Z a0 hw n0 h0 x b bs zc S0 P0 hzc) (w60 hw) (w6 hw) (fun x hx => hx) rfl (Nat.le_of_eq rfl) (Nat.le_of_ble_eq_true rfl) (Nat.le_of_ble_eq_true rfl) ⟨rfl, Nat.le_of_ble_eq_true rfl⟩ ⟨rfl, Nat.le_of_ble_eq_true rfl⟩ rfl (fun _ _ q => nomatch q.1) fun T h49 v so W hQ => ?_
  obtain ⟨hv, rfl, -⟩ := hQ
  obtain rfl := Option.some.inj hv
  refine k_icY W 15 d_jdk_42_117_8 (by decide) (show ¬ (Int32.ofNat i) = (Int32.ofNat bs.length) from (fun q => by have := of_inj (by omega) hL q; omega)) ?_
  refine k_iconst W d_jdk_42_117_15 (z := (0 : Int32)) rfl ?_
  exact k_retN W (t := .boolean) (z' := (0 : Int32)) d_jdk_42_117_16 rfl (by simp) (by decide) [] (fun x hx => nomatch hx) (Nat.le_of_ble_eq_true rfl) (Nat.le_of_ble_eq_true rfl) ⟨rfl, rfl, rfl⟩
set_option maxRecDepth 65536 in
set_option maxHeartbeats 40000000 in
theorem ct_rnn (l : Launch) (Z : State) (a0 : Array Value) (hw : ∀ d ∈ tables_1, d.before a0 Z = true) (n0 : Nat) (h0 : Heap) (x q : Addr) : Ct l Z a0 own_EL false (⟨"java/util/Objects", "requireNonNull", "(Ljava/lang/Object;Ljava/lang/String;)Ljava/lang/Object;"⟩ : MethodName) jdk_31_method_11_code 2 (Option.some (Jvm.ClassFile.FieldType.object "java/lang/Object")) ({ frames := 0, cells := 0, slots := 0, locals := 0 } : Room) #[(.ref x), (.ref q)] h0 [] n0 (fun v h so => v = some (.ref x) ∧ h0 = h ∧ so = []) := by
  refine Ct.body (plainFor_of_name pn5) ?_
  intro p e s m below meth c T W
  refine WP.cast (g' := (mkF m 0 #[.val (.ref x), .val (.ref q)] [])) (by simp [entryFrame, mkF, argsToLocals, cat_i, cat_l, cat_r, cat_n]) ?_
  refine k_aloadN W d_jdk_31_11_0 rfl rfl ?_
  refine k_nnY W 13 d_jdk_31_11_1 (by decide) ?_
  refine k_aloadN W d_jdk_31_11_13 rfl rfl ?_
  exact k_areturn W d_jdk_31_11_14 rfl rfl rfl [] (fun x hx => nomatch hx) (Nat.le_of_ble_eq_true rfl) (Nat.le_of_ble_eq_true rfl) ⟨rfl, rfl, rfl⟩
set_option maxRecDepth 65536 in
set_option maxHeartbeats 40000000 in
theorem ct_veinit (l : Launch) (Z : State) (a0 : Array Value) (hw : ∀ d ∈ tables_1, d.before a0 Z = true) (n0 : Nat) (h0 : Heap) (cd ca : Addr) (x p_ pb m_ mb : Addr) (ps ms : List Int32) (zc : Int32) (j : Nat) (bj : Int32) (hj : ms[j]? = some bj) (hnw : own_NW (bj &&& 255)) (E0 : Exa Z h0 x "com/example/lean_envelope/leanenvelope/check/ValidationError") (F0 : Fld Z h0 x "com/example/lean_envelope/leanenvelope/check/ValidationError" "path" "Ljava/lang/String;" .null) (F1 : Fld Z h0 x "com/example/lean_envelope/leanenvelope/check/ValidationError" "message" "Ljava/lang/String;" .null) (SP : St Z h0 p_ pb (36 :: ps)) (SM : St Z h0 m_ mb ms) (P0 : Sta Z h0 "java/lang/String" "COMPACT_STRINGS" "Z" (.int zc)) (hzc : zc ≠ 0) (CI : Sta Z h0 "java/lang/CharacterDataLatin1" "instance" "Ljava/lang/CharacterDataLatin1;" (.ref cd)) (CX : Exa Z h0 cd "java/lang/CharacterDataLatin1") (CA : Sta Z h0 "java/lang/CharacterDataLatin1" "A" "[I" (.ref ca)) (CV : Av Z h0 ca .int (own_props.map Value.int)) : Ct l Z a0 own_EL false (⟨"com/example/lean_envelope/leanenvelope/check/ValidationError", "<init>", "(Ljava/lang/String;Ljava/lang/String;)V"⟩ : MethodName) prog_7_method_1_code 3 (Option.none : Option Jvm.ClassFile.FieldType) ({ frames := 5, cells := 6, slots := 60, locals := 68 } : Room) #[(.ref x), (.ref p_), (.ref m_)] h0 [x] n0 (fun v h so => v = none ∧ Keep h0 h [x] ∧ Fld Z h x "com/example/lean_envelope/leanenvelope/check/ValidationError" "path" "Ljava/lang/String;" (.ref p_) ∧ Fld Z h x "com/example/lean_envelope/leanenvelope/check/ValidationError" "message" "Ljava/lang/String;" (.ref m_)) := by
  refine Ct.body (plainFor_of_name pn6) ?_
  intro p e s m below meth c T W
  refine WP.cast (g' := (mkF m 0 #[.val (.ref x), .val (.ref p_), .val (.ref m_)] [])) (by simp [entryFrame, mkF, argsToLocals, cat_i, cat_l, cat_r, cat_n]) ?_
  refine k_aloadN W d_prog_7_1_0 rfl rfl ?_
  refine k_initO W 0 d_prog_7_1_1 (w36 hw) (w15 hw) (w16 hw) rfl (Nat.le_of_eq rfl) (Nat.le_of_ble_eq_true rfl) (Nat.le_of_ble_eq_true rfl) fun T W => ?_
  refine k_aloadN W d_prog_7_1_4 rfl rfl ?_
  refine k_ldcS W [(112 : Int32), (97 : Int32), (116 : Int32), (104 : Int32)] 16 2 20 rfl d_prog_7_1_5 (w37 hw) (wS hw) (by decide) ⟨by decide, by decide⟩ (by decide) ⟨by decide, by decide⟩ ⟨rfl, Nat.le_of_ble_eq_true rfl⟩ ⟨rfl, Nat.le_of_ble_eq_true rfl⟩ fun T h50 a50 b50 W E50 S50 N50 => ?_
  have K50 : Keep h0 h50 [] := keep_ext E50 []
  refine k_callS W 0 2 20 (argsL := [(.ref p_), (.ref a50)]) (rest := []) d_prog_7_1_7 (w40 hw) (w41 hw) (by decide) (lenOf pd14 rfl) (ct_rnn l Z a0 hw n0 h50 p_ a50) (w43 hw) (w42 hw) (fun x hx => nomatch hx) rfl (Nat.le_of_eq rfl) (Nat.le_of_ble_eq_true rfl) (Nat.le_of_ble_eq_true rfl) ⟨rfl, Nat.le_of_ble_eq_true rfl⟩ ⟨rfl, Nat.le_of_ble_eq_true rfl⟩ rfl (fun _ _ q => nomatch q.1) fun T h51 v so W hQ => ?_
  obtain ⟨hv, rfl, -⟩ := hQ
  obtain rfl := Option.some.inj hv
  refine k_pop W d_prog_7_1_10 rfl ?_
  refine k_aloadN W d_prog_7_1_11 rfl rfl ?_
  refine k_ldcS W [(109 : Int32), (101 : Int32), (115 : Int32), (115 : Int32), (97 : Int32), (103 : Int32), (101 : Int32)] 28 4 52 rfl d_prog_7_1_12 (w44 hw) (wS hw) (by decide) ⟨by decide, by decide⟩ (by decide) ⟨by decide, by decide⟩ ⟨rfl, Nat.le_of_ble_eq_true rfl⟩ ⟨rfl, Nat.le_of_ble_eq_true rfl⟩ fun T h52 a52 b52 W E52 S52 N52 => ?_
  have K52 : Keep h50 h52 [] := keep_ext E52 []
  refine k_callS W 0 4 52 (argsL := [(.ref m_), (.ref a52)]) (rest := []) d_prog_7_1_14 (w40 hw) (w41 hw) (by decide) (lenOf pd14 rfl) (ct_rnn l Z a0 hw n0 h52 m_ a52) (w43 hw) (w42 hw) (fun x hx => nomatch hx) rfl (Nat.le_of_eq rfl) (Nat.le_of_ble_eq_true rfl) (Nat.le_of_ble_eq_true rfl) ⟨rfl, Nat.le_of_ble_eq_true rfl⟩ ⟨rfl, Nat.le_of_ble_eq_true rfl⟩ rfl (fun _ _ q => nomatch q.1) fun T h53 v so W hQ => ?_
  obtain ⟨hv, rfl, -⟩ := hQ
  obtain rfl := Option.some.inj hv
  refine k_pop W d_prog_7_1_17 rfl ?_
  refine k_aloadN W d_prog_7_1_18 rfl rfl ?_
  refine k_ldcS W [(36 : Int32)] 4 6 60 rfl d_prog_7_1_19 (w45 hw) (wS hw) (by decide) ⟨by decide, by decide⟩ (by decide) ⟨by decide, by decide⟩ ⟨rfl, Nat.le_of_ble_eq_true rfl⟩ ⟨rfl, Nat.le_of_ble_eq_true rfl⟩ fun T h54 a54 b54 W E54 S54 N54 => ?_
  have K54 : Keep h52 h54 [] := keep_ext E54 []
  have f55 := (((SP.keep K50 nin0 nin0).keep K52 nin0 nin0).keep K54 nin0 nin0)
  have f56 := (Sta.keep (Sta.keep (Sta.keep P0 K50 ns0) K52 ns0) K54 ns0)
  refine k_callV W 0 6 60 (argsL := [(.ref a54)]) (rest := []) (a := p_) (C := "java/lang/String") (z0 := (⟨"java/lang/String", "startsWith", "(Ljava/lang/String;)Z"⟩ : MethodName)) (z := (⟨"java/lang/String", "startsWith", "(Ljava/lang/String;)Z"⟩ : MethodName)) d_prog_7_1_21 (w46 hw) (w47 hw) (nfSel (w49 hw)) (w49 hw) (w48 hw) (by decide) (lenOf pd15 rfl) f55.1 (ct_sw1 l Z a0 hw n0 h54 p_ pb a54 b54 (36 :: ps) [(36 : Int32)] zc (Nat.le_of_ble_eq_true rfl) (Nat.le_of_ble_eq_true rfl) f55 S54 f56 hzc) (w50 hw) (w6 hw) (fun x hx => nomatch hx) rfl (Nat.le_of_eq rfl) (Nat.le_of_ble_eq_true rfl) (Nat.le_of_ble_eq_true rfl) ⟨rfl, Nat.le_of_ble_eq_true rfl⟩ ⟨rfl, Nat.le_of_ble_eq_true rfl⟩ rfl (fun _ _ q => by rcases q.1 with ⟨_, u⟩ | ⟨_, u⟩ <;> cases u) fun T h57 v so W hQ => ?_
  obtain ⟨hQ, rfl⟩ := hQ
  rcases hQ with ⟨hsw, hv⟩ | ⟨hsw, hv⟩
  · --
    obtain rfl := Option.some.inj hv
    refine k_ifY W 41 d_prog_7_1_24 (by decide) (show ¬ (1 : Int32) = 0 by decide) ?_
    refine k_aloadN W d_prog_7_1_41 rfl rfl ?_
    have f59 := (((SM.keep K50 nin0 nin0).keep K52 nin0 nin0).keep K54 nin0 nin0)
    have f60 := (Sta.keep (Sta.keep (Sta.keep CI K50 ns0) K52 ns0) K54 ns0)
    have f61 := (((CX.keep K50).keep K52).keep K54)
    have f62 := (Sta.keep (Sta.keep (Sta.keep CA K50 ns0) K52 ns0) K54 ns0)
    have f63 := (((CV.keep K50 nin0).keep K52 nin0).keep K54 nin0)
    refine k_callV W 0 6 60 (argsL := []) (rest := []) (a := m_) (C := "java/lang/String") (z0 := (⟨"java/lang/String", "isBlank", "()Z"⟩ : MethodName)) (z := (⟨"java/lang/String", "isBlank", "()Z"⟩ : MethodName)) d_prog_7_1_42 (w70 hw) (w71 hw) (nfSel (w73 hw)) (w73 hw) (w72 hw) (by decide) (lenOf pd12 rfl) f59.1 (ct_blank l Z a0 hw n0 h54 cd ca m_ mb zc ms j bj hj hnw f59 f56 hzc f60 f61 f62 f63) (w74 hw) (w6 hw) (fun x hx => nomatch hx) rfl (Nat.le_of_eq rfl) (Nat.le_of_ble_eq_true rfl) (Nat.le_of_ble_eq_true rfl) ⟨rfl, Nat.le_of_ble_eq_true rfl⟩ ⟨rfl, Nat.le_of_ble_eq_true rfl⟩ rfl (fun _ _ q => nomatch q.1) fun T h64 v so W hQ => ?_
    obtain ⟨hv, rfl, -⟩ := hQ
    obtain rfl := Option.some.inj hv
    refine k_ifY W 58 d_prog_7_1_45 (by decide) (show (0 : Int32) = 0 by decide) ?_
    refine k_aloadN W d_prog_7_1_58 rfl rfl ?_
    refine k_aloadN W d_prog_7_1_59 rfl rfl ?_
    have f65 := (((F0.keep K50 nin0).keep K52 nin0).keep K54 nin0)
    have f66 := (((E0.keep K50).keep K52).keep K54)
    refine k_putF W d_prog_7_1_60 (w105 hw) Via.refl (v' := (.ref p_)) (List.mem_of_getElem? (i := 0) rfl) f65 f66 (Or.inr ⟨(w106 hw), rfl, rfl⟩) (w2 hw) (ty := (.object "java/lang/String")) (by decide) rfl rfl fun T h67 W Wr67 => ?_
    have K67 : Keep h54 h67 [x] := Keep.of_wr Wr67
    refine k_aloadN W d_prog_7_1_63 rfl rfl ?_
    refine k_aloadN W d_prog_7_1_64 rfl rfl ?_
    have f68 := ((((F1.keep K50 nin0).keep K52 nin0).keep K54 nin0).other Wr67 (Or.inr (slot_ne (Or.inr (w108 hw)) (Or.inr (w106 hw)) (by decide) (t := (.object "java/lang/String")) (t' := (.object "java/lang/String")) (by decide) (by decide))))
    have f69 := (f66.keep K67)
    refine k_putF W d_prog_7_1_65 (w107 hw) Via.refl (v' := (.ref m_)) (List.mem_of_getElem? (i := 0) rfl) f68 f69 (Or.inr ⟨(w108 hw), rfl, rfl⟩) (w2 hw) (ty := (.object "java/lang/String")) (by decide) rfl rfl fun T h70 W Wr70 => ?_
    have K70 : Keep h67 h70 [x] := Keep.of_wr Wr70
    have KK71 : Keep h0 h50 [x] := (Keep.refl h0 [x]).trans K50 all0
    have KK72 : Keep h0 h52 [x] := KK71.trans K52 all0
    have KK73 : Keep h0 h54 [x] := KK72.trans K54 all0
    have KK74 : Keep h0 h67 [x] := KK73.trans K67 (allS (Or.inl (List.mem_of_getElem? (i := 0) rfl)) all0)
    have KK75 : Keep h0 h70 [x] := KK74.trans K70 (allS (Or.inl (List.mem_of_getElem? (i := 0) rfl)) all0)
    have f76 := ((Fld.same Wr67 f65).other Wr70 (Or.inr (slot_ne (Or.inr (w106 hw)) (Or.inr (w108 hw)) (by decide) (t := (.object "java/lang/String")) (t' := (.object "java/lang/String")) (by decide) (by decide))))
    exact k_ret W d_prog_7_1_68 rfl [] (fun x hx => nomatch hx) (Nat.le_of_ble_eq_true rfl) (Nat.le_of_ble_eq_true rfl) ⟨rfl, KK75, f76, (Fld.same Wr70 f68)⟩
  · --
    obtain rfl := Option.some.inj hv
    exact absurd rfl hsw
set_option maxRecDepth 65536 in
set_option maxHeartbeats 40000000 in
theorem ct_veqI (l : Launch) (Z : State) (a0 : Array Value) (hw : ∀ d ∈ tables_1, d.before a0 Z = true) (n0 : Nat) (h0 : Heap) (x : Addr) : Ct l Z a0 own_EL false (⟨"com/example/lean_envelope/leanenvelope/check/ValidationError", "equals", "(Ljava/lang/Object;)Z"⟩ : MethodName) prog_7_method_6_code 4 (Option.some Jvm.ClassFile.FieldType.boolean) ({ frames := 0, cells := 0, slots := 0, locals := 0 } : Room) #[(.ref x), (.ref x)] h0 [] n0 (fun v h so => v = some (.int (1 : Int32)) ∧ h0 = h ∧ so = []) := by
  refine Ct.body (plainFor_of_name pn6) ?_
  intro p e s m below meth c T W
  refine WP.cast (g' := (mkF m 0 #[.val (.ref x), .val (.ref x), .unset, .unset] [])) (by simp [entryFrame, mkF, argsToLocals, cat_i, cat_l, cat_r, cat_n]) ?_
  refine k_iconst W d_prog_7_6_0 (z := (0 : Int32)) rfl ?_
  refine k_istoreN W d_prog_7_6_1 (L' := #[.val (.ref x), .val (.ref x), .val (.int (0 : Int32)), .unset]) rfl ?_
  refine k_aloadN W d_prog_7_6_2 rfl rfl ?_
  refine k_aloadN W d_prog_7_6_3 rfl rfl ?_
  refine k_acN W d_prog_7_6_4 rfl rfl (by decide) (fun q => q rfl) ?_
  refine k_iconst W d_prog_7_6_7 (z := (1 : Int32)) rfl ?_
  refine k_istoreN W d_prog_7_6_8 (L' := #[.val (.ref x), .val (.ref x), .val (.int (1 : Int32)), .unset]) rfl ?_
  refine k_goto W 58 d_prog_7_6_9 (by decide) ?_
  refine k_iloadN W d_prog_7_6_58 rfl ?_
  exact k_retN W (t := .boolean) (z' := (1 : Int32)) d_prog_7_6_59 rfl (by simp) (by decide) [] (fun x hx => nomatch hx) (Nat.le_of_ble_eq_true rfl) (Nat.le_of_ble_eq_true rfl) ⟨rfl, rfl, rfl⟩
set_option maxRecDepth 65536 in
set_option maxHeartbeats 40000000 in
theorem ct_veqN (l : Launch) (Z : State) (a0 : Array Value) (hw : ∀ d ∈ tables_1, d.before a0 Z = true) (n0 : Nat) (h0 : Heap) (x : Addr) : Ct l Z a0 own_EL false (⟨"com/example/lean_envelope/leanenvelope/check/ValidationError", "equals", "(Ljava/lang/Object;)Z"⟩ : MethodName) prog_7_method_6_code 4 (Option.some Jvm.ClassFile.FieldType.boolean) ({ frames := 0, cells := 0, slots := 0, locals := 0 } : Room) #[(.ref x), .null] h0 [] n0 (fun v h so => v = some (.int (0 : Int32)) ∧ h0 = h ∧ so = []) := by
  refine Ct.body (plainFor_of_name pn6) ?_
  intro p e s m below meth c T W
  refine WP.cast (g' := (mkF m 0 #[.val (.ref x), .val .null, .unset, .unset] [])) (by simp [entryFrame, mkF, argsToLocals, cat_i, cat_l, cat_r, cat_n]) ?_
  refine k_iconst W d_prog_7_6_0 (z := (0 : Int32)) rfl ?_
  refine k_istoreN W d_prog_7_6_1 (L' := #[.val (.ref x), .val .null, .val (.int (0 : Int32)), .unset]) rfl ?_
  refine k_aloadN W d_prog_7_6_2 rfl rfl ?_
  refine k_aloadN W d_prog_7_6_3 rfl rfl ?_
  refine k_acY W 12 d_prog_7_6_4 rfl rfl (by decide) (fun q => nomatch q) ?_
  refine k_aloadN W d_prog_7_6_12 rfl rfl ?_
  refine k_instNull W d_prog_7_6_13 ?_
  refine k_ifY W 58 d_prog_7_6_16 (by decide) (show (0 : Int32) = 0 by decide) ?_
  refine k_iloadN W d_prog_7_6_58 rfl ?_
  exact k_retN W (t := .boolean) (z' := (0 : Int32)) d_prog_7_6_59 rfl (by simp) (by decide) [] (fun x hx => nomatch hx) (Nat.le_of_ble_eq_true rfl) (Nat.le_of_ble_eq_true rfl) ⟨rfl, rfl, rfl⟩
set_option maxRecDepth 65536 in
set_option maxHeartbeats 40000000 in
theorem ct_veqS (l : Launch) (Z : State) (a0 : Array Value) (hw : ∀ d ∈ tables_1, d.before a0 Z = true) (n0 : Nat) (h0 : Heap) (x q : Addr) (EX : Exa Z h0 x "com/example/lean_envelope/leanenvelope/check/ValidationError") (EQ : Exa Z h0 q "java/lang/String") : Ct l Z a0 own_EL false (⟨"com/example/lean_envelope/leanenvelope/check/ValidationError", "equals", "(Ljava/lang/Object;)Z"⟩ : MethodName) prog_7_method_6_code 4 (Option.some Jvm.ClassFile.FieldType.boolean) ({ frames := 0, cells := 0, slots := 0, locals := 0 } : Room) #[(.ref x), (.ref q)] h0 [] n0 (fun v h so => v = some (.int (0 : Int32)) ∧ h0 = h ∧ so = []) := by
  refine Ct.body (plainFor_of_name pn6) ?_
  intro p e s m below meth c T W
  refine WP.cast (g' := (mkF m 0 #[.val (.ref x), .val (.ref q), .unset, .unset] [])) (by simp [entryFrame, mkF, argsToLocals, cat_i, cat_l, cat_r, cat_n]) ?_
  refine k_iconst W d_prog_7_6_0 (z := (0 : Int32)) rfl ?_
  refine k_istoreN W d_prog_7_6_1 (L' := #[.val (.ref x), .val (.ref q), .val (.int (0 : Int32)), .unset]) rfl ?_
  refine k_aloadN W d_prog_7_6_2 rfl rfl ?_
  refine k_aloadN W d_prog_7_6_3 rfl rfl ?_
  have ne77 : x ≠ q := (ne_exa EX EQ (by decide))
  refine k_acY W 12 d_prog_7_6_4 rfl rfl (by decide) (fun q => ne77 (Value.ref.inj q)) ?_
  refine k_aloadN W d_prog_7_6_12 rfl rfl ?_
  refine k_instN W d_prog_7_6_13 (w114 hw) EQ (nsNo (w125 hw) (w2 hw) (NS.step (w125 hw) (nsRoot (w126 hw) (w2 hw) (by decide)) (by decide)) (by decide)) fun T W => ?_
  refine k_ifY W 58 d_prog_7_6_16 (by decide) (show (0 : Int32) = 0 by decide) ?_
  refine k_iloadN W d_prog_7_6_58 rfl ?_
  exact k_retN W (t := .boolean) (z' := (0 : Int32)) d_prog_7_6_59 rfl (by simp) (by decide) [] (fun x hx => nomatch hx) (Nat.le_of_ble_eq_true rfl) (Nat.le_of_ble_eq_true rfl) ⟨rfl, rfl, rfl⟩
set_option maxRecDepth 65536 in
set_option maxHeartbeats 40000000 in
theorem ct_veq (l : Launch) (Z : State) (a0 : Array Value) (hw : ∀ d ∈ tables_1, d.before a0 Z = true) (n0 : Nat) (h0 : Heap) (x y p1 b1 p2 b2 m1 d1 m2 d2 : Addr) (as cs ms ns : List Int32) (zc : Int32) (hne : x ≠ y) (hnp : p1 ≠ p2) (hnm : m1 ≠ m2) (Ex : Exa Z h0 x "com/example/lean_envelope/leanenvelope/check/ValidationError") (FPx : Fld Z h0 x "com/example/lean_envelope/leanenvelope/check/ValidationError" "path" "Ljava/lang/String;" (.ref p1)) (FMx : Fld Z h0 x "com/example/lean_envelope/leanenvelope/check/ValidationError" "message" "Ljava/lang/String;" (.ref m1)) (Ey : Exa Z h0 y "com/example/lean_envelope/leanenvelope/check/ValidationError") (FPy : Fld Z h0 y "com/example/lean_envelope/leanenvelope/check/ValidationError" "path" "Ljava/lang/String;" (.ref p2)) (FMy : Fld Z h0 y "com/example/lean_envelope/leanenvelope/check/ValidationError" "message" "Ljava/lang/String;" (.ref m2)) (SA : St Z h0 p1 b1 as) (SC : St Z h0 p2 b2 cs) (SMS : St Z h0 m1 d1 ms) (SNS : St Z h0 m2 d2 ns) (P0 : Sta Z h0 "java/lang/String" "COMPACT_STRINGS" "Z" (.int zc)) (hzc : zc ≠ 0) : Ct l Z a0 own_EL false (⟨"com/example/lean_envelope/leanenvelope/check/ValidationError", "equals", "(Ljava/lang/Object;)Z"⟩ : MethodName) prog_7_method_6_code 4 (Option.some Jvm.ClassFile.FieldType.boolean) ({ frames := 2, cells := 0, slots := 0, locals := 28 } : Room) #[(.ref x), (.ref y)] h0 [] n0 (fun v h so => (((as = cs ∧ ms = ns) ∧ v = some (.int (1 : Int32))) ∨ (¬ (as = cs ∧ ms = ns) ∧ v = some (.int (0 : Int32)))) ∧ h0 = h) := by
  refine Ct.body (plainFor_of_name pn6) ?_
  intro p e s m below meth c T W
  refine WP.cast (g' := (mkF m 0 #[.val (.ref x), .val (.ref y), .unset, .unset] [])) (by simp [entryFrame, mkF, argsToLocals, cat_i, cat_l, cat_r, cat_n]) ?_
  refine k_iconst W d_prog_7_6_0 (z := (0 : Int32)) rfl ?_
  refine k_istoreN W d_prog_7_6_1 (L' := #[.val (.ref x), .val (.ref y), .val (.int (0 : Int32)), .unset]) rfl ?_
  refine k_aloadN W d_prog_7_6_2 rfl rfl ?_
  refine k_aloadN W d_prog_7_6_3 rfl rfl ?_
  refine k_acY W 12 d_prog_7_6_4 rfl rfl (by decide) (fun q => hne (Value.ref.inj q)) ?_
  refine k_aloadN W d_prog_7_6_12 rfl rfl ?_
  refine k_instY W d_prog_7_6_13 (w114 hw) (Ins.self Ey) fun T W => ?_
  refine k_ifN W d_prog_7_6_16 (show ¬ ((1 : Int32) = 0) by decide) ?_
  refine k_aloadN W d_prog_7_6_19 rfl rfl ?_
  refine k_cast W d_prog_7_6_20 (w114 hw) (Ins.self Ey) fun T W => ?_
  refine k_astoreN W d_prog_7_6_23 rfl (L' := #[.val (.ref x), .val (.ref y), .val (.int (0 : Int32)), .val (.ref y)]) rfl ?_
  refine k_aloadN W d_prog_7_6_24 rfl rfl ?_
  refine k_getF W d_prog_7_6_25 (host := "") (Or.inl (w105 hw)) Via.refl FPx fun T W => ?_
  refine k_aloadN W d_prog_7_6_28 rfl rfl ?_
  refine k_getF W d_prog_7_6_29 (host := "") (Or.inl (w105 hw)) Via.refl FPy fun T W => ?_
  refine k_callV W 0 0 0 (argsL := [(.ref p2)]) (rest := []) (a := p1) (C := "java/lang/String") (z0 := (⟨"java/lang/String", "equals", "(Ljava/lang/Object;)Z"⟩ : MethodName)) (z := (⟨"java/lang/String", "equals", "(Ljava/lang/Object;)Z"⟩ : MethodName)) d_prog_7_6_32 (w116 hw) (w117 hw) (nfSel (w119 hw)) (w119 hw) (w118 hw) (by decide) (lenOf pd16 rfl) SA.1 (ct_seq l Z a0 hw n0 h0 p1 b1 p2 b2 as cs zc hnp SA SC P0 hzc) (w120 hw) (w6 hw) (fun x hx => hx) rfl (Nat.le_of_eq rfl) (Nat.le_of_ble_eq_true rfl) (Nat.le_of_ble_eq_true rfl) ⟨rfl, Nat.le_of_ble_eq_true rfl⟩ ⟨rfl, Nat.le_of_ble_eq_true rfl⟩ rfl (fun _ _ q => by rcases q.1 with ⟨_, u⟩ | ⟨_, u⟩ <;> cases u) fun T h79 v so W hQ => ?_
  obtain ⟨hQ, rfl⟩ := hQ
  rcases hQ with ⟨heq78, hv⟩ | ⟨heq78, hv⟩
  · --
    obtain rfl := Option.some.inj hv
    refine k_ifN W d_prog_7_6_35 (show ¬ ((1 : Int32) = 0) by decide) ?_
    refine k_aloadN W d_prog_7_6_38 rfl rfl ?_
    refine k_getF W d_prog_7_6_39 (host := "") (Or.inl (w107 hw)) Via.refl FMx fun T W => ?_
    refine k_aloadN W d_prog_7_6_42 rfl rfl ?_
    refine k_getF W d_prog_7_6_43 (host := "") (Or.inl (w107 hw)) Via.refl FMy fun T W => ?_
    refine k_callV W 0 0 0 (argsL := [(.ref m2)]) (rest := []) (a := m1) (C := "java/lang/String") (z0 := (⟨"java/lang/String", "equals", "(Ljava/lang/Object;)Z"⟩ : MethodName)) (z := (⟨"java/lang/String", "equals", "(Ljava/lang/Object;)Z"⟩ : MethodName)) d_prog_7_6_46 (w116 hw) (w117 hw) (nfSel (w119 hw)) (w119 hw) (w118 hw) (by decide) (lenOf pd16 rfl) SMS.1 (ct_seq l Z a0 hw n0 h0 m1 d1 m2 d2 ms ns zc hnm SMS SNS P0 hzc) (w120 hw) (w6 hw) (fun x hx => hx) rfl (Nat.le_of_eq rfl) (Nat.le_of_ble_eq_true rfl) (Nat.le_of_ble_eq_true rfl) ⟨rfl, Nat.le_of_ble_eq_true rfl⟩ ⟨rfl, Nat.le_of_ble_eq_true rfl⟩ rfl (fun _ _ q => by rcases q.1 with ⟨_, u⟩ | ⟨_, u⟩ <;> cases u) fun T h81 v so W hQ => ?_
    obtain ⟨hQ, rfl⟩ := hQ
    rcases hQ with ⟨heq80, hv⟩ | ⟨heq80, hv⟩
    · --
      obtain rfl := Option.some.inj hv
      refine k_ifN W d_prog_7_6_49 (show ¬ ((1 : Int32) = 0) by decide) ?_
      refine k_iconst W d_prog_7_6_52 (z := (1 : Int32)) rfl ?_
      refine k_goto W 57 d_prog_7_6_53 (by decide) ?_
      refine k_istoreN W d_prog_7_6_57 (L' := #[.val (.ref x), .val (.ref y), .val (.int (1 : Int32)), .val (.ref y)]) rfl ?_
      refine k_iloadN W d_prog_7_6_58 rfl ?_
      exact k_retN W (t := .boolean) (z' := (1 : Int32)) d_prog_7_6_59 rfl (by simp) (by decide) [] (fun x hx => nomatch hx) (Nat.le_of_ble_eq_true rfl) (Nat.le_of_ble_eq_true rfl) ⟨Or.inl ⟨⟨heq78, heq80⟩, rfl⟩, rfl⟩
    · --
      obtain rfl := Option.some.inj hv
      refine k_ifY W 56 d_prog_7_6_49 (by decide) (show (0 : Int32) = 0 by decide) ?_
      refine k_iconst W d_prog_7_6_56 (z := (0 : Int32)) rfl ?_
      refine k_istoreN W d_prog_7_6_57 (L' := #[.val (.ref x), .val (.ref y), .val (.int (0 : Int32)), .val (.ref y)]) rfl ?_
      refine k_iloadN W d_prog_7_6_58 rfl ?_
      exact k_retN W (t := .boolean) (z' := (0 : Int32)) d_prog_7_6_59 rfl (by simp) (by decide) [] (fun x hx => nomatch hx) (Nat.le_of_ble_eq_true rfl) (Nat.le_of_ble_eq_true rfl) ⟨Or.inr ⟨fun q => heq80 q.2, rfl⟩, rfl⟩
  · --
    obtain rfl := Option.some.inj hv
    refine k_ifY W 56 d_prog_7_6_35 (by decide) (show (0 : Int32) = 0 by decide) ?_
    refine k_iconst W d_prog_7_6_56 (z := (0 : Int32)) rfl ?_
    refine k_istoreN W d_prog_7_6_57 (L' := #[.val (.ref x), .val (.ref y), .val (.int (0 : Int32)), .val (.ref y)]) rfl ?_
    refine k_iloadN W d_prog_7_6_58 rfl ?_
    exact k_retN W (t := .boolean) (z' := (0 : Int32)) d_prog_7_6_59 rfl (by simp) (by decide) [] (fun x hx => nomatch hx) (Nat.le_of_ble_eq_true rfl) (Nat.le_of_ble_eq_true rfl) ⟨Or.inr ⟨fun q => heq78 q.1, rfl⟩, rfl⟩
set_option maxRecDepth 65536 in
set_option maxHeartbeats 40000000 in
theorem rm0 (l : Launch) (Z : State) (a0 : Array Value) (hw : ∀ d ∈ tables_1, d.before a0 Z = true) (n0 : Nat) (h0 : Heap) (p0 p1 p2 p3 p4 : Int32) (cd ca : Addr) (zc : Int32) (P0 : Sta Z h0 "java/lang/String" "COMPACT_STRINGS" "Z" (.int zc)) (hzc : zc ≠ 0) (CI : Sta Z h0 "java/lang/CharacterDataLatin1" "instance" "Ljava/lang/CharacterDataLatin1;" (.ref cd)) (CX : Exa Z h0 cd "java/lang/CharacterDataLatin1") (CA : Sta Z h0 "java/lang/CharacterDataLatin1" "A" "[I" (.ref ca)) (CV : Av Z h0 ca .int (own_props.map Value.int)) : Ct l Z a0 own_EL false x code maxLocals ret room_1 #[(.int p0), (.int p1), (.int p2), (.int p3), (.int p4)] h0 [] n0 (fun v h so => v = some (.int 1)) := by
  refine Ct.body (plainFor_of_name pn7) ?_
  intro p e s m below meth c T W
  refine WP.cast (g' := (mkF m 0 #[.val (.int p0), .val (.int p1), .val (.int p2), .val (.int p3), .val (.int p4), .unset, .unset, .unset, .unset, .unset, .unset, .unset, .unset, .unset, .unset, .unset, .unset, .unset, .unset, .unset, .unset, .unset, .unset, .unset, .unset] [])) (by simp [entryFrame, mkF, argsToLocals, cat_i, cat_l, cat_r, cat_n, maxLocals]) ?_
  refine k_iloadN W d_code_0 rfl ?_
  refine k_sipush W d_code_1 (z := (255 : Int32)) rfl ?_
  refine k_iand W d_code_4 (z := (p0 &&& (255 : Int32))) rfl ?_
  refine k_i2c W d_code_5 (z := (p0 &&& (255 : Int32))) (Rg.c (Rg.mono (Rg.and (n := 256) p0 (255 : Int32) (by decide)) (by decide))) ?_
  refine k_istore W d_code_6 (L' := #[.val (.int p0), .val (.int p1), .val (.int p2), .val (.int p3), .val (.int p4), .val (.int (p0 &&& (255 : Int32))), .unset, .unset, .unset, .unset, .unset, .unset, .unset, .unset, .unset, .unset, .unset, .unset, .unset, .unset, .unset, .unset, .unset, .unset, .unset]) rfl ?_
  refine k_iloadN W d_code_8 rfl ?_
  refine k_bipush W d_code_9 (z := (8 : Int32)) rfl ?_
  refine k_iushr W d_code_11 (z := (XT.ushr p0 (8 : Int32))) rfl ?_
  refine k_sipush W d_code_12 (z := (255 : Int32)) rfl ?_
  refine k_iand W d_code_15 (z := ((XT.ushr p0 (8 : Int32)) &&& (255 : Int32))) rfl ?_
  refine k_i2c W d_code_16 (z := ((XT.ushr p0 (8 : Int32)) &&& (255 : Int32))) (Rg.c (Rg.mono (Rg.and (n := 256) (XT.ushr p0 (8 : Int32)) (255 : Int32) (by decide)) (by decide))) ?_
  refine k_istore W d_code_17 (L' := #[.val (.int p0), .val (.int p1), .val (.int p2), .val (.int p3), .val (.int p4), .val (.int (p0 &&& (255 : Int32))), .val (.int ((XT.ushr p0 (8 : Int32)) &&& (255 : Int32))), .unset, .unset, .unset, .unset, .unset, .unset, .unset, .unset, .unset, .unset, .unset, .unset, .unset, .unset, .unset, .unset, .unset, .unset]) rfl ?_
  refine k_iloadN W d_code_19 rfl ?_
  refine k_sipush W d_code_20 (z := (255 : Int32)) rfl ?_
  refine k_iand W d_code_23 (z := (p1 &&& (255 : Int32))) rfl ?_
  refine k_i2c W d_code_24 (z := (p1 &&& (255 : Int32))) (Rg.c (Rg.mono (Rg.and (n := 256) p1 (255 : Int32) (by decide)) (by decide))) ?_
  refine k_istore W d_code_25 (L' := #[.val (.int p0), .val (.int p1), .val (.int p2), .val (.int p3), .val (.int p4), .val (.int (p0 &&& (255 : Int32))), .val (.int ((XT.ushr p0 (8 : Int32)) &&& (255 : Int32))), .val (.int (p1 &&& (255 : Int32))), .unset, .unset, .unset, .unset, .unset, .unset, .unset, .unset, .unset, .unset, .unset, .unset, .unset, .unset, .unset, .unset, .unset]) rfl ?_
  refine k_iloadN W d_code_27 rfl ?_
  refine k_bipush W d_code_28 (z := (8 : Int32)) rfl ?_
  refine k_iushr W d_code_30 (z := (XT.ushr p1 (8 : Int32))) rfl ?_
  refine k_sipush W d_code_31 (z := (255 : Int32)) rfl ?_
  refine k_iand W d_code_34 (z := ((XT.ushr p1 (8 : Int32)) &&& (255 : Int32))) rfl ?_
  refine k_i2c W d_code_35 (z := ((XT.ushr p1 (8 : Int32)) &&& (255 : Int32))) (Rg.c (Rg.mono (Rg.and (n := 256) (XT.ushr p1 (8 : Int32)) (255 : Int32) (by decide)) (by decide))) ?_
  refine k_istore W d_code_36 (L' := #[.val (.int p0), .val (.int p1), .val (.int p2), .val (.int p3), .val (.int p4), .val (.int (p0 &&& (255 : Int32))), .val (.int ((XT.ushr p0 (8 : Int32)) &&& (255 : Int32))), .val (.int (p1 &&& (255 : Int32))), .val (.int ((XT.ushr p1 (8 : Int32)) &&& (255 : Int32))), .unset, .unset, .unset, .unset, .unset, .unset, .unset, .unset, .unset, .unset, .unset, .unset, .unset, .unset, .unset, .unset]) rfl ?_
  refine k_bipush W d_code_38 (z := (33 : Int32)) rfl ?_
  refine k_iloadN W d_code_40 rfl ?_
  refine k_bipush W d_code_41 (z := (16 : Int32)) rfl ?_
  refine k_iushr W d_code_43 (z := (XT.ushr p1 (16 : Int32))) rfl ?_
  refine k_bipush W d_code_44 (z := (63 : Int32)) rfl ?_
  refine k_iand W d_code_46 (z := ((XT.ushr p1 (16 : Int32)) &&& (63 : Int32))) rfl ?_
  obtain ⟨v82, ev82⟩ : ∃ z : Int32, z = ((33 : Int32) + ((XT.ushr p1 (16 : Int32)) &&& (63 : Int32))) := ⟨_, rfl⟩
  refine k_iadd W d_code_47 ev82.symm ?_
  refine k_i2c W d_code_48 (z := v82) (Rg.c (Rg.mono (show Rg v82 97 from (by rw [ev82]; exact Rg.mono (Rg.add (show Rg (33 : Int32) 34 by decide) (Rg.and (n := 64) (XT.ushr p1 (16 : Int32)) (63 : Int32) (by decide)) (by decide)) (by decide))) (by decide))) ?_
  refine k_istore W d_code_49 (L' := #[.val (.int p0), .val (.int p1), .val (.int p2), .val (.int p3), .val (.int p4), .val (.int (p0 &&& (255 : Int32))), .val (.int ((XT.ushr p0 (8 : Int32)) &&& (255 : Int32))), .val (.int (p1 &&& (255 : Int32))), .val (.int ((XT.ushr p1 (8 : Int32)) &&& (255 : Int32))), .val (.int v82), .unset, .unset, .unset, .unset, .unset, .unset, .unset, .unset, .unset, .unset, .unset, .unset, .unset, .unset, .unset]) rfl ?_
  have nw9 : own_NW v82 := (by rw [ev82]; exact own_nw_of (own_low (Rg.and (n := 64) (XT.ushr p1 (16 : Int32)) (63 : Int32) (by decide))))
  refine k_iloadN W d_code_51 rfl ?_
  refine k_iconst W d_code_52 (z := (1 : Int32)) rfl ?_
  refine k_iand W d_code_53 (z := (p2 &&& (1 : Int32))) rfl ?_
  suffices hJz84 : ∀ z84 : Int32, (z84 = 0 ∨ z84 = 1) → WP p e below (Fne s n0 Z own_EL false room_1 (fun v h so => v = some (.int 1))) T (mkF m 62 #[.val (.int p0), .val (.int p1), .val (.int p2), .val (.int p3), .val (.int p4), .val (.int (p0 &&& (255 : Int32))), .val (.int ((XT.ushr p0 (8 : Int32)) &&& (255 : Int32))), .val (.int (p1 &&& (255 : Int32))), .val (.int ((XT.ushr p1 (8 : Int32)) &&& (255 : Int32))), .val (.int v82), .unset, .unset, .unset, .unset, .unset, .unset, .unset, .unset, .unset, .unset, .unset, .unset, .unset, .unset, .unset] [(.int z84)]) by
    refine k_if W 61 d_code_54 (by decide) (fun (hc83 : (p2 &&& (1 : Int32)) = 0) => ?_) (fun (hc83 : ¬ ((p2 &&& (1 : Int32)) = 0)) => ?_)
    · -- pc 61
      refine k_iconst W d_code_61 (z := (0 : Int32)) rfl ?_
      exact hJz84 (0 : Int32) (by decide)
    · -- pc 57
      refine k_iconst W d_code_57 (z := (1 : Int32)) rfl ?_
      refine k_goto W 62 d_code_58 (by decide) ?_
      exact hJz84 (1 : Int32) (by decide)
  intro z84 rz84
  refine k_istore W d_code_62 (L' := #[.val (.int p0), .val (.int p1), .val (.int p2), .val (.int p3), .val (.int p4), .val (.int (p0 &&& (255 : Int32))), .val (.int ((XT.ushr p0 (8 : Int32)) &&& (255 : Int32))), .val (.int (p1 &&& (255 : Int32))), .val (.int ((XT.ushr p1 (8 : Int32)) &&& (255 : Int32))), .val (.int v82), .val (.int z84), .unset, .unset, .unset, .unset, .unset, .unset, .unset, .unset, .unset, .unset, .unset, .unset, .unset, .unset]) rfl ?_
  refine k_iloadN W d_code_64 rfl ?_
  refine k_iconst W d_code_65 (z := (2 : Int32)) rfl ?_
  refine k_iand W d_code_66 (z := (p2 &&& (2 : Int32))) rfl ?_
  suffices hJz86 : ∀ z86 : Int32, Rg z86 256 → WP p e below (Fne s n0 Z own_EL false room_1 (fun v h so => v = some (.int 1))) T (mkF m 84 #[.val (.int p0), .val (.int p1), .val (.int p2), .val (.int p3), .val (.int p4), .val (.int (p0 &&& (255 : Int32))), .val (.int ((XT.ushr p0 (8 : Int32)) &&& (255 : Int32))), .val (.int (p1 &&& (255 : Int32))), .val (.int ((XT.ushr p1 (8 : Int32)) &&& (255 : Int32))), .val (.int v82), .val (.int z84), .unset, .unset, .unset, .unset, .unset, .unset, .unset, .unset, .unset, .unset, .unset, .unset, .unset, .unset] [(.int z86)]) by
    refine k_if W 82 d_code_67 (by decide) (fun (hc85 : (p2 &&& (2 : Int32)) = 0) => ?_) (fun (hc85 : ¬ ((p2 &&& (2 : Int32)) = 0)) => ?_)
    · -- pc 82
      refine k_iload W d_code_82 rfl ?_
      exact hJz86 (p0 &&& (255 : Int32)) (Rg.and (n := 256) p0 (255 : Int32) (by decide))
    · -- pc 70
      refine k_iloadN W d_code_70 rfl ?_
      refine k_bipush W d_code_71 (z := (8 : Int32)) rfl ?_
      refine k_iushr W d_code_73 (z := (XT.ushr p2 (8 : Int32))) rfl ?_
      refine k_sipush W d_code_74 (z := (255 : Int32)) rfl ?_
      refine k_iand W d_code_77 (z := ((XT.ushr p2 (8 : Int32)) &&& (255 : Int32))) rfl ?_
      refine k_i2c W d_code_78 (z := ((XT.ushr p2 (8 : Int32)) &&& (255 : Int32))) (Rg.c (Rg.mono (Rg.and (n := 256) (XT.ushr p2 (8 : Int32)) (255 : Int32) (by decide)) (by decide))) ?_
      refine k_goto W 84 d_code_79 (by decide) ?_
      exact hJz86 ((XT.ushr p2 (8 : Int32)) &&& (255 : Int32)) (Rg.and (n := 256) (XT.ushr p2 (8 : Int32)) (255 : Int32) (by decide))
  intro z86 rz86
  refine k_istore W d_code_84 (L' := #[.val (.int p0), .val (.int p1), .val (.int p2), .val (.int p3), .val (.int p4), .val (.int (p0 &&& (255 : Int32))), .val (.int ((XT.ushr p0 (8 : Int32)) &&& (255 : Int32))), .val (.int (p1 &&& (255 : Int32))), .val (.int ((XT.ushr p1 (8 : Int32)) &&& (255 : Int32))), .val (.int v82), .val (.int z84), .val (.int z86), .unset, .unset, .unset, .unset, .unset, .unset, .unset, .unset, .unset, .unset, .unset, .unset, .unset]) rfl ?_
  refine k_iloadN W d_code_86 rfl ?_
  refine k_iconst W d_code_87 (z := (4 : Int32)) rfl ?_
  refine k_iand W d_code_88 (z := (p2 &&& (4 : Int32))) rfl ?_
  suffices hJz88 : ∀ z88 : Int32, Rg z88 256 → WP p e below (Fne s n0 Z own_EL false room_1 (fun v h so => v = some (.int 1))) T (mkF m 106 #[.val (.int p0), .val (.int p1), .val (.int p2), .val (.int p3), .val (.int p4), .val (.int (p0 &&& (255 : Int32))), .val (.int ((XT.ushr p0 (8 : Int32)) &&& (255 : Int32))), .val (.int (p1 &&& (255 : Int32))), .val (.int ((XT.ushr p1 (8 : Int32)) &&& (255 : Int32))), .val (.int v82), .val (.int z84), .val (.int z86), .unset, .unset, .unset, .unset, .unset, .unset, .unset, .unset, .unset, .unset, .unset, .unset, .unset] [(.int z88)]) by
    refine k_if W 104 d_code_89 (by decide) (fun (hc87 : (p2 &&& (4 : Int32)) = 0) => ?_) (fun (hc87 : ¬ ((p2 &&& (4 : Int32)) = 0)) => ?_)
    · -- pc 104
      refine k_iload W d_code_104 rfl ?_
      exact hJz88 ((XT.ushr p0 (8 : Int32)) &&& (255 : Int32)) (Rg.and (n := 256) (XT.ushr p0 (8 : Int32)) (255 : Int32) (by decide))
    · -- pc 92
      refine k_iloadN W d_code_92 rfl ?_
      refine k_bipush W d_code_93 (z := (16 : Int32)) rfl ?_
      refine k_iushr W d_code_95 (z := (XT.ushr p2 (16 : Int32))) rfl ?_
      refine k_sipush W d_code_96 (z := (255 : Int32)) rfl ?_
      refine k_iand W d_code_99 (z := ((XT.ushr p2 (16 : Int32)) &&& (255 : Int32))) rfl ?_
      refine k_i2c W d_code_100 (z := ((XT.ushr p2 (16 : Int32)) &&& (255 : Int32))) (Rg.c (Rg.mono (Rg.and (n := 256) (XT.ushr p2 (16 : Int32)) (255 : Int32) (by decide)) (by decide))) ?_
      refine k_goto W 106 d_code_101 (by decide) ?_
      exact hJz88 ((XT.ushr p2 (16 : Int32)) &&& (255 : Int32)) (Rg.and (n := 256) (XT.ushr p2 (16 : Int32)) (255 : Int32) (by decide))
  intro z88 rz88
  refine k_istore W d_code_106 (L' := #[.val (.int p0), .val (.int p1), .val (.int p2), .val (.int p3), .val (.int p4), .val (.int (p0 &&& (255 : Int32))), .val (.int ((XT.ushr p0 (8 : Int32)) &&& (255 : Int32))), .val (.int (p1 &&& (255 : Int32))), .val (.int ((XT.ushr p1 (8 : Int32)) &&& (255 : Int32))), .val (.int v82), .val (.int z84), .val (.int z86), .val (.int z88), .unset, .unset, .unset, .unset, .unset, .unset, .unset, .unset, .unset, .unset, .unset, .unset]) rfl ?_
  refine k_iloadN W d_code_108 rfl ?_
  refine k_bipush W d_code_109 (z := (8 : Int32)) rfl ?_
  refine k_iand W d_code_111 (z := (p3 &&& (8 : Int32))) rfl ?_
  suffices hJz90 : ∀ z90 : Int32, (z90 = 0 ∨ z90 = 1) → WP p e below (Fne s n0 Z own_EL false room_1 (fun v h so => v = some (.int 1))) T (mkF m 120 #[.val (.int p0), .val (.int p1), .val (.int p2), .val (.int p3), .val (.int p4), .val (.int (p0 &&& (255 : Int32))), .val (.int ((XT.ushr p0 (8 : Int32)) &&& (255 : Int32))), .val (.int (p1 &&& (255 : Int32))), .val (.int ((XT.ushr p1 (8 : Int32)) &&& (255 : Int32))), .val (.int v82), .val (.int z84), .val (.int z86), .val (.int z88), .unset, .unset, .unset, .unset, .unset, .unset, .unset, .unset, .unset, .unset, .unset, .unset] [(.int z90)]) by
    refine k_if W 119 d_code_112 (by decide) (fun (hc89 : (p3 &&& (8 : Int32)) = 0) => ?_) (fun (hc89 : ¬ ((p3 &&& (8 : Int32)) = 0)) => ?_)
    · -- pc 119
      refine k_iconst W d_code_119 (z := (0 : Int32)) rfl ?_
      exact hJz90 (0 : Int32) (by decide)
    · -- pc 115
      refine k_iconst W d_code_115 (z := (1 : Int32)) rfl ?_
      refine k_goto W 120 d_code_116 (by decide) ?_
      exact hJz90 (1 : Int32) (by decide)
  intro z90 rz90
  refine k_istore W d_code_120 (L' := #[.val (.int p0), .val (.int p1), .val (.int p2), .val (.int p3), .val (.int p4), .val (.int (p0 &&& (255 : Int32))), .val (.int ((XT.ushr p0 (8 : Int32)) &&& (255 : Int32))), .val (.int (p1 &&& (255 : Int32))), .val (.int ((XT.ushr p1 (8 : Int32)) &&& (255 : Int32))), .val (.int v82), .val (.int z84), .val (.int z86), .val (.int z88), .val (.int z90), .unset, .unset, .unset, .unset, .unset, .unset, .unset, .unset, .unset, .unset, .unset]) rfl ?_
  refine k_iloadN W d_code_122 rfl ?_
  refine k_iconst W d_code_123 (z := (1 : Int32)) rfl ?_
  refine k_iand W d_code_124 (z := (p3 &&& (1 : Int32))) rfl ?_
  suffices hJz92 : ∀ z92 : Int32, Rg z92 256 → WP p e below (Fne s n0 Z own_EL false room_1 (fun v h so => v = some (.int 1))) T (mkF m 142 #[.val (.int p0), .val (.int p1), .val (.int p2), .val (.int p3), .val (.int p4), .val (.int (p0 &&& (255 : Int32))), .val (.int ((XT.ushr p0 (8 : Int32)) &&& (255 : Int32))), .val (.int (p1 &&& (255 : Int32))), .val (.int ((XT.ushr p1 (8 : Int32)) &&& (255 : Int32))), .val (.int v82), .val (.int z84), .val (.int z86), .val (.int z88), .val (.int z90), .unset, .unset, .unset, .unset, .unset, .unset, .unset, .unset, .unset, .unset, .unset] [(.int z92)]) by
    refine k_if W 140 d_code_125 (by decide) (fun (hc91 : (p3 &&& (1 : Int32)) = 0) => ?_) (fun (hc91 : ¬ ((p3 &&& (1 : Int32)) = 0)) => ?_)
    · -- pc 140
      refine k_iload W d_code_140 rfl ?_
      exact hJz92 (p1 &&& (255 : Int32)) (Rg.and (n := 256) p1 (255 : Int32) (by decide))
    · -- pc 128
      refine k_iloadN W d_code_128 rfl ?_
      refine k_bipush W d_code_129 (z := (8 : Int32)) rfl ?_
      refine k_iushr W d_code_131 (z := (XT.ushr p3 (8 : Int32))) rfl ?_
      refine k_sipush W d_code_132 (z := (255 : Int32)) rfl ?_
      refine k_iand W d_code_135 (z := ((XT.ushr p3 (8 : Int32)) &&& (255 : Int32))) rfl ?_
      refine k_i2c W d_code_136 (z := ((XT.ushr p3 (8 : Int32)) &&& (255 : Int32))) (Rg.c (Rg.mono (Rg.and (n := 256) (XT.ushr p3 (8 : Int32)) (255 : Int32) (by decide)) (by decide))) ?_
      refine k_goto W 142 d_code_137 (by decide) ?_
      exact hJz92 ((XT.ushr p3 (8 : Int32)) &&& (255 : Int32)) (Rg.and (n := 256) (XT.ushr p3 (8 : Int32)) (255 : Int32) (by decide))
  intro z92 rz92
  refine k_istore W d_code_142 (L' := #[.val (.int p0), .val (.int p1), .val (.int p2), .val (.int p3), .val (.int p4), .val (.int (p0 &&& (255 : Int32))), .val (.int ((XT.ushr p0 (8 : Int32)) &&& (255 : Int32))), .val (.int (p1 &&& (255 : Int32))), .val (.int ((XT.ushr p1 (8 : Int32)) &&& (255 : Int32))), .val (.int v82), .val (.int z84), .val (.int z86), .val (.int z88), .val (.int z90), .val (.int z92), .unset, .unset, .unset, .unset, .unset, .unset, .unset, .unset, .unset, .unset]) rfl ?_
  refine k_iloadN W d_code_144 rfl ?_
  refine k_iconst W d_code_145 (z := (2 : Int32)) rfl ?_
  refine k_iand W d_code_146 (z := (p3 &&& (2 : Int32))) rfl ?_
  suffices hJz94 : ∀ z94 : Int32, Rg z94 256 → WP p e below (Fne s n0 Z own_EL false room_1 (fun v h so => v = some (.int 1))) T (mkF m 164 #[.val (.int p0), .val (.int p1), .val (.int p2), .val (.int p3), .val (.int p4), .val (.int (p0 &&& (255 : Int32))), .val (.int ((XT.ushr p0 (8 : Int32)) &&& (255 : Int32))), .val (.int (p1 &&& (255 : Int32))), .val (.int ((XT.ushr p1 (8 : Int32)) &&& (255 : Int32))), .val (.int v82), .val (.int z84), .val (.int z86), .val (.int z88), .val (.int z90), .val (.int z92), .unset, .unset, .unset, .unset, .unset, .unset, .unset, .unset, .unset, .unset] [(.int z94)]) by
    refine k_if W 162 d_code_147 (by decide) (fun (hc93 : (p3 &&& (2 : Int32)) = 0) => ?_) (fun (hc93 : ¬ ((p3 &&& (2 : Int32)) = 0)) => ?_)
    · -- pc 162
      refine k_iload W d_code_162 rfl ?_
      exact hJz94 ((XT.ushr p1 (8 : Int32)) &&& (255 : Int32)) (Rg.and (n := 256) (XT.ushr p1 (8 : Int32)) (255 : Int32) (by decide))
    · -- pc 150
      refine k_iloadN W d_code_150 rfl ?_
      refine k_bipush W d_code_151 (z := (16 : Int32)) rfl ?_
      refine k_iushr W d_code_153 (z := (XT.ushr p3 (16 : Int32))) rfl ?_
      refine k_sipush W d_code_154 (z := (255 : Int32)) rfl ?_
      refine k_iand W d_code_157 (z := ((XT.ushr p3 (16 : Int32)) &&& (255 : Int32))) rfl ?_
      refine k_i2c W d_code_158 (z := ((XT.ushr p3 (16 : Int32)) &&& (255 : Int32))) (Rg.c (Rg.mono (Rg.and (n := 256) (XT.ushr p3 (16 : Int32)) (255 : Int32) (by decide)) (by decide))) ?_
      refine k_goto W 164 d_code_159 (by decide) ?_
      exact hJz94 ((XT.ushr p3 (16 : Int32)) &&& (255 : Int32)) (Rg.and (n := 256) (XT.ushr p3 (16 : Int32)) (255 : Int32) (by decide))
  intro z94 rz94
  refine k_istore W d_code_164 (L' := #[.val (.int p0), .val (.int p1), .val (.int p2), .val (.int p3), .val (.int p4), .val (.int (p0 &&& (255 : Int32))), .val (.int ((XT.ushr p0 (8 : Int32)) &&& (255 : Int32))), .val (.int (p1 &&& (255 : Int32))), .val (.int ((XT.ushr p1 (8 : Int32)) &&& (255 : Int32))), .val (.int v82), .val (.int z84), .val (.int z86), .val (.int z88), .val (.int z90), .val (.int z92), .val (.int z94), .unset, .unset, .unset, .unset, .unset, .unset, .unset, .unset, .unset]) rfl ?_
  refine k_iloadN W d_code_166 rfl ?_
  refine k_iconst W d_code_167 (z := (4 : Int32)) rfl ?_
  refine k_iand W d_code_168 (z := (p3 &&& (4 : Int32))) rfl ?_
  suffices hJz : ∀ ze : Int32, own_NW ze → WP p e below (Fne s n0 Z own_EL false room_1 (fun v h so => v = some (.int 1))) T (mkF m 188 #[.val (.int p0), .val (.int p1), .val (.int p2), .val (.int p3), .val (.int p4), .val (.int (p0 &&& (255 : Int32))), .val (.int ((XT.ushr p0 (8 : Int32)) &&& (255 : Int32))), .val (.int (p1 &&& (255 : Int32))), .val (.int ((XT.ushr p1 (8 : Int32)) &&& (255 : Int32))), .val (.int v82), .val (.int z84), .val (.int z86), .val (.int z88), .val (.int z90), .val (.int z92), .val (.int z94), .unset, .unset, .unset, .unset, .unset, .unset, .unset, .unset, .unset] [(.int ze)]) by
    refine k_if W 186 d_code_169 (by decide) (fun (hc95 : (p3 &&& (4 : Int32)) = 0) => ?_) (fun (hc95 : ¬ ((p3 &&& (4 : Int32)) = 0)) => ?_)
    · --
      refine k_iload W d_code_186 rfl ?_
      exact hJz v82 nw9
    · --
      refine k_bipush W d_code_172 (z := (33 : Int32)) rfl ?_
      refine k_iloadN W d_code_174 rfl ?_
      refine k_bipush W d_code_175 (z := (24 : Int32)) rfl ?_
      refine k_iushr W d_code_177 (z := (XT.ushr p3 (24 : Int32))) rfl ?_
      refine k_bipush W d_code_178 (z := (63 : Int32)) rfl ?_
      refine k_iand W d_code_180 (z := ((XT.ushr p3 (24 : Int32)) &&& (63 : Int32))) rfl ?_
      obtain ⟨v96, ev96⟩ : ∃ z : Int32, z = ((33 : Int32) + ((XT.ushr p3 (24 : Int32)) &&& (63 : Int32))) := ⟨_, rfl⟩
      refine k_iadd W d_code_181 ev96.symm ?_
      refine k_i2c W d_code_182 (z := v96) (Rg.c (Rg.mono (show Rg v96 97 from (by rw [ev96]; exact Rg.mono (Rg.add (show Rg (33 : Int32) 34 by decide) (Rg.and (n := 64) (XT.ushr p3 (24 : Int32)) (63 : Int32) (by decide)) (by decide)) (by decide))) (by decide))) ?_
      refine k_goto W 188 d_code_183 (by decide) ?_
      exact hJz v96 (by rw [ev96]; exact own_nw_of (own_low (Rg.and (n := 64) (XT.ushr p3 (24 : Int32)) (63 : Int32) (by decide))))
  intro ze nwe
  refine k_istore W d_code_188 (L' := #[.val (.int p0), .val (.int p1), .val (.int p2), .val (.int p3), .val (.int p4), .val (.int (p0 &&& (255 : Int32))), .val (.int ((XT.ushr p0 (8 : Int32)) &&& (255 : Int32))), .val (.int (p1 &&& (255 : Int32))), .val (.int ((XT.ushr p1 (8 : Int32)) &&& (255 : Int32))), .val (.int v82), .val (.int z84), .val (.int z86), .val (.int z88), .val (.int z90), .val (.int z92), .val (.int z94), .val (.int ze), .unset, .unset, .unset, .unset, .unset, .unset, .unset, .unset]) rfl ?_
  refine k_iconst W d_code_190 (z := (3 : Int32)) rfl ?_
  refine k_newarr W 3 1 3 d_code_191 (w0 hw) (by decide) (by decide) ⟨rfl, Nat.le_of_ble_eq_true rfl⟩ ⟨rfl, Nat.le_of_ble_eq_true rfl⟩ fun T h97 a98 g98 W E98 A98 => ?_
  have K98 : Keep h0 h97 [] := keep_ext E98 []
  have A98 : Av Z h97 a98 .char [(.int (0 : Int32)), (.int (0 : Int32)), (.int (0 : Int32))] := A98
  refine k_astore W d_code_193 rfl (L' := #[.val (.int p0), .val (.int p1), .val (.int p2), .val (.int p3), .val (.int p4), .val (.int (p0 &&& (255 : Int32))), .val (.int ((XT.ushr p0 (8 : Int32)) &&& (255 : Int32))), .val (.int (p1 &&& (255 : Int32))), .val (.int ((XT.ushr p1 (8 : Int32)) &&& (255 : Int32))), .val (.int v82), .val (.int z84), .val (.int z86), .val (.int z88), .val (.int z90), .val (.int z92), .val (.int z94), .val (.int ze), .val (.ref a98), .unset, .unset, .unset, .unset, .unset, .unset, .unset]) rfl ?_
  refine k_aload W d_code_195 rfl rfl ?_
  refine k_iconst W d_code_197 (z := (0 : Int32)) rfl ?_
  refine k_bipush W d_code_198 (z := (36 : Int32)) rfl ?_
  refine k_castore W (z := (36 : Int32)) 0 d_code_200 (List.mem_of_getElem? (i := 0) rfl) A98 (by decide) (Nat.le_of_ble_eq_true rfl) (by decide) (by decide) fun T h99 W Wr99 A99 => ?_
  have K99 : Keep h97 h99 [a98] := Keep.of_wr Wr99
  have A99 : Av Z h99 a98 .char [(.int (36 : Int32)), (.int (0 : Int32)), (.int (0 : Int32))] := A99
  refine k_aload W d_code_201 rfl rfl ?_
  refine k_iconst W d_code_203 (z := (1 : Int32)) rfl ?_
  refine k_iload W d_code_204 rfl ?_
  refine k_castore W (z := (p0 &&& (255 : Int32))) 1 d_code_206 (List.mem_of_getElem? (i := 0) rfl) A99 (by decide) (Nat.le_of_ble_eq_true rfl) (Rg.nar (Rg.mono (Rg.and (n := 256) p0 (255 : Int32) (by decide)) (by decide))) (Rg.fits (Rg.mono (Rg.and (n := 256) p0 (255 : Int32) (by decide)) (by decide))) fun T h100 W Wr100 A100 => ?_
  have K100 : Keep h99 h100 [a98] := Keep.of_wr Wr100
  have A100 : Av Z h100 a98 .char [(.int (36 : Int32)), (.int (p0 &&& (255 : Int32))), (.int (0 : Int32))] := A100
  refine k_aload W d_code_207 rfl rfl ?_
  refine k_iconst W d_code_209 (z := (2 : Int32)) rfl ?_
  refine k_iload W d_code_210 rfl ?_
  refine k_castore W (z := ((XT.ushr p0 (8 : Int32)) &&& (255 : Int32))) 2 d_code_212 (List.mem_of_getElem? (i := 0) rfl) A100 (by decide) (Nat.le_of_ble_eq_true rfl) (Rg.nar (Rg.mono (Rg.and (n := 256) (XT.ushr p0 (8 : Int32)) (255 : Int32) (by decide)) (by decide))) (Rg.fits (Rg.mono (Rg.and (n := 256) (XT.ushr p0 (8 : Int32)) (255 : Int32) (by decide)) (by decide))) fun T h101 W Wr101 A101 => ?_
  have K101 : Keep h100 h101 [a98] := Keep.of_wr Wr101
  have A101 : Av Z h101 a98 .char [(.int (36 : Int32)), (.int (p0 &&& (255 : Int32))), (.int ((XT.ushr p0 (8 : Int32)) &&& (255 : Int32)))] := A101
  refine k_iload W d_code_213 rfl ?_
  refine k_if W 238 d_code_215 (by decide) (fun (hc102 : z84 = 0) => ?_) (fun (hc102 : ¬ (z84 = 0)) => ?_)
  · -- pc 238
    refine k_iconst W d_code_238 (z := (3 : Int32)) rfl ?_
    refine k_newarr W 3 2 6 d_code_239 (w0 hw) (by decide) (by decide) ⟨rfl, Nat.le_of_ble_eq_true rfl⟩ ⟨rfl, Nat.le_of_ble_eq_true rfl⟩ fun T h103 a104 g104 W E104 A104 => ?_
    have K104 : Keep h101 h103 [] := keep_ext E104 []
    have A104 : Av Z h103 a104 .char [(.int (0 : Int32)), (.int (0 : Int32)), (.int (0 : Int32))] := A104
    refine k_astore W d_code_241 rfl (L' := #[.val (.int p0), .val (.int p1), .val (.int p2), .val (.int p3), .val (.int p4), .val (.int (p0 &&& (255 : Int32))), .val (.int ((XT.ushr p0 (8 : Int32)) &&& (255 : Int32))), .val (.int (p1 &&& (255 : Int32))), .val (.int ((XT.ushr p1 (8 : Int32)) &&& (255 : Int32))), .val (.int v82), .val (.int z84), .val (.int z86), .val (.int z88), .val (.int z90), .val (.int z92), .val (.int z94), .val (.int ze), .val (.ref a98), .val (.ref a104), .unset, .unset, .unset, .unset, .unset, .unset]) rfl ?_
    refine k_aload W d_code_243 rfl rfl ?_
    refine k_iconst W d_code_245 (z := (0 : Int32)) rfl ?_
    refine k_bipush W d_code_246 (z := (36 : Int32)) rfl ?_
    refine k_castore W (z := (36 : Int32)) 0 d_code_248 (List.mem_of_getElem? (i := 0) rfl) A104 (by decide) (Nat.le_of_ble_eq_true rfl) (by decide) (by decide) fun T h105 W Wr105 A105 => ?_
    have K105 : Keep h103 h105 [a104] := Keep.of_wr Wr105
    have A105 : Av Z h105 a104 .char [(.int (36 : Int32)), (.int (0 : Int32)), (.int (0 : Int32))] := A105
    refine k_aload W d_code_249 rfl rfl ?_
    refine k_iconst W d_code_251 (z := (1 : Int32)) rfl ?_
    refine k_iload W d_code_252 rfl ?_
    refine k_castore W (z := z86) 1 d_code_254 (List.mem_of_getElem? (i := 0) rfl) A105 (by decide) (Nat.le_of_ble_eq_true rfl) (Rg.nar (Rg.mono rz86 (by decide))) (Rg.fits (Rg.mono rz86 (by decide))) fun T h106 W Wr106 A106 => ?_
    have K106 : Keep h105 h106 [a104] := Keep.of_wr Wr106
    have A106 : Av Z h106 a104 .char [(.int (36 : Int32)), (.int z86), (.int (0 : Int32))] := A106
    refine k_aload W d_code_255 rfl rfl ?_
    refine k_iconst W d_code_257 (z := (2 : Int32)) rfl ?_
    refine k_iload W d_code_258 rfl ?_
    refine k_castore W (z := z88) 2 d_code_260 (List.mem_of_getElem? (i := 0) rfl) A106 (by decide) (Nat.le_of_ble_eq_true rfl) (Rg.nar (Rg.mono rz88 (by decide))) (Rg.fits (Rg.mono rz88 (by decide))) fun T h107 W Wr107 A107 => ?_
    have K107 : Keep h106 h107 [a104] := Keep.of_wr Wr107
    have A107 : Av Z h107 a104 .char [(.int (36 : Int32)), (.int z86), (.int z88)] := A107
    refine k_iconst W d_code_261 (z := (3 : Int32)) rfl ?_
    refine k_newarr W 3 3 9 d_code_262 (w0 hw) (by decide) (by decide) ⟨rfl, Nat.le_of_ble_eq_true rfl⟩ ⟨rfl, Nat.le_of_ble_eq_true rfl⟩ fun T h108 a109 g109 W E109 A109 => ?_
    have K109 : Keep h107 h108 [] := keep_ext E109 []
    have A109 : Av Z h108 a109 .char [(.int (0 : Int32)), (.int (0 : Int32)), (.int (0 : Int32))] := A109
    refine k_astore W d_code_264 rfl (L' := #[.val (.int p0), .val (.int p1), .val (.int p2), .val (.int p3), .val (.int p4), .val (.int (p0 &&& (255 : Int32))), .val (.int ((XT.ushr p0 (8 : Int32)) &&& (255 : Int32))), .val (.int (p1 &&& (255 : Int32))), .val (.int ((XT.ushr p1 (8 : Int32)) &&& (255 : Int32))), .val (.int v82), .val (.int z84), .val (.int z86), .val (.int z88), .val (.int z90), .val (.int z92), .val (.int z94), .val (.int ze), .val (.ref a98), .val (.ref a104), .val (.ref a109), .unset, .unset, .unset, .unset, .unset]) rfl ?_
    refine k_aload W d_code_266 rfl rfl ?_
    refine k_iconst W d_code_268 (z := (0 : Int32)) rfl ?_
    refine k_iload W d_code_269 rfl ?_
    refine k_castore W (z := (p1 &&& (255 : Int32))) 0 d_code_271 (List.mem_of_getElem? (i := 0) rfl) A109 (by decide) (Nat.le_of_ble_eq_true rfl) (Rg.nar (Rg.mono (Rg.and (n := 256) p1 (255 : Int32) (by decide)) (by decide))) (Rg.fits (Rg.mono (Rg.and (n := 256) p1 (255 : Int32) (by decide)) (by decide))) fun T h110 W Wr110 A110 => ?_
    have K110 : Keep h108 h110 [a109] := Keep.of_wr Wr110
    have A110 : Av Z h110 a109 .char [(.int (p1 &&& (255 : Int32))), (.int (0 : Int32)), (.int (0 : Int32))] := A110
    refine k_aload W d_code_272 rfl rfl ?_
    refine k_iconst W d_code_274 (z := (1 : Int32)) rfl ?_
    refine k_iload W d_code_275 rfl ?_
    refine k_castore W (z := ((XT.ushr p1 (8 : Int32)) &&& (255 : Int32))) 1 d_code_277 (List.mem_of_getElem? (i := 0) rfl) A110 (by decide) (Nat.le_of_ble_eq_true rfl) (Rg.nar (Rg.mono (Rg.and (n := 256) (XT.ushr p1 (8 : Int32)) (255 : Int32) (by decide)) (by decide))) (Rg.fits (Rg.mono (Rg.and (n := 256) (XT.ushr p1 (8 : Int32)) (255 : Int32) (by decide)) (by decide))) fun T h111 W Wr111 A111 => ?_
    have K111 : Keep h110 h111 [a109] := Keep.of_wr Wr111
    have A111 : Av Z h111 a109 .char [(.int (p1 &&& (255 : Int32))), (.int ((XT.ushr p1 (8 : Int32)) &&& (255 : Int32))), (.int (0 : Int32))] := A111
    refine k_aload W d_code_278 rfl rfl ?_
    refine k_iconst W d_code_280 (z := (2 : Int32)) rfl ?_
    refine k_iload W d_code_281 rfl ?_
    refine k_castore W (z := v82) 2 d_code_283 (List.mem_of_getElem? (i := 0) rfl) A111 (by decide) (Nat.le_of_ble_eq_true rfl) (Rg.nar (Rg.mono (show Rg v82 97 from (by rw [ev82]; exact Rg.mono (Rg.add (show Rg (33 : Int32) 34 by decide) (Rg.and (n := 64) (XT.ushr p1 (16 : Int32)) (63 : Int32) (by decide)) (by decide)) (by decide))) (by decide))) (Rg.fits (Rg.mono (show Rg v82 97 from (by rw [ev82]; exact Rg.mono (Rg.add (show Rg (33 : Int32) 34 by decide) (Rg.and (n := 64) (XT.ushr p1 (16 : Int32)) (63 : Int32) (by decide)) (by decide)) (by decide))) (by decide))) fun T h112 W Wr112 A112 => ?_
    have K112 : Keep h111 h112 [a109] := Keep.of_wr Wr112
    have A112 : Av Z h112 a109 .char [(.int (p1 &&& (255 : Int32))), (.int ((XT.ushr p1 (8 : Int32)) &&& (255 : Int32))), (.int v82)] := A112
    refine k_iload W d_code_284 rfl ?_
    refine k_if W 309 d_code_286 (by decide) (fun (hc113 : z90 = 0) => ?_) (fun (hc113 : ¬ (z90 = 0)) => ?_)
    · -- pc 309
      refine k_iconst W d_code_309 (z := (3 : Int32)) rfl ?_
      refine k_newarr W 3 4 12 d_code_310 (w0 hw) (by decide) (by decide) ⟨rfl, Nat.le_of_ble_eq_true rfl⟩ ⟨rfl, Nat.le_of_ble_eq_true rfl⟩ fun T h114 a115 g115 W E115 A115 => ?_
      have K115 : Keep h112 h114 [] := keep_ext E115 []
      have A115 : Av Z h114 a115 .char [(.int (0 : Int32)), (.int (0 : Int32)), (.int (0 : Int32))] := A115
      refine k_astore W d_code_312 rfl (L' := #[.val (.int p0), .val (.int p1), .val (.int p2), .val (.int p3), .val (.int p4), .val (.int (p0 &&& (255 : Int32))), .val (.int ((XT.ushr p0 (8 : Int32)) &&& (255 : Int32))), .val (.int (p1 &&& (255 : Int32))), .val (.int ((XT.ushr p1 (8 : Int32)) &&& (255 : Int32))), .val (.int v82), .val (.int z84), .val (.int z86), .val (.int z88), .val (.int z90), .val (.int z92), .val (.int z94), .val (.int ze), .val (.ref a98), .val (.ref a104), .val (.ref a109), .val (.ref a115), .unset, .unset, .unset, .unset]) rfl ?_
      refine k_aload W d_code_314 rfl rfl ?_
      refine k_iconst W d_code_316 (z := (0 : Int32)) rfl ?_
      refine k_iload W d_code_317 rfl ?_
      refine k_castore W (z := z92) 0 d_code_319 (List.mem_of_getElem? (i := 0) rfl) A115 (by decide) (Nat.le_of_ble_eq_true rfl) (Rg.nar (Rg.mono rz92 (by decide))) (Rg.fits (Rg.mono rz92 (by decide))) fun T h116 W Wr116 A116 => ?_
      have K116 : Keep h114 h116 [a115] := Keep.of_wr Wr116
      have A116 : Av Z h116 a115 .char [(.int z92), (.int (0 : Int32)), (.int (0 : Int32))] := A116
      refine k_aload W d_code_320 rfl rfl ?_
      refine k_iconst W d_code_322 (z := (1 : Int32)) rfl ?_
      refine k_iload W d_code_323 rfl ?_
      refine k_castore W (z := z94) 1 d_code_325 (List.mem_of_getElem? (i := 0) rfl) A116 (by decide) (Nat.le_of_ble_eq_true rfl) (Rg.nar (Rg.mono rz94 (by decide))) (Rg.fits (Rg.mono rz94 (by decide))) fun T h117 W Wr117 A117 => ?_
      have K117 : Keep h116 h117 [a115] := Keep.of_wr Wr117
      have A117 : Av Z h117 a115 .char [(.int z92), (.int z94), (.int (0 : Int32))] := A117
      refine k_aload W d_code_326 rfl rfl ?_
      refine k_iconst W d_code_328 (z := (2 : Int32)) rfl ?_
      refine k_iload W d_code_329 rfl ?_
      refine k_castore W (z := ze) 2 d_code_331 (List.mem_of_getElem? (i := 0) rfl) A117 (by decide) (Nat.le_of_ble_eq_true rfl) (Rg.nar (Rg.mono nwe.1 (by decide))) (Rg.fits (Rg.mono nwe.1 (by decide))) fun T h118 W Wr118 A118 => ?_
      have K118 : Keep h117 h118 [a115] := Keep.of_wr Wr118
      have A118 : Av Z h118 a115 .char [(.int z92), (.int z94), (.int ze)] := A118
      refine k_new W 5 14 d_code_332 (w1 hw) (w2 hw) (w3 hw) ⟨rfl, Nat.le_of_ble_eq_true rfl⟩ ⟨rfl, Nat.le_of_ble_eq_true rfl⟩ fun T h119 a120 g120 W E120 X120 D120 => ?_
      have K120 : Keep h118 h119 [] := keep_ext E120 []
      refine k_dup W d_code_335 rfl ?_
      refine k_new W 6 18 d_code_336 (w4 hw) (w5 hw) (w6 hw) ⟨rfl, Nat.le_of_ble_eq_true rfl⟩ ⟨rfl, Nat.le_of_ble_eq_true rfl⟩ fun T h121 a122 g122 W E122 X122 D122 => ?_
      have K122 : Keep h119 h121 [] := keep_ext E122 []
      refine k_dup W d_code_339 rfl ?_
      refine k_aload W d_code_340 rfl rfl ?_
      have ne123 : a98 ≠ a104 := (Nat.ne_of_lt (Nat.lt_of_lt_of_le A101.lt (Nat.le_of_eq g104.symm)))
      have ne124 : a98 ≠ a109 := (Nat.ne_of_lt (Nat.lt_of_lt_of_le (Nat.lt_of_lt_of_le A101.lt (Nat.le_trans (Nat.le_trans (Nat.le_trans E104.1 K105.1) K106.1) K107.1)) (Nat.le_of_eq g109.symm)))
      have ne125 : a98 ≠ a115 := (Nat.ne_of_lt (Nat.lt_of_lt_of_le (Nat.lt_of_lt_of_le A101.lt (Nat.le_trans (Nat.le_trans (Nat.le_trans (Nat.le_trans (Nat.le_trans (Nat.le_trans (Nat.le_trans E104.1 K105.1) K106.1) K107.1) E109.1) K110.1) K111.1) K112.1)) (Nat.le_of_eq g115.symm)))
      have f126 := ((((((((((((((A101.keep K104 nin0).keep K105 (ninS ne123 nin0)).keep K106 (ninS ne123 nin0)).keep K107 (ninS ne123 nin0)).keep K109 nin0).keep K110 (ninS ne124 nin0)).keep K111 (ninS ne124 nin0)).keep K112 (ninS ne124 nin0)).keep K115 nin0).keep K116 (ninS ne125 nin0)).keep K117 (ninS ne125 nin0)).keep K118 (ninS ne125 nin0)).keep K120 nin0).keep K122 nin0)
      have f127 := (Sta.keep (Sta.keep (Sta.keep (Sta.keep (Sta.keep (Sta.keep (Sta.keep (Sta.keep (Sta.keep (Sta.keep (Sta.keep (Sta.keep (Sta.keep (Sta.keep (Sta.keep (Sta.keep (Sta.keep (Sta.keep P0 K98 ns0) K99 (nsS (Av.plain A98) ns0)) K100 (nsS (Av.plain A99) ns0)) K101 (nsS (Av.plain A100) ns0)) K104 ns0) K105 (nsS (Av.plain A104) ns0)) K106 (nsS (Av.plain A105) ns0)) K107 (nsS (Av.plain A106) ns0)) K109 ns0) K110 (nsS (Av.plain A109) ns0)) K111 (nsS (Av.plain A110) ns0)) K112 (nsS (Av.plain A111) ns0)) K115 ns0) K116 (nsS (Av.plain A115) ns0)) K117 (nsS (Av.plain A116) ns0)) K118 (nsS (Av.plain A117) ns0)) K120 ns0) K122 ns0)
      refine k_callI0 W 3 7 21 (argsL := [(.ref a98)]) (rest := [(.ref a122), (.ref a120), (.ref a120)]) (a := a122) d_code_342 rfl rfl (w7 hw) (w8 hw) (by decide) (lenOf pd17 rfl) (ct_sinit l Z a0 hw n0 h121 a122 a98 [(36 : Int32), (p0 &&& (255 : Int32)), ((XT.ushr p0 (8 : Int32)) &&& (255 : Int32))] 3 zc .null (.int (0 : Int32)) X122 (D122 (Or.inr (w32 hw)) (ty := (.array .byte)) (by decide)) (D122 (Or.inr (w30 hw)) (ty := .byte) (by decide)) f126 f127 hzc (rgS (by decide) (rgS (Rg.and (n := 256) p0 (255 : Int32) (by decide)) (rgS (Rg.and (n := 256) (XT.ushr p0 (8 : Int32)) (255 : Int32) (by decide)) (fun _ q => nomatch q)))) (Nat.le_of_ble_eq_true rfl) (Nat.le_of_ble_eq_true rfl) (by decide)) (w9 hw) (w6 hw) (fun x hx => by simp only [List.mem_cons, List.not_mem_nil, or_false] at hx; rcases hx with rfl; all_goals first | exact (List.mem_of_getElem? (i := 0) rfl)) rfl (Nat.le_of_eq rfl) (Nat.le_of_ble_eq_true rfl) (Nat.le_of_ble_eq_true rfl) ⟨rfl, Nat.le_of_ble_eq_true rfl⟩ ⟨rfl, Nat.le_of_ble_eq_true rfl⟩ rfl (fun _ _ _ q => nomatch q.1) fun T h128 so W hQ => ?_
      obtain ⟨-, b128, g128, K128, S128⟩ := hQ
      have S128 : St Z h128 a122 b128 [(36 : Int32), (i2b (p0 &&& (255 : Int32))), (i2b ((XT.ushr p0 (8 : Int32)) &&& (255 : Int32)))] := S128
      refine k_new W 8 25 d_code_345 (w4 hw) (w5 hw) (w6 hw) ⟨rfl, Nat.le_of_ble_eq_true rfl⟩ ⟨rfl, Nat.le_of_ble_eq_true rfl⟩ fun T h129 a130 g130 W E130 X130 D130 => ?_
      have K130 : Keep h128 h129 [] := keep_ext E130 []
      refine k_dup W d_code_348 rfl ?_
      refine k_aload W d_code_349 rfl rfl ?_
      have ne131 : a109 ≠ a115 := (Nat.ne_of_lt (Nat.lt_of_lt_of_le A112.lt (Nat.le_of_eq g115.symm)))
      have ne132 : a109 ≠ a122 := (Nat.ne_of_lt (Nat.lt_of_lt_of_le (Nat.lt_of_lt_of_le A112.lt (Nat.le_trans (Nat.le_trans (Nat.le_trans (Nat.le_trans E115.1 K116.1) K117.1) K118.1) E120.1)) (Nat.le_of_eq g122.symm)))
      have f133 := ((((((((A112.keep K115 nin0).keep K116 (ninS ne131 nin0)).keep K117 (ninS ne131 nin0)).keep K118 (ninS ne131 nin0)).keep K120 nin0).keep K122 nin0).keep K128 (ninS ne132 nin0)).keep K130 nin0)
      have f134 := (Sta.keep (Sta.keep f127 K128 (nsS (Exa.plain X122) ns0)) K130 ns0)
      refine k_callI0 W 4 9 28 (argsL := [(.ref a109)]) (rest := [(.ref a130), (.ref a122), (.ref a120), (.ref a120)]) (a := a130) d_code_351 rfl rfl (w7 hw) (w8 hw) (by decide) (lenOf pd17 rfl) (ct_sinit l Z a0 hw n0 h129 a130 a109 [(p1 &&& (255 : Int32)), ((XT.ushr p1 (8 : Int32)) &&& (255 : Int32)), v82] 3 zc .null (.int (0 : Int32)) X130 (D130 (Or.inr (w32 hw)) (ty := (.array .byte)) (by decide)) (D130 (Or.inr (w30 hw)) (ty := .byte) (by decide)) f133 f134 hzc (rgS (Rg.and (n := 256) p1 (255 : Int32) (by decide)) (rgS (Rg.and (n := 256) (XT.ushr p1 (8 : Int32)) (255 : Int32) (by decide)) (rgS (Rg.mono (show Rg v82 97 from (by rw [ev82]; exact Rg.mono (Rg.add (show Rg (33 : Int32) 34 by decide) (Rg.and (n := 64) (XT.ushr p1 (16 : Int32)) (63 : Int32) (by decide)) (by decide)) (by decide))) (by decide)) (fun _ q => nomatch q)))) (Nat.le_of_ble_eq_true rfl) (Nat.le_of_ble_eq_true rfl) (by decide)) (w9 hw) (w6 hw) (fun x hx => by simp only [List.mem_cons, List.not_mem_nil, or_false] at hx; rcases hx with rfl; all_goals first | exact (List.mem_of_getElem? (i := 0) rfl)) rfl (Nat.le_of_eq rfl) (Nat.le_of_ble_eq_true rfl) (Nat.le_of_ble_eq_true rfl) ⟨rfl, Nat.le_of_ble_eq_true rfl⟩ ⟨rfl, Nat.le_of_ble_eq_true rfl⟩ rfl (fun _ _ _ q => nomatch q.1) fun T h135 so W hQ => ?_
      obtain ⟨-, b135, g135, K135, S135⟩ := hQ
      have S135 : St Z h135 a130 b135 [(i2b (p1 &&& (255 : Int32))), (i2b ((XT.ushr p1 (8 : Int32)) &&& (255 : Int32))), (i2b v82)] := S135
      have f136 := ((((X120.keep K122).keep K128).keep K130).keep K135)
      have ne137 : a120 ≠ a122 := (Nat.ne_of_lt (Nat.lt_of_lt_of_le X120.lt (Nat.le_of_eq g122.symm)))
      have ne138 : a120 ≠ a130 := (Nat.ne_of_lt (Nat.lt_of_lt_of_le (Nat.lt_of_lt_of_le X120.lt (Nat.le_trans E122.1 K128.1)) (Nat.le_of_eq g130.symm)))
      have f139 := (((((D120 (Or.inr (w106 hw)) (ty := (.object "java/lang/String")) (by decide)).keep K122 nin0).keep K128 (ninS ne137 nin0)).keep K130 nin0).keep K135 (ninS ne138 nin0))
      have f140 := (((((D120 (Or.inr (w108 hw)) (ty := (.object "java/lang/String")) (by decide)).keep K122 nin0).keep K128 (ninS ne137 nin0)).keep K130 nin0).keep K135 (ninS ne138 nin0))
      have ne141 : a122 ≠ a130 := (Nat.ne_of_lt (Nat.lt_of_lt_of_le S128.1.lt (Nat.le_of_eq g130.symm)))
      have ne142 : b128 ≠ a130 := (Nat.ne_of_lt (Nat.lt_of_lt_of_le S128.2.2.2.lt (Nat.le_of_eq g130.symm)))
      have f143 := ((S128.keep K130 nin0 nin0).keep K135 (ninS ne141 nin0) (ninS ne142 nin0))
      have f144 := (Sta.keep f134 K135 (nsS (Exa.plain X130) ns0))
      have f146 := (Sta.keep (Sta.keep (Sta.keep (Sta.keep (Sta.keep (Sta.keep (Sta.keep (Sta.keep (Sta.keep (Sta.keep (Sta.keep (Sta.keep (Sta.keep (Sta.keep (Sta.keep (Sta.keep (Sta.keep (Sta.keep (Sta.keep (Sta.keep (Sta.keep CI K98 ns0) K99 (nsS (Av.plain A98) ns0)) K100 (nsS (Av.plain A99) ns0)) K101 (nsS (Av.plain A100) ns0)) K104 ns0) K105 (nsS (Av.plain A104) ns0)) K106 (nsS (Av.plain A105) ns0)) K107 (nsS (Av.plain A106) ns0)) K109 ns0) K110 (nsS (Av.plain A109) ns0)) K111 (nsS (Av.plain A110) ns0)) K112 (nsS (Av.plain A111) ns0)) K115 ns0) K116 (nsS (Av.plain A115) ns0)) K117 (nsS (Av.plain A116) ns0)) K118 (nsS (Av.plain A117) ns0)) K120 ns0) K122 ns0) K128 (nsS (Exa.plain X122) ns0)) K130 ns0) K135 (nsS (Exa.plain X130) ns0))
      have f147 := (((((((((((((((((((((CX.keep K98).keep K99).keep K100).keep K101).keep K104).keep K105).keep K106).keep K107).keep K109).keep K110).keep K111).keep K112).keep K115).keep K116).keep K117).keep K118).keep K120).keep K122).keep K128).keep K130).keep K135)
      have f148 := (Sta.keep (Sta.keep (Sta.keep (Sta.keep (Sta.keep (Sta.keep (Sta.keep (Sta.keep (Sta.keep (Sta.keep (Sta.keep (Sta.keep (Sta.keep (Sta.keep (Sta.keep (Sta.keep (Sta.keep (Sta.keep (Sta.keep (Sta.keep (Sta.keep CA K98 ns0) K99 (nsS (Av.plain A98) ns0)) K100 (nsS (Av.plain A99) ns0)) K101 (nsS (Av.plain A100) ns0)) K104 ns0) K105 (nsS (Av.plain A104) ns0)) K106 (nsS (Av.plain A105) ns0)) K107 (nsS (Av.plain A106) ns0)) K109 ns0) K110 (nsS (Av.plain A109) ns0)) K111 (nsS (Av.plain A110) ns0)) K112 (nsS (Av.plain A111) ns0)) K115 ns0) K116 (nsS (Av.plain A115) ns0)) K117 (nsS (Av.plain A116) ns0)) K118 (nsS (Av.plain A117) ns0)) K120 ns0) K122 ns0) K128 (nsS (Exa.plain X122) ns0)) K130 ns0) K135 (nsS (Exa.plain X130) ns0))
      have ne149 : ca ≠ a98 := (Nat.ne_of_lt (Nat.lt_of_lt_of_le CV.lt (Nat.le_of_eq g98.symm)))
      have ne150 : ca ≠ a104 := (Nat.ne_of_lt (Nat.lt_of_lt_of_le (Nat.lt_of_lt_of_le CV.lt (Nat.le_trans (Nat.le_trans (Nat.le_trans E98.1 K99.1) K100.1) K101.1)) (Nat.le_of_eq g104.symm)))
      have ne151 : ca ≠ a109 := (Nat.ne_of_lt (Nat.lt_of_lt_of_le (Nat.lt_of_lt_of_le CV.lt (Nat.le_trans (Nat.le_trans (Nat.le_trans (Nat.le_trans (Nat.le_trans (Nat.le_trans (Nat.le_trans E98.1 K99.1) K100.1) K101.1) E104.1) K105.1) K106.1) K107.1)) (Nat.le_of_eq g109.symm)))
      have ne152 : ca ≠ a115 := (Nat.ne_of_lt (Nat.lt_of_lt_of_le (Nat.lt_of_lt_of_le CV.lt (Nat.le_trans (Nat.le_trans (Nat.le_trans (Nat.le_trans (Nat.le_trans (Nat.le_trans (Nat.le_trans (Nat.le_trans (Nat.le_trans (Nat.le_trans (Nat.le_trans E98.1 K99.1) K100.1) K101.1) E104.1) K105.1) K106.1) K107.1) E109.1) K110.1) K111.1) K112.1)) (Nat.le_of_eq g115.symm)))
      have ne153 : ca ≠ a122 := (Nat.ne_of_lt (Nat.lt_of_lt_of_le (Nat.lt_of_lt_of_le CV.lt (Nat.le_trans (Nat.le_trans (Nat.le_trans (Nat.le_trans (Nat.le_trans (Nat.le_trans (Nat.le_trans (Nat.le_trans (Nat.le_trans (Nat.le_trans (Nat.le_trans (Nat.le_trans (Nat.le_trans (Nat.le_trans (Nat.le_trans (Nat.le_trans E98.1 K99.1) K100.1) K101.1) E104.1) K105.1) K106.1) K107.1) E109.1) K110.1) K111.1) K112.1) E115.1) K116.1) K117.1) K118.1) E120.1)) (Nat.le_of_eq g122.symm)))
      have ne154 : ca ≠ a130 := (Nat.ne_of_lt (Nat.lt_of_lt_of_le (Nat.lt_of_lt_of_le CV.lt (Nat.le_trans (Nat.le_trans (Nat.le_trans (Nat.le_trans (Nat.le_trans (Nat.le_trans (Nat.le_trans (Nat.le_trans (Nat.le_trans (Nat.le_trans (Nat.le_trans (Nat.le_trans (Nat.le_trans (Nat.le_trans (Nat.le_trans (Nat.le_trans (Nat.le_trans (Nat.le_trans E98.1 K99.1) K100.1) K101.1) E104.1) K105.1) K106.1) K107.1) E109.1) K110.1) K111.1) K112.1) E115.1) K116.1) K117.1) K118.1) E120.1) E122.1) K128.1)) (Nat.le_of_eq g130.symm)))
      have f155 := (((((((((((((((((((((CV.keep K98 nin0).keep K99 (ninS ne149 nin0)).keep K100 (ninS ne149 nin0)).keep K101 (ninS ne149 nin0)).keep K104 nin0).keep K105 (ninS ne150 nin0)).keep K106 (ninS ne150 nin0)).keep K107 (ninS ne150 nin0)).keep K109 nin0).keep K110 (ninS ne151 nin0)).keep K111 (ninS ne151 nin0)).keep K112 (ninS ne151 nin0)).keep K115 nin0).keep K116 (ninS ne152 nin0)).keep K117 (ninS ne152 nin0)).keep K118 (ninS ne152 nin0)).keep K120 nin0).keep K122 nin0).keep K128 (ninS ne153 nin0)).keep K130 nin0).keep K135 (ninS ne154 nin0))
      refine k_callI0 W 1 15 88 (argsL := [(.ref a122), (.ref a130)]) (rest := [(.ref a120)]) (a := a120) d_code_354 rfl rfl (w33 hw) (w34 hw) (by decide) (lenOf pd18 rfl) (ct_veinit l Z a0 hw n0 h135 cd ca a120 a122 b128 a130 b135 [(i2b (p0 &&& (255 : Int32))), (i2b ((XT.ushr p0 (8 : Int32)) &&& (255 : Int32)))] [(i2b (p1 &&& (255 : Int32))), (i2b ((XT.ushr p1 (8 : Int32)) &&& (255 : Int32))), (i2b v82)] zc 2 (i2b v82) rfl (by rw [lo_i2b (Rg.mono (show Rg v82 97 from (by rw [ev82]; exact Rg.mono (Rg.add (show Rg (33 : Int32) 34 by decide) (Rg.and (n := 64) (XT.ushr p1 (16 : Int32)) (63 : Int32) (by decide)) (by decide)) (by decide))) (by decide))]; exact nw9) f136 f139 f140 f143 S135 f144 hzc f146 f147 f148 f155) (w35 hw) (w3 hw) (fun x hx => by simp only [List.mem_cons, List.not_mem_nil, or_false] at hx; rcases hx with rfl; all_goals first | exact (List.mem_of_getElem? (i := 2) rfl)) rfl (Nat.le_of_eq rfl) (Nat.le_of_ble_eq_true rfl) (Nat.le_of_ble_eq_true rfl) ⟨rfl, Nat.le_of_ble_eq_true rfl⟩ ⟨rfl, Nat.le_of_ble_eq_true rfl⟩ rfl (fun _ _ _ q => nomatch q.1) fun T h145 so W hQ => ?_
      obtain ⟨-, K145, FA145, FB145⟩ := hQ
      refine k_astore W d_code_357 rfl (L' := #[.val (.int p0), .val (.int p1), .val (.int p2), .val (.int p3), .val (.int p4), .val (.int (p0 &&& (255 : Int32))), .val (.int ((XT.ushr p0 (8 : Int32)) &&& (255 : Int32))), .val (.int (p1 &&& (255 : Int32))), .val (.int ((XT.ushr p1 (8 : Int32)) &&& (255 : Int32))), .val (.int v82), .val (.int z84), .val (.int z86), .val (.int z88), .val (.int z90), .val (.int z92), .val (.int z94), .val (.int ze), .val (.ref a98), .val (.ref a104), .val (.ref a109), .val (.ref a115), .val (.ref a120), .unset, .unset, .unset]) rfl ?_
      refine k_iload W d_code_359 rfl ?_
      refine k_iconst W d_code_361 (z := (3 : Int32)) rfl ?_
      refine k_iand W d_code_362 (z := (p4 &&& (3 : Int32))) rfl ?_
      refine k_istore W d_code_363 (L' := #[.val (.int p0), .val (.int p1), .val (.int p2), .val (.int p3), .val (.int p4), .val (.int (p0 &&& (255 : Int32))), .val (.int ((XT.ushr p0 (8 : Int32)) &&& (255 : Int32))), .val (.int (p1 &&& (255 : Int32))), .val (.int ((XT.ushr p1 (8 : Int32)) &&& (255 : Int32))), .val (.int v82), .val (.int z84), .val (.int z86), .val (.int z88), .val (.int z90), .val (.int z92), .val (.int z94), .val (.int ze), .val (.ref a98), .val (.ref a104), .val (.ref a109), .val (.ref a115), .val (.ref a120), .val (.int (p4 &&& (3 : Int32))), .unset, .unset]) rfl ?_
      refine k_iload W d_code_365 rfl ?_
      refine k_iconst W d_code_367 (z := (1 : Int32)) rfl ?_
      refine k_ic W 379 d_code_368 (by decide) (fun (hc156 : ¬ (p4 &&& (3 : Int32)) = (1 : Int32)) => ?_) (fun (hc156 : ¬ (¬ (p4 &&& (3 : Int32)) = (1 : Int32))) => ?_)
      · -- pc 379
        refine k_iload W d_code_379 rfl ?_
        refine k_iconst W d_code_381 (z := (2 : Int32)) rfl ?_
        refine k_ic W 400 d_code_382 (by decide) (fun (hc157 : ¬ (p4 &&& (3 : Int32)) = (2 : Int32)) => ?_) (fun (hc157 : ¬ (¬ (p4 &&& (3 : Int32)) = (2 : Int32))) => ?_)
        · -- pc 400
          refine k_iload W d_code_400 rfl ?_
          refine k_iconst W d_code_402 (z := (3 : Int32)) rfl ?_
          refine k_ic W 429 d_code_403 (by decide) (fun (hc158 : ¬ (p4 &&& (3 : Int32)) = (3 : Int32)) => ?_) (fun (hc158 : ¬ (¬ (p4 &&& (3 : Int32)) = (3 : Int32))) => ?_)
          · -- pc 429
            refine k_new W 16 90 d_code_429 (w1 hw) (w2 hw) (w3 hw) ⟨rfl, Nat.le_of_ble_eq_true rfl⟩ ⟨rfl, Nat.le_of_ble_eq_true rfl⟩ fun T h159 a160 g160 W E160 X160 D160 => ?_
            have K160 : Keep h145 h159 [] := keep_ext E160 []
            refine k_dup W d_code_432 rfl ?_
            refine k_new W 17 94 d_code_433 (w4 hw) (w5 hw) (w6 hw) ⟨rfl, Nat.le_of_ble_eq_true rfl⟩ ⟨rfl, Nat.le_of_ble_eq_true rfl⟩ fun T h161 a162 g162 W E162 X162 D162 => ?_
            have K162 : Keep h159 h161 [] := keep_ext E162 []
            refine k_dup W d_code_436 rfl ?_
            refine k_aload W d_code_437 rfl rfl ?_
            have ne163 : a104 ≠ a109 := (Nat.ne_of_lt (Nat.lt_of_lt_of_le A107.lt (Nat.le_of_eq g109.symm)))
            have ne164 : a104 ≠ a115 := (Nat.ne_of_lt (Nat.lt_of_lt_of_le (Nat.lt_of_lt_of_le A107.lt (Nat.le_trans (Nat.le_trans (Nat.le_trans E109.1 K110.1) K111.1) K112.1)) (Nat.le_of_eq g115.symm)))
            have ne165 : a104 ≠ a122 := (Nat.ne_of_lt (Nat.lt_of_lt_of_le (Nat.lt_of_lt_of_le A107.lt (Nat.le_trans (Nat.le_trans (Nat.le_trans (Nat.le_trans (Nat.le_trans (Nat.le_trans (Nat.le_trans (Nat.le_trans E109.1 K110.1) K111.1) K112.1) E115.1) K116.1) K117.1) K118.1) E120.1)) (Nat.le_of_eq g122.symm)))
            have ne166 : a104 ≠ a130 := (Nat.ne_of_lt (Nat.lt_of_lt_of_le (Nat.lt_of_lt_of_le A107.lt (Nat.le_trans (Nat.le_trans (Nat.le_trans (Nat.le_trans (Nat.le_trans (Nat.le_trans (Nat.le_trans (Nat.le_trans (Nat.le_trans (Nat.le_trans E109.1 K110.1) K111.1) K112.1) E115.1) K116.1) K117.1) K118.1) E120.1) E122.1) K128.1)) (Nat.le_of_eq g130.symm)))
            have ne167 : a104 ≠ a120 := (Nat.ne_of_lt (Nat.lt_of_lt_of_le (Nat.lt_of_lt_of_le A107.lt (Nat.le_trans (Nat.le_trans (Nat.le_trans (Nat.le_trans (Nat.le_trans (Nat.le_trans (Nat.le_trans E109.1 K110.1) K111.1) K112.1) E115.1) K116.1) K117.1) K118.1)) (Nat.le_of_eq g120.symm)))
            have f168 := ((((((((((((((((A107.keep K109 nin0).keep K110 (ninS ne163 nin0)).keep K111 (ninS ne163 nin0)).keep K112 (ninS ne163 nin0)).keep K115 nin0).keep K116 (ninS ne164 nin0)).keep K117 (ninS ne164 nin0)).keep K118 (ninS ne164 nin0)).keep K120 nin0).keep K122 nin0).keep K128 (ninS ne165 nin0)).keep K130 nin0).keep K135 (ninS ne166 nin0)).keep K145 (ninS ne167 nin0)).keep K160 nin0).keep K162 nin0)
            have f169 := (Sta.keep (Sta.keep (Sta.keep f144 K145 (nsS (Exa.plain f136) ns0)) K160 ns0) K162 ns0)
            refine k_callI0 W 3 18 97 (argsL := [(.ref a104)]) (rest := [(.ref a162), (.ref a160), (.ref a160)]) (a := a162) d_code_439 rfl rfl (w7 hw) (w8 hw) (by decide) (lenOf pd17 rfl) (ct_sinit l Z a0 hw n0 h161 a162 a104 [(36 : Int32), z86, z88] 3 zc .null (.int (0 : Int32)) X162 (D162 (Or.inr (w32 hw)) (ty := (.array .byte)) (by decide)) (D162 (Or.inr (w30 hw)) (ty := .byte) (by decide)) f168 f169 hzc (rgS (by decide) (rgS rz86 (rgS rz88 (fun _ q => nomatch q)))) (Nat.le_of_ble_eq_true rfl) (Nat.le_of_ble_eq_true rfl) (by decide)) (w9 hw) (w6 hw) (fun x hx => by simp only [List.mem_cons, List.not_mem_nil, or_false] at hx; rcases hx with rfl; all_goals first | exact (List.mem_of_getElem? (i := 0) rfl)) rfl (Nat.le_of_eq rfl) (Nat.le_of_ble_eq_true rfl) (Nat.le_of_ble_eq_true rfl) ⟨rfl, Nat.le_of_ble_eq_true rfl⟩ ⟨rfl, Nat.le_of_ble_eq_true rfl⟩ rfl (fun _ _ _ q => nomatch q.1) fun T h170 so W hQ => ?_
            obtain ⟨-, b170, g170, K170, S170⟩ := hQ
            have S170 : St Z h170 a162 b170 [(36 : Int32), (i2b z86), (i2b z88)] := S170
            refine k_new W 19 101 d_code_442 (w4 hw) (w5 hw) (w6 hw) ⟨rfl, Nat.le_of_ble_eq_true rfl⟩ ⟨rfl, Nat.le_of_ble_eq_true rfl⟩ fun T h171 a172 g172 W E172 X172 D172 => ?_
            have K172 : Keep h170 h171 [] := keep_ext E172 []
            refine k_dup W d_code_445 rfl ?_
            refine k_aload W d_code_446 rfl rfl ?_
            have ne173 : a115 ≠ a122 := (Nat.ne_of_lt (Nat.lt_of_lt_of_le (Nat.lt_of_lt_of_le A118.lt E120.1) (Nat.le_of_eq g122.symm)))
            have ne174 : a115 ≠ a130 := (Nat.ne_of_lt (Nat.lt_of_lt_of_le (Nat.lt_of_lt_of_le A118.lt (Nat.le_trans (Nat.le_trans E120.1 E122.1) K128.1)) (Nat.le_of_eq g130.symm)))
            have ne175 : a115 ≠ a120 := (Nat.ne_of_lt (Nat.lt_of_lt_of_le A118.lt (Nat.le_of_eq g120.symm)))
            have ne176 : a115 ≠ a162 := (Nat.ne_of_lt (Nat.lt_of_lt_of_le (Nat.lt_of_lt_of_le A118.lt (Nat.le_trans (Nat.le_trans (Nat.le_trans (Nat.le_trans (Nat.le_trans (Nat.le_trans E120.1 E122.1) K128.1) E130.1) K135.1) K145.1) E160.1)) (Nat.le_of_eq g162.symm)))
            have f177 := ((((((((((A118.keep K120 nin0).keep K122 nin0).keep K128 (ninS ne173 nin0)).keep K130 nin0).keep K135 (ninS ne174 nin0)).keep K145 (ninS ne175 nin0)).keep K160 nin0).keep K162 nin0).keep K170 (ninS ne176 nin0)).keep K172 nin0)
            have f178 := (Sta.keep (Sta.keep f169 K170 (nsS (Exa.plain X162) ns0)) K172 ns0)
            refine k_callI0 W 4 20 104 (argsL := [(.ref a115)]) (rest := [(.ref a172), (.ref a162), (.ref a160), (.ref a160)]) (a := a172) d_code_448 rfl rfl (w7 hw) (w8 hw) (by decide) (lenOf pd17 rfl) (ct_sinit l Z a0 hw n0 h171 a172 a115 [z92, z94, ze] 3 zc .null (.int (0 : Int32)) X172 (D172 (Or.inr (w32 hw)) (ty := (.array .byte)) (by decide)) (D172 (Or.inr (w30 hw)) (ty := .byte) (by decide)) f177 f178 hzc (rgS rz92 (rgS rz94 (rgS nwe.1 (fun _ q => nomatch q)))) (Nat.le_of_ble_eq_true rfl) (Nat.le_of_ble_eq_true rfl) (by decide)) (w9 hw) (w6 hw) (fun x hx => by simp only [List.mem_cons, List.not_mem_nil, or_false] at hx; rcases hx with rfl; all_goals first | exact (List.mem_of_getElem? (i := 0) rfl)) rfl (Nat.le_of_eq rfl) (Nat.le_of_ble_eq_true rfl) (Nat.le_of_ble_eq_true rfl) ⟨rfl, Nat.le_of_ble_eq_true rfl⟩ ⟨rfl, Nat.le_of_ble_eq_true rfl⟩ rfl (fun _ _ _ q => nomatch q.1) fun T h179 so W hQ => ?_
            obtain ⟨-, b179, g179, K179, S179⟩ := hQ
            have S179 : St Z h179 a172 b179 [(i2b z92), (i2b z94), (i2b ze)] := S179
            have f180 := ((((X160.keep K162).keep K170).keep K172).keep K179)
            have ne181 : a160 ≠ a162 := (Nat.ne_of_lt (Nat.lt_of_lt_of_le X160.lt (Nat.le_of_eq g162.symm)))
            have ne182 : a160 ≠ a172 := (Nat.ne_of_lt (Nat.lt_of_lt_of_le (Nat.lt_of_lt_of_le X160.lt (Nat.le_trans E162.1 K170.1)) (Nat.le_of_eq g172.symm)))
            have f183 := (((((D160 (Or.inr (w106 hw)) (ty := (.object "java/lang/String")) (by decide)).keep K162 nin0).keep K170 (ninS ne181 nin0)).keep K172 nin0).keep K179 (ninS ne182 nin0))
            have f184 := (((((D160 (Or.inr (w108 hw)) (ty := (.object "java/lang/String")) (by decide)).keep K162 nin0).keep K170 (ninS ne181 nin0)).keep K172 nin0).keep K179 (ninS ne182 nin0))
            have ne185 : a162 ≠ a172 := (Nat.ne_of_lt (Nat.lt_of_lt_of_le S170.1.lt (Nat.le_of_eq g172.symm)))
            have ne186 : b170 ≠ a172 := (Nat.ne_of_lt (Nat.lt_of_lt_of_le S170.2.2.2.lt (Nat.le_of_eq g172.symm)))
            have f187 := ((S170.keep K172 nin0 nin0).keep K179 (ninS ne185 nin0) (ninS ne186 nin0))
            have f188 := (Sta.keep f178 K179 (nsS (Exa.plain X172) ns0))
            have f190 := (Sta.keep (Sta.keep (Sta.keep (Sta.keep (Sta.keep (Sta.keep f146 K145 (nsS (Exa.plain f136) ns0)) K160 ns0) K162 ns0) K170 (nsS (Exa.plain X162) ns0)) K172 ns0) K179 (nsS (Exa.plain X172) ns0))
            have f191 := ((((((f147.keep K145).keep K160).keep K162).keep K170).keep K172).keep K179)
            have f192 := (Sta.keep (Sta.keep (Sta.keep (Sta.keep (Sta.keep (Sta.keep f148 K145 (nsS (Exa.plain f136) ns0)) K160 ns0) K162 ns0) K170 (nsS (Exa.plain X162) ns0)) K172 ns0) K179 (nsS (Exa.plain X172) ns0))
            have ne193 : ca ≠ a120 := (Nat.ne_of_lt (Nat.lt_of_lt_of_le (Nat.lt_of_lt_of_le CV.lt (Nat.le_trans (Nat.le_trans (Nat.le_trans (Nat.le_trans (Nat.le_trans (Nat.le_trans (Nat.le_trans (Nat.le_trans (Nat.le_trans (Nat.le_trans (Nat.le_trans (Nat.le_trans (Nat.le_trans (Nat.le_trans (Nat.le_trans E98.1 K99.1) K100.1) K101.1) E104.1) K105.1) K106.1) K107.1) E109.1) K110.1) K111.1) K112.1) E115.1) K116.1) K117.1) K118.1)) (Nat.le_of_eq g120.symm)))
            have ne194 : ca ≠ a162 := (Nat.ne_of_lt (Nat.lt_of_lt_of_le (Nat.lt_of_lt_of_le f155.lt (Nat.le_trans K145.1 E160.1)) (Nat.le_of_eq g162.symm)))
            have ne195 : ca ≠ a172 := (Nat.ne_of_lt (Nat.lt_of_lt_of_le (Nat.lt_of_lt_of_le f155.lt (Nat.le_trans (Nat.le_trans (Nat.le_trans K145.1 E160.1) E162.1) K170.1)) (Nat.le_of_eq g172.symm)))
            have f196 := ((((((f155.keep K145 (ninS ne193 nin0)).keep K160 nin0).keep K162 nin0).keep K170 (ninS ne194 nin0)).keep K172 nin0).keep K179 (ninS ne195 nin0))
            refine k_callI0 W 1 26 164 (argsL := [(.ref a162), (.ref a172)]) (rest := [(.ref a160)]) (a := a160) d_code_451 rfl rfl (w33 hw) (w34 hw) (by decide) (lenOf pd18 rfl) (ct_veinit l Z a0 hw n0 h179 cd ca a160 a162 b170 a172 b179 [(i2b z86), (i2b z88)] [(i2b z92), (i2b z94), (i2b ze)] zc 2 (i2b ze) rfl (by rw [lo_i2b nwe.1]; exact nwe) f180 f183 f184 f187 S179 f188 hzc f190 f191 f192 f196) (w35 hw) (w3 hw) (fun x hx => by simp only [List.mem_cons, List.not_mem_nil, or_false] at hx; rcases hx with rfl; all_goals first | exact (List.mem_of_getElem? (i := 2) rfl)) rfl (Nat.le_of_eq rfl) (Nat.le_of_ble_eq_true rfl) (Nat.le_of_ble_eq_true rfl) ⟨rfl, Nat.le_of_ble_eq_true rfl⟩ ⟨rfl, Nat.le_of_ble_eq_true rfl⟩ rfl (fun _ _ _ q => nomatch q.1) fun T h189 so W hQ => ?_
            obtain ⟨-, K189, FA189, FB189⟩ := hQ
            refine k_astore W d_code_454 rfl (L' := #[.val (.int p0), .val (.int p1), .val (.int p2), .val (.int p3), .val (.int p4), .val (.int (p0 &&& (255 : Int32))), .val (.int ((XT.ushr p0 (8 : Int32)) &&& (255 : Int32))), .val (.int (p1 &&& (255 : Int32))), .val (.int ((XT.ushr p1 (8 : Int32)) &&& (255 : Int32))), .val (.int v82), .val (.int z84), .val (.int z86), .val (.int z88), .val (.int z90), .val (.int z92), .val (.int z94), .val (.int ze), .val (.ref a98), .val (.ref a104), .val (.ref a109), .val (.ref a115), .val (.ref a120), .val (.int (p4 &&& (3 : Int32))), .val (.ref a160), .unset]) rfl ?_
            refine k_iload W d_code_456 rfl ?_
            refine k_ifN W d_code_458 (show ¬ (¬ z84 = 0) from (fun q => q hc102)) ?_
            refine k_iload W d_code_461 rfl ?_
            refine k_ifN W d_code_463 (show ¬ (¬ z90 = 0) from (fun q => q hc113)) ?_
            refine k_iload W d_code_466 rfl ?_
            refine k_iload W d_code_468 rfl ?_
            refine k_ic W 505 d_code_470 (by decide) (fun (hc197 : ¬ (p0 &&& (255 : Int32)) = z86) => ?_) (fun (hc197 : ¬ (¬ (p0 &&& (255 : Int32)) = z86)) => ?_)
            · -- pc 505
              refine k_iconst W d_code_505 (z := (0 : Int32)) rfl ?_
              refine k_istore W d_code_506 (L' := #[.val (.int p0), .val (.int p1), .val (.int p2), .val (.int p3), .val (.int p4), .val (.int (p0 &&& (255 : Int32))), .val (.int ((XT.ushr p0 (8 : Int32)) &&& (255 : Int32))), .val (.int (p1 &&& (255 : Int32))), .val (.int ((XT.ushr p1 (8 : Int32)) &&& (255 : Int32))), .val (.int v82), .val (.int z84), .val (.int z86), .val (.int z88), .val (.int z90), .val (.int z92), .val (.int z94), .val (.int ze), .val (.ref a98), .val (.ref a104), .val (.ref a109), .val (.ref a115), .val (.ref a120), .val (.int (p4 &&& (3 : Int32))), .val (.ref a160), .val (.int (0 : Int32))]) rfl ?_
              refine k_aload W d_code_508 rfl rfl ?_
              refine k_aload W d_code_510 rfl rfl ?_
              have f198 := (f180.keep K189)
              have ne199 : a120 ≠ a162 := (Nat.ne_of_lt (Nat.lt_of_lt_of_le (Nat.lt_of_lt_of_le FA145.lt E160.1) (Nat.le_of_eq g162.symm)))
              have ne200 : a120 ≠ a172 := (Nat.ne_of_lt (Nat.lt_of_lt_of_le (Nat.lt_of_lt_of_le FA145.lt (Nat.le_trans (Nat.le_trans E160.1 E162.1) K170.1)) (Nat.le_of_eq g172.symm)))
              have ne201 : a120 ≠ a160 := (Nat.ne_of_lt (Nat.lt_of_lt_of_le FA145.lt (Nat.le_of_eq g160.symm)))
              have f202 := ((((((FA145.keep K160 nin0).keep K162 nin0).keep K170 (ninS ne199 nin0)).keep K172 nin0).keep K179 (ninS ne200 nin0)).keep K189 (ninS ne201 nin0))
              have f203 := ((((((FB145.keep K160 nin0).keep K162 nin0).keep K170 (ninS ne199 nin0)).keep K172 nin0).keep K179 (ninS ne200 nin0)).keep K189 (ninS ne201 nin0))
              have ne204 : b128 ≠ a120 := (Ne.symm (Nat.ne_of_lt (Nat.lt_of_lt_of_le (Nat.lt_of_lt_of_le X120.lt E122.1) g128)))
              have ne205 : a122 ≠ a162 := (Nat.ne_of_lt (Nat.lt_of_lt_of_le (Nat.lt_of_lt_of_le f143.1.lt (Nat.le_trans K145.1 E160.1)) (Nat.le_of_eq g162.symm)))
              have ne206 : b128 ≠ a162 := (Nat.ne_of_lt (Nat.lt_of_lt_of_le (Nat.lt_of_lt_of_le f143.2.2.2.lt (Nat.le_trans K145.1 E160.1)) (Nat.le_of_eq g162.symm)))
              have ne207 : a122 ≠ a172 := (Nat.ne_of_lt (Nat.lt_of_lt_of_le (Nat.lt_of_lt_of_le f143.1.lt (Nat.le_trans (Nat.le_trans (Nat.le_trans K145.1 E160.1) E162.1) K170.1)) (Nat.le_of_eq g172.symm)))
              have ne208 : b128 ≠ a172 := (Nat.ne_of_lt (Nat.lt_of_lt_of_le (Nat.lt_of_lt_of_le f143.2.2.2.lt (Nat.le_trans (Nat.le_trans (Nat.le_trans K145.1 E160.1) E162.1) K170.1)) (Nat.le_of_eq g172.symm)))
              have ne209 : a122 ≠ a160 := (Nat.ne_of_lt (Nat.lt_of_lt_of_le (Nat.lt_of_lt_of_le f143.1.lt K145.1) (Nat.le_of_eq g160.symm)))
              have ne210 : b128 ≠ a160 := (Nat.ne_of_lt (Nat.lt_of_lt_of_le (Nat.lt_of_lt_of_le f143.2.2.2.lt K145.1) (Nat.le_of_eq g160.symm)))
              have f211 := (((((((f143.keep K145 (ninS (Ne.symm ne137) nin0) (ninS ne204 nin0)).keep K160 nin0 nin0).keep K162 nin0 nin0).keep K170 (ninS ne205 nin0) (ninS ne206 nin0)).keep K172 nin0 nin0).keep K179 (ninS ne207 nin0) (ninS ne208 nin0)).keep K189 (ninS ne209 nin0) (ninS ne210 nin0))
              have ne212 : b170 ≠ a160 := (Ne.symm (Nat.ne_of_lt (Nat.lt_of_lt_of_le (Nat.lt_of_lt_of_le X160.lt E162.1) g170)))
              have f213 := (f187.keep K189 (ninS (Ne.symm ne181) nin0) (ninS ne212 nin0))
              have ne214 : b135 ≠ a120 := (Ne.symm (Nat.ne_of_lt (Nat.lt_of_lt_of_le (Nat.lt_of_lt_of_le X120.lt (Nat.le_trans (Nat.le_trans E122.1 K128.1) E130.1)) g135)))
              have ne215 : a130 ≠ a162 := (Nat.ne_of_lt (Nat.lt_of_lt_of_le (Nat.lt_of_lt_of_le S135.1.lt (Nat.le_trans K145.1 E160.1)) (Nat.le_of_eq g162.symm)))
              have ne216 : b135 ≠ a162 := (Nat.ne_of_lt (Nat.lt_of_lt_of_le (Nat.lt_of_lt_of_le S135.2.2.2.lt (Nat.le_trans K145.1 E160.1)) (Nat.le_of_eq g162.symm)))
              have ne217 : a130 ≠ a172 := (Nat.ne_of_lt (Nat.lt_of_lt_of_le (Nat.lt_of_lt_of_le S135.1.lt (Nat.le_trans (Nat.le_trans (Nat.le_trans K145.1 E160.1) E162.1) K170.1)) (Nat.le_of_eq g172.symm)))
              have ne218 : b135 ≠ a172 := (Nat.ne_of_lt (Nat.lt_of_lt_of_le (Nat.lt_of_lt_of_le S135.2.2.2.lt (Nat.le_trans (Nat.le_trans (Nat.le_trans K145.1 E160.1) E162.1) K170.1)) (Nat.le_of_eq g172.symm)))
              have ne219 : a130 ≠ a160 := (Nat.ne_of_lt (Nat.lt_of_lt_of_le (Nat.lt_of_lt_of_le S135.1.lt K145.1) (Nat.le_of_eq g160.symm)))
              have ne220 : b135 ≠ a160 := (Nat.ne_of_lt (Nat.lt_of_lt_of_le (Nat.lt_of_lt_of_le S135.2.2.2.lt K145.1) (Nat.le_of_eq g160.symm)))
              have f221 := (((((((S135.keep K145 (ninS (Ne.symm ne138) nin0) (ninS ne214 nin0)).keep K160 nin0 nin0).keep K162 nin0 nin0).keep K170 (ninS ne215 nin0) (ninS ne216 nin0)).keep K172 nin0 nin0).keep K179 (ninS ne217 nin0) (ninS ne218 nin0)).keep K189 (ninS ne219 nin0) (ninS ne220 nin0))
              have ne222 : b179 ≠ a160 := (Ne.symm (Nat.ne_of_lt (Nat.lt_of_lt_of_le (Nat.lt_of_lt_of_le X160.lt (Nat.le_trans (Nat.le_trans E162.1 K170.1) E172.1)) g179)))
              have f223 := (S179.keep K189 (ninS (Ne.symm ne182) nin0) (ninS ne222 nin0))
              have f224 := (Sta.keep f188 K189 (nsS (Exa.plain f180) ns0))
              have f226 := (((((((f136.keep K145).keep K160).keep K162).keep K170).keep K172).keep K179).keep K189)
              refine k_callV W 0 26 164 (argsL := [(.ref a160)]) (rest := []) (a := a120) (C := "com/example/lean_envelope/leanenvelope/check/ValidationError") (z0 := (⟨"com/example/lean_envelope/leanenvelope/check/ValidationError", "equals", "(Ljava/lang/Object;)Z"⟩ : MethodName)) (z := (⟨"com/example/lean_envelope/leanenvelope/check/ValidationError", "equals", "(Ljava/lang/Object;)Z"⟩ : MethodName)) d_code_512 (w109 hw) (w110 hw) (nfSel (w112 hw)) (w112 hw) (w111 hw) (by decide) (lenOf pd16 rfl) f226 (ct_veq l Z a0 hw n0 h189 a120 a160 a122 b128 a162 b170 a130 b135 a172 b179 [(36 : Int32), (i2b (p0 &&& (255 : Int32))), (i2b ((XT.ushr p0 (8 : Int32)) &&& (255 : Int32)))] [(36 : Int32), (i2b z86), (i2b z88)] [(i2b (p1 &&& (255 : Int32))), (i2b ((XT.ushr p1 (8 : Int32)) &&& (255 : Int32))), (i2b v82)] [(i2b z92), (i2b z94), (i2b ze)] zc ne201 ne205 ne217 f226 f202 f203 f198 FA189 FB189 f211 f213 f221 f223 f224 hzc) (w113 hw) (w3 hw) (fun x hx => nomatch hx) rfl (Nat.le_of_eq rfl) (Nat.le_of_ble_eq_true rfl) (Nat.le_of_ble_eq_true rfl) ⟨rfl, Nat.le_of_ble_eq_true rfl⟩ ⟨rfl, Nat.le_of_ble_eq_true rfl⟩ rfl (fun _ _ q => by rcases q.1 with ⟨_, u⟩ | ⟨_, u⟩ <;> cases u) fun T h227 v so W hQ => ?_
              obtain ⟨hQ, rfl⟩ := hQ
              rcases hQ with ⟨hP225, hv⟩ | ⟨hP225, hv⟩
              · --
                obtain ⟨e1, e2⟩ := hP225
                have q0 : (i2b (p0 &&& (255 : Int32))) = (i2b z86) := by simpa using congrArg (fun l => l.getD 1 0) e1
                exact absurd (i2b_inj (Rg.and (n := 256) p0 (255 : Int32) (by decide)) rz86 q0) hc197
              · --
                obtain rfl := Option.some.inj hv
                refine k_iload W d_code_515 rfl ?_
                refine k_icN W d_code_517 (show ¬ (¬ (0 : Int32) = (0 : Int32)) by decide) ?_
                refine k_aload W d_code_520 rfl rfl ?_
                refine k_aload W d_code_522 rfl rfl ?_
                refine k_callV W 0 26 164 (argsL := [(.ref a120)]) (rest := []) (a := a160) (C := "com/example/lean_envelope/leanenvelope/check/ValidationError") (z0 := (⟨"com/example/lean_envelope/leanenvelope/check/ValidationError", "equals", "(Ljava/lang/Object;)Z"⟩ : MethodName)) (z := (⟨"com/example/lean_envelope/leanenvelope/check/ValidationError", "equals", "(Ljava/lang/Object;)Z"⟩ : MethodName)) d_code_524 (w109 hw) (w110 hw) (nfSel (w112 hw)) (w112 hw) (w111 hw) (by decide) (lenOf pd16 rfl) f198 (ct_veq l Z a0 hw n0 h189 a160 a120 a162 b170 a122 b128 a172 b179 a130 b135 [(36 : Int32), (i2b z86), (i2b z88)] [(36 : Int32), (i2b (p0 &&& (255 : Int32))), (i2b ((XT.ushr p0 (8 : Int32)) &&& (255 : Int32)))] [(i2b z92), (i2b z94), (i2b ze)] [(i2b (p1 &&& (255 : Int32))), (i2b ((XT.ushr p1 (8 : Int32)) &&& (255 : Int32))), (i2b v82)] zc (Ne.symm ne201) (Ne.symm ne205) (Ne.symm ne217) f198 FA189 FB189 f226 f202 f203 f213 f211 f223 f221 f224 hzc) (w113 hw) (w3 hw) (fun x hx => nomatch hx) rfl (Nat.le_of_eq rfl) (Nat.le_of_ble_eq_true rfl) (Nat.le_of_ble_eq_true rfl) ⟨rfl, Nat.le_of_ble_eq_true rfl⟩ ⟨rfl, Nat.le_of_ble_eq_true rfl⟩ rfl (fun _ _ q => by rcases q.1 with ⟨_, u⟩ | ⟨_, u⟩ <;> cases u) fun T h229 v so W hQ => ?_
                obtain ⟨hQ, rfl⟩ := hQ
                rcases hQ with ⟨hP228, hv⟩ | ⟨hP228, hv⟩
                · --
                  obtain ⟨e1, e2⟩ := hP228
                  have q0 : (i2b z86) = (i2b (p0 &&& (255 : Int32))) := by simpa using congrArg (fun l => l.getD 1 0) e1
                  exact absurd ((i2b_inj rz86 (Rg.and (n := 256) p0 (255 : Int32) (by decide)) q0).symm) hc197
                · --
                  obtain rfl := Option.some.inj hv
                  refine k_iload W d_code_527 rfl ?_
                  refine k_icN W d_code_529 (show ¬ (¬ (0 : Int32) = (0 : Int32)) by decide) ?_
                  refine k_iconst W d_code_532 (z := (1 : Int32)) rfl ?_
                  refine k_goto W 537 d_code_533 (by decide) ?_
                  exact k_retN W (t := .boolean) (z' := (1 : Int32)) d_code_537 rfl (by simp) (by decide) [] (fun x hx => nomatch hx) (Nat.le_of_ble_eq_true rfl) (Nat.le_of_ble_eq_true rfl) rfl
            · -- pc 473
              refine k_iload W d_code_473 rfl ?_
              refine k_iload W d_code_475 rfl ?_
              refine k_ic W 505 d_code_477 (by decide) (fun (hc230 : ¬ ((XT.ushr p0 (8 : Int32)) &&& (255 : Int32)) = z88) => ?_) (fun (hc230 : ¬ (¬ ((XT.ushr p0 (8 : Int32)) &&& (255 : Int32)) = z88)) => ?_)
              · -- pc 505
                refine k_iconst W d_code_505 (z := (0 : Int32)) rfl ?_
                refine k_istore W d_code_506 (L' := #[.val (.int p0), .val (.int p1), .val (.int p2), .val (.int p3), .val (.int p4), .val (.int (p0 &&& (255 : Int32))), .val (.int ((XT.ushr p0 (8 : Int32)) &&& (255 : Int32))), .val (.int (p1 &&& (255 : Int32))), .val (.int ((XT.ushr p1 (8 : Int32)) &&& (255 : Int32))), .val (.int v82), .val (.int z84), .val (.int z86), .val (.int z88), .val (.int z90), .val (.int z92), .val (.int z94), .val (.int ze), .val (.ref a98), .val (.ref a104), .val (.ref a109), .val (.ref a115), .val (.ref a120), .val (.int (p4 &&& (3 : Int32))), .val (.ref a160), .val (.int (0 : Int32))]) rfl ?_
                refine k_aload W d_code_508 rfl rfl ?_
                refine k_aload W d_code_510 rfl rfl ?_
                have f231 := (f180.keep K189)
                have ne232 : a120 ≠ a162 := (Nat.ne_of_lt (Nat.lt_of_lt_of_le (Nat.lt_of_lt_of_le FA145.lt E160.1) (Nat.le_of_eq g162.symm)))
                have ne233 : a120 ≠ a172 := (Nat.ne_of_lt (Nat.lt_of_lt_of_le (Nat.lt_of_lt_of_le FA145.lt (Nat.le_trans (Nat.le_trans E160.1 E162.1) K170.1)) (Nat.le_of_eq g172.symm)))
                have ne234 : a120 ≠ a160 := (Nat.ne_of_lt (Nat.lt_of_lt_of_le FA145.lt (Nat.le_of_eq g160.symm)))
                have f235 := ((((((FA145.keep K160 nin0).keep K162 nin0).keep K170 (ninS ne232 nin0)).keep K172 nin0).keep K179 (ninS ne233 nin0)).keep K189 (ninS ne234 nin0))
                have f236 := ((((((FB145.keep K160 nin0).keep K162 nin0).keep K170 (ninS ne232 nin0)).keep K172 nin0).keep K179 (ninS ne233 nin0)).keep K189 (ninS ne234 nin0))
                have ne237 : b128 ≠ a120 := (Ne.symm (Nat.ne_of_lt (Nat.lt_of_lt_of_le (Nat.lt_of_lt_of_le X120.lt E122.1) g128)))
                have ne238 : a122 ≠ a162 := (Nat.ne_of_lt (Nat.lt_of_lt_of_le (Nat.lt_of_lt_of_le f143.1.lt (Nat.le_trans K145.1 E160.1)) (Nat.le_of_eq g162.symm)))
                have ne239 : b128 ≠ a162 := (Nat.ne_of_lt (Nat.lt_of_lt_of_le (Nat.lt_of_lt_of_le f143.2.2.2.lt (Nat.le_trans K145.1 E160.1)) (Nat.le_of_eq g162.symm)))
                have ne240 : a122 ≠ a172 := (Nat.ne_of_lt (Nat.lt_of_lt_of_le (Nat.lt_of_lt_of_le f143.1.lt (Nat.le_trans (Nat.le_trans (Nat.le_trans K145.1 E160.1) E162.1) K170.1)) (Nat.le_of_eq g172.symm)))
                have ne241 : b128 ≠ a172 := (Nat.ne_of_lt (Nat.lt_of_lt_of_le (Nat.lt_of_lt_of_le f143.2.2.2.lt (Nat.le_trans (Nat.le_trans (Nat.le_trans K145.1 E160.1) E162.1) K170.1)) (Nat.le_of_eq g172.symm)))
                have ne242 : a122 ≠ a160 := (Nat.ne_of_lt (Nat.lt_of_lt_of_le (Nat.lt_of_lt_of_le f143.1.lt K145.1) (Nat.le_of_eq g160.symm)))
                have ne243 : b128 ≠ a160 := (Nat.ne_of_lt (Nat.lt_of_lt_of_le (Nat.lt_of_lt_of_le f143.2.2.2.lt K145.1) (Nat.le_of_eq g160.symm)))
                have f244 := (((((((f143.keep K145 (ninS (Ne.symm ne137) nin0) (ninS ne237 nin0)).keep K160 nin0 nin0).keep K162 nin0 nin0).keep K170 (ninS ne238 nin0) (ninS ne239 nin0)).keep K172 nin0 nin0).keep K179 (ninS ne240 nin0) (ninS ne241 nin0)).keep K189 (ninS ne242 nin0) (ninS ne243 nin0))
                have ne245 : b170 ≠ a160 := (Ne.symm (Nat.ne_of_lt (Nat.lt_of_lt_of_le (Nat.lt_of_lt_of_le X160.lt E162.1) g170)))
                have f246 := (f187.keep K189 (ninS (Ne.symm ne181) nin0) (ninS ne245 nin0))
                have ne247 : b135 ≠ a120 := (Ne.symm (Nat.ne_of_lt (Nat.lt_of_lt_of_le (Nat.lt_of_lt_of_le X120.lt (Nat.le_trans (Nat.le_trans E122.1 K128.1) E130.1)) g135)))
                have ne248 : a130 ≠ a162 := (Nat.ne_of_lt (Nat.lt_of_lt_of_le (Nat.lt_of_lt_of_le S135.1.lt (Nat.le_trans K145.1 E160.1)) (Nat.le_of_eq g162.symm)))
                have ne249 : b135 ≠ a162 := (Nat.ne_of_lt (Nat.lt_of_lt_of_le (Nat.lt_of_lt_of_le S135.2.2.2.lt (Nat.le_trans K145.1 E160.1)) (Nat.le_of_eq g162.symm)))
                have ne250 : a130 ≠ a172 := (Nat.ne_of_lt (Nat.lt_of_lt_of_le (Nat.lt_of_lt_of_le S135.1.lt (Nat.le_trans (Nat.le_trans (Nat.le_trans K145.1 E160.1) E162.1) K170.1)) (Nat.le_of_eq g172.symm)))
                have ne251 : b135 ≠ a172 := (Nat.ne_of_lt (Nat.lt_of_lt_of_le (Nat.lt_of_lt_of_le S135.2.2.2.lt (Nat.le_trans (Nat.le_trans (Nat.le_trans K145.1 E160.1) E162.1) K170.1)) (Nat.le_of_eq g172.symm)))
                have ne252 : a130 ≠ a160 := (Nat.ne_of_lt (Nat.lt_of_lt_of_le (Nat.lt_of_lt_of_le S135.1.lt K145.1) (Nat.le_of_eq g160.symm)))
                have ne253 : b135 ≠ a160 := (Nat.ne_of_lt (Nat.lt_of_lt_of_le (Nat.lt_of_lt_of_le S135.2.2.2.lt K145.1) (Nat.le_of_eq g160.symm)))
                have f254 := (((((((S135.keep K145 (ninS (Ne.symm ne138) nin0) (ninS ne247 nin0)).keep K160 nin0 nin0).keep K162 nin0 nin0).keep K170 (ninS ne248 nin0) (ninS ne249 nin0)).keep K172 nin0 nin0).keep K179 (ninS ne250 nin0) (ninS ne251 nin0)).keep K189 (ninS ne252 nin0) (ninS ne253 nin0))
                have ne255 : b179 ≠ a160 := (Ne.symm (Nat.ne_of_lt (Nat.lt_of_lt_of_le (Nat.lt_of_lt_of_le X160.lt (Nat.le_trans (Nat.le_trans E162.1 K170.1) E172.1)) g179)))
                have f256 := (S179.keep K189 (ninS (Ne.symm ne182) nin0) (ninS ne255 nin0))
                have f257 := (Sta.keep f188 K189 (nsS (Exa.plain f180) ns0))
                have f259 := (((((((f136.keep K145).keep K160).keep K162).keep K170).keep K172).keep K179).keep K189)
                refine k_callV W 0 26 164 (argsL := [(.ref a160)]) (rest := []) (a := a120) (C := "com/example/lean_envelope/leanenvelope/check/ValidationError") (z0 := (⟨"com/example/lean_envelope/leanenvelope/check/ValidationError", "equals", "(Ljava/lang/Object;)Z"⟩ : MethodName)) (z := (⟨"com/example/lean_envelope/leanenvelope/check/ValidationError", "equals", "(Ljava/lang/Object;)Z"⟩ : MethodName)) d_code_512 (w109 hw) (w110 hw) (nfSel (w112 hw)) (w112 hw) (w111 hw) (by decide) (lenOf pd16 rfl) f259 (ct_veq l Z a0 hw n0 h189 a120 a160 a122 b128 a162 b170 a130 b135 a172 b179 [(36 : Int32), (i2b (p0 &&& (255 : Int32))), (i2b ((XT.ushr p0 (8 : Int32)) &&& (255 : Int32)))] [(36 : Int32), (i2b z86), (i2b z88)] [(i2b (p1 &&& (255 : Int32))), (i2b ((XT.ushr p1 (8 : Int32)) &&& (255 : Int32))), (i2b v82)] [(i2b z92), (i2b z94), (i2b ze)] zc ne234 ne238 ne250 f259 f235 f236 f231 FA189 FB189 f244 f246 f254 f256 f257 hzc) (w113 hw) (w3 hw) (fun x hx => nomatch hx) rfl (Nat.le_of_eq rfl) (Nat.le_of_ble_eq_true rfl) (Nat.le_of_ble_eq_true rfl) ⟨rfl, Nat.le_of_ble_eq_true rfl⟩ ⟨rfl, Nat.le_of_ble_eq_true rfl⟩ rfl (fun _ _ q => by rcases q.1 with ⟨_, u⟩ | ⟨_, u⟩ <;> cases u) fun T h260 v so W hQ => ?_
                obtain ⟨hQ, rfl⟩ := hQ
                rcases hQ with ⟨hP258, hv⟩ | ⟨hP258, hv⟩
                · --
                  obtain ⟨e1, e2⟩ := hP258
                  have q0 : (i2b ((XT.ushr p0 (8 : Int32)) &&& (255 : Int32))) = (i2b z88) := by simpa using congrArg (fun l => l.getD 2 0) e1
                  exact absurd (i2b_inj (Rg.and (n := 256) (XT.ushr p0 (8 : Int32)) (255 : Int32) (by decide)) rz88 q0) hc230
                · --
                  obtain rfl := Option.some.inj hv
                  refine k_iload W d_code_515 rfl ?_
                  refine k_icN W d_code_517 (show ¬ (¬ (0 : Int32) = (0 : Int32)) by decide) ?_
                  refine k_aload W d_code_520 rfl rfl ?_
                  refine k_aload W d_code_522 rfl rfl ?_
                  refine k_callV W 0 26 164 (argsL := [(.ref a120)]) (rest := []) (a := a160) (C := "com/example/lean_envelope/leanenvelope/check/ValidationError") (z0 := (⟨"com/example/lean_envelope/leanenvelope/check/ValidationError", "equals", "(Ljava/lang/Object;)Z"⟩ : MethodName)) (z := (⟨"com/example/lean_envelope/leanenvelope/check/ValidationError", "equals", "(Ljava/lang/Object;)Z"⟩ : MethodName)) d_code_524 (w109 hw) (w110 hw) (nfSel (w112 hw)) (w112 hw) (w111 hw) (by decide) (lenOf pd16 rfl) f231 (ct_veq l Z a0 hw n0 h189 a160 a120 a162 b170 a122 b128 a172 b179 a130 b135 [(36 : Int32), (i2b z86), (i2b z88)] [(36 : Int32), (i2b (p0 &&& (255 : Int32))), (i2b ((XT.ushr p0 (8 : Int32)) &&& (255 : Int32)))] [(i2b z92), (i2b z94), (i2b ze)] [(i2b (p1 &&& (255 : Int32))), (i2b ((XT.ushr p1 (8 : Int32)) &&& (255 : Int32))), (i2b v82)] zc (Ne.symm ne234) (Ne.symm ne238) (Ne.symm ne250) f231 FA189 FB189 f259 f235 f236 f246 f244 f256 f254 f257 hzc) (w113 hw) (w3 hw) (fun x hx => nomatch hx) rfl (Nat.le_of_eq rfl) (Nat.le_of_ble_eq_true rfl) (Nat.le_of_ble_eq_true rfl) ⟨rfl, Nat.le_of_ble_eq_true rfl⟩ ⟨rfl, Nat.le_of_ble_eq_true rfl⟩ rfl (fun _ _ q => by rcases q.1 with ⟨_, u⟩ | ⟨_, u⟩ <;> cases u) fun T h262 v so W hQ => ?_
                  obtain ⟨hQ, rfl⟩ := hQ
                  rcases hQ with ⟨hP261, hv⟩ | ⟨hP261, hv⟩
                  · --
                    obtain ⟨e1, e2⟩ := hP261
                    have q0 : (i2b z88) = (i2b ((XT.ushr p0 (8 : Int32)) &&& (255 : Int32))) := by simpa using congrArg (fun l => l.getD 2 0) e1
                    exact absurd ((i2b_inj rz88 (Rg.and (n := 256) (XT.ushr p0 (8 : Int32)) (255 : Int32) (by decide)) q0).symm) hc230
                  · --
                    obtain rfl := Option.some.inj hv
                    refine k_iload W d_code_527 rfl ?_
                    refine k_icN W d_code_529 (show ¬ (¬ (0 : Int32) = (0 : Int32)) by decide) ?_
                    refine k_iconst W d_code_532 (z := (1 : Int32)) rfl ?_
                    refine k_goto W 537 d_code_533 (by decide) ?_
                    exact k_retN W (t := .boolean) (z' := (1 : Int32)) d_code_537 rfl (by simp) (by decide) [] (fun x hx => nomatch hx) (Nat.le_of_ble_eq_true rfl) (Nat.le_of_ble_eq_true rfl) rfl
              · -- pc 480
                refine k_iload W d_code_480 rfl ?_
                refine k_iload W d_code_482 rfl ?_
                refine k_ic W 505 d_code_484 (by decide) (fun (hc263 : ¬ (p1 &&& (255 : Int32)) = z92) => ?_) (fun (hc263 : ¬ (¬ (p1 &&& (255 : Int32)) = z92)) => ?_)
                · -- pc 505
                  refine k_iconst W d_code_505 (z := (0 : Int32)) rfl ?_
                  refine k_istore W d_code_506 (L' := #[.val (.int p0), .val (.int p1), .val (.int p2), .val (.int p3), .val (.int p4), .val (.int (p0 &&& (255 : Int32))), .val (.int ((XT.ushr p0 (8 : Int32)) &&& (255 : Int32))), .val (.int (p1 &&& (255 : Int32))), .val (.int ((XT.ushr p1 (8 : Int32)) &&& (255 : Int32))), .val (.int v82), .val (.int z84), .val (.int z86), .val (.int z88), .val (.int z90), .val (.int z92), .val (.int z94), .val (.int ze), .val (.ref a98), .val (.ref a104), .val (.ref a109), .val (.ref a115), .val (.ref a120), .val (.int (p4 &&& (3 : Int32))), .val (.ref a160), .val (.int (0 : Int32))]) rfl ?_
                  refine k_aload W d_code_508 rfl rfl ?_
                  refine k_aload W d_code_510 rfl rfl ?_
                  have f264 := (f180.keep K189)
                  have ne265 : a120 ≠ a162 := (Nat.ne_of_lt (Nat.lt_of_lt_of_le (Nat.lt_of_lt_of_le FA145.lt E160.1) (Nat.le_of_eq g162.symm)))
                  have ne266 : a120 ≠ a172 := (Nat.ne_of_lt (Nat.lt_of_lt_of_le (Nat.lt_of_lt_of_le FA145.lt (Nat.le_trans (Nat.le_trans E160.1 E162.1) K170.1)) (Nat.le_of_eq g172.symm)))
                  have ne267 : a120 ≠ a160 := (Nat.ne_of_lt (Nat.lt_of_lt_of_le FA145.lt (Nat.le_of_eq g160.symm)))
                  have f268 := ((((((FA145.keep K160 nin0).keep K162 nin0).keep K170 (ninS ne265 nin0)).keep K172 nin0).keep K179 (ninS ne266 nin0)).keep K189 (ninS ne267 nin0))
                  have f269 := ((((((FB145.keep K160 nin0).keep K162 nin0).keep K170 (ninS ne265 nin0)).keep K172 nin0).keep K179 (ninS ne266 nin0)).keep K189 (ninS ne267 nin0))
                  have ne270 : b128 ≠ a120 := (Ne.symm (Nat.ne_of_lt (Nat.lt_of_lt_of_le (Nat.lt_of_lt_of_le X120.lt E122.1) g128)))
                  have ne271 : a122 ≠ a162 := (Nat.ne_of_lt (Nat.lt_of_lt_of_le (Nat.lt_of_lt_of_le f143.1.lt (Nat.le_trans K145.1 E160.1)) (Nat.le_of_eq g162.symm)))
                  have ne272 : b128 ≠ a162 := (Nat.ne_of_lt (Nat.lt_of_lt_of_le (Nat.lt_of_lt_of_le f143.2.2.2.lt (Nat.le_trans K145.1 E160.1)) (Nat.le_of_eq g162.symm)))
                  have ne273 : a122 ≠ a172 := (Nat.ne_of_lt (Nat.lt_of_lt_of_le (Nat.lt_of_lt_of_le f143.1.lt (Nat.le_trans (Nat.le_trans (Nat.le_trans K145.1 E160.1) E162.1) K170.1)) (Nat.le_of_eq g172.symm)))
                  have ne274 : b128 ≠ a172 := (Nat.ne_of_lt (Nat.lt_of_lt_of_le (Nat.lt_of_lt_of_le f143.2.2.2.lt (Nat.le_trans (Nat.le_trans (Nat.le_trans K145.1 E160.1) E162.1) K170.1)) (Nat.le_of_eq g172.symm)))
                  have ne275 : a122 ≠ a160 := (Nat.ne_of_lt (Nat.lt_of_lt_of_le (Nat.lt_of_lt_of_le f143.1.lt K145.1) (Nat.le_of_eq g160.symm)))
                  have ne276 : b128 ≠ a160 := (Nat.ne_of_lt (Nat.lt_of_lt_of_le (Nat.lt_of_lt_of_le f143.2.2.2.lt K145.1) (Nat.le_of_eq g160.symm)))
                  have f277 := (((((((f143.keep K145 (ninS (Ne.symm ne137) nin0) (ninS ne270 nin0)).keep K160 nin0 nin0).keep K162 nin0 nin0).keep K170 (ninS ne271 nin0) (ninS ne272 nin0)).keep K172 nin0 nin0).keep K179 (ninS ne273 nin0) (ninS ne274 nin0)).keep K189 (ninS ne275 nin0) (ninS ne276 nin0))
                  have ne278 : b170 ≠ a160 := (Ne.symm (Nat.ne_of_lt (Nat.lt_of_lt_of_le (Nat.lt_of_lt_of_le X160.lt E162.1) g170)))
                  have f279 := (f187.keep K189 (ninS (Ne.symm ne181) nin0) (ninS ne278 nin0))
                  have ne280 : b135 ≠ a120 := (Ne.symm (Nat.ne_of_lt (Nat.lt_of_lt_of_le (Nat.lt_of_lt_of_le X120.lt (Nat.le_trans (Nat.le_trans E122.1 K128.1) E130.1)) g135)))
                  have ne281 : a130 ≠ a162 := (Nat.ne_of_lt (Nat.lt_of_lt_of_le (Nat.lt_of_lt_of_le S135.1.lt (Nat.le_trans K145.1 E160.1)) (Nat.le_of_eq g162.symm)))
                  have ne282 : b135 ≠ a162 := (Nat.ne_of_lt (Nat.lt_of_lt_of_le (Nat.lt_of_lt_of_le S135.2.2.2.lt (Nat.le_trans K145.1 E160.1)) (Nat.le_of_eq g162.symm)))
                  have ne283 : a130 ≠ a172 := (Nat.ne_of_lt (Nat.lt_of_lt_of_le (Nat.lt_of_lt_of_le S135.1.lt (Nat.le_trans (Nat.le_trans (Nat.le_trans K145.1 E160.1) E162.1) K170.1)) (Nat.le_of_eq g172.symm)))
                  have ne284 : b135 ≠ a172 := (Nat.ne_of_lt (Nat.lt_of_lt_of_le (Nat.lt_of_lt_of_le S135.2.2.2.lt (Nat.le_trans (Nat.le_trans (Nat.le_trans K145.1 E160.1) E162.1) K170.1)) (Nat.le_of_eq g172.symm)))
                  have ne285 : a130 ≠ a160 := (Nat.ne_of_lt (Nat.lt_of_lt_of_le (Nat.lt_of_lt_of_le S135.1.lt K145.1) (Nat.le_of_eq g160.symm)))
                  have ne286 : b135 ≠ a160 := (Nat.ne_of_lt (Nat.lt_of_lt_of_le (Nat.lt_of_lt_of_le S135.2.2.2.lt K145.1) (Nat.le_of_eq g160.symm)))
                  have f287 := (((((((S135.keep K145 (ninS (Ne.symm ne138) nin0) (ninS ne280 nin0)).keep K160 nin0 nin0).keep K162 nin0 nin0).keep K170 (ninS ne281 nin0) (ninS ne282 nin0)).keep K172 nin0 nin0).keep K179 (ninS ne283 nin0) (ninS ne284 nin0)).keep K189 (ninS ne285 nin0) (ninS ne286 nin0))
                  have ne288 : b179 ≠ a160 := (Ne.symm (Nat.ne_of_lt (Nat.lt_of_lt_of_le (Nat.lt_of_lt_of_le X160.lt (Nat.le_trans (Nat.le_trans E162.1 K170.1) E172.1)) g179)))
                  have f289 := (S179.keep K189 (ninS (Ne.symm ne182) nin0) (ninS ne288 nin0))
                  have f290 := (Sta.keep f188 K189 (nsS (Exa.plain f180) ns0))
                  have f292 := (((((((f136.keep K145).keep K160).keep K162).keep K170).keep K172).keep K179).keep K189)
                  refine k_callV W 0 26 164 (argsL := [(.ref a160)]) (rest := []) (a := a120) (C := "com/example/lean_envelope/leanenvelope/check/ValidationError") (z0 := (⟨"com/example/lean_envelope/leanenvelope/check/ValidationError", "equals", "(Ljava/lang/Object;)Z"⟩ : MethodName)) (z := (⟨"com/example/lean_envelope/leanenvelope/check/ValidationError", "equals", "(Ljava/lang/Object;)Z"⟩ : MethodName)) d_code_512 (w109 hw) (w110 hw) (nfSel (w112 hw)) (w112 hw) (w111 hw) (by decide) (lenOf pd16 rfl) f292 (ct_veq l Z a0 hw n0 h189 a120 a160 a122 b128 a162 b170 a130 b135 a172 b179 [(36 : Int32), (i2b (p0 &&& (255 : Int32))), (i2b ((XT.ushr p0 (8 : Int32)) &&& (255 : Int32)))] [(36 : Int32), (i2b z86), (i2b z88)] [(i2b (p1 &&& (255 : Int32))), (i2b ((XT.ushr p1 (8 : Int32)) &&& (255 : Int32))), (i2b v82)] [(i2b z92), (i2b z94), (i2b ze)] zc ne267 ne271 ne283 f292 f268 f269 f264 FA189 FB189 f277 f279 f287 f289 f290 hzc) (w113 hw) (w3 hw) (fun x hx => nomatch hx) rfl (Nat.le_of_eq rfl) (Nat.le_of_ble_eq_true rfl) (Nat.le_of_ble_eq_true rfl) ⟨rfl, Nat.le_of_ble_eq_true rfl⟩ ⟨rfl, Nat.le_of_ble_eq_true rfl⟩ rfl (fun _ _ q => by rcases q.1 with ⟨_, u⟩ | ⟨_, u⟩ <;> cases u) fun T h293 v so W hQ => ?_
                  obtain ⟨hQ, rfl⟩ := hQ
                  rcases hQ with ⟨hP291, hv⟩ | ⟨hP291, hv⟩
                  · --
                    obtain ⟨e1, e2⟩ := hP291
                    have q0 : (i2b (p1 &&& (255 : Int32))) = (i2b z92) := by simpa using congrArg (fun l => l.getD 0 0) e2
                    exact absurd (i2b_inj (Rg.and (n := 256) p1 (255 : Int32) (by decide)) rz92 q0) hc263
                  · --
                    obtain rfl := Option.some.inj hv
                    refine k_iload W d_code_515 rfl ?_
                    refine k_icN W d_code_517 (show ¬ (¬ (0 : Int32) = (0 : Int32)) by decide) ?_
                    refine k_aload W d_code_520 rfl rfl ?_
                    refine k_aload W d_code_522 rfl rfl ?_
                    refine k_callV W 0 26 164 (argsL := [(.ref a120)]) (rest := []) (a := a160) (C := "com/example/lean_envelope/leanenvelope/check/ValidationError") (z0 := (⟨"com/example/lean_envelope/leanenvelope/check/ValidationError", "equals", "(Ljava/lang/Object;)Z"⟩ : MethodName)) (z := (⟨"com/example/lean_envelope/leanenvelope/check/ValidationError", "equals", "(Ljava/lang/Object;)Z"⟩ : MethodName)) d_code_524 (w109 hw) (w110 hw) (nfSel (w112 hw)) (w112 hw) (w111 hw) (by decide) (lenOf pd16 rfl) f264 (ct_veq l Z a0 hw n0 h189 a160 a120 a162 b170 a122 b128 a172 b179 a130 b135 [(36 : Int32), (i2b z86), (i2b z88)] [(36 : Int32), (i2b (p0 &&& (255 : Int32))), (i2b ((XT.ushr p0 (8 : Int32)) &&& (255 : Int32)))] [(i2b z92), (i2b z94), (i2b ze)] [(i2b (p1 &&& (255 : Int32))), (i2b ((XT.ushr p1 (8 : Int32)) &&& (255 : Int32))), (i2b v82)] zc (Ne.symm ne267) (Ne.symm ne271) (Ne.symm ne283) f264 FA189 FB189 f292 f268 f269 f279 f277 f289 f287 f290 hzc) (w113 hw) (w3 hw) (fun x hx => nomatch hx) rfl (Nat.le_of_eq rfl) (Nat.le_of_ble_eq_true rfl) (Nat.le_of_ble_eq_true rfl) ⟨rfl, Nat.le_of_ble_eq_true rfl⟩ ⟨rfl, Nat.le_of_ble_eq_true rfl⟩ rfl (fun _ _ q => by rcases q.1 with ⟨_, u⟩ | ⟨_, u⟩ <;> cases u) fun T h295 v so W hQ => ?_
                    obtain ⟨hQ, rfl⟩ := hQ
                    rcases hQ with ⟨hP294, hv⟩ | ⟨hP294, hv⟩
                    · --
                      obtain ⟨e1, e2⟩ := hP294
                      have q0 : (i2b z92) = (i2b (p1 &&& (255 : Int32))) := by simpa using congrArg (fun l => l.getD 0 0) e2
                      exact absurd ((i2b_inj rz92 (Rg.and (n := 256) p1 (255 : Int32) (by decide)) q0).symm) hc263
                    · --
                      obtain rfl := Option.some.inj hv
                      refine k_iload W d_code_527 rfl ?_
                      refine k_icN W d_code_529 (show ¬ (¬ (0 : Int32) = (0 : Int32)) by decide) ?_
                      refine k_iconst W d_code_532 (z := (1 : Int32)) rfl ?_
                      refine k_goto W 537 d_code_533 (by decide) ?_
                      exact k_retN W (t := .boolean) (z' := (1 : Int32)) d_code_537 rfl (by simp) (by decide) [] (fun x hx => nomatch hx) (Nat.le_of_ble_eq_true rfl) (Nat.le_of_ble_eq_true rfl) rfl
                · -- pc 487
                  refine k_iload W d_code_487 rfl ?_
                  refine k_iload W d_code_489 rfl ?_
                  refine k_ic W 505 d_code_491 (by decide) (fun (hc296 : ¬ ((XT.ushr p1 (8 : Int32)) &&& (255 : Int32)) = z94) => ?_) (fun (hc296 : ¬ (¬ ((XT.ushr p1 (8 : Int32)) &&& (255 : Int32)) = z94)) => ?_)
                  · -- pc 505
                    refine k_iconst W d_code_505 (z := (0 : Int32)) rfl ?_
                    refine k_istore W d_code_506 (L' := #[.val (.int p0), .val (.int p1), .val (.int p2), .val (.int p3), .val (.int p4), .val (.int (p0 &&& (255 : Int32))), .val (.int ((XT.ushr p0 (8 : Int32)) &&& (255 : Int32))), .val (.int (p1 &&& (255 : Int32))), .val (.int ((XT.ushr p1 (8 : Int32)) &&& (255 : Int32))), .val (.int v82), .val (.int z84), .val (.int z86), .val (.int z88), .val (.int z90), .val (.int z92), .val (.int z94), .val (.int ze), .val (.ref a98), .val (.ref a104), .val (.ref a109), .val (.ref a115), .val (.ref a120), .val (.int (p4 &&& (3 : Int32))), .val (.ref a160), .val (.int (0 : Int32))]) rfl ?_
                    refine k_aload W d_code_508 rfl rfl ?_
                    refine k_aload W d_code_510 rfl rfl ?_
                    have f297 := (f180.keep K189)
                    have ne298 : a120 ≠ a162 := (Nat.ne_of_lt (Nat.lt_of_lt_of_le (Nat.lt_of_lt_of_le FA145.lt E160.1) (Nat.le_of_eq g162.symm)))
                    have ne299 : a120 ≠ a172 := (Nat.ne_of_lt (Nat.lt_of_lt_of_le (Nat.lt_of_lt_of_le FA145.lt (Nat.le_trans (Nat.le_trans E160.1 E162.1) K170.1)) (Nat.le_of_eq g172.symm)))
                    have ne300 : a120 ≠ a160 := (Nat.ne_of_lt (Nat.lt_of_lt_of_le FA145.lt (Nat.le_of_eq g160.symm)))
                    have f301 := ((((((FA145.keep K160 nin0).keep K162 nin0).keep K170 (ninS ne298 nin0)).keep K172 nin0).keep K179 (ninS ne299 nin0)).keep K189 (ninS ne300 nin0))
                    have f302 := ((((((FB145.keep K160 nin0).keep K162 nin0).keep K170 (ninS ne298 nin0)).keep K172 nin0).keep K179 (ninS ne299 nin0)).keep K189 (ninS ne300 nin0))
                    have ne303 : b128 ≠ a120 := (Ne.symm (Nat.ne_of_lt (Nat.lt_of_lt_of_le (Nat.lt_of_lt_of_le X120.lt E122.1) g128)))
                    have ne304 : a122 ≠ a162 := (Nat.ne_of_lt (Nat.lt_of_lt_of_le (Nat.lt_of_lt_of_le f143.1.lt (Nat.le_trans K145.1 E160.1)) (Nat.le_of_eq g162.symm)))
                    have ne305 : b128 ≠ a162 := (Nat.ne_of_lt (Nat.lt_of_lt_of_le (Nat.lt_of_lt_of_le f143.2.2.2.lt (Nat.le_trans K145.1 E160.1)) (Nat.le_of_eq g162.symm)))
                    have ne306 : a122 ≠ a172 := (Nat.ne_of_lt (Nat.lt_of_lt_of_le (Nat.lt_of_lt_of_le f143.1.lt (Nat.le_trans (Nat.le_trans (Nat.le_trans K145.1 E160.1) E162.1) K170.1)) (Nat.le_of_eq g172.symm)))
                    have ne307 : b128 ≠ a172 := (Nat.ne_of_lt (Nat.lt_of_lt_of_le (Nat.lt_of_lt_of_le f143.2.2.2.lt (Nat.le_trans (Nat.le_trans (Nat.le_trans K145.1 E160.1) E162.1) K170.1)) (Nat.le_of_eq g172.symm)))
                    have ne308 : a122 ≠ a160 := (Nat.ne_of_lt (Nat.lt_of_lt_of_le (Nat.lt_of_lt_of_le f143.1.lt K145.1) (Nat.le_of_eq g160.symm)))
                    have ne309 : b128 ≠ a160 := (Nat.ne_of_lt (Nat.lt_of_lt_of_le (Nat.lt_of_lt_of_le f143.2.2.2.lt K145.1) (Nat.le_of_eq g160.symm)))
                    have f310 := (((((((f143.keep K145 (ninS (Ne.symm ne137) nin0) (ninS ne303 nin0)).keep K160 nin0 nin0).keep K162 nin0 nin0).keep K170 (ninS ne304 nin0) (ninS ne305 nin0)).keep K172 nin0 nin0).keep K179 (ninS ne306 nin0) (ninS ne307 nin0)).keep K189 (ninS ne308 nin0) (ninS ne309 nin0))
                    have ne311 : b170 ≠ a160 := (Ne.symm (Nat.ne_of_lt (Nat.lt_of_lt_of_le (Nat.lt_of_lt_of_le X160.lt E162.1) g170)))
                    have f312 := (f187.keep K189 (ninS (Ne.symm ne181) nin0) (ninS ne311 nin0))
                    have ne313 : b135 ≠ a120 := (Ne.symm (Nat.ne_of_lt (Nat.lt_of_lt_of_le (Nat.lt_of_lt_of_le X120.lt (Nat.le_trans (Nat.le_trans E122.1 K128.1) E130.1)) g135)))
                    have ne314 : a130 ≠ a162 := (Nat.ne_of_lt (Nat.lt_of_lt_of_le (Nat.lt_of_lt_of_le S135.1.lt (Nat.le_trans K145.1 E160.1)) (Nat.le_of_eq g162.symm)))
                    have ne315 : b135 ≠ a162 := (Nat.ne_of_lt (Nat.lt_of_lt_of_le (Nat.lt_of_lt_of_le S135.2.2.2.lt (Nat.le_trans K145.1 E160.1)) (Nat.le_of_eq g162.symm)))
                    have ne316 : a130 ≠ a172 := (Nat.ne_of_lt (Nat.lt_of_lt_of_le (Nat.lt_of_lt_of_le S135.1.lt (Nat.le_trans (Nat.le_trans (Nat.le_trans K145.1 E160.1) E162.1) K170.1)) (Nat.le_of_eq g172.symm)))
                    have ne317 : b135 ≠ a172 := (Nat.ne_of_lt (Nat.lt_of_lt_of_le (Nat.lt_of_lt_of_le S135.2.2.2.lt (Nat.le_trans (Nat.le_trans (Nat.le_trans K145.1 E160.1) E162.1) K170.1)) (Nat.le_of_eq g172.symm)))
                    have ne318 : a130 ≠ a160 := (Nat.ne_of_lt (Nat.lt_of_lt_of_le (Nat.lt_of_lt_of_le S135.1.lt K145.1) (Nat.le_of_eq g160.symm)))
                    have ne319 : b135 ≠ a160 := (Nat.ne_of_lt (Nat.lt_of_lt_of_le (Nat.lt_of_lt_of_le S135.2.2.2.lt K145.1) (Nat.le_of_eq g160.symm)))
                    have f320 := (((((((S135.keep K145 (ninS (Ne.symm ne138) nin0) (ninS ne313 nin0)).keep K160 nin0 nin0).keep K162 nin0 nin0).keep K170 (ninS ne314 nin0) (ninS ne315 nin0)).keep K172 nin0 nin0).keep K179 (ninS ne316 nin0) (ninS ne317 nin0)).keep K189 (ninS ne318 nin0) (ninS ne319 nin0))
                    have ne321 : b179 ≠ a160 := (Ne.symm (Nat.ne_of_lt (Nat.lt_of_lt_of_le (Nat.lt_of_lt_of_le X160.lt (Nat.le_trans (Nat.le_trans E162.1 K170.1) E172.1)) g179)))
                    have f322 := (S179.keep K189 (ninS (Ne.symm ne182) nin0) (ninS ne321 nin0))
                    have f323 := (Sta.keep f188 K189 (nsS (Exa.plain f180) ns0))
                    have f325 := (((((((f136.keep K145).keep K160).keep K162).keep K170).keep K172).keep K179).keep K189)
                    refine k_callV W 0 26 164 (argsL := [(.ref a160)]) (rest := []) (a := a120) (C := "com/example/lean_envelope/leanenvelope/check/ValidationError") (z0 := (⟨"com/example/lean_envelope/leanenvelope/check/ValidationError", "equals", "(Ljava/lang/Object;)Z"⟩ : MethodName)) (z := (⟨"com/example/lean_envelope/leanenvelope/check/ValidationError", "equals", "(Ljava/lang/Object;)Z"⟩ : MethodName)) d_code_512 (w109 hw) (w110 hw) (nfSel (w112 hw)) (w112 hw) (w111 hw) (by decide) (lenOf pd16 rfl) f325 (ct_veq l Z a0 hw n0 h189 a120 a160 a122 b128 a162 b170 a130 b135 a172 b179 [(36 : Int32), (i2b (p0 &&& (255 : Int32))), (i2b ((XT.ushr p0 (8 : Int32)) &&& (255 : Int32)))] [(36 : Int32), (i2b z86), (i2b z88)] [(i2b (p1 &&& (255 : Int32))), (i2b ((XT.ushr p1 (8 : Int32)) &&& (255 : Int32))), (i2b v82)] [(i2b z92), (i2b z94), (i2b ze)] zc ne300 ne304 ne316 f325 f301 f302 f297 FA189 FB189 f310 f312 f320 f322 f323 hzc) (w113 hw) (w3 hw) (fun x hx => nomatch hx) rfl (Nat.le_of_eq rfl) (Nat.le_of_ble_eq_true rfl) (Nat.le_of_ble_eq_true rfl) ⟨rfl, Nat.le_of_ble_eq_true rfl⟩ ⟨rfl, Nat.le_of_ble_eq_true rfl⟩ rfl (fun _ _ q => by rcases q.1 with ⟨_, u⟩ | ⟨_, u⟩ <;> cases u) fun T h326 v so W hQ => ?_
                    obtain ⟨hQ, rfl⟩ := hQ
                    rcases hQ with ⟨hP324, hv⟩ | ⟨hP324, hv⟩
                    · --
                      obtain ⟨e1, e2⟩ := hP324
                      have q0 : (i2b ((XT.ushr p1 (8 : Int32)) &&& (255 : Int32))) = (i2b z94) := by simpa using congrArg (fun l => l.getD 1 0) e2
                      exact absurd (i2b_inj (Rg.and (n := 256) (XT.ushr p1 (8 : Int32)) (255 : Int32) (by decide)) rz94 q0) hc296
                    · --
                      obtain rfl := Option.some.inj hv
                      refine k_iload W d_code_515 rfl ?_
                      refine k_icN W d_code_517 (show ¬ (¬ (0 : Int32) = (0 : Int32)) by decide) ?_
                      refine k_aload W d_code_520 rfl rfl ?_
                      refine k_aload W d_code_522 rfl rfl ?_
                      refine k_callV W 0 26 164 (argsL := [(.ref a120)]) (rest := []) (a := a160) (C := "com/example/lean_envelope/leanenvelope/check/ValidationError") (z0 := (⟨"com/example/lean_envelope/leanenvelope/check/ValidationError", "equals", "(Ljava/lang/Object;)Z"⟩ : MethodName)) (z := (⟨"com/example/lean_envelope/leanenvelope/check/ValidationError", "equals", "(Ljava/lang/Object;)Z"⟩ : MethodName)) d_code_524 (w109 hw) (w110 hw) (nfSel (w112 hw)) (w112 hw) (w111 hw) (by decide) (lenOf pd16 rfl) f297 (ct_veq l Z a0 hw n0 h189 a160 a120 a162 b170 a122 b128 a172 b179 a130 b135 [(36 : Int32), (i2b z86), (i2b z88)] [(36 : Int32), (i2b (p0 &&& (255 : Int32))), (i2b ((XT.ushr p0 (8 : Int32)) &&& (255 : Int32)))] [(i2b z92), (i2b z94), (i2b ze)] [(i2b (p1 &&& (255 : Int32))), (i2b ((XT.ushr p1 (8 : Int32)) &&& (255 : Int32))), (i2b v82)] zc (Ne.symm ne300) (Ne.symm ne304) (Ne.symm ne316) f297 FA189 FB189 f325 f301 f302 f312 f310 f322 f320 f323 hzc) (w113 hw) (w3 hw) (fun x hx => nomatch hx) rfl (Nat.le_of_eq rfl) (Nat.le_of_ble_eq_true rfl) (Nat.le_of_ble_eq_true rfl) ⟨rfl, Nat.le_of_ble_eq_true rfl⟩ ⟨rfl, Nat.le_of_ble_eq_true rfl⟩ rfl (fun _ _ q => by rcases q.1 with ⟨_, u⟩ | ⟨_, u⟩ <;> cases u) fun T h328 v so W hQ => ?_
                      obtain ⟨hQ, rfl⟩ := hQ
                      rcases hQ with ⟨hP327, hv⟩ | ⟨hP327, hv⟩
                      · --
                        obtain ⟨e1, e2⟩ := hP327
                        have q0 : (i2b z94) = (i2b ((XT.ushr p1 (8 : Int32)) &&& (255 : Int32))) := by simpa using congrArg (fun l => l.getD 1 0) e2
                        exact absurd ((i2b_inj rz94 (Rg.and (n := 256) (XT.ushr p1 (8 : Int32)) (255 : Int32) (by decide)) q0).symm) hc296
                      · --
                        obtain rfl := Option.some.inj hv
                        refine k_iload W d_code_527 rfl ?_
                        refine k_icN W d_code_529 (show ¬ (¬ (0 : Int32) = (0 : Int32)) by decide) ?_
                        refine k_iconst W d_code_532 (z := (1 : Int32)) rfl ?_
                        refine k_goto W 537 d_code_533 (by decide) ?_
                        exact k_retN W (t := .boolean) (z' := (1 : Int32)) d_code_537 rfl (by simp) (by decide) [] (fun x hx => nomatch hx) (Nat.le_of_ble_eq_true rfl) (Nat.le_of_ble_eq_true rfl) rfl
                  · -- pc 494
                    refine k_iload W d_code_494 rfl ?_
                    refine k_iload W d_code_496 rfl ?_
                    refine k_ic W 505 d_code_498 (by decide) (fun (hc329 : ¬ v82 = ze) => ?_) (fun (hc329 : ¬ (¬ v82 = ze)) => ?_)
                    · -- pc 505
                      refine k_iconst W d_code_505 (z := (0 : Int32)) rfl ?_
                      refine k_istore W d_code_506 (L' := #[.val (.int p0), .val (.int p1), .val (.int p2), .val (.int p3), .val (.int p4), .val (.int (p0 &&& (255 : Int32))), .val (.int ((XT.ushr p0 (8 : Int32)) &&& (255 : Int32))), .val (.int (p1 &&& (255 : Int32))), .val (.int ((XT.ushr p1 (8 : Int32)) &&& (255 : Int32))), .val (.int v82), .val (.int z84), .val (.int z86), .val (.int z88), .val (.int z90), .val (.int z92), .val (.int z94), .val (.int ze), .val (.ref a98), .val (.ref a104), .val (.ref a109), .val (.ref a115), .val (.ref a120), .val (.int (p4 &&& (3 : Int32))), .val (.ref a160), .val (.int (0 : Int32))]) rfl ?_
                      refine k_aload W d_code_508 rfl rfl ?_
                      refine k_aload W d_code_510 rfl rfl ?_
                      have f330 := (f180.keep K189)
                      have ne331 : a120 ≠ a162 := (Nat.ne_of_lt (Nat.lt_of_lt_of_le (Nat.lt_of_lt_of_le FA145.lt E160.1) (Nat.le_of_eq g162.symm)))
                      have ne332 : a120 ≠ a172 := (Nat.ne_of_lt (Nat.lt_of_lt_of_le (Nat.lt_of_lt_of_le FA145.lt (Nat.le_trans (Nat.le_trans E160.1 E162.1) K170.1)) (Nat.le_of_eq g172.symm)))
                      have ne333 : a120 ≠ a160 := (Nat.ne_of_lt (Nat.lt_of_lt_of_le FA145.lt (Nat.le_of_eq g160.symm)))
                      have f334 := ((((((FA145.keep K160 nin0).keep K162 nin0).keep K170 (ninS ne331 nin0)).keep K172 nin0).keep K179 (ninS ne332 nin0)).keep K189 (ninS ne333 nin0))
                      have f335 := ((((((FB145.keep K160 nin0).keep K162 nin0).keep K170 (ninS ne331 nin0)).keep K172 nin0).keep K179 (ninS ne332 nin0)).keep K189 (ninS ne333 nin0))
                      have ne336 : b128 ≠ a120 := (Ne.symm (Nat.ne_of_lt (Nat.lt_of_lt_of_le (Nat.lt_of_lt_of_le X120.lt E122.1) g128)))
                      have ne337 : a122 ≠ a162 := (Nat.ne_of_lt (Nat.lt_of_lt_of_le (Nat.lt_of_lt_of_le f143.1.lt (Nat.le_trans K145.1 E160.1)) (Nat.le_of_eq g162.symm)))
                      have ne338 : b128 ≠ a162 := (Nat.ne_of_lt (Nat.lt_of_lt_of_le (Nat.lt_of_lt_of_le f143.2.2.2.lt (Nat.le_trans K145.1 E160.1)) (Nat.le_of_eq g162.symm)))
                      have ne339 : a122 ≠ a172 := (Nat.ne_of_lt (Nat.lt_of_lt_of_le (Nat.lt_of_lt_of_le f143.1.lt (Nat.le_trans (Nat.le_trans (Nat.le_trans K145.1 E160.1) E162.1) K170.1)) (Nat.le_of_eq g172.symm)))
                      have ne340 : b128 ≠ a172 := (Nat.ne_of_lt (Nat.lt_of_lt_of_le (Nat.lt_of_lt_of_le f143.2.2.2.lt (Nat.le_trans (Nat.le_trans (Nat.le_trans K145.1 E160.1) E162.1) K170.1)) (Nat.le_of_eq g172.symm)))
                      have ne341 : a122 ≠ a160 := (Nat.ne_of_lt (Nat.lt_of_lt_of_le (Nat.lt_of_lt_of_le f143.1.lt K145.1) (Nat.le_of_eq g160.symm)))
                      have ne342 : b128 ≠ a160 := (Nat.ne_of_lt (Nat.lt_of_lt_of_le (Nat.lt_of_lt_of_le f143.2.2.2.lt K145.1) (Nat.le_of_eq g160.symm)))
                      have f343 := (((((((f143.keep K145 (ninS (Ne.symm ne137) nin0) (ninS ne336 nin0)).keep K160 nin0 nin0).keep K162 nin0 nin0).keep K170 (ninS ne337 nin0) (ninS ne338 nin0)).keep K172 nin0 nin0).keep K179 (ninS ne339 nin0) (ninS ne340 nin0)).keep K189 (ninS ne341 nin0) (ninS ne342 nin0))
                      have ne344 : b170 ≠ a160 := (Ne.symm (Nat.ne_of_lt (Nat.lt_of_lt_of_le (Nat.lt_of_lt_of_le X160.lt E162.1) g170)))
                      have f345 := (f187.keep K189 (ninS (Ne.symm ne181) nin0) (ninS ne344 nin0))
                      have ne346 : b135 ≠ a120 := (Ne.symm (Nat.ne_of_lt (Nat.lt_of_lt_of_le (Nat.lt_of_lt_of_le X120.lt (Nat.le_trans (Nat.le_trans E122.1 K128.1) E130.1)) g135)))
                      have ne347 : a130 ≠ a162 := (Nat.ne_of_lt (Nat.lt_of_lt_of_le (Nat.lt_of_lt_of_le S135.1.lt (Nat.le_trans K145.1 E160.1)) (Nat.le_of_eq g162.symm)))
                      have ne348 : b135 ≠ a162 := (Nat.ne_of_lt (Nat.lt_of_lt_of_le (Nat.lt_of_lt_of_le S135.2.2.2.lt (Nat.le_trans K145.1 E160.1)) (Nat.le_of_eq g162.symm)))
                      have ne349 : a130 ≠ a172 := (Nat.ne_of_lt (Nat.lt_of_lt_of_le (Nat.lt_of_lt_of_le S135.1.lt (Nat.le_trans (Nat.le_trans (Nat.le_trans K145.1 E160.1) E162.1) K170.1)) (Nat.le_of_eq g172.symm)))
                      have ne350 : b135 ≠ a172 := (Nat.ne_of_lt (Nat.lt_of_lt_of_le (Nat.lt_of_lt_of_le S135.2.2.2.lt (Nat.le_trans (Nat.le_trans (Nat.le_trans K145.1 E160.1) E162.1) K170.1)) (Nat.le_of_eq g172.symm)))
                      have ne351 : a130 ≠ a160 := (Nat.ne_of_lt (Nat.lt_of_lt_of_le (Nat.lt_of_lt_of_le S135.1.lt K145.1) (Nat.le_of_eq g160.symm)))
                      have ne352 : b135 ≠ a160 := (Nat.ne_of_lt (Nat.lt_of_lt_of_le (Nat.lt_of_lt_of_le S135.2.2.2.lt K145.1) (Nat.le_of_eq g160.symm)))
                      have f353 := (((((((S135.keep K145 (ninS (Ne.symm ne138) nin0) (ninS ne346 nin0)).keep K160 nin0 nin0).keep K162 nin0 nin0).keep K170 (ninS ne347 nin0) (ninS ne348 nin0)).keep K172 nin0 nin0).keep K179 (ninS ne349 nin0) (ninS ne350 nin0)).keep K189 (ninS ne351 nin0) (ninS ne352 nin0))
                      have ne354 : b179 ≠ a160 := (Ne.symm (Nat.ne_of_lt (Nat.lt_of_lt_of_le (Nat.lt_of_lt_of_le X160.lt (Nat.le_trans (Nat.le_trans E162.1 K170.1) E172.1)) g179)))
                      have f355 := (S179.keep K189 (ninS (Ne.symm ne182) nin0) (ninS ne354 nin0))
                      have f356 := (Sta.keep f188 K189 (nsS (Exa.plain f180) ns0))
                      have f358 := (((((((f136.keep K145).keep K160).keep K162).keep K170).keep K172).keep K179).keep K189)
                      refine k_callV W 0 26 164 (argsL := [(.ref a160)]) (rest := []) (a := a120) (C := "com/example/lean_envelope/leanenvelope/check/ValidationError") (z0 := (⟨"com/example/lean_envelope/leanenvelope/check/ValidationError", "equals", "(Ljava/lang/Object;)Z"⟩ : MethodName)) (z := (⟨"com/example/lean_envelope/leanenvelope/check/ValidationError", "equals", "(Ljava/lang/Object;)Z"⟩ : MethodName)) d_code_512 (w109 hw) (w110 hw) (nfSel (w112 hw)) (w112 hw) (w111 hw) (by decide) (lenOf pd16 rfl) f358 (ct_veq l Z a0 hw n0 h189 a120 a160 a122 b128 a162 b170 a130 b135 a172 b179 [(36 : Int32), (i2b (p0 &&& (255 : Int32))), (i2b ((XT.ushr p0 (8 : Int32)) &&& (255 : Int32)))] [(36 : Int32), (i2b z86), (i2b z88)] [(i2b (p1 &&& (255 : Int32))), (i2b ((XT.ushr p1 (8 : Int32)) &&& (255 : Int32))), (i2b v82)] [(i2b z92), (i2b z94), (i2b ze)] zc ne333 ne337 ne349 f358 f334 f335 f330 FA189 FB189 f343 f345 f353 f355 f356 hzc) (w113 hw) (w3 hw) (fun x hx => nomatch hx) rfl (Nat.le_of_eq rfl) (Nat.le_of_ble_eq_true rfl) (Nat.le_of_ble_eq_true rfl) ⟨rfl, Nat.le_of_ble_eq_true rfl⟩ ⟨rfl, Nat.le_of_ble_eq_true rfl⟩ rfl (fun _ _ q => by rcases q.1 with ⟨_, u⟩ | ⟨_, u⟩ <;> cases u) fun T h359 v so W hQ => ?_
                      obtain ⟨hQ, rfl⟩ := hQ
                      rcases hQ with ⟨hP357, hv⟩ | ⟨hP357, hv⟩
                      · --
                        obtain ⟨e1, e2⟩ := hP357
                        have q0 : (i2b v82) = (i2b ze) := by simpa using congrArg (fun l => l.getD 2 0) e2
                        exact absurd (i2b_inj (Rg.mono (show Rg v82 97 from (by rw [ev82]; exact Rg.mono (Rg.add (show Rg (33 : Int32) 34 by decide) (Rg.and (n := 64) (XT.ushr p1 (16 : Int32)) (63 : Int32) (by decide)) (by decide)) (by decide))) (by decide)) nwe.1 q0) hc329
                      · --
                        obtain rfl := Option.some.inj hv
                        refine k_iload W d_code_515 rfl ?_
                        refine k_icN W d_code_517 (show ¬ (¬ (0 : Int32) = (0 : Int32)) by decide) ?_
                        refine k_aload W d_code_520 rfl rfl ?_
                        refine k_aload W d_code_522 rfl rfl ?_
                        refine k_callV W 0 26 164 (argsL := [(.ref a120)]) (rest := []) (a := a160) (C := "com/example/lean_envelope/leanenvelope/check/ValidationError") (z0 := (⟨"com/example/lean_envelope/leanenvelope/check/ValidationError", "equals", "(Ljava/lang/Object;)Z"⟩ : MethodName)) (z := (⟨"com/example/lean_envelope/leanenvelope/check/ValidationError", "equals", "(Ljava/lang/Object;)Z"⟩ : MethodName)) d_code_524 (w109 hw) (w110 hw) (nfSel (w112 hw)) (w112 hw) (w111 hw) (by decide) (lenOf pd16 rfl) f330 (ct_veq l Z a0 hw n0 h189 a160 a120 a162 b170 a122 b128 a172 b179 a130 b135 [(36 : Int32), (i2b z86), (i2b z88)] [(36 : Int32), (i2b (p0 &&& (255 : Int32))), (i2b ((XT.ushr p0 (8 : Int32)) &&& (255 : Int32)))] [(i2b z92), (i2b z94), (i2b ze)] [(i2b (p1 &&& (255 : Int32))), (i2b ((XT.ushr p1 (8 : Int32)) &&& (255 : Int32))), (i2b v82)] zc (Ne.symm ne333) (Ne.symm ne337) (Ne.symm ne349) f330 FA189 FB189 f358 f334 f335 f345 f343 f355 f353 f356 hzc) (w113 hw) (w3 hw) (fun x hx => nomatch hx) rfl (Nat.le_of_eq rfl) (Nat.le_of_ble_eq_true rfl) (Nat.le_of_ble_eq_true rfl) ⟨rfl, Nat.le_of_ble_eq_true rfl⟩ ⟨rfl, Nat.le_of_ble_eq_true rfl⟩ rfl (fun _ _ q => by rcases q.1 with ⟨_, u⟩ | ⟨_, u⟩ <;> cases u) fun T h361 v so W hQ => ?_
                        obtain ⟨hQ, rfl⟩ := hQ
                        rcases hQ with ⟨hP360, hv⟩ | ⟨hP360, hv⟩
                        · --
                          obtain ⟨e1, e2⟩ := hP360
                          have q0 : (i2b ze) = (i2b v82) := by simpa using congrArg (fun l => l.getD 2 0) e2
                          exact absurd ((i2b_inj nwe.1 (Rg.mono (show Rg v82 97 from (by rw [ev82]; exact Rg.mono (Rg.add (show Rg (33 : Int32) 34 by decide) (Rg.and (n := 64) (XT.ushr p1 (16 : Int32)) (63 : Int32) (by decide)) (by decide)) (by decide))) (by decide)) q0).symm) hc329
                        · --
                          obtain rfl := Option.some.inj hv
                          refine k_iload W d_code_527 rfl ?_
                          refine k_icN W d_code_529 (show ¬ (¬ (0 : Int32) = (0 : Int32)) by decide) ?_
                          refine k_iconst W d_code_532 (z := (1 : Int32)) rfl ?_
                          refine k_goto W 537 d_code_533 (by decide) ?_
                          exact k_retN W (t := .boolean) (z' := (1 : Int32)) d_code_537 rfl (by simp) (by decide) [] (fun x hx => nomatch hx) (Nat.le_of_ble_eq_true rfl) (Nat.le_of_ble_eq_true rfl) rfl
                    · -- pc 501
                      refine k_iconst W d_code_501 (z := (1 : Int32)) rfl ?_
                      refine k_goto W 506 d_code_502 (by decide) ?_
                      refine k_istore W d_code_506 (L' := #[.val (.int p0), .val (.int p1), .val (.int p2), .val (.int p3), .val (.int p4), .val (.int (p0 &&& (255 : Int32))), .val (.int ((XT.ushr p0 (8 : Int32)) &&& (255 : Int32))), .val (.int (p1 &&& (255 : Int32))), .val (.int ((XT.ushr p1 (8 : Int32)) &&& (255 : Int32))), .val (.int v82), .val (.int z84), .val (.int z86), .val (.int z88), .val (.int z90), .val (.int z92), .val (.int z94), .val (.int ze), .val (.ref a98), .val (.ref a104), .val (.ref a109), .val (.ref a115), .val (.ref a120), .val (.int (p4 &&& (3 : Int32))), .val (.ref a160), .val (.int (1 : Int32))]) rfl ?_
                      refine k_aload W d_code_508 rfl rfl ?_
                      refine k_aload W d_code_510 rfl rfl ?_
                      have f362 := (f180.keep K189)
                      have ne363 : a120 ≠ a162 := (Nat.ne_of_lt (Nat.lt_of_lt_of_le (Nat.lt_of_lt_of_le FA145.lt E160.1) (Nat.le_of_eq g162.symm)))
                      have ne364 : a120 ≠ a172 := (Nat.ne_of_lt (Nat.lt_of_lt_of_le (Nat.lt_of_lt_of_le FA145.lt (Nat.le_trans (Nat.le_trans E160.1 E162.1) K170.1)) (Nat.le_of_eq g172.symm)))
                      have ne365 : a120 ≠ a160 := (Nat.ne_of_lt (Nat.lt_of_lt_of_le FA145.lt (Nat.le_of_eq g160.symm)))
                      have f366 := ((((((FA145.keep K160 nin0).keep K162 nin0).keep K170 (ninS ne363 nin0)).keep K172 nin0).keep K179 (ninS ne364 nin0)).keep K189 (ninS ne365 nin0))
                      have f367 := ((((((FB145.keep K160 nin0).keep K162 nin0).keep K170 (ninS ne363 nin0)).keep K172 nin0).keep K179 (ninS ne364 nin0)).keep K189 (ninS ne365 nin0))
                      have ne368 : b128 ≠ a120 := (Ne.symm (Nat.ne_of_lt (Nat.lt_of_lt_of_le (Nat.lt_of_lt_of_le X120.lt E122.1) g128)))
                      have ne369 : a122 ≠ a162 := (Nat.ne_of_lt (Nat.lt_of_lt_of_le (Nat.lt_of_lt_of_le f143.1.lt (Nat.le_trans K145.1 E160.1)) (Nat.le_of_eq g162.symm)))
                      have ne370 : b128 ≠ a162 := (Nat.ne_of_lt (Nat.lt_of_lt_of_le (Nat.lt_of_lt_of_le f143.2.2.2.lt (Nat.le_trans K145.1 E160.1)) (Nat.le_of_eq g162.symm)))
                      have ne371 : a122 ≠ a172 := (Nat.ne_of_lt (Nat.lt_of_lt_of_le (Nat.lt_of_lt_of_le f143.1.lt (Nat.le_trans (Nat.le_trans (Nat.le_trans K145.1 E160.1) E162.1) K170.1)) (Nat.le_of_eq g172.symm)))
                      have ne372 : b128 ≠ a172 := (Nat.ne_of_lt (Nat.lt_of_lt_of_le (Nat.lt_of_lt_of_le f143.2.2.2.lt (Nat.le_trans (Nat.le_trans (Nat.le_trans K145.1 E160.1) E162.1) K170.1)) (Nat.le_of_eq g172.symm)))
                      have ne373 : a122 ≠ a160 := (Nat.ne_of_lt (Nat.lt_of_lt_of_le (Nat.lt_of_lt_of_le f143.1.lt K145.1) (Nat.le_of_eq g160.symm)))
                      have ne374 : b128 ≠ a160 := (Nat.ne_of_lt (Nat.lt_of_lt_of_le (Nat.lt_of_lt_of_le f143.2.2.2.lt K145.1) (Nat.le_of_eq g160.symm)))
                      have f375 := (((((((f143.keep K145 (ninS (Ne.symm ne137) nin0) (ninS ne368 nin0)).keep K160 nin0 nin0).keep K162 nin0 nin0).keep K170 (ninS ne369 nin0) (ninS ne370 nin0)).keep K172 nin0 nin0).keep K179 (ninS ne371 nin0) (ninS ne372 nin0)).keep K189 (ninS ne373 nin0) (ninS ne374 nin0))
                      have ne376 : b170 ≠ a160 := (Ne.symm (Nat.ne_of_lt (Nat.lt_of_lt_of_le (Nat.lt_of_lt_of_le X160.lt E162.1) g170)))
                      have f377 := (f187.keep K189 (ninS (Ne.symm ne181) nin0) (ninS ne376 nin0))
                      have ne378 : b135 ≠ a120 := (Ne.symm (Nat.ne_of_lt (Nat.lt_of_lt_of_le (Nat.lt_of_lt_of_le X120.lt (Nat.le_trans (Nat.le_trans E122.1 K128.1) E130.1)) g135)))
                      have ne379 : a130 ≠ a162 := (Nat.ne_of_lt (Nat.lt_of_lt_of_le (Nat.lt_of_lt_of_le S135.1.lt (Nat.le_trans K145.1 E160.1)) (Nat.le_of_eq g162.symm)))
                      have ne380 : b135 ≠ a162 := (Nat.ne_of_lt (Nat.lt_of_lt_of_le (Nat.lt_of_lt_of_le S135.2.2.2.lt (Nat.le_trans K145.1 E160.1)) (Nat.le_of_eq g162.symm)))
                      have ne381 : a130 ≠ a172 := (Nat.ne_of_lt (Nat.lt_of_lt_of_le (Nat.lt_of_lt_of_le S135.1.lt (Nat.le_trans (Nat.le_trans (Nat.le_trans K145.1 E160.1) E162.1) K170.1)) (Nat.le_of_eq g172.symm)))
                      have ne382 : b135 ≠ a172 := (Nat.ne_of_lt (Nat.lt_of_lt_of_le (Nat.lt_of_lt_of_le S135.2.2.2.lt (Nat.le_trans (Nat.le_trans (Nat.le_trans K145.1 E160.1) E162.1) K170.1)) (Nat.le_of_eq g172.symm)))
                      have ne383 : a130 ≠ a160 := (Nat.ne_of_lt (Nat.lt_of_lt_of_le (Nat.lt_of_lt_of_le S135.1.lt K145.1) (Nat.le_of_eq g160.symm)))
                      have ne384 : b135 ≠ a160 := (Nat.ne_of_lt (Nat.lt_of_lt_of_le (Nat.lt_of_lt_of_le S135.2.2.2.lt K145.1) (Nat.le_of_eq g160.symm)))
                      have f385 := (((((((S135.keep K145 (ninS (Ne.symm ne138) nin0) (ninS ne378 nin0)).keep K160 nin0 nin0).keep K162 nin0 nin0).keep K170 (ninS ne379 nin0) (ninS ne380 nin0)).keep K172 nin0 nin0).keep K179 (ninS ne381 nin0) (ninS ne382 nin0)).keep K189 (ninS ne383 nin0) (ninS ne384 nin0))
                      have ne386 : b179 ≠ a160 := (Ne.symm (Nat.ne_of_lt (Nat.lt_of_lt_of_le (Nat.lt_of_lt_of_le X160.lt (Nat.le_trans (Nat.le_trans E162.1 K170.1) E172.1)) g179)))
                      have f387 := (S179.keep K189 (ninS (Ne.symm ne182) nin0) (ninS ne386 nin0))
                      have f388 := (Sta.keep f188 K189 (nsS (Exa.plain f180) ns0))
                      have f390 := (((((((f136.keep K145).keep K160).keep K162).keep K170).keep K172).keep K179).keep K189)
                      refine k_callV W 0 26 164 (argsL := [(.ref a160)]) (rest := []) (a := a120) (C := "com/example/lean_envelope/leanenvelope/check/ValidationError") (z0 := (⟨"com/example/lean_envelope/leanenvelope/check/ValidationError", "equals", "(Ljava/lang/Object;)Z"⟩ : MethodName)) (z := (⟨"com/example/lean_envelope/leanenvelope/check/ValidationError", "equals", "(Ljava/lang/Object;)Z"⟩ : MethodName)) d_code_512 (w109 hw) (w110 hw) (nfSel (w112 hw)) (w112 hw) (w111 hw) (by decide) (lenOf pd16 rfl) f390 (ct_veq l Z a0 hw n0 h189 a120 a160 a122 b128 a162 b170 a130 b135 a172 b179 [(36 : Int32), (i2b (p0 &&& (255 : Int32))), (i2b ((XT.ushr p0 (8 : Int32)) &&& (255 : Int32)))] [(36 : Int32), (i2b z86), (i2b z88)] [(i2b (p1 &&& (255 : Int32))), (i2b ((XT.ushr p1 (8 : Int32)) &&& (255 : Int32))), (i2b v82)] [(i2b z92), (i2b z94), (i2b ze)] zc ne365 ne369 ne381 f390 f366 f367 f362 FA189 FB189 f375 f377 f385 f387 f388 hzc) (w113 hw) (w3 hw) (fun x hx => nomatch hx) rfl (Nat.le_of_eq rfl) (Nat.le_of_ble_eq_true rfl) (Nat.le_of_ble_eq_true rfl) ⟨rfl, Nat.le_of_ble_eq_true rfl⟩ ⟨rfl, Nat.le_of_ble_eq_true rfl⟩ rfl (fun _ _ q => by rcases q.1 with ⟨_, u⟩ | ⟨_, u⟩ <;> cases u) fun T h391 v so W hQ => ?_
                      obtain ⟨hQ, rfl⟩ := hQ
                      rcases hQ with ⟨hP389, hv⟩ | ⟨hP389, hv⟩
                      · --
                        obtain rfl := Option.some.inj hv
                        refine k_iload W d_code_515 rfl ?_
                        refine k_icN W d_code_517 (show ¬ (¬ (1 : Int32) = (1 : Int32)) by decide) ?_
                        refine k_aload W d_code_520 rfl rfl ?_
                        refine k_aload W d_code_522 rfl rfl ?_
                        refine k_callV W 0 26 164 (argsL := [(.ref a120)]) (rest := []) (a := a160) (C := "com/example/lean_envelope/leanenvelope/check/ValidationError") (z0 := (⟨"com/example/lean_envelope/leanenvelope/check/ValidationError", "equals", "(Ljava/lang/Object;)Z"⟩ : MethodName)) (z := (⟨"com/example/lean_envelope/leanenvelope/check/ValidationError", "equals", "(Ljava/lang/Object;)Z"⟩ : MethodName)) d_code_524 (w109 hw) (w110 hw) (nfSel (w112 hw)) (w112 hw) (w111 hw) (by decide) (lenOf pd16 rfl) f362 (ct_veq l Z a0 hw n0 h189 a160 a120 a162 b170 a122 b128 a172 b179 a130 b135 [(36 : Int32), (i2b z86), (i2b z88)] [(36 : Int32), (i2b (p0 &&& (255 : Int32))), (i2b ((XT.ushr p0 (8 : Int32)) &&& (255 : Int32)))] [(i2b z92), (i2b z94), (i2b ze)] [(i2b (p1 &&& (255 : Int32))), (i2b ((XT.ushr p1 (8 : Int32)) &&& (255 : Int32))), (i2b v82)] zc (Ne.symm ne365) (Ne.symm ne369) (Ne.symm ne381) f362 FA189 FB189 f390 f366 f367 f377 f375 f387 f385 f388 hzc) (w113 hw) (w3 hw) (fun x hx => nomatch hx) rfl (Nat.le_of_eq rfl) (Nat.le_of_ble_eq_true rfl) (Nat.le_of_ble_eq_true rfl) ⟨rfl, Nat.le_of_ble_eq_true rfl⟩ ⟨rfl, Nat.le_of_ble_eq_true rfl⟩ rfl (fun _ _ q => by rcases q.1 with ⟨_, u⟩ | ⟨_, u⟩ <;> cases u) fun T h393 v so W hQ => ?_
                        obtain ⟨hQ, rfl⟩ := hQ
                        rcases hQ with ⟨hP392, hv⟩ | ⟨hP392, hv⟩
                        · --
                          obtain rfl := Option.some.inj hv
                          refine k_iload W d_code_527 rfl ?_
                          refine k_icN W d_code_529 (show ¬ (¬ (1 : Int32) = (1 : Int32)) by decide) ?_
                          refine k_iconst W d_code_532 (z := (1 : Int32)) rfl ?_
                          refine k_goto W 537 d_code_533 (by decide) ?_
                          exact k_retN W (t := .boolean) (z' := (1 : Int32)) d_code_537 rfl (by simp) (by decide) [] (fun x hx => nomatch hx) (Nat.le_of_ble_eq_true rfl) (Nat.le_of_ble_eq_true rfl) rfl
                        · --
                          exact absurd ⟨by rw [Classical.not_not.mp hc197, Classical.not_not.mp hc230], by rw [Classical.not_not.mp hc263, Classical.not_not.mp hc296, Classical.not_not.mp hc329]⟩ hP392
                      · --
                        exact absurd ⟨by rw [Classical.not_not.mp hc197, Classical.not_not.mp hc230], by rw [Classical.not_not.mp hc263, Classical.not_not.mp hc296, Classical.not_not.mp hc329]⟩ hP389
          · -- pc 406
            refine k_aload W d_code_406 rfl rfl ?_
            refine k_new W 16 92 d_code_408 (w4 hw) (w5 hw) (w6 hw) ⟨rfl, Nat.le_of_ble_eq_true rfl⟩ ⟨rfl, Nat.le_of_ble_eq_true rfl⟩ fun T h394 a395 g395 W E395 X395 D395 => ?_
            have K395 : Keep h145 h394 [] := keep_ext E395 []
            refine k_dup W d_code_411 rfl ?_
            refine k_aload W d_code_412 rfl rfl ?_
            have ne396 : a98 ≠ a122 := (Nat.ne_of_lt (Nat.lt_of_lt_of_le (Nat.lt_of_lt_of_le A101.lt (Nat.le_trans (Nat.le_trans (Nat.le_trans (Nat.le_trans (Nat.le_trans (Nat.le_trans (Nat.le_trans (Nat.le_trans (Nat.le_trans (Nat.le_trans (Nat.le_trans (Nat.le_trans E104.1 K105.1) K106.1) K107.1) E109.1) K110.1) K111.1) K112.1) E115.1) K116.1) K117.1) K118.1) E120.1)) (Nat.le_of_eq g122.symm)))
            have ne397 : a98 ≠ a130 := (Nat.ne_of_lt (Nat.lt_of_lt_of_le (Nat.lt_of_lt_of_le f126.lt K128.1) (Nat.le_of_eq g130.symm)))
            have ne398 : a98 ≠ a120 := (Nat.ne_of_lt (Nat.lt_of_lt_of_le (Nat.lt_of_lt_of_le A101.lt (Nat.le_trans (Nat.le_trans (Nat.le_trans (Nat.le_trans (Nat.le_trans (Nat.le_trans (Nat.le_trans (Nat.le_trans (Nat.le_trans (Nat.le_trans (Nat.le_trans E104.1 K105.1) K106.1) K107.1) E109.1) K110.1) K111.1) K112.1) E115.1) K116.1) K117.1) K118.1)) (Nat.le_of_eq g120.symm)))
            have f399 := (((((f126.keep K128 (ninS ne396 nin0)).keep K130 nin0).keep K135 (ninS ne397 nin0)).keep K145 (ninS ne398 nin0)).keep K395 nin0)
            have f400 := (Sta.keep (Sta.keep f144 K145 (nsS (Exa.plain f136) ns0)) K395 ns0)
            refine k_callI0 W 2 17 95 (argsL := [(.ref a98)]) (rest := [(.ref a395), (.ref a120)]) (a := a395) d_code_414 rfl rfl (w7 hw) (w8 hw) (by decide) (lenOf pd17 rfl) (ct_sinit l Z a0 hw n0 h394 a395 a98 [(36 : Int32), (p0 &&& (255 : Int32)), ((XT.ushr p0 (8 : Int32)) &&& (255 : Int32))] 3 zc .null (.int (0 : Int32)) X395 (D395 (Or.inr (w32 hw)) (ty := (.array .byte)) (by decide)) (D395 (Or.inr (w30 hw)) (ty := .byte) (by decide)) f399 f400 hzc (rgS (by decide) (rgS (Rg.and (n := 256) p0 (255 : Int32) (by decide)) (rgS (Rg.and (n := 256) (XT.ushr p0 (8 : Int32)) (255 : Int32) (by decide)) (fun _ q => nomatch q)))) (Nat.le_of_ble_eq_true rfl) (Nat.le_of_ble_eq_true rfl) (by decide)) (w9 hw) (w6 hw) (fun x hx => by simp only [List.mem_cons, List.not_mem_nil, or_false] at hx; rcases hx with rfl; all_goals first | exact (List.mem_of_getElem? (i := 0) rfl)) rfl (Nat.le_of_eq rfl) (Nat.le_of_ble_eq_true rfl) (Nat.le_of_ble_eq_true rfl) ⟨rfl, Nat.le_of_ble_eq_true rfl⟩ ⟨rfl, Nat.le_of_ble_eq_true rfl⟩ rfl (fun _ _ _ q => nomatch q.1) fun T h401 so W hQ => ?_
            obtain ⟨-, b401, g401, K401, S401⟩ := hQ
            have S401 : St Z h401 a395 b401 [(36 : Int32), (i2b (p0 &&& (255 : Int32))), (i2b ((XT.ushr p0 (8 : Int32)) &&& (255 : Int32)))] := S401
            have f402 := (((f136.keep K145).keep K395).keep K401)
            refine k_callV W 0 17 95 (argsL := [(.ref a395)]) (rest := []) (a := a120) (C := "com/example/lean_envelope/leanenvelope/check/ValidationError") (z0 := (⟨"com/example/lean_envelope/leanenvelope/check/ValidationError", "equals", "(Ljava/lang/Object;)Z"⟩ : MethodName)) (z := (⟨"com/example/lean_envelope/leanenvelope/check/ValidationError", "equals", "(Ljava/lang/Object;)Z"⟩ : MethodName)) d_code_417 (w109 hw) (w110 hw) (nfSel (w112 hw)) (w112 hw) (w111 hw) (by decide) (lenOf pd16 rfl) f402 (ct_veqS l Z a0 hw n0 h401 a120 a395 f402 S401.1) (w113 hw) (w3 hw) (fun x hx => nomatch hx) rfl (Nat.le_of_eq rfl) (Nat.le_of_ble_eq_true rfl) (Nat.le_of_ble_eq_true rfl) ⟨rfl, Nat.le_of_ble_eq_true rfl⟩ ⟨rfl, Nat.le_of_ble_eq_true rfl⟩ rfl (fun _ _ q => nomatch q.1) fun T h403 v so W hQ => ?_
            obtain ⟨hv, rfl, -⟩ := hQ
            obtain rfl := Option.some.inj hv
            refine k_ifN W d_code_420 (show ¬ (¬ (0 : Int32) = 0) by decide) ?_
            refine k_iconst W d_code_423 (z := (1 : Int32)) rfl ?_
            refine k_goto W 428 d_code_424 (by decide) ?_
            exact k_retN W (t := .boolean) (z' := (1 : Int32)) d_code_428 rfl (by simp) (by decide) [] (fun x hx => nomatch hx) (Nat.le_of_ble_eq_true rfl) (Nat.le_of_ble_eq_true rfl) rfl
        · -- pc 385
          refine k_aload W d_code_385 rfl rfl ?_
          refine k_aconst W d_code_387 ?_
          have f405 := (f136.keep K145)
          refine k_callV W 0 15 88 (argsL := [.null]) (rest := []) (a := a120) (C := "com/example/lean_envelope/leanenvelope/check/ValidationError") (z0 := (⟨"com/example/lean_envelope/leanenvelope/check/ValidationError", "equals", "(Ljava/lang/Object;)Z"⟩ : MethodName)) (z := (⟨"com/example/lean_envelope/leanenvelope/check/ValidationError", "equals", "(Ljava/lang/Object;)Z"⟩ : MethodName)) d_code_388 (w109 hw) (w110 hw) (nfSel (w112 hw)) (w112 hw) (w111 hw) (by decide) (lenOf pd16 rfl) f405 (ct_veqN l Z a0 hw n0 h145 a120) (w113 hw) (w3 hw) (fun x hx => nomatch hx) rfl (Nat.le_of_eq rfl) (Nat.le_of_ble_eq_true rfl) (Nat.le_of_ble_eq_true rfl) ⟨rfl, Nat.le_of_ble_eq_true rfl⟩ ⟨rfl, Nat.le_of_ble_eq_true rfl⟩ rfl (fun _ _ q => nomatch q.1) fun T h404 v so W hQ => ?_
          obtain ⟨hv, rfl, -⟩ := hQ
          obtain rfl := Option.some.inj hv
          refine k_ifN W d_code_391 (show ¬ (¬ (0 : Int32) = 0) by decide) ?_
          refine k_iconst W d_code_394 (z := (1 : Int32)) rfl ?_
          refine k_goto W 399 d_code_395 (by decide) ?_
          exact k_retN W (t := .boolean) (z' := (1 : Int32)) d_code_399 rfl (by simp) (by decide) [] (fun x hx => nomatch hx) (Nat.le_of_ble_eq_true rfl) (Nat.le_of_ble_eq_true rfl) rfl
      · -- pc 371
        refine k_aload W d_code_371 rfl rfl ?_
        refine k_aload W d_code_373 rfl rfl ?_
        have f407 := (f136.keep K145)
        refine k_callV W 0 15 88 (argsL := [(.ref a120)]) (rest := []) (a := a120) (C := "com/example/lean_envelope/leanenvelope/check/ValidationError") (z0 := (⟨"com/example/lean_envelope/leanenvelope/check/ValidationError", "equals", "(Ljava/lang/Object;)Z"⟩ : MethodName)) (z := (⟨"com/example/lean_envelope/leanenvelope/check/ValidationError", "equals", "(Ljava/lang/Object;)Z"⟩ : MethodName)) d_code_375 (w109 hw) (w110 hw) (nfSel (w112 hw)) (w112 hw) (w111 hw) (by decide) (lenOf pd16 rfl) f407 (ct_veqI l Z a0 hw n0 h145 a120) (w113 hw) (w3 hw) (fun x hx => nomatch hx) rfl (Nat.le_of_eq rfl) (Nat.le_of_ble_eq_true rfl) (Nat.le_of_ble_eq_true rfl) ⟨rfl, Nat.le_of_ble_eq_true rfl⟩ ⟨rfl, Nat.le_of_ble_eq_true rfl⟩ rfl (fun _ _ q => nomatch q.1) fun T h406 v so W hQ => ?_
        obtain ⟨hv, rfl, -⟩ := hQ
        obtain rfl := Option.some.inj hv
        exact k_retN W (t := .boolean) (z' := (1 : Int32)) d_code_378 rfl (by simp) (by decide) [] (fun x hx => nomatch hx) (Nat.le_of_ble_eq_true rfl) (Nat.le_of_ble_eq_true rfl) rfl
    · -- pc 289
      refine k_iconst W d_code_289 (z := (2 : Int32)) rfl ?_
      refine k_newarr W 2 4 11 d_code_290 (w0 hw) (by decide) (by decide) ⟨rfl, Nat.le_of_ble_eq_true rfl⟩ ⟨rfl, Nat.le_of_ble_eq_true rfl⟩ fun T h408 a409 g409 W E409 A409 => ?_
      have K409 : Keep h112 h408 [] := keep_ext E409 []
      have A409 : Av Z h408 a409 .char [(.int (0 : Int32)), (.int (0 : Int32))] := A409
      refine k_astore W d_code_292 rfl (L' := #[.val (.int p0), .val (.int p1), .val (.int p2), .val (.int p3), .val (.int p4), .val (.int (p0 &&& (255 : Int32))), .val (.int ((XT.ushr p0 (8 : Int32)) &&& (255 : Int32))), .val (.int (p1 &&& (255 : Int32))), .val (.int ((XT.ushr p1 (8 : Int32)) &&& (255 : Int32))), .val (.int v82), .val (.int z84), .val (.int z86), .val (.int z88), .val (.int z90), .val (.int z92), .val (.int z94), .val (.int ze), .val (.ref a98), .val (.ref a104), .val (.ref a109), .val (.ref a409), .unset, .unset, .unset, .unset]) rfl ?_
      refine k_aload W d_code_294 rfl rfl ?_
      refine k_iconst W d_code_296 (z := (0 : Int32)) rfl ?_
      refine k_iload W d_code_297 rfl ?_
      refine k_castore W (z := z92) 0 d_code_299 (List.mem_of_getElem? (i := 0) rfl) A409 (by decide) (Nat.le_of_ble_eq_true rfl) (Rg.nar (Rg.mono rz92 (by decide))) (Rg.fits (Rg.mono rz92 (by decide))) fun T h410 W Wr410 A410 => ?_
      have K410 : Keep h408 h410 [a409] := Keep.of_wr Wr410
      have A410 : Av Z h410 a409 .char [(.int z92), (.int (0 : Int32))] := A410
      refine k_aload W d_code_300 rfl rfl ?_
      refine k_iconst W d_code_302 (z := (1 : Int32)) rfl ?_
      refine k_iload W d_code_303 rfl ?_
      refine k_castore W (z := ze) 1 d_code_305 (List.mem_of_getElem? (i := 0) rfl) A410 (by decide) (Nat.le_of_ble_eq_true rfl) (Rg.nar (Rg.mono nwe.1 (by decide))) (Rg.fits (Rg.mono nwe.1 (by decide))) fun T h411 W Wr411 A411 => ?_
      have K411 : Keep h410 h411 [a409] := Keep.of_wr Wr411
      have A411 : Av Z h411 a409 .char [(.int z92), (.int ze)] := A411
      refine k_goto W 332 d_code_306 (by decide) ?_
      refine k_new W 5 13 d_code_332 (w1 hw) (w2 hw) (w3 hw) ⟨rfl, Nat.le_of_ble_eq_true rfl⟩ ⟨rfl, Nat.le_of_ble_eq_true rfl⟩ fun T h412 a413 g413 W E413 X413 D413 => ?_
      have K413 : Keep h411 h412 [] := keep_ext E413 []
      refine k_dup W d_code_335 rfl ?_
      refine k_new W 6 17 d_code_336 (w4 hw) (w5 hw) (w6 hw) ⟨rfl, Nat.le_of_ble_eq_true rfl⟩ ⟨rfl, Nat.le_of_ble_eq_true rfl⟩ fun T h414 a415 g415 W E415 X415 D415 => ?_
      have K415 : Keep h412 h414 [] := keep_ext E415 []
      refine k_dup W d_code_339 rfl ?_
      refine k_aload W d_code_340 rfl rfl ?_
      have ne416 : a98 ≠ a104 := (Nat.ne_of_lt (Nat.lt_of_lt_of_le A101.lt (Nat.le_of_eq g104.symm)))
      have ne417 : a98 ≠ a109 := (Nat.ne_of_lt (Nat.lt_of_lt_of_le (Nat.lt_of_lt_of_le A101.lt (Nat.le_trans (Nat.le_trans (Nat.le_trans E104.1 K105.1) K106.1) K107.1)) (Nat.le_of_eq g109.symm)))
      have ne418 : a98 ≠ a409 := (Nat.ne_of_lt (Nat.lt_of_lt_of_le (Nat.lt_of_lt_of_le A101.lt (Nat.le_trans (Nat.le_trans (Nat.le_trans (Nat.le_trans (Nat.le_trans (Nat.le_trans (Nat.le_trans E104.1 K105.1) K106.1) K107.1) E109.1) K110.1) K111.1) K112.1)) (Nat.le_of_eq g409.symm)))
      have f419 := (((((((((((((A101.keep K104 nin0).keep K105 (ninS ne416 nin0)).keep K106 (ninS ne416 nin0)).keep K107 (ninS ne416 nin0)).keep K109 nin0).keep K110 (ninS ne417 nin0)).keep K111 (ninS ne417 nin0)).keep K112 (ninS ne417 nin0)).keep K409 nin0).keep K410 (ninS ne418 nin0)).keep K411 (ninS ne418 nin0)).keep K413 nin0).keep K415 nin0)
      have f420 := (Sta.keep (Sta.keep (Sta.keep (Sta.keep (Sta.keep (Sta.keep (Sta.keep (Sta.keep (Sta.keep (Sta.keep (Sta.keep (Sta.keep (Sta.keep (Sta.keep (Sta.keep (Sta.keep (Sta.keep P0 K98 ns0) K99 (nsS (Av.plain A98) ns0)) K100 (nsS (Av.plain A99) ns0)) K101 (nsS (Av.plain A100) ns0)) K104 ns0) K105 (nsS (Av.plain A104) ns0)) K106 (nsS (Av.plain A105) ns0)) K107 (nsS (Av.plain A106) ns0)) K109 ns0) K110 (nsS (Av.plain A109) ns0)) K111 (nsS (Av.plain A110) ns0)) K112 (nsS (Av.plain A111) ns0)) K409 ns0) K410 (nsS (Av.plain A409) ns0)) K411 (nsS (Av.plain A410) ns0)) K413 ns0) K415 ns0)
      refine k_callI0 W 3 7 20 (argsL := [(.ref a98)]) (rest := [(.ref a415), (.ref a413), (.ref a413)]) (a := a415) d_code_342 rfl rfl (w7 hw) (w8 hw) (by decide) (lenOf pd17 rfl) (ct_sinit l Z a0 hw n0 h414 a415 a98 [(36 : Int32), (p0 &&& (255 : Int32)), ((XT.ushr p0 (8 : Int32)) &&& (255 : Int32))] 3 zc .null (.int (0 : Int32)) X415 (D415 (Or.inr (w32 hw)) (ty := (.array .byte)) (by decide)) (D415 (Or.inr (w30 hw)) (ty := .byte) (by decide)) f419 f420 hzc (rgS (by decide) (rgS (Rg.and (n := 256) p0 (255 : Int32) (by decide)) (rgS (Rg.and (n := 256) (XT.ushr p0 (8 : Int32)) (255 : Int32) (by decide)) (fun _ q => nomatch q)))) (Nat.le_of_ble_eq_true rfl) (Nat.le_of_ble_eq_true rfl) (by decide)) (w9 hw) (w6 hw) (fun x hx => by simp only [List.mem_cons, List.not_mem_nil, or_false] at hx; rcases hx with rfl; all_goals first | exact (List.mem_of_getElem? (i := 0) rfl)) rfl (Nat.le_of_eq rfl) (Nat.le_of_ble_eq_true rfl) (Nat.le_of_ble_eq_true rfl) ⟨rfl, Nat.le_of_ble_eq_true rfl⟩ ⟨rfl, Nat.le_of_ble_eq_true rfl⟩ rfl (fun _ _ _ q => nomatch q.1) fun T h421 so W hQ => ?_
      obtain ⟨-, b421, g421, K421, S421⟩ := hQ
      have S421 : St Z h421 a415 b421 [(36 : Int32), (i2b (p0 &&& (255 : Int32))), (i2b ((XT.ushr p0 (8 : Int32)) &&& (255 : Int32)))] := S421
      refine k_new W 8 24 d_code_345 (w4 hw) (w5 hw) (w6 hw) ⟨rfl, Nat.le_of_ble_eq_true rfl⟩ ⟨rfl, Nat.le_of_ble_eq_true rfl⟩ fun T h422 a423 g423 W E423 X423 D423 => ?_
      have K423 : Keep h421 h422 [] := keep_ext E423 []
      refine k_dup W d_code_348 rfl ?_
      refine k_aload W d_code_349 rfl rfl ?_
      have ne424 : a109 ≠ a409 := (Nat.ne_of_lt (Nat.lt_of_lt_of_le A112.lt (Nat.le_of_eq g409.symm)))
      have ne425 : a109 ≠ a415 := (Nat.ne_of_lt (Nat.lt_of_lt_of_le (Nat.lt_of_lt_of_le A112.lt (Nat.le_trans (Nat.le_trans (Nat.le_trans E409.1 K410.1) K411.1) E413.1)) (Nat.le_of_eq g415.symm)))
      have f426 := (((((((A112.keep K409 nin0).keep K410 (ninS ne424 nin0)).keep K411 (ninS ne424 nin0)).keep K413 nin0).keep K415 nin0).keep K421 (ninS ne425 nin0)).keep K423 nin0)
      have f427 := (Sta.keep (Sta.keep f420 K421 (nsS (Exa.plain X415) ns0)) K423 ns0)
      refine k_callI0 W 4 9 27 (argsL := [(.ref a109)]) (rest := [(.ref a423), (.ref a415), (.ref a413), (.ref a413)]) (a := a423) d_code_351 rfl rfl (w7 hw) (w8 hw) (by decide) (lenOf pd17 rfl) (ct_sinit l Z a0 hw n0 h422 a423 a109 [(p1 &&& (255 : Int32)), ((XT.ushr p1 (8 : Int32)) &&& (255 : Int32)), v82] 3 zc .null (.int (0 : Int32)) X423 (D423 (Or.inr (w32 hw)) (ty := (.array .byte)) (by decide)) (D423 (Or.inr (w30 hw)) (ty := .byte) (by decide)) f426 f427 hzc (rgS (Rg.and (n := 256) p1 (255 : Int32) (by decide)) (rgS (Rg.and (n := 256) (XT.ushr p1 (8 : Int32)) (255 : Int32) (by decide)) (rgS (Rg.mono (show Rg v82 97 from (by rw [ev82]; exact Rg.mono (Rg.add (show Rg (33 : Int32) 34 by decide) (Rg.and (n := 64) (XT.ushr p1 (16 : Int32)) (63 : Int32) (by decide)) (by decide)) (by decide))) (by decide)) (fun _ q => nomatch q)))) (Nat.le_of_ble_eq_true rfl) (Nat.le_of_ble_eq_true rfl) (by decide)) (w9 hw) (w6 hw) (fun x hx => by simp only [List.mem_cons, List.not_mem_nil, or_false] at hx; rcases hx with rfl; all_goals first | exact (List.mem_of_getElem? (i := 0) rfl)) rfl (Nat.le_of_eq rfl) (Nat.le_of_ble_eq_true rfl) (Nat.le_of_ble_eq_true rfl) ⟨rfl, Nat.le_of_ble_eq_true rfl⟩ ⟨rfl, Nat.le_of_ble_eq_true rfl⟩ rfl (fun _ _ _ q => nomatch q.1) fun T h428 so W hQ => ?_
      obtain ⟨-, b428, g428, K428, S428⟩ := hQ
      have S428 : St Z h428 a423 b428 [(i2b (p1 &&& (255 : Int32))), (i2b ((XT.ushr p1 (8 : Int32)) &&& (255 : Int32))), (i2b v82)] := S428
      have f429 := ((((X413.keep K415).keep K421).keep K423).keep K428)
      have ne430 : a413 ≠ a415 := (Nat.ne_of_lt (Nat.lt_of_lt_of_le X413.lt (Nat.le_of_eq g415.symm)))
      have ne431 : a413 ≠ a423 := (Nat.ne_of_lt (Nat.lt_of_lt_of_le (Nat.lt_of_lt_of_le X413.lt (Nat.le_trans E415.1 K421.1)) (Nat.le_of_eq g423.symm)))
      have f432 := (((((D413 (Or.inr (w106 hw)) (ty := (.object "java/lang/String")) (by decide)).keep K415 nin0).keep K421 (ninS ne430 nin0)).keep K423 nin0).keep K428 (ninS ne431 nin0))
      have f433 := (((((D413 (Or.inr (w108 hw)) (ty := (.object "java/lang/String")) (by decide)).keep K415 nin0).keep K421 (ninS ne430 nin0)).keep K423 nin0).keep K428 (ninS ne431 nin0))
      have ne434 : a415 ≠ a423 := (Nat.ne_of_lt (Nat.lt_of_lt_of_le S421.1.lt (Nat.le_of_eq g423.symm)))
      have ne435 : b421 ≠ a423 := (Nat.ne_of_lt (Nat.lt_of_lt_of_le S421.2.2.2.lt (Nat.le_of_eq g423.symm)))
      have f436 := ((S421.keep K423 nin0 nin0).keep K428 (ninS ne434 nin0) (ninS ne435 nin0))
      have f437 := (Sta.keep f427 K428 (nsS (Exa.plain X423) ns0))
      have f439 := (Sta.keep (Sta.keep (Sta.keep (Sta.keep (Sta.keep (Sta.keep (Sta.keep (Sta.keep (Sta.keep (Sta.keep (Sta.keep (Sta.keep (Sta.keep (Sta.keep (Sta.keep (Sta.keep (Sta.keep (Sta.keep (Sta.keep (Sta.keep CI K98 ns0) K99 (nsS (Av.plain A98) ns0)) K100 (nsS (Av.plain A99) ns0)) K101 (nsS (Av.plain A100) ns0)) K104 ns0) K105 (nsS (Av.plain A104) ns0)) K106 (nsS (Av.plain A105) ns0)) K107 (nsS (Av.plain A106) ns0)) K109 ns0) K110 (nsS (Av.plain A109) ns0)) K111 (nsS (Av.plain A110) ns0)) K112 (nsS (Av.plain A111) ns0)) K409 ns0) K410 (nsS (Av.plain A409) ns0)) K411 (nsS (Av.plain A410) ns0)) K413 ns0) K415 ns0) K421 (nsS (Exa.plain X415) ns0)) K423 ns0) K428 (nsS (Exa.plain X423) ns0))
      have f440 := ((((((((((((((((((((CX.keep K98).keep K99).keep K100).keep K101).keep K104).keep K105).keep K106).keep K107).keep K109).keep K110).keep K111).keep K112).keep K409).keep K410).keep K411).keep K413).keep K415).keep K421).keep K423).keep K428)
      have f441 := (Sta.keep (Sta.keep (Sta.keep (Sta.keep (Sta.keep (Sta.keep (Sta.keep (Sta.keep (Sta.keep (Sta.keep (Sta.keep (Sta.keep (Sta.keep (Sta.keep (Sta.keep (Sta.keep (Sta.keep (Sta.keep (Sta.keep (Sta.keep CA K98 ns0) K99 (nsS (Av.plain A98) ns0)) K100 (nsS (Av.plain A99) ns0)) K101 (nsS (Av.plain A100) ns0)) K104 ns0) K105 (nsS (Av.plain A104) ns0)) K106 (nsS (Av.plain A105) ns0)) K107 (nsS (Av.plain A106) ns0)) K109 ns0) K110 (nsS (Av.plain A109) ns0)) K111 (nsS (Av.plain A110) ns0)) K112 (nsS (Av.plain A111) ns0)) K409 ns0) K410 (nsS (Av.plain A409) ns0)) K411 (nsS (Av.plain A410) ns0)) K413 ns0) K415 ns0) K421 (nsS (Exa.plain X415) ns0)) K423 ns0) K428 (nsS (Exa.plain X423) ns0))
      have ne442 : ca ≠ a98 := (Nat.ne_of_lt (Nat.lt_of_lt_of_le CV.lt (Nat.le_of_eq g98.symm)))
      have ne443 : ca ≠ a104 := (Nat.ne_of_lt (Nat.lt_of_lt_of_le (Nat.lt_of_lt_of_le CV.lt (Nat.le_trans (Nat.le_trans (Nat.le_trans E98.1 K99.1) K100.1) K101.1)) (Nat.le_of_eq g104.symm)))
      have ne444 : ca ≠ a109 := (Nat.ne_of_lt (Nat.lt_of_lt_of_le (Nat.lt_of_lt_of_le CV.lt (Nat.le_trans (Nat.le_trans (Nat.le_trans (Nat.le_trans (Nat.le_trans (Nat.le_trans (Nat.le_trans E98.1 K99.1) K100.1) K101.1) E104.1) K105.1) K106.1) K107.1)) (Nat.le_of_eq g109.symm)))
      have ne445 : ca ≠ a409 := (Nat.ne_of_lt (Nat.lt_of_lt_of_le (Nat.lt_of_lt_of_le CV.lt (Nat.le_trans (Nat.le_trans (Nat.le_trans (Nat.le_trans (Nat.le_trans (Nat.le_trans (Nat.le_trans (Nat.le_trans (Nat.le_trans (Nat.le_trans (Nat.le_trans E98.1 K99.1) K100.1) K101.1) E104.1) K105.1) K106.1) K107.1) E109.1) K110.1) K111.1) K112.1)) (Nat.le_of_eq g409.symm)))
      have ne446 : ca ≠ a415 := (Nat.ne_of_lt (Nat.lt_of_lt_of_le (Nat.lt_of_lt_of_le CV.lt (Nat.le_trans (Nat.le_trans (Nat.le_trans (Nat.le_trans (Nat.le_trans (Nat.le_trans (Nat.le_trans (Nat.le_trans (Nat.le_trans (Nat.le_trans (Nat.le_trans (Nat.le_trans (Nat.le_trans (Nat.le_trans (Nat.le_trans E98.1 K99.1) K100.1) K101.1) E104.1) K105.1) K106.1) K107.1) E109.1) K110.1) K111.1) K112.1) E409.1) K410.1) K411.1) E413.1)) (Nat.le_of_eq g415.symm)))
      have ne447 : ca ≠ a423 := (Nat.ne_of_lt (Nat.lt_of_lt_of_le (Nat.lt_of_lt_of_le CV.lt (Nat.le_trans (Nat.le_trans (Nat.le_trans (Nat.le_trans (Nat.le_trans (Nat.le_trans (Nat.le_trans (Nat.le_trans (Nat.le_trans (Nat.le_trans (Nat.le_trans (Nat.le_trans (Nat.le_trans (Nat.le_trans (Nat.le_trans (Nat.le_trans (Nat.le_trans E98.1 K99.1) K100.1) K101.1) E104.1) K105.1) K106.1) K107.1) E109.1) K110.1) K111.1) K112.1) E409.1) K410.1) K411.1) E413.1) E415.1) K421.1)) (Nat.le_of_eq g423.symm)))
      have f448 := ((((((((((((((((((((CV.keep K98 nin0).keep K99 (ninS ne442 nin0)).keep K100 (ninS ne442 nin0)).keep K101 (ninS ne442 nin0)).keep K104 nin0).keep K105 (ninS ne443 nin0)).keep K106 (ninS ne443 nin0)).keep K107 (ninS ne443 nin0)).keep K109 nin0).keep K110 (ninS ne444 nin0)).keep K111 (ninS ne444 nin0)).keep K112 (ninS ne444 nin0)).keep K409 nin0).keep K410 (ninS ne445 nin0)).keep K411 (ninS ne445 nin0)).keep K413 nin0).keep K415 nin0).keep K421 (ninS ne446 nin0)).keep K423 nin0).keep K428 (ninS ne447 nin0))
      refine k_callI0 W 1 15 87 (argsL := [(.ref a415), (.ref a423)]) (rest := [(.ref a413)]) (a := a413) d_code_354 rfl rfl (w33 hw) (w34 hw) (by decide) (lenOf pd18 rfl) (ct_veinit l Z a0 hw n0 h428 cd ca a413 a415 b421 a423 b428 [(i2b (p0 &&& (255 : Int32))), (i2b ((XT.ushr p0 (8 : Int32)) &&& (255 : Int32)))] [(i2b (p1 &&& (255 : Int32))), (i2b ((XT.ushr p1 (8 : Int32)) &&& (255 : Int32))), (i2b v82)] zc 2 (i2b v82) rfl (by rw [lo_i2b (Rg.mono (show Rg v82 97 from (by rw [ev82]; exact Rg.mono (Rg.add (show Rg (33 : Int32) 34 by decide) (Rg.and (n := 64) (XT.ushr p1 (16 : Int32)) (63 : Int32) (by decide)) (by decide)) (by decide))) (by decide))]; exact nw9) f429 f432 f433 f436 S428 f437 hzc f439 f440 f441 f448) (w35 hw) (w3 hw) (fun x hx => by simp only [List.mem_cons, List.not_mem_nil, or_false] at hx; rcases hx with rfl; all_goals first | exact (List.mem_of_getElem? (i := 2) rfl)) rfl (Nat.le_of_eq rfl) (Nat.le_of_ble_eq_true rfl) (Nat.le_of_ble_eq_true rfl) ⟨rfl, Nat.le_of_ble_eq_true rfl⟩ ⟨rfl, Nat.le_of_ble_eq_true rfl⟩ rfl (fun _ _ _ q => nomatch q.1) fun T h438 so W hQ => ?_
      obtain ⟨-, K438, FA438, FB438⟩ := hQ
      refine k_astore W d_code_357 rfl (L' := #[.val (.int p0), .val (.int p1), .val (.int p2), .val (.int p3), .val (.int p4), .val (.int (p0 &&& (255 : Int32))), .val (.int ((XT.ushr p0 (8 : Int32)) &&& (255 : Int32))), .val (.int (p1 &&& (255 : Int32))), .val (.int ((XT.ushr p1 (8 : Int32)) &&& (255 : Int32))), .val (.int v82), .val (.int z84), .val (.int z86), .val (.int z88), .val (.int z90), .val (.int z92), .val (.int z94), .val (.int ze), .val (.ref a98), .val (.ref a104), .val (.ref a109), .val (.ref a409), .val (.ref a413), .unset, .unset, .unset]) rfl ?_
      refine k_iload W d_code_359 rfl ?_
      refine k_iconst W d_code_361 (z := (3 : Int32)) rfl ?_
      refine k_iand W d_code_362 (z := (p4 &&& (3 : Int32))) rfl ?_
      refine k_istore W d_code_363 (L' := #[.val (.int p0), .val (.int p1), .val (.int p2), .val (.int p3), .val (.int p4), .val (.int (p0 &&& (255 : Int32))), .val (.int ((XT.ushr p0 (8 : Int32)) &&& (255 : Int32))), .val (.int (p1 &&& (255 : Int32))), .val (.int ((XT.ushr p1 (8 : Int32)) &&& (255 : Int32))), .val (.int v82), .val (.int z84), .val (.int z86), .val (.int z88), .val (.int z90), .val (.int z92), .val (.int z94), .val (.int ze), .val (.ref a98), .val (.ref a104), .val (.ref a109), .val (.ref a409), .val (.ref a413), .val (.int (p4 &&& (3 : Int32))), .unset, .unset]) rfl ?_
      refine k_iload W d_code_365 rfl ?_
      refine k_iconst W d_code_367 (z := (1 : Int32)) rfl ?_
      refine k_ic W 379 d_code_368 (by decide) (fun (hc449 : ¬ (p4 &&& (3 : Int32)) = (1 : Int32)) => ?_) (fun (hc449 : ¬ (¬ (p4 &&& (3 : Int32)) = (1 : Int32))) => ?_)
      · -- pc 379
        refine k_iload W d_code_379 rfl ?_
        refine k_iconst W d_code_381 (z := (2 : Int32)) rfl ?_
        refine k_ic W 400 d_code_382 (by decide) (fun (hc450 : ¬ (p4 &&& (3 : Int32)) = (2 : Int32)) => ?_) (fun (hc450 : ¬ (¬ (p4 &&& (3 : Int32)) = (2 : Int32))) => ?_)
        · -- pc 400
          refine k_iload W d_code_400 rfl ?_
          refine k_iconst W d_code_402 (z := (3 : Int32)) rfl ?_
          refine k_ic W 429 d_code_403 (by decide) (fun (hc451 : ¬ (p4 &&& (3 : Int32)) = (3 : Int32)) => ?_) (fun (hc451 : ¬ (¬ (p4 &&& (3 : Int32)) = (3 : Int32))) => ?_)
          · -- pc 429
            refine k_new W 16 89 d_code_429 (w1 hw) (w2 hw) (w3 hw) ⟨rfl, Nat.le_of_ble_eq_true rfl⟩ ⟨rfl, Nat.le_of_ble_eq_true rfl⟩ fun T h452 a453 g453 W E453 X453 D453 => ?_
            have K453 : Keep h438 h452 [] := keep_ext E453 []
            refine k_dup W d_code_432 rfl ?_
            refine k_new W 17 93 d_code_433 (w4 hw) (w5 hw) (w6 hw) ⟨rfl, Nat.le_of_ble_eq_true rfl⟩ ⟨rfl, Nat.le_of_ble_eq_true rfl⟩ fun T h454 a455 g455 W E455 X455 D455 => ?_
            have K455 : Keep h452 h454 [] := keep_ext E455 []
            refine k_dup W d_code_436 rfl ?_
            refine k_aload W d_code_437 rfl rfl ?_
            have ne456 : a104 ≠ a109 := (Nat.ne_of_lt (Nat.lt_of_lt_of_le A107.lt (Nat.le_of_eq g109.symm)))
            have ne457 : a104 ≠ a409 := (Nat.ne_of_lt (Nat.lt_of_lt_of_le (Nat.lt_of_lt_of_le A107.lt (Nat.le_trans (Nat.le_trans (Nat.le_trans E109.1 K110.1) K111.1) K112.1)) (Nat.le_of_eq g409.symm)))
            have ne458 : a104 ≠ a415 := (Nat.ne_of_lt (Nat.lt_of_lt_of_le (Nat.lt_of_lt_of_le A107.lt (Nat.le_trans (Nat.le_trans (Nat.le_trans (Nat.le_trans (Nat.le_trans (Nat.le_trans (Nat.le_trans E109.1 K110.1) K111.1) K112.1) E409.1) K410.1) K411.1) E413.1)) (Nat.le_of_eq g415.symm)))
            have ne459 : a104 ≠ a423 := (Nat.ne_of_lt (Nat.lt_of_lt_of_le (Nat.lt_of_lt_of_le A107.lt (Nat.le_trans (Nat.le_trans (Nat.le_trans (Nat.le_trans (Nat.le_trans (Nat.le_trans (Nat.le_trans (Nat.le_trans (Nat.le_trans E109.1 K110.1) K111.1) K112.1) E409.1) K410.1) K411.1) E413.1) E415.1) K421.1)) (Nat.le_of_eq g423.symm)))
            have ne460 : a104 ≠ a413 := (Nat.ne_of_lt (Nat.lt_of_lt_of_le (Nat.lt_of_lt_of_le A107.lt (Nat.le_trans (Nat.le_trans (Nat.le_trans (Nat.le_trans (Nat.le_trans (Nat.le_trans E109.1 K110.1) K111.1) K112.1) E409.1) K410.1) K411.1)) (Nat.le_of_eq g413.symm)))
            have f461 := (((((((((((((((A107.keep K109 nin0).keep K110 (ninS ne456 nin0)).keep K111 (ninS ne456 nin0)).keep K112 (ninS ne456 nin0)).keep K409 nin0).keep K410 (ninS ne457 nin0)).keep K411 (ninS ne457 nin0)).keep K413 nin0).keep K415 nin0).keep K421 (ninS ne458 nin0)).keep K423 nin0).keep K428 (ninS ne459 nin0)).keep K438 (ninS ne460 nin0)).keep K453 nin0).keep K455 nin0)
            have f462 := (Sta.keep (Sta.keep (Sta.keep f437 K438 (nsS (Exa.plain f429) ns0)) K453 ns0) K455 ns0)
            refine k_callI0 W 3 18 96 (argsL := [(.ref a104)]) (rest := [(.ref a455), (.ref a453), (.ref a453)]) (a := a455) d_code_439 rfl rfl (w7 hw) (w8 hw) (by decide) (lenOf pd17 rfl) (ct_sinit l Z a0 hw n0 h454 a455 a104 [(36 : Int32), z86, z88] 3 zc .null (.int (0 : Int32)) X455 (D455 (Or.inr (w32 hw)) (ty := (.array .byte)) (by decide)) (D455 (Or.inr (w30 hw)) (ty := .byte) (by decide)) f461 f462 hzc (rgS (by decide) (rgS rz86 (rgS rz88 (fun _ q => nomatch q)))) (Nat.le_of_ble_eq_true rfl) (Nat.le_of_ble_eq_true rfl) (by decide)) (w9 hw) (w6 hw) (fun x hx => by simp only [List.mem_cons, List.not_mem_nil, or_false] at hx; rcases hx with rfl; all_goals first | exact (List.mem_of_getElem? (i := 0) rfl)) rfl (Nat.le_of_eq rfl) (Nat.le_of_ble_eq_true rfl) (Nat.le_of_ble_eq_true rfl) ⟨rfl, Nat.le_of_ble_eq_true rfl⟩ ⟨rfl, Nat.le_of_ble_eq_true rfl⟩ rfl (fun _ _ _ q => nomatch q.1) fun T h463 so W hQ => ?_
            obtain ⟨-, b463, g463, K463, S463⟩ := hQ
            have S463 : St Z h463 a455 b463 [(36 : Int32), (i2b z86), (i2b z88)] := S463
            refine k_new W 19 100 d_code_442 (w4 hw) (w5 hw) (w6 hw) ⟨rfl, Nat.le_of_ble_eq_true rfl⟩ ⟨rfl, Nat.le_of_ble_eq_true rfl⟩ fun T h464 a465 g465 W E465 X465 D465 => ?_
            have K465 : Keep h463 h464 [] := keep_ext E465 []
            refine k_dup W d_code_445 rfl ?_
            refine k_aload W d_code_446 rfl rfl ?_
            have ne466 : a409 ≠ a415 := (Nat.ne_of_lt (Nat.lt_of_lt_of_le (Nat.lt_of_lt_of_le A411.lt E413.1) (Nat.le_of_eq g415.symm)))
            have ne467 : a409 ≠ a423 := (Nat.ne_of_lt (Nat.lt_of_lt_of_le (Nat.lt_of_lt_of_le A411.lt (Nat.le_trans (Nat.le_trans E413.1 E415.1) K421.1)) (Nat.le_of_eq g423.symm)))
            have ne468 : a409 ≠ a413 := (Nat.ne_of_lt (Nat.lt_of_lt_of_le A411.lt (Nat.le_of_eq g413.symm)))
            have ne469 : a409 ≠ a455 := (Nat.ne_of_lt (Nat.lt_of_lt_of_le (Nat.lt_of_lt_of_le A411.lt (Nat.le_trans (Nat.le_trans (Nat.le_trans (Nat.le_trans (Nat.le_trans (Nat.le_trans E413.1 E415.1) K421.1) E423.1) K428.1) K438.1) E453.1)) (Nat.le_of_eq g455.symm)))
            have f470 := ((((((((((A411.keep K413 nin0).keep K415 nin0).keep K421 (ninS ne466 nin0)).keep K423 nin0).keep K428 (ninS ne467 nin0)).keep K438 (ninS ne468 nin0)).keep K453 nin0).keep K455 nin0).keep K463 (ninS ne469 nin0)).keep K465 nin0)
            have f471 := (Sta.keep (Sta.keep f462 K463 (nsS (Exa.plain X455) ns0)) K465 ns0)
            refine k_callI0 W 4 20 102 (argsL := [(.ref a409)]) (rest := [(.ref a465), (.ref a455), (.ref a453), (.ref a453)]) (a := a465) d_code_448 rfl rfl (w7 hw) (w8 hw) (by decide) (lenOf pd17 rfl) (ct_sinit l Z a0 hw n0 h464 a465 a409 [z92, ze] 2 zc .null (.int (0 : Int32)) X465 (D465 (Or.inr (w32 hw)) (ty := (.array .byte)) (by decide)) (D465 (Or.inr (w30 hw)) (ty := .byte) (by decide)) f470 f471 hzc (rgS rz92 (rgS nwe.1 (fun _ q => nomatch q))) (Nat.le_of_ble_eq_true rfl) (Nat.le_of_ble_eq_true rfl) (by decide)) (w9 hw) (w6 hw) (fun x hx => by simp only [List.mem_cons, List.not_mem_nil, or_false] at hx; rcases hx with rfl; all_goals first | exact (List.mem_of_getElem? (i := 0) rfl)) rfl (Nat.le_of_eq rfl) (Nat.le_of_ble_eq_true rfl) (Nat.le_of_ble_eq_true rfl) ⟨rfl, Nat.le_of_ble_eq_true rfl⟩ ⟨rfl, Nat.le_of_ble_eq_true rfl⟩ rfl (fun _ _ _ q => nomatch q.1) fun T h472 so W hQ => ?_
            obtain ⟨-, b472, g472, K472, S472⟩ := hQ
            have S472 : St Z h472 a465 b472 [(i2b z92), (i2b ze)] := S472
            have f473 := ((((X453.keep K455).keep K463).keep K465).keep K472)
            have ne474 : a453 ≠ a455 := (Nat.ne_of_lt (Nat.lt_of_lt_of_le X453.lt (Nat.le_of_eq g455.symm)))
            have ne475 : a453 ≠ a465 := (Nat.ne_of_lt (Nat.lt_of_lt_of_le (Nat.lt_of_lt_of_le X453.lt (Nat.le_trans E455.1 K463.1)) (Nat.le_of_eq g465.symm)))
            have f476 := (((((D453 (Or.inr (w106 hw)) (ty := (.object "java/lang/String")) (by decide)).keep K455 nin0).keep K463 (ninS ne474 nin0)).keep K465 nin0).keep K472 (ninS ne475 nin0))
            have f477 := (((((D453 (Or.inr (w108 hw)) (ty := (.object "java/lang/String")) (by decide)).keep K455 nin0).keep K463 (ninS ne474 nin0)).keep K465 nin0).keep K472 (ninS ne475 nin0))
            have ne478 : a455 ≠ a465 := (Nat.ne_of_lt (Nat.lt_of_lt_of_le S463.1.lt (Nat.le_of_eq g465.symm)))
            have ne479 : b463 ≠ a465 := (Nat.ne_of_lt (Nat.lt_of_lt_of_le S463.2.2.2.lt (Nat.le_of_eq g465.symm)))
            have f480 := ((S463.keep K465 nin0 nin0).keep K472 (ninS ne478 nin0) (ninS ne479 nin0))
            have f481 := (Sta.keep f471 K472 (nsS (Exa.plain X465) ns0))
            have f483 := (Sta.keep (Sta.keep (Sta.keep (Sta.keep (Sta.keep (Sta.keep f439 K438 (nsS (Exa.plain f429) ns0)) K453 ns0) K455 ns0) K463 (nsS (Exa.plain X455) ns0)) K465 ns0) K472 (nsS (Exa.plain X465) ns0))
            have f484 := ((((((f440.keep K438).keep K453).keep K455).keep K463).keep K465).keep K472)
            have f485 := (Sta.keep (Sta.keep (Sta.keep (Sta.keep (Sta.keep (Sta.keep f441 K438 (nsS (Exa.plain f429) ns0)) K453 ns0) K455 ns0) K463 (nsS (Exa.plain X455) ns0)) K465 ns0) K472 (nsS (Exa.plain X465) ns0))
            have ne486 : ca ≠ a413 := (Nat.ne_of_lt (Nat.lt_of_lt_of_le (Nat.lt_of_lt_of_le CV.lt (Nat.le_trans (Nat.le_trans (Nat.le_trans (Nat.le_trans (Nat.le_trans (Nat.le_trans (Nat.le_trans (Nat.le_trans (Nat.le_trans (Nat.le_trans (Nat.le_trans (Nat.le_trans (Nat.le_trans (Nat.le_trans E98.1 K99.1) K100.1) K101.1) E104.1) K105.1) K106.1) K107.1) E109.1) K110.1) K111.1) K112.1) E409.1) K410.1) K411.1)) (Nat.le_of_eq g413.symm)))
            have ne487 : ca ≠ a455 := (Nat.ne_of_lt (Nat.lt_of_lt_of_le (Nat.lt_of_lt_of_le f448.lt (Nat.le_trans K438.1 E453.1)) (Nat.le_of_eq g455.symm)))
            have ne488 : ca ≠ a465 := (Nat.ne_of_lt (Nat.lt_of_lt_of_le (Nat.lt_of_lt_of_le f448.lt (Nat.le_trans (Nat.le_trans (Nat.le_trans K438.1 E453.1) E455.1) K463.1)) (Nat.le_of_eq g465.symm)))
            have f489 := ((((((f448.keep K438 (ninS ne486 nin0)).keep K453 nin0).keep K455 nin0).keep K463 (ninS ne487 nin0)).keep K465 nin0).keep K472 (ninS ne488 nin0))
            refine k_callI0 W 1 26 162 (argsL := [(.ref a455), (.ref a465)]) (rest := [(.ref a453)]) (a := a453) d_code_451 rfl rfl (w33 hw) (w34 hw) (by decide) (lenOf pd18 rfl) (ct_veinit l Z a0 hw n0 h472 cd ca a453 a455 b463 a465 b472 [(i2b z86), (i2b z88)] [(i2b z92), (i2b ze)] zc 1 (i2b ze) rfl (by rw [lo_i2b nwe.1]; exact nwe) f473 f476 f477 f480 S472 f481 hzc f483 f484 f485 f489) (w35 hw) (w3 hw) (fun x hx => by simp only [List.mem_cons, List.not_mem_nil, or_false] at hx; rcases hx with rfl; all_goals first | exact (List.mem_of_getElem? (i := 2) rfl)) rfl (Nat.le_of_eq rfl) (Nat.le_of_ble_eq_true rfl) (Nat.le_of_ble_eq_true rfl) ⟨rfl, Nat.le_of_ble_eq_true rfl⟩ ⟨rfl, Nat.le_of_ble_eq_true rfl⟩ rfl (fun _ _ _ q => nomatch q.1) fun T h482 so W hQ => ?_
            obtain ⟨-, K482, FA482, FB482⟩ := hQ
            refine k_astore W d_code_454 rfl (L' := #[.val (.int p0), .val (.int p1), .val (.int p2), .val (.int p3), .val (.int p4), .val (.int (p0 &&& (255 : Int32))), .val (.int ((XT.ushr p0 (8 : Int32)) &&& (255 : Int32))), .val (.int (p1 &&& (255 : Int32))), .val (.int ((XT.ushr p1 (8 : Int32)) &&& (255 : Int32))), .val (.int v82), .val (.int z84), .val (.int z86), .val (.int z88), .val (.int z90), .val (.int z92), .val (.int z94), .val (.int ze), .val (.ref a98), .val (.ref a104), .val (.ref a109), .val (.ref a409), .val (.ref a413), .val (.int (p4 &&& (3 : Int32))), .val (.ref a453), .unset]) rfl ?_
            refine k_iload W d_code_456 rfl ?_
            refine k_ifN W d_code_458 (show ¬ (¬ z84 = 0) from (fun q => q hc102)) ?_
            refine k_iload W d_code_461 rfl ?_
            refine k_ifY W 505 d_code_463 (by decide) (show ¬ z90 = 0 from hc113) ?_
            refine k_iconst W d_code_505 (z := (0 : Int32)) rfl ?_
            refine k_istore W d_code_506 (L' := #[.val (.int p0), .val (.int p1), .val (.int p2), .val (.int p3), .val (.int p4), .val (.int (p0 &&& (255 : Int32))), .val (.int ((XT.ushr p0 (8 : Int32)) &&& (255 : Int32))), .val (.int (p1 &&& (255 : Int32))), .val (.int ((XT.ushr p1 (8 : Int32)) &&& (255 : Int32))), .val (.int v82), .val (.int z84), .val (.int z86), .val (.int z88), .val (.int z90), .val (.int z92), .val (.int z94), .val (.int ze), .val (.ref a98), .val (.ref a104), .val (.ref a109), .val (.ref a409), .val (.ref a413), .val (.int (p4 &&& (3 : Int32))), .val (.ref a453), .val (.int (0 : Int32))]) rfl ?_
            refine k_aload W d_code_508 rfl rfl ?_
            refine k_aload W d_code_510 rfl rfl ?_
            have f490 := (f473.keep K482)
            have ne491 : a413 ≠ a455 := (Nat.ne_of_lt (Nat.lt_of_lt_of_le (Nat.lt_of_lt_of_le FA438.lt E453.1) (Nat.le_of_eq g455.symm)))
            have ne492 : a413 ≠ a465 := (Nat.ne_of_lt (Nat.lt_of_lt_of_le (Nat.lt_of_lt_of_le FA438.lt (Nat.le_trans (Nat.le_trans E453.1 E455.1) K463.1)) (Nat.le_of_eq g465.symm)))
            have ne493 : a413 ≠ a453 := (Nat.ne_of_lt (Nat.lt_of_lt_of_le FA438.lt (Nat.le_of_eq g453.symm)))
            have f494 := ((((((FA438.keep K453 nin0).keep K455 nin0).keep K463 (ninS ne491 nin0)).keep K465 nin0).keep K472 (ninS ne492 nin0)).keep K482 (ninS ne493 nin0))
            have f495 := ((((((FB438.keep K453 nin0).keep K455 nin0).keep K463 (ninS ne491 nin0)).keep K465 nin0).keep K472 (ninS ne492 nin0)).keep K482 (ninS ne493 nin0))
            have ne496 : b421 ≠ a413 := (Ne.symm (Nat.ne_of_lt (Nat.lt_of_lt_of_le (Nat.lt_of_lt_of_le X413.lt E415.1) g421)))
            have ne497 : a415 ≠ a455 := (Nat.ne_of_lt (Nat.lt_of_lt_of_le (Nat.lt_of_lt_of_le f436.1.lt (Nat.le_trans K438.1 E453.1)) (Nat.le_of_eq g455.symm)))
            have ne498 : b421 ≠ a455 := (Nat.ne_of_lt (Nat.lt_of_lt_of_le (Nat.lt_of_lt_of_le f436.2.2.2.lt (Nat.le_trans K438.1 E453.1)) (Nat.le_of_eq g455.symm)))
            have ne499 : a415 ≠ a465 := (Nat.ne_of_lt (Nat.lt_of_lt_of_le (Nat.lt_of_lt_of_le f436.1.lt (Nat.le_trans (Nat.le_trans (Nat.le_trans K438.1 E453.1) E455.1) K463.1)) (Nat.le_of_eq g465.symm)))
            have ne500 : b421 ≠ a465 := (Nat.ne_of_lt (Nat.lt_of_lt_of_le (Nat.lt_of_lt_of_le f436.2.2.2.lt (Nat.le_trans (Nat.le_trans (Nat.le_trans K438.1 E453.1) E455.1) K463.1)) (Nat.le_of_eq g465.symm)))
            have ne501 : a415 ≠ a453 := (Nat.ne_of_lt (Nat.lt_of_lt_of_le (Nat.lt_of_lt_of_le f436.1.lt K438.1) (Nat.le_of_eq g453.symm)))
            have ne502 : b421 ≠ a453 := (Nat.ne_of_lt (Nat.lt_of_lt_of_le (Nat.lt_of_lt_of_le f436.2.2.2.lt K438.1) (Nat.le_of_eq g453.symm)))
            have f503 := (((((((f436.keep K438 (ninS (Ne.symm ne430) nin0) (ninS ne496 nin0)).keep K453 nin0 nin0).keep K455 nin0 nin0).keep K463 (ninS ne497 nin0) (ninS ne498 nin0)).keep K465 nin0 nin0).keep K472 (ninS ne499 nin0) (ninS ne500 nin0)).keep K482 (ninS ne501 nin0) (ninS ne502 nin0))
            have ne504 : b463 ≠ a453 := (Ne.symm (Nat.ne_of_lt (Nat.lt_of_lt_of_le (Nat.lt_of_lt_of_le X453.lt E455.1) g463)))
            have f505 := (f480.keep K482 (ninS (Ne.symm ne474) nin0) (ninS ne504 nin0))
            have ne506 : b428 ≠ a413 := (Ne.symm (Nat.ne_of_lt (Nat.lt_of_lt_of_le (Nat.lt_of_lt_of_le X413.lt (Nat.le_trans (Nat.le_trans E415.1 K421.1) E423.1)) g428)))
            have ne507 : a423 ≠ a455 := (Nat.ne_of_lt (Nat.lt_of_lt_of_le (Nat.lt_of_lt_of_le S428.1.lt (Nat.le_trans K438.1 E453.1)) (Nat.le_of_eq g455.symm)))
            have ne508 : b428 ≠ a455 := (Nat.ne_of_lt (Nat.lt_of_lt_of_le (Nat.lt_of_lt_of_le S428.2.2.2.lt (Nat.le_trans K438.1 E453.1)) (Nat.le_of_eq g455.symm)))
            have ne509 : a423 ≠ a465 := (Nat.ne_of_lt (Nat.lt_of_lt_of_le (Nat.lt_of_lt_of_le S428.1.lt (Nat.le_trans (Nat.le_trans (Nat.le_trans K438.1 E453.1) E455.1) K463.1)) (Nat.le_of_eq g465.symm)))
            have ne510 : b428 ≠ a465 := (Nat.ne_of_lt (Nat.lt_of_lt_of_le (Nat.lt_of_lt_of_le S428.2.2.2.lt (Nat.le_trans (Nat.le_trans (Nat.le_trans K438.1 E453.1) E455.1) K463.1)) (Nat.le_of_eq g465.symm)))
            have ne511 : a423 ≠ a453 := (Nat.ne_of_lt (Nat.lt_of_lt_of_le (Nat.lt_of_lt_of_le S428.1.lt K438.1) (Nat.le_of_eq g453.symm)))
            have ne512 : b428 ≠ a453 := (Nat.ne_of_lt (Nat.lt_of_lt_of_le (Nat.lt_of_lt_of_le S428.2.2.2.lt K438.1) (Nat.le_of_eq g453.symm)))
            have f513 := (((((((S428.keep K438 (ninS (Ne.symm ne431) nin0) (ninS ne506 nin0)).keep K453 nin0 nin0).keep K455 nin0 nin0).keep K463 (ninS ne507 nin0) (ninS ne508 nin0)).keep K465 nin0 nin0).keep K472 (ninS ne509 nin0) (ninS ne510 nin0)).keep K482 (ninS ne511 nin0) (ninS ne512 nin0))
            have ne514 : b472 ≠ a453 := (Ne.symm (Nat.ne_of_lt (Nat.lt_of_lt_of_le (Nat.lt_of_lt_of_le X453.lt (Nat.le_trans (Nat.le_trans E455.1 K463.1) E465.1)) g472)))
            have f515 := (S472.keep K482 (ninS (Ne.symm ne475) nin0) (ninS ne514 nin0))
            have f516 := (Sta.keep f481 K482 (nsS (Exa.plain f473) ns0))
            have f518 := (((((((f429.keep K438).keep K453).keep K455).keep K463).keep K465).keep K472).keep K482)
            refine k_callV W 0 26 162 (argsL := [(.ref a453)]) (rest := []) (a := a413) (C := "com/example/lean_envelope/leanenvelope/check/ValidationError") (z0 := (⟨"com/example/lean_envelope/leanenvelope/check/ValidationError", "equals", "(Ljava/lang/Object;)Z"⟩ : MethodName)) (z := (⟨"com/example/lean_envelope/leanenvelope/check/ValidationError", "equals", "(Ljava/lang/Object;)Z"⟩ : MethodName)) d_code_512 (w109 hw) (w110 hw) (nfSel (w112 hw)) (w112 hw) (w111 hw) (by decide) (lenOf pd16 rfl) f518 (ct_veq l Z a0 hw n0 h482 a413 a453 a415 b421 a455 b463 a423 b428 a465 b472 [(36 : Int32), (i2b (p0 &&& (255 : Int32))), (i2b ((XT.ushr p0 (8 : Int32)) &&& (255 : Int32)))] [(36 : Int32), (i2b z86), (i2b z88)] [(i2b (p1 &&& (255 : Int32))), (i2b ((XT.ushr p1 (8 : Int32)) &&& (255 : Int32))), (i2b v82)] [(i2b z92), (i2b ze)] zc ne493 ne497 ne509 f518 f494 f495 f490 FA482 FB482 f503 f505 f513 f515 f516 hzc) (w113 hw) (w3 hw) (fun x hx => nomatch hx) rfl (Nat.le_of_eq rfl) (Nat.le_of_ble_eq_true rfl) (Nat.le_of_ble_eq_true rfl) ⟨rfl, Nat.le_of_ble_eq_true rfl⟩ ⟨rfl, Nat.le_of_ble_eq_true rfl⟩ rfl (fun _ _ q => by rcases q.1 with ⟨_, u⟩ | ⟨_, u⟩ <;> cases u) fun T h519 v so W hQ => ?_
            obtain ⟨hQ, rfl⟩ := hQ
            rcases hQ with ⟨hP517, hv⟩ | ⟨hP517, hv⟩
            · --
              obtain ⟨e1, e2⟩ := hP517
              exact absurd (congrArg List.length e2) (by simp)
            · --
              obtain rfl := Option.some.inj hv
              refine k_iload W d_code_515 rfl ?_
              refine k_icN W d_code_517 (show ¬ (¬ (0 : Int32) = (0 : Int32)) by decide) ?_
              refine k_aload W d_code_520 rfl rfl ?_
              refine k_aload W d_code_522 rfl rfl ?_
              refine k_callV W 0 26 162 (argsL := [(.ref a413)]) (rest := []) (a := a453) (C := "com/example/lean_envelope/leanenvelope/check/ValidationError") (z0 := (⟨"com/example/lean_envelope/leanenvelope/check/ValidationError", "equals", "(Ljava/lang/Object;)Z"⟩ : MethodName)) (z := (⟨"com/example/lean_envelope/leanenvelope/check/ValidationError", "equals", "(Ljava/lang/Object;)Z"⟩ : MethodName)) d_code_524 (w109 hw) (w110 hw) (nfSel (w112 hw)) (w112 hw) (w111 hw) (by decide) (lenOf pd16 rfl) f490 (ct_veq l Z a0 hw n0 h482 a453 a413 a455 b463 a415 b421 a465 b472 a423 b428 [(36 : Int32), (i2b z86), (i2b z88)] [(36 : Int32), (i2b (p0 &&& (255 : Int32))), (i2b ((XT.ushr p0 (8 : Int32)) &&& (255 : Int32)))] [(i2b z92), (i2b ze)] [(i2b (p1 &&& (255 : Int32))), (i2b ((XT.ushr p1 (8 : Int32)) &&& (255 : Int32))), (i2b v82)] zc (Ne.symm ne493) (Ne.symm ne497) (Ne.symm ne509) f490 FA482 FB482 f518 f494 f495 f505 f503 f515 f513 f516 hzc) (w113 hw) (w3 hw) (fun x hx => nomatch hx) rfl (Nat.le_of_eq rfl) (Nat.le_of_ble_eq_true rfl) (Nat.le_of_ble_eq_true rfl) ⟨rfl, Nat.le_of_ble_eq_true rfl⟩ ⟨rfl, Nat.le_of_ble_eq_true rfl⟩ rfl (fun _ _ q => by rcases q.1 with ⟨_, u⟩ | ⟨_, u⟩ <;> cases u) fun T h521 v so W hQ => ?_
              obtain ⟨hQ, rfl⟩ := hQ
              rcases hQ with ⟨hP520, hv⟩ | ⟨hP520, hv⟩
              · --
                obtain ⟨e1, e2⟩ := hP520
                exact absurd (congrArg List.length e2) (by simp)
              · --
                obtain rfl := Option.some.inj hv
                refine k_iload W d_code_527 rfl ?_
                refine k_icN W d_code_529 (show ¬ (¬ (0 : Int32) = (0 : Int32)) by decide) ?_
                refine k_iconst W d_code_532 (z := (1 : Int32)) rfl ?_
                refine k_goto W 537 d_code_533 (by decide) ?_
                exact k_retN W (t := .boolean) (z' := (1 : Int32)) d_code_537 rfl (by simp) (by decide) [] (fun x hx => nomatch hx) (Nat.le_of_ble_eq_true rfl) (Nat.le_of_ble_eq_true rfl) rfl
          · -- pc 406
            refine k_aload W d_code_406 rfl rfl ?_
            refine k_new W 16 91 d_code_408 (w4 hw) (w5 hw) (w6 hw) ⟨rfl, Nat.le_of_ble_eq_true rfl⟩ ⟨rfl, Nat.le_of_ble_eq_true rfl⟩ fun T h522 a523 g523 W E523 X523 D523 => ?_
            have K523 : Keep h438 h522 [] := keep_ext E523 []
            refine k_dup W d_code_411 rfl ?_
            refine k_aload W d_code_412 rfl rfl ?_
            have ne524 : a98 ≠ a415 := (Nat.ne_of_lt (Nat.lt_of_lt_of_le (Nat.lt_of_lt_of_le A101.lt (Nat.le_trans (Nat.le_trans (Nat.le_trans (Nat.le_trans (Nat.le_trans (Nat.le_trans (Nat.le_trans (Nat.le_trans (Nat.le_trans (Nat.le_trans (Nat.le_trans E104.1 K105.1) K106.1) K107.1) E109.1) K110.1) K111.1) K112.1) E409.1) K410.1) K411.1) E413.1)) (Nat.le_of_eq g415.symm)))
            have ne525 : a98 ≠ a423 := (Nat.ne_of_lt (Nat.lt_of_lt_of_le (Nat.lt_of_lt_of_le f419.lt K421.1) (Nat.le_of_eq g423.symm)))
            have ne526 : a98 ≠ a413 := (Nat.ne_of_lt (Nat.lt_of_lt_of_le (Nat.lt_of_lt_of_le A101.lt (Nat.le_trans (Nat.le_trans (Nat.le_trans (Nat.le_trans (Nat.le_trans (Nat.le_trans (Nat.le_trans (Nat.le_trans (Nat.le_trans (Nat.le_trans E104.1 K105.1) K106.1) K107.1) E109.1) K110.1) K111.1) K112.1) E409.1) K410.1) K411.1)) (Nat.le_of_eq g413.symm)))
            have f527 := (((((f419.keep K421 (ninS ne524 nin0)).keep K423 nin0).keep K428 (ninS ne525 nin0)).keep K438 (ninS ne526 nin0)).keep K523 nin0)
            have f528 := (Sta.keep (Sta.keep f437 K438 (nsS (Exa.plain f429) ns0)) K523 ns0)
            refine k_callI0 W 2 17 94 (argsL := [(.ref a98)]) (rest := [(.ref a523), (.ref a413)]) (a := a523) d_code_414 rfl rfl (w7 hw) (w8 hw) (by decide) (lenOf pd17 rfl) (ct_sinit l Z a0 hw n0 h522 a523 a98 [(36 : Int32), (p0 &&& (255 : Int32)), ((XT.ushr p0 (8 : Int32)) &&& (255 : Int32))] 3 zc .null (.int (0 : Int32)) X523 (D523 (Or.inr (w32 hw)) (ty := (.array .byte)) (by decide)) (D523 (Or.inr (w30 hw)) (ty := .byte) (by decide)) f527 f528 hzc (rgS (by decide) (rgS (Rg.and (n := 256) p0 (255 : Int32) (by decide)) (rgS (Rg.and (n := 256) (XT.ushr p0 (8 : Int32)) (255 : Int32) (by decide)) (fun _ q => nomatch q)))) (Nat.le_of_ble_eq_true rfl) (Nat.le_of_ble_eq_true rfl) (by decide)) (w9 hw) (w6 hw) (fun x hx => by simp only [List.mem_cons, List.not_mem_nil, or_false] at hx; rcases hx with rfl; all_goals first | exact (List.mem_of_getElem? (i := 0) rfl)) rfl (Nat.le_of_eq rfl) (Nat.le_of_ble_eq_true rfl) (Nat.le_of_ble_eq_true rfl) ⟨rfl, Nat.le_of_ble_eq_true rfl⟩ ⟨rfl, Nat.le_of_ble_eq_true rfl⟩ rfl (fun _ _ _ q => nomatch q.1) fun T h529 so W hQ => ?_
            obtain ⟨-, b529, g529, K529, S529⟩ := hQ
            have S529 : St Z h529 a523 b529 [(36 : Int32), (i2b (p0 &&& (255 : Int32))), (i2b ((XT.ushr p0 (8 : Int32)) &&& (255 : Int32)))] := S529
            have f530 := (((f429.keep K438).keep K523).keep K529)
            refine k_callV W 0 17 94 (argsL := [(.ref a523)]) (rest := []) (a := a413) (C := "com/example/lean_envelope/leanenvelope/check/ValidationError") (z0 := (⟨"com/example/lean_envelope/leanenvelope/check/ValidationError", "equals", "(Ljava/lang/Object;)Z"⟩ : MethodName)) (z := (⟨"com/example/lean_envelope/leanenvelope/check/ValidationError", "equals", "(Ljava/lang/Object;)Z"⟩ : MethodName)) d_code_417 (w109 hw) (w110 hw) (nfSel (w112 hw)) (w112 hw) (w111 hw) (by decide) (lenOf pd16 rfl) f530 (ct_veqS l Z a0 hw n0 h529 a413 a523 f530 S529.1) (w113 hw) (w3 hw) (fun x hx => nomatch hx) rfl (Nat.le_of_eq rfl) (Nat.le_of_ble_eq_true rfl) (Nat.le_of_ble_eq_true rfl) ⟨rfl, Nat.le_of_ble_eq_true rfl⟩ ⟨rfl, Nat.le_of_ble_eq_true rfl⟩ rfl (fun _ _ q => nomatch q.1) fun T h531 v so W hQ => ?_
            obtain ⟨hv, rfl, -⟩ := hQ
            obtain rfl := Option.some.inj hv
            refine k_ifN W d_code_420 (show ¬ (¬ (0 : Int32) = 0) by decide) ?_
            refine k_iconst W d_code_423 (z := (1 : Int32)) rfl ?_
            refine k_goto W 428 d_code_424 (by decide) ?_
            exact k_retN W (t := .boolean) (z' := (1 : Int32)) d_code_428 rfl (by simp) (by decide) [] (fun x hx => nomatch hx) (Nat.le_of_ble_eq_true rfl) (Nat.le_of_ble_eq_true rfl) rfl
        · -- pc 385
          refine k_aload W d_code_385 rfl rfl ?_
          refine k_aconst W d_code_387 ?_
          have f533 := (f429.keep K438)
          refine k_callV W 0 15 87 (argsL := [.null]) (rest := []) (a := a413) (C := "com/example/lean_envelope/leanenvelope/check/ValidationError") (z0 := (⟨"com/example/lean_envelope/leanenvelope/check/ValidationError", "equals", "(Ljava/lang/Object;)Z"⟩ : MethodName)) (z := (⟨"com/example/lean_envelope/leanenvelope/check/ValidationError", "equals", "(Ljava/lang/Object;)Z"⟩ : MethodName)) d_code_388 (w109 hw) (w110 hw) (nfSel (w112 hw)) (w112 hw) (w111 hw) (by decide) (lenOf pd16 rfl) f533 (ct_veqN l Z a0 hw n0 h438 a413) (w113 hw) (w3 hw) (fun x hx => nomatch hx) rfl (Nat.le_of_eq rfl) (Nat.le_of_ble_eq_true rfl) (Nat.le_of_ble_eq_true rfl) ⟨rfl, Nat.le_of_ble_eq_true rfl⟩ ⟨rfl, Nat.le_of_ble_eq_true rfl⟩ rfl (fun _ _ q => nomatch q.1) fun T h532 v so W hQ => ?_
          obtain ⟨hv, rfl, -⟩ := hQ
          obtain rfl := Option.some.inj hv
          refine k_ifN W d_code_391 (show ¬ (¬ (0 : Int32) = 0) by decide) ?_
          refine k_iconst W d_code_394 (z := (1 : Int32)) rfl ?_
          refine k_goto W 399 d_code_395 (by decide) ?_
          exact k_retN W (t := .boolean) (z' := (1 : Int32)) d_code_399 rfl (by simp) (by decide) [] (fun x hx => nomatch hx) (Nat.le_of_ble_eq_true rfl) (Nat.le_of_ble_eq_true rfl) rfl
      · -- pc 371
        refine k_aload W d_code_371 rfl rfl ?_
        refine k_aload W d_code_373 rfl rfl ?_
        have f535 := (f429.keep K438)
        refine k_callV W 0 15 87 (argsL := [(.ref a413)]) (rest := []) (a := a413) (C := "com/example/lean_envelope/leanenvelope/check/ValidationError") (z0 := (⟨"com/example/lean_envelope/leanenvelope/check/ValidationError", "equals", "(Ljava/lang/Object;)Z"⟩ : MethodName)) (z := (⟨"com/example/lean_envelope/leanenvelope/check/ValidationError", "equals", "(Ljava/lang/Object;)Z"⟩ : MethodName)) d_code_375 (w109 hw) (w110 hw) (nfSel (w112 hw)) (w112 hw) (w111 hw) (by decide) (lenOf pd16 rfl) f535 (ct_veqI l Z a0 hw n0 h438 a413) (w113 hw) (w3 hw) (fun x hx => nomatch hx) rfl (Nat.le_of_eq rfl) (Nat.le_of_ble_eq_true rfl) (Nat.le_of_ble_eq_true rfl) ⟨rfl, Nat.le_of_ble_eq_true rfl⟩ ⟨rfl, Nat.le_of_ble_eq_true rfl⟩ rfl (fun _ _ q => nomatch q.1) fun T h534 v so W hQ => ?_
        obtain ⟨hv, rfl, -⟩ := hQ
        obtain rfl := Option.some.inj hv
        exact k_retN W (t := .boolean) (z' := (1 : Int32)) d_code_378 rfl (by simp) (by decide) [] (fun x hx => nomatch hx) (Nat.le_of_ble_eq_true rfl) (Nat.le_of_ble_eq_true rfl) rfl
  · -- pc 218
    refine k_iconst W d_code_218 (z := (2 : Int32)) rfl ?_
    refine k_newarr W 2 2 5 d_code_219 (w0 hw) (by decide) (by decide) ⟨rfl, Nat.le_of_ble_eq_true rfl⟩ ⟨rfl, Nat.le_of_ble_eq_true rfl⟩ fun T h536 a537 g537 W E537 A537 => ?_
    have K537 : Keep h101 h536 [] := keep_ext E537 []
    have A537 : Av Z h536 a537 .char [(.int (0 : Int32)), (.int (0 : Int32))] := A537
    refine k_astore W d_code_221 rfl (L' := #[.val (.int p0), .val (.int p1), .val (.int p2), .val (.int p3), .val (.int p4), .val (.int (p0 &&& (255 : Int32))), .val (.int ((XT.ushr p0 (8 : Int32)) &&& (255 : Int32))), .val (.int (p1 &&& (255 : Int32))), .val (.int ((XT.ushr p1 (8 : Int32)) &&& (255 : Int32))), .val (.int v82), .val (.int z84), .val (.int z86), .val (.int z88), .val (.int z90), .val (.int z92), .val (.int z94), .val (.int ze), .val (.ref a98), .val (.ref a537), .unset, .unset, .unset, .unset, .unset, .unset]) rfl ?_
    refine k_aload W d_code_223 rfl rfl ?_
    refine k_iconst W d_code_225 (z := (0 : Int32)) rfl ?_
    refine k_bipush W d_code_226 (z := (36 : Int32)) rfl ?_
    refine k_castore W (z := (36 : Int32)) 0 d_code_228 (List.mem_of_getElem? (i := 0) rfl) A537 (by decide) (Nat.le_of_ble_eq_true rfl) (by decide) (by decide) fun T h538 W Wr538 A538 => ?_
    have K538 : Keep h536 h538 [a537] := Keep.of_wr Wr538
    have A538 : Av Z h538 a537 .char [(.int (36 : Int32)), (.int (0 : Int32))] := A538
    refine k_aload W d_code_229 rfl rfl ?_
    refine k_iconst W d_code_231 (z := (1 : Int32)) rfl ?_
    refine k_iload W d_code_232 rfl ?_
    refine k_castore W (z := z86) 1 d_code_234 (List.mem_of_getElem? (i := 0) rfl) A538 (by decide) (Nat.le_of_ble_eq_true rfl) (Rg.nar (Rg.mono rz86 (by decide))) (Rg.fits (Rg.mono rz86 (by decide))) fun T h539 W Wr539 A539 => ?_
    have K539 : Keep h538 h539 [a537] := Keep.of_wr Wr539
    have A539 : Av Z h539 a537 .char [(.int (36 : Int32)), (.int z86)] := A539
    refine k_goto W 261 d_code_235 (by decide) ?_
    refine k_iconst W d_code_261 (z := (3 : Int32)) rfl ?_
    refine k_newarr W 3 3 8 d_code_262 (w0 hw) (by decide) (by decide) ⟨rfl, Nat.le_of_ble_eq_true rfl⟩ ⟨rfl, Nat.le_of_ble_eq_true rfl⟩ fun T h540 a541 g541 W E541 A541 => ?_
    have K541 : Keep h539 h540 [] := keep_ext E541 []
    have A541 : Av Z h540 a541 .char [(.int (0 : Int32)), (.int (0 : Int32)), (.int (0 : Int32))] := A541
    refine k_astore W d_code_264 rfl (L' := #[.val (.int p0), .val (.int p1), .val (.int p2), .val (.int p3), .val (.int p4), .val (.int (p0 &&& (255 : Int32))), .val (.int ((XT.ushr p0 (8 : Int32)) &&& (255 : Int32))), .val (.int (p1 &&& (255 : Int32))), .val (.int ((XT.ushr p1 (8 : Int32)) &&& (255 : Int32))), .val (.int v82), .val (.int z84), .val (.int z86), .val (.int z88), .val (.int z90), .val (.int z92), .val (.int z94), .val (.int ze), .val (.ref a98), .val (.ref a537), .val (.ref a541), .unset, .unset, .unset, .unset, .unset]) rfl ?_
    refine k_aload W d_code_266 rfl rfl ?_
    refine k_iconst W d_code_268 (z := (0 : Int32)) rfl ?_
    refine k_iload W d_code_269 rfl ?_
    refine k_castore W (z := (p1 &&& (255 : Int32))) 0 d_code_271 (List.mem_of_getElem? (i := 0) rfl) A541 (by decide) (Nat.le_of_ble_eq_true rfl) (Rg.nar (Rg.mono (Rg.and (n := 256) p1 (255 : Int32) (by decide)) (by decide))) (Rg.fits (Rg.mono (Rg.and (n := 256) p1 (255 : Int32) (by decide)) (by decide))) fun T h542 W Wr542 A542 => ?_
    have K542 : Keep h540 h542 [a541] := Keep.of_wr Wr542
    have A542 : Av Z h542 a541 .char [(.int (p1 &&& (255 : Int32))), (.int (0 : Int32)), (.int (0 : Int32))] := A542
    refine k_aload W d_code_272 rfl rfl ?_
    refine k_iconst W d_code_274 (z := (1 : Int32)) rfl ?_
    refine k_iload W d_code_275 rfl ?_
    refine k_castore W (z := ((XT.ushr p1 (8 : Int32)) &&& (255 : Int32))) 1 d_code_277 (List.mem_of_getElem? (i := 0) rfl) A542 (by decide) (Nat.le_of_ble_eq_true rfl) (Rg.nar (Rg.mono (Rg.and (n := 256) (XT.ushr p1 (8 : Int32)) (255 : Int32) (by decide)) (by decide))) (Rg.fits (Rg.mono (Rg.and (n := 256) (XT.ushr p1 (8 : Int32)) (255 : Int32) (by decide)) (by decide))) fun T h543 W Wr543 A543 => ?_
    have K543 : Keep h542 h543 [a541] := Keep.of_wr Wr543
    have A543 : Av Z h543 a541 .char [(.int (p1 &&& (255 : Int32))), (.int ((XT.ushr p1 (8 : Int32)) &&& (255 : Int32))), (.int (0 : Int32))] := A543
    refine k_aload W d_code_278 rfl rfl ?_
    refine k_iconst W d_code_280 (z := (2 : Int32)) rfl ?_
    refine k_iload W d_code_281 rfl ?_
    refine k_castore W (z := v82) 2 d_code_283 (List.mem_of_getElem? (i := 0) rfl) A543 (by decide) (Nat.le_of_ble_eq_true rfl) (Rg.nar (Rg.mono (show Rg v82 97 from (by rw [ev82]; exact Rg.mono (Rg.add (show Rg (33 : Int32) 34 by decide) (Rg.and (n := 64) (XT.ushr p1 (16 : Int32)) (63 : Int32) (by decide)) (by decide)) (by decide))) (by decide))) (Rg.fits (Rg.mono (show Rg v82 97 from (by rw [ev82]; exact Rg.mono (Rg.add (show Rg (33 : Int32) 34 by decide) (Rg.and (n := 64) (XT.ushr p1 (16 : Int32)) (63 : Int32) (by decide)) (by decide)) (by decide))) (by decide))) fun T h544 W Wr544 A544 => ?_
    have K544 : Keep h543 h544 [a541] := Keep.of_wr Wr544
    have A544 : Av Z h544 a541 .char [(.int (p1 &&& (255 : Int32))), (.int ((XT.ushr p1 (8 : Int32)) &&& (255 : Int32))), (.int v82)] := A544
    refine k_iload W d_code_284 rfl ?_
    refine k_if W 309 d_code_286 (by decide) (fun (hc545 : z90 = 0) => ?_) (fun (hc545 : ¬ (z90 = 0)) => ?_)
    · -- pc 309
      refine k_iconst W d_code_309 (z := (3 : Int32)) rfl ?_
      refine k_newarr W 3 4 11 d_code_310 (w0 hw) (by decide) (by decide) ⟨rfl, Nat.le_of_ble_eq_true rfl⟩ ⟨rfl, Nat.le_of_ble_eq_true rfl⟩ fun T h546 a547 g547 W E547 A547 => ?_
      have K547 : Keep h544 h546 [] := keep_ext E547 []
      have A547 : Av Z h546 a547 .char [(.int (0 : Int32)), (.int (0 : Int32)), (.int (0 : Int32))] := A547
      refine k_astore W d_code_312 rfl (L' := #[.val (.int p0), .val (.int p1), .val (.int p2), .val (.int p3), .val (.int p4), .val (.int (p0 &&& (255 : Int32))), .val (.int ((XT.ushr p0 (8 : Int32)) &&& (255 : Int32))), .val (.int (p1 &&& (255 : Int32))), .val (.int ((XT.ushr p1 (8 : Int32)) &&& (255 : Int32))), .val (.int v82), .val (.int z84), .val (.int z86), .val (.int z88), .val (.int z90), .val (.int z92), .val (.int z94), .val (.int ze), .val (.ref a98), .val (.ref a537), .val (.ref a541), .val (.ref a547), .unset, .unset, .unset, .unset]) rfl ?_
      refine k_aload W d_code_314 rfl rfl ?_
      refine k_iconst W d_code_316 (z := (0 : Int32)) rfl ?_
      refine k_iload W d_code_317 rfl ?_
      refine k_castore W (z := z92) 0 d_code_319 (List.mem_of_getElem? (i := 0) rfl) A547 (by decide) (Nat.le_of_ble_eq_true rfl) (Rg.nar (Rg.mono rz92 (by decide))) (Rg.fits (Rg.mono rz92 (by decide))) fun T h548 W Wr548 A548 => ?_
      have K548 : Keep h546 h548 [a547] := Keep.of_wr Wr548
      have A548 : Av Z h548 a547 .char [(.int z92), (.int (0 : Int32)), (.int (0 : Int32))] := A548
      refine k_aload W d_code_320 rfl rfl ?_
      refine k_iconst W d_code_322 (z := (1 : Int32)) rfl ?_
      refine k_iload W d_code_323 rfl ?_
      refine k_castore W (z := z94) 1 d_code_325 (List.mem_of_getElem? (i := 0) rfl) A548 (by decide) (Nat.le_of_ble_eq_true rfl) (Rg.nar (Rg.mono rz94 (by decide))) (Rg.fits (Rg.mono rz94 (by decide))) fun T h549 W Wr549 A549 => ?_
      have K549 : Keep h548 h549 [a547] := Keep.of_wr Wr549
      have A549 : Av Z h549 a547 .char [(.int z92), (.int z94), (.int (0 : Int32))] := A549
      refine k_aload W d_code_326 rfl rfl ?_
      refine k_iconst W d_code_328 (z := (2 : Int32)) rfl ?_
      refine k_iload W d_code_329 rfl ?_
      refine k_castore W (z := ze) 2 d_code_331 (List.mem_of_getElem? (i := 0) rfl) A549 (by decide) (Nat.le_of_ble_eq_true rfl) (Rg.nar (Rg.mono nwe.1 (by decide))) (Rg.fits (Rg.mono nwe.1 (by decide))) fun T h550 W Wr550 A550 => ?_
      have K550 : Keep h549 h550 [a547] := Keep.of_wr Wr550
      have A550 : Av Z h550 a547 .char [(.int z92), (.int z94), (.int ze)] := A550
      refine k_new W 5 13 d_code_332 (w1 hw) (w2 hw) (w3 hw) ⟨rfl, Nat.le_of_ble_eq_true rfl⟩ ⟨rfl, Nat.le_of_ble_eq_true rfl⟩ fun T h551 a552 g552 W E552 X552 D552 => ?_
      have K552 : Keep h550 h551 [] := keep_ext E552 []
      refine k_dup W d_code_335 rfl ?_
      refine k_new W 6 17 d_code_336 (w4 hw) (w5 hw) (w6 hw) ⟨rfl, Nat.le_of_ble_eq_true rfl⟩ ⟨rfl, Nat.le_of_ble_eq_true rfl⟩ fun T h553 a554 g554 W E554 X554 D554 => ?_
      have K554 : Keep h551 h553 [] := keep_ext E554 []
      refine k_dup W d_code_339 rfl ?_
      refine k_aload W d_code_340 rfl rfl ?_
      have ne555 : a98 ≠ a537 := (Nat.ne_of_lt (Nat.lt_of_lt_of_le A101.lt (Nat.le_of_eq g537.symm)))
      have ne556 : a98 ≠ a541 := (Nat.ne_of_lt (Nat.lt_of_lt_of_le (Nat.lt_of_lt_of_le A101.lt (Nat.le_trans (Nat.le_trans E537.1 K538.1) K539.1)) (Nat.le_of_eq g541.symm)))
      have ne557 : a98 ≠ a547 := (Nat.ne_of_lt (Nat.lt_of_lt_of_le (Nat.lt_of_lt_of_le A101.lt (Nat.le_trans (Nat.le_trans (Nat.le_trans (Nat.le_trans (Nat.le_trans (Nat.le_trans E537.1 K538.1) K539.1) E541.1) K542.1) K543.1) K544.1)) (Nat.le_of_eq g547.symm)))
      have f558 := (((((((((((((A101.keep K537 nin0).keep K538 (ninS ne555 nin0)).keep K539 (ninS ne555 nin0)).keep K541 nin0).keep K542 (ninS ne556 nin0)).keep K543 (ninS ne556 nin0)).keep K544 (ninS ne556 nin0)).keep K547 nin0).keep K548 (ninS ne557 nin0)).keep K549 (ninS ne557 nin0)).keep K550 (ninS ne557 nin0)).keep K552 nin0).keep K554 nin0)
      have f559 := (Sta.keep (Sta.keep (Sta.keep (Sta.keep (Sta.keep (Sta.keep (Sta.keep (Sta.keep (Sta.keep (Sta.keep (Sta.keep (Sta.keep (Sta.keep (Sta.keep (Sta.keep (Sta.keep (Sta.keep P0 K98 ns0) K99 (nsS (Av.plain A98) ns0)) K100 (nsS (Av.plain A99) ns0)) K101 (nsS (Av.plain A100) ns0)) K537 ns0) K538 (nsS (Av.plain A537) ns0)) K539 (nsS (Av.plain A538) ns0)) K541 ns0) K542 (nsS (Av.plain A541) ns0)) K543 (nsS (Av.plain A542) ns0)) K544 (nsS (Av.plain A543) ns0)) K547 ns0) K548 (nsS (Av.plain A547) ns0)) K549 (nsS (Av.plain A548) ns0)) K550 (nsS (Av.plain A549) ns0)) K552 ns0) K554 ns0)
      refine k_callI0 W 3 7 20 (argsL := [(.ref a98)]) (rest := [(.ref a554), (.ref a552), (.ref a552)]) (a := a554) d_code_342 rfl rfl (w7 hw) (w8 hw) (by decide) (lenOf pd17 rfl) (ct_sinit l Z a0 hw n0 h553 a554 a98 [(36 : Int32), (p0 &&& (255 : Int32)), ((XT.ushr p0 (8 : Int32)) &&& (255 : Int32))] 3 zc .null (.int (0 : Int32)) X554 (D554 (Or.inr (w32 hw)) (ty := (.array .byte)) (by decide)) (D554 (Or.inr (w30 hw)) (ty := .byte) (by decide)) f558 f559 hzc (rgS (by decide) (rgS (Rg.and (n := 256) p0 (255 : Int32) (by decide)) (rgS (Rg.and (n := 256) (XT.ushr p0 (8 : Int32)) (255 : Int32) (by decide)) (fun _ q => nomatch q)))) (Nat.le_of_ble_eq_true rfl) (Nat.le_of_ble_eq_true rfl) (by decide)) (w9 hw) (w6 hw) (fun x hx => by simp only [List.mem_cons, List.not_mem_nil, or_false] at hx; rcases hx with rfl; all_goals first | exact (List.mem_of_getElem? (i := 0) rfl)) rfl (Nat.le_of_eq rfl) (Nat.le_of_ble_eq_true rfl) (Nat.le_of_ble_eq_true rfl) ⟨rfl, Nat.le_of_ble_eq_true rfl⟩ ⟨rfl, Nat.le_of_ble_eq_true rfl⟩ rfl (fun _ _ _ q => nomatch q.1) fun T h560 so W hQ => ?_
      obtain ⟨-, b560, g560, K560, S560⟩ := hQ
      have S560 : St Z h560 a554 b560 [(36 : Int32), (i2b (p0 &&& (255 : Int32))), (i2b ((XT.ushr p0 (8 : Int32)) &&& (255 : Int32)))] := S560
      refine k_new W 8 24 d_code_345 (w4 hw) (w5 hw) (w6 hw) ⟨rfl, Nat.le_of_ble_eq_true rfl⟩ ⟨rfl, Nat.le_of_ble_eq_true rfl⟩ fun T h561 a562 g562 W E562 X562 D562 => ?_
      have K562 : Keep h560 h561 [] := keep_ext E562 []
      refine k_dup W d_code_348 rfl ?_
      refine k_aload W d_code_349 rfl rfl ?_
      have ne563 : a541 ≠ a547 := (Nat.ne_of_lt (Nat.lt_of_lt_of_le A544.lt (Nat.le_of_eq g547.symm)))
      have ne564 : a541 ≠ a554 := (Nat.ne_of_lt (Nat.lt_of_lt_of_le (Nat.lt_of_lt_of_le A544.lt (Nat.le_trans (Nat.le_trans (Nat.le_trans (Nat.le_trans E547.1 K548.1) K549.1) K550.1) E552.1)) (Nat.le_of_eq g554.symm)))
      have f565 := ((((((((A544.keep K547 nin0).keep K548 (ninS ne563 nin0)).keep K549 (ninS ne563 nin0)).keep K550 (ninS ne563 nin0)).keep K552 nin0).keep K554 nin0).keep K560 (ninS ne564 nin0)).keep K562 nin0)
      have f566 := (Sta.keep (Sta.keep f559 K560 (nsS (Exa.plain X554) ns0)) K562 ns0)
      refine k_callI0 W 4 9 27 (argsL := [(.ref a541)]) (rest := [(.ref a562), (.ref a554), (.ref a552), (.ref a552)]) (a := a562) d_code_351 rfl rfl (w7 hw) (w8 hw) (by decide) (lenOf pd17 rfl) (ct_sinit l Z a0 hw n0 h561 a562 a541 [(p1 &&& (255 : Int32)), ((XT.ushr p1 (8 : Int32)) &&& (255 : Int32)), v82] 3 zc .null (.int (0 : Int32)) X562 (D562 (Or.inr (w32 hw)) (ty := (.array .byte)) (by decide)) (D562 (Or.inr (w30 hw)) (ty := .byte) (by decide)) f565 f566 hzc (rgS (Rg.and (n := 256) p1 (255 : Int32) (by decide)) (rgS (Rg.and (n := 256) (XT.ushr p1 (8 : Int32)) (255 : Int32) (by decide)) (rgS (Rg.mono (show Rg v82 97 from (by rw [ev82]; exact Rg.mono (Rg.add (show Rg (33 : Int32) 34 by decide) (Rg.and (n := 64) (XT.ushr p1 (16 : Int32)) (63 : Int32) (by decide)) (by decide)) (by decide))) (by decide)) (fun _ q => nomatch q)))) (Nat.le_of_ble_eq_true rfl) (Nat.le_of_ble_eq_true rfl) (by decide)) (w9 hw) (w6 hw) (fun x hx => by simp only [List.mem_cons, List.not_mem_nil, or_false] at hx; rcases hx with rfl; all_goals first | exact (List.mem_of_getElem? (i := 0) rfl)) rfl (Nat.le_of_eq rfl) (Nat.le_of_ble_eq_true rfl) (Nat.le_of_ble_eq_true rfl) ⟨rfl, Nat.le_of_ble_eq_true rfl⟩ ⟨rfl, Nat.le_of_ble_eq_true rfl⟩ rfl (fun _ _ _ q => nomatch q.1) fun T h567 so W hQ => ?_
      obtain ⟨-, b567, g567, K567, S567⟩ := hQ
      have S567 : St Z h567 a562 b567 [(i2b (p1 &&& (255 : Int32))), (i2b ((XT.ushr p1 (8 : Int32)) &&& (255 : Int32))), (i2b v82)] := S567
      have f568 := ((((X552.keep K554).keep K560).keep K562).keep K567)
      have ne569 : a552 ≠ a554 := (Nat.ne_of_lt (Nat.lt_of_lt_of_le X552.lt (Nat.le_of_eq g554.symm)))
      have ne570 : a552 ≠ a562 := (Nat.ne_of_lt (Nat.lt_of_lt_of_le (Nat.lt_of_lt_of_le X552.lt (Nat.le_trans E554.1 K560.1)) (Nat.le_of_eq g562.symm)))
      have f571 := (((((D552 (Or.inr (w106 hw)) (ty := (.object "java/lang/String")) (by decide)).keep K554 nin0).keep K560 (ninS ne569 nin0)).keep K562 nin0).keep K567 (ninS ne570 nin0))
      have f572 := (((((D552 (Or.inr (w108 hw)) (ty := (.object "java/lang/String")) (by decide)).keep K554 nin0).keep K560 (ninS ne569 nin0)).keep K562 nin0).keep K567 (ninS ne570 nin0))
      have ne573 : a554 ≠ a562 := (Nat.ne_of_lt (Nat.lt_of_lt_of_le S560.1.lt (Nat.le_of_eq g562.symm)))
      have ne574 : b560 ≠ a562 := (Nat.ne_of_lt (Nat.lt_of_lt_of_le S560.2.2.2.lt (Nat.le_of_eq g562.symm)))
      have f575 := ((S560.keep K562 nin0 nin0).keep K567 (ninS ne573 nin0) (ninS ne574 nin0))
      have f576 := (Sta.keep f566 K567 (nsS (Exa.plain X562) ns0))
      have f578 := (Sta.keep (Sta.keep (Sta.keep (Sta.keep (Sta.keep (Sta.keep (Sta.keep (Sta.keep (Sta.keep (Sta.keep (Sta.keep (Sta.keep (Sta.keep (Sta.keep (Sta.keep (Sta.keep (Sta.keep (Sta.keep (Sta.keep (Sta.keep CI K98 ns0) K99 (nsS (Av.plain A98) ns0)) K100 (nsS (Av.plain A99) ns0)) K101 (nsS (Av.plain A100) ns0)) K537 ns0) K538 (nsS (Av.plain A537) ns0)) K539 (nsS (Av.plain A538) ns0)) K541 ns0) K542 (nsS (Av.plain A541) ns0)) K543 (nsS (Av.plain A542) ns0)) K544 (nsS (Av.plain A543) ns0)) K547 ns0) K548 (nsS (Av.plain A547) ns0)) K549 (nsS (Av.plain A548) ns0)) K550 (nsS (Av.plain A549) ns0)) K552 ns0) K554 ns0) K560 (nsS (Exa.plain X554) ns0)) K562 ns0) K567 (nsS (Exa.plain X562) ns0))
      have f579 := ((((((((((((((((((((CX.keep K98).keep K99).keep K100).keep K101).keep K537).keep K538).keep K539).keep K541).keep K542).keep K543).keep K544).keep K547).keep K548).keep K549).keep K550).keep K552).keep K554).keep K560).keep K562).keep K567)
      have f580 := (Sta.keep (Sta.keep (Sta.keep (Sta.keep (Sta.keep (Sta.keep (Sta.keep (Sta.keep (Sta.keep (Sta.keep (Sta.keep (Sta.keep (Sta.keep (Sta.keep (Sta.keep (Sta.keep (Sta.keep (Sta.keep (Sta.keep (Sta.keep CA K98 ns0) K99 (nsS (Av.plain A98) ns0)) K100 (nsS (Av.plain A99) ns0)) K101 (nsS (Av.plain A100) ns0)) K537 ns0) K538 (nsS (Av.plain A537) ns0)) K539 (nsS (Av.plain A538) ns0)) K541 ns0) K542 (nsS (Av.plain A541) ns0)) K543 (nsS (Av.plain A542) ns0)) K544 (nsS (Av.plain A543) ns0)) K547 ns0) K548 (nsS (Av.plain A547) ns0)) K549 (nsS (Av.plain A548) ns0)) K550 (nsS (Av.plain A549) ns0)) K552 ns0) K554 ns0) K560 (nsS (Exa.plain X554) ns0)) K562 ns0) K567 (nsS (Exa.plain X562) ns0))
      have ne581 : ca ≠ a98 := (Nat.ne_of_lt (Nat.lt_of_lt_of_le CV.lt (Nat.le_of_eq g98.symm)))
      have ne582 : ca ≠ a537 := (Nat.ne_of_lt (Nat.lt_of_lt_of_le (Nat.lt_of_lt_of_le CV.lt (Nat.le_trans (Nat.le_trans (Nat.le_trans E98.1 K99.1) K100.1) K101.1)) (Nat.le_of_eq g537.symm)))
      have ne583 : ca ≠ a541 := (Nat.ne_of_lt (Nat.lt_of_lt_of_le (Nat.lt_of_lt_of_le CV.lt (Nat.le_trans (Nat.le_trans (Nat.le_trans (Nat.le_trans (Nat.le_trans (Nat.le_trans E98.1 K99.1) K100.1) K101.1) E537.1) K538.1) K539.1)) (Nat.le_of_eq g541.symm)))
      have ne584 : ca ≠ a547 := (Nat.ne_of_lt (Nat.lt_of_lt_of_le (Nat.lt_of_lt_of_le CV.lt (Nat.le_trans (Nat.le_trans (Nat.le_trans (Nat.le_trans (Nat.le_trans (Nat.le_trans (Nat.le_trans (Nat.le_trans (Nat.le_trans (Nat.le_trans E98.1 K99.1) K100.1) K101.1) E537.1) K538.1) K539.1) E541.1) K542.1) K543.1) K544.1)) (Nat.le_of_eq g547.symm)))
      have ne585 : ca ≠ a554 := (Nat.ne_of_lt (Nat.lt_of_lt_of_le (Nat.lt_of_lt_of_le CV.lt (Nat.le_trans (Nat.le_trans (Nat.le_trans (Nat.le_trans (Nat.le_trans (Nat.le_trans (Nat.le_trans (Nat.le_trans (Nat.le_trans (Nat.le_trans (Nat.le_trans (Nat.le_trans (Nat.le_trans (Nat.le_trans (Nat.le_trans E98.1 K99.1) K100.1) K101.1) E537.1) K538.1) K539.1) E541.1) K542.1) K543.1) K544.1) E547.1) K548.1) K549.1) K550.1) E552.1)) (Nat.le_of_eq g554.symm)))
      have ne586 : ca ≠ a562 := (Nat.ne_of_lt (Nat.lt_of_lt_of_le (Nat.lt_of_lt_of_le CV.lt (Nat.le_trans (Nat.le_trans (Nat.le_trans (Nat.le_trans (Nat.le_trans (Nat.le_trans (Nat.le_trans (Nat.le_trans (Nat.le_trans (Nat.le_trans (Nat.le_trans (Nat.le_trans (Nat.le_trans (Nat.le_trans (Nat.le_trans (Nat.le_trans (Nat.le_trans E98.1 K99.1) K100.1) K101.1) E537.1) K538.1) K539.1) E541.1) K542.1) K543.1) K544.1) E547.1) K548.1) K549.1) K550.1) E552.1) E554.1) K560.1)) (Nat.le_of_eq g562.symm)))
      have f587 := ((((((((((((((((((((CV.keep K98 nin0).keep K99 (ninS ne581 nin0)).keep K100 (ninS ne581 nin0)).keep K101 (ninS ne581 nin0)).keep K537 nin0).keep K538 (ninS ne582 nin0)).keep K539 (ninS ne582 nin0)).keep K541 nin0).keep K542 (ninS ne583 nin0)).keep K543 (ninS ne583 nin0)).keep K544 (ninS ne583 nin0)).keep K547 nin0).keep K548 (ninS ne584 nin0)).keep K549 (ninS ne584 nin0)).keep K550 (ninS ne584 nin0)).keep K552 nin0).keep K554 nin0).keep K560 (ninS ne585 nin0)).keep K562 nin0).keep K567 (ninS ne586 nin0))
      refine k_callI0 W 1 15 87 (argsL := [(.ref a554), (.ref a562)]) (rest := [(.ref a552)]) (a := a552) d_code_354 rfl rfl (w33 hw) (w34 hw) (by decide) (lenOf pd18 rfl) (ct_veinit l Z a0 hw n0 h567 cd ca a552 a554 b560 a562 b567 [(i2b (p0 &&& (255 : Int32))), (i2b ((XT.ushr p0 (8 : Int32)) &&& (255 : Int32)))] [(i2b (p1 &&& (255 : Int32))), (i2b ((XT.ushr p1 (8 : Int32)) &&& (255 : Int32))), (i2b v82)] zc 2 (i2b v82) rfl (by rw [lo_i2b (Rg.mono (show Rg v82 97 from (by rw [ev82]; exact Rg.mono (Rg.add (show Rg (33 : Int32) 34 by decide) (Rg.and (n := 64) (XT.ushr p1 (16 : Int32)) (63 : Int32) (by decide)) (by decide)) (by decide))) (by decide))]; exact nw9) f568 f571 f572 f575 S567 f576 hzc f578 f579 f580 f587) (w35 hw) (w3 hw) (fun x hx => by simp only [List.mem_cons, List.not_mem_nil, or_false] at hx; rcases hx with rfl; all_goals first | exact (List.mem_of_getElem? (i := 2) rfl)) rfl (Nat.le_of_eq rfl) (Nat.le_of_ble_eq_true rfl) (Nat.le_of_ble_eq_true rfl) ⟨rfl, Nat.le_of_ble_eq_true rfl⟩ ⟨rfl, Nat.le_of_ble_eq_true rfl⟩ rfl (fun _ _ _ q => nomatch q.1) fun T h577 so W hQ => ?_
      obtain ⟨-, K577, FA577, FB577⟩ := hQ
      refine k_astore W d_code_357 rfl (L' := #[.val (.int p0), .val (.int p1), .val (.int p2), .val (.int p3), .val (.int p4), .val (.int (p0 &&& (255 : Int32))), .val (.int ((XT.ushr p0 (8 : Int32)) &&& (255 : Int32))), .val (.int (p1 &&& (255 : Int32))), .val (.int ((XT.ushr p1 (8 : Int32)) &&& (255 : Int32))), .val (.int v82), .val (.int z84), .val (.int z86), .val (.int z88), .val (.int z90), .val (.int z92), .val (.int z94), .val (.int ze), .val (.ref a98), .val (.ref a537), .val (.ref a541), .val (.ref a547), .val (.ref a552), .unset, .unset, .unset]) rfl ?_
      refine k_iload W d_code_359 rfl ?_
      refine k_iconst W d_code_361 (z := (3 : Int32)) rfl ?_
      refine k_iand W d_code_362 (z := (p4 &&& (3 : Int32))) rfl ?_
      refine k_istore W d_code_363 (L' := #[.val (.int p0), .val (.int p1), .val (.int p2), .val (.int p3), .val (.int p4), .val (.int (p0 &&& (255 : Int32))), .val (.int ((XT.ushr p0 (8 : Int32)) &&& (255 : Int32))), .val (.int (p1 &&& (255 : Int32))), .val (.int ((XT.ushr p1 (8 : Int32)) &&& (255 : Int32))), .val (.int v82), .val (.int z84), .val (.int z86), .val (.int z88), .val (.int z90), .val (.int z92), .val (.int z94), .val (.int ze), .val (.ref a98), .val (.ref a537), .val (.ref a541), .val (.ref a547), .val (.ref a552), .val (.int (p4 &&& (3 : Int32))), .unset, .unset]) rfl ?_
      refine k_iload W d_code_365 rfl ?_
      refine k_iconst W d_code_367 (z := (1 : Int32)) rfl ?_
      refine k_ic W 379 d_code_368 (by decide) (fun (hc588 : ¬ (p4 &&& (3 : Int32)) = (1 : Int32)) => ?_) (fun (hc588 : ¬ (¬ (p4 &&& (3 : Int32)) = (1 : Int32))) => ?_)
      · -- pc 379
        refine k_iload W d_code_379 rfl ?_
        refine k_iconst W d_code_381 (z := (2 : Int32)) rfl ?_
        refine k_ic W 400 d_code_382 (by decide) (fun (hc589 : ¬ (p4 &&& (3 : Int32)) = (2 : Int32)) => ?_) (fun (hc589 : ¬ (¬ (p4 &&& (3 : Int32)) = (2 : Int32))) => ?_)
        · -- pc 400
          refine k_iload W d_code_400 rfl ?_
          refine k_iconst W d_code_402 (z := (3 : Int32)) rfl ?_
          refine k_ic W 429 d_code_403 (by decide) (fun (hc590 : ¬ (p4 &&& (3 : Int32)) = (3 : Int32)) => ?_) (fun (hc590 : ¬ (¬ (p4 &&& (3 : Int32)) = (3 : Int32))) => ?_)
          · -- pc 429
            refine k_new W 16 89 d_code_429 (w1 hw) (w2 hw) (w3 hw) ⟨rfl, Nat.le_of_ble_eq_true rfl⟩ ⟨rfl, Nat.le_of_ble_eq_true rfl⟩ fun T h591 a592 g592 W E592 X592 D592 => ?_
            have K592 : Keep h577 h591 [] := keep_ext E592 []
            refine k_dup W d_code_432 rfl ?_
            refine k_new W 17 93 d_code_433 (w4 hw) (w5 hw) (w6 hw) ⟨rfl, Nat.le_of_ble_eq_true rfl⟩ ⟨rfl, Nat.le_of_ble_eq_true rfl⟩ fun T h593 a594 g594 W E594 X594 D594 => ?_
            have K594 : Keep h591 h593 [] := keep_ext E594 []
            refine k_dup W d_code_436 rfl ?_
            refine k_aload W d_code_437 rfl rfl ?_
            have ne595 : a537 ≠ a541 := (Nat.ne_of_lt (Nat.lt_of_lt_of_le A539.lt (Nat.le_of_eq g541.symm)))
            have ne596 : a537 ≠ a547 := (Nat.ne_of_lt (Nat.lt_of_lt_of_le (Nat.lt_of_lt_of_le A539.lt (Nat.le_trans (Nat.le_trans (Nat.le_trans E541.1 K542.1) K543.1) K544.1)) (Nat.le_of_eq g547.symm)))
            have ne597 : a537 ≠ a554 := (Nat.ne_of_lt (Nat.lt_of_lt_of_le (Nat.lt_of_lt_of_le A539.lt (Nat.le_trans (Nat.le_trans (Nat.le_trans (Nat.le_trans (Nat.le_trans (Nat.le_trans (Nat.le_trans (Nat.le_trans E541.1 K542.1) K543.1) K544.1) E547.1) K548.1) K549.1) K550.1) E552.1)) (Nat.le_of_eq g554.symm)))
            have ne598 : a537 ≠ a562 := (Nat.ne_of_lt (Nat.lt_of_lt_of_le (Nat.lt_of_lt_of_le A539.lt (Nat.le_trans (Nat.le_trans (Nat.le_trans (Nat.le_trans (Nat.le_trans (Nat.le_trans (Nat.le_trans (Nat.le_trans (Nat.le_trans (Nat.le_trans E541.1 K542.1) K543.1) K544.1) E547.1) K548.1) K549.1) K550.1) E552.1) E554.1) K560.1)) (Nat.le_of_eq g562.symm)))
            have ne599 : a537 ≠ a552 := (Nat.ne_of_lt (Nat.lt_of_lt_of_le (Nat.lt_of_lt_of_le A539.lt (Nat.le_trans (Nat.le_trans (Nat.le_trans (Nat.le_trans (Nat.le_trans (Nat.le_trans (Nat.le_trans E541.1 K542.1) K543.1) K544.1) E547.1) K548.1) K549.1) K550.1)) (Nat.le_of_eq g552.symm)))
            have f600 := ((((((((((((((((A539.keep K541 nin0).keep K542 (ninS ne595 nin0)).keep K543 (ninS ne595 nin0)).keep K544 (ninS ne595 nin0)).keep K547 nin0).keep K548 (ninS ne596 nin0)).keep K549 (ninS ne596 nin0)).keep K550 (ninS ne596 nin0)).keep K552 nin0).keep K554 nin0).keep K560 (ninS ne597 nin0)).keep K562 nin0).keep K567 (ninS ne598 nin0)).keep K577 (ninS ne599 nin0)).keep K592 nin0).keep K594 nin0)
            have f601 := (Sta.keep (Sta.keep (Sta.keep f576 K577 (nsS (Exa.plain f568) ns0)) K592 ns0) K594 ns0)
            refine k_callI0 W 3 18 95 (argsL := [(.ref a537)]) (rest := [(.ref a594), (.ref a592), (.ref a592)]) (a := a594) d_code_439 rfl rfl (w7 hw) (w8 hw) (by decide) (lenOf pd17 rfl) (ct_sinit l Z a0 hw n0 h593 a594 a537 [(36 : Int32), z86] 2 zc .null (.int (0 : Int32)) X594 (D594 (Or.inr (w32 hw)) (ty := (.array .byte)) (by decide)) (D594 (Or.inr (w30 hw)) (ty := .byte) (by decide)) f600 f601 hzc (rgS (by decide) (rgS rz86 (fun _ q => nomatch q))) (Nat.le_of_ble_eq_true rfl) (Nat.le_of_ble_eq_true rfl) (by decide)) (w9 hw) (w6 hw) (fun x hx => by simp only [List.mem_cons, List.not_mem_nil, or_false] at hx; rcases hx with rfl; all_goals first | exact (List.mem_of_getElem? (i := 0) rfl)) rfl (Nat.le_of_eq rfl) (Nat.le_of_ble_eq_true rfl) (Nat.le_of_ble_eq_true rfl) ⟨rfl, Nat.le_of_ble_eq_true rfl⟩ ⟨rfl, Nat.le_of_ble_eq_true rfl⟩ rfl (fun _ _ _ q => nomatch q.1) fun T h602 so W hQ => ?_
            obtain ⟨-, b602, g602, K602, S602⟩ := hQ
            have S602 : St Z h602 a594 b602 [(36 : Int32), (i2b z86)] := S602
            refine k_new W 19 99 d_code_442 (w4 hw) (w5 hw) (w6 hw) ⟨rfl, Nat.le_of_ble_eq_true rfl⟩ ⟨rfl, Nat.le_of_ble_eq_true rfl⟩ fun T h603 a604 g604 W E604 X604 D604 => ?_
            have K604 : Keep h602 h603 [] := keep_ext E604 []
            refine k_dup W d_code_445 rfl ?_
            refine k_aload W d_code_446 rfl rfl ?_
            have ne605 : a547 ≠ a554 := (Nat.ne_of_lt (Nat.lt_of_lt_of_le (Nat.lt_of_lt_of_le A550.lt E552.1) (Nat.le_of_eq g554.symm)))
            have ne606 : a547 ≠ a562 := (Nat.ne_of_lt (Nat.lt_of_lt_of_le (Nat.lt_of_lt_of_le A550.lt (Nat.le_trans (Nat.le_trans E552.1 E554.1) K560.1)) (Nat.le_of_eq g562.symm)))
            have ne607 : a547 ≠ a552 := (Nat.ne_of_lt (Nat.lt_of_lt_of_le A550.lt (Nat.le_of_eq g552.symm)))
            have ne608 : a547 ≠ a594 := (Nat.ne_of_lt (Nat.lt_of_lt_of_le (Nat.lt_of_lt_of_le A550.lt (Nat.le_trans (Nat.le_trans (Nat.le_trans (Nat.le_trans (Nat.le_trans (Nat.le_trans E552.1 E554.1) K560.1) E562.1) K567.1) K577.1) E592.1)) (Nat.le_of_eq g594.symm)))
            have f609 := ((((((((((A550.keep K552 nin0).keep K554 nin0).keep K560 (ninS ne605 nin0)).keep K562 nin0).keep K567 (ninS ne606 nin0)).keep K577 (ninS ne607 nin0)).keep K592 nin0).keep K594 nin0).keep K602 (ninS ne608 nin0)).keep K604 nin0)
            have f610 := (Sta.keep (Sta.keep f601 K602 (nsS (Exa.plain X594) ns0)) K604 ns0)
            refine k_callI0 W 4 20 102 (argsL := [(.ref a547)]) (rest := [(.ref a604), (.ref a594), (.ref a592), (.ref a592)]) (a := a604) d_code_448 rfl rfl (w7 hw) (w8 hw) (by decide) (lenOf pd17 rfl) (ct_sinit l Z a0 hw n0 h603 a604 a547 [z92, z94, ze] 3 zc .null (.int (0 : Int32)) X604 (D604 (Or.inr (w32 hw)) (ty := (.array .byte)) (by decide)) (D604 (Or.inr (w30 hw)) (ty := .byte) (by decide)) f609 f610 hzc (rgS rz92 (rgS rz94 (rgS nwe.1 (fun _ q => nomatch q)))) (Nat.le_of_ble_eq_true rfl) (Nat.le_of_ble_eq_true rfl) (by decide)) (w9 hw) (w6 hw) (fun x hx => by simp only [List.mem_cons, List.not_mem_nil, or_false] at hx; rcases hx with rfl; all_goals first | exact (List.mem_of_getElem? (i := 0) rfl)) rfl (Nat.le_of_eq rfl) (Nat.le_of_ble_eq_true rfl) (Nat.le_of_ble_eq_true rfl) ⟨rfl, Nat.le_of_ble_eq_true rfl⟩ ⟨rfl, Nat.le_of_ble_eq_true rfl⟩ rfl (fun _ _ _ q => nomatch q.1) fun T h611 so W hQ => ?_
            obtain ⟨-, b611, g611, K611, S611⟩ := hQ
            have S611 : St Z h611 a604 b611 [(i2b z92), (i2b z94), (i2b ze)] := S611
            have f612 := ((((X592.keep K594).keep K602).keep K604).keep K611)
            have ne613 : a592 ≠ a594 := (Nat.ne_of_lt (Nat.lt_of_lt_of_le X592.lt (Nat.le_of_eq g594.symm)))
            have ne614 : a592 ≠ a604 := (Nat.ne_of_lt (Nat.lt_of_lt_of_le (Nat.lt_of_lt_of_le X592.lt (Nat.le_trans E594.1 K602.1)) (Nat.le_of_eq g604.symm)))
            have f615 := (((((D592 (Or.inr (w106 hw)) (ty := (.object "java/lang/String")) (by decide)).keep K594 nin0).keep K602 (ninS ne613 nin0)).keep K604 nin0).keep K611 (ninS ne614 nin0))
            have f616 := (((((D592 (Or.inr (w108 hw)) (ty := (.object "java/lang/String")) (by decide)).keep K594 nin0).keep K602 (ninS ne613 nin0)).keep K604 nin0).keep K611 (ninS ne614 nin0))
            have ne617 : a594 ≠ a604 := (Nat.ne_of_lt (Nat.lt_of_lt_of_le S602.1.lt (Nat.le_of_eq g604.symm)))
            have ne618 : b602 ≠ a604 := (Nat.ne_of_lt (Nat.lt_of_lt_of_le S602.2.2.2.lt (Nat.le_of_eq g604.symm)))
            have f619 := ((S602.keep K604 nin0 nin0).keep K611 (ninS ne617 nin0) (ninS ne618 nin0))
            have f620 := (Sta.keep f610 K611 (nsS (Exa.plain X604) ns0))
            have f622 := (Sta.keep (Sta.keep (Sta.keep (Sta.keep (Sta.keep (Sta.keep f578 K577 (nsS (Exa.plain f568) ns0)) K592 ns0) K594 ns0) K602 (nsS (Exa.plain X594) ns0)) K604 ns0) K611 (nsS (Exa.plain X604) ns0))
            have f623 := ((((((f579.keep K577).keep K592).keep K594).keep K602).keep K604).keep K611)
            have f624 := (Sta.keep (Sta.keep (Sta.keep (Sta.keep (Sta.keep (Sta.keep f580 K577 (nsS (Exa.plain f568) ns0)) K592 ns0) K594 ns0) K602 (nsS (Exa.plain X594) ns0)) K604 ns0) K611 (nsS (Exa.plain X604) ns0))
            have ne625 : ca ≠ a552 := (Nat.ne_of_lt (Nat.lt_of_lt_of_le (Nat.lt_of_lt_of_le CV.lt (Nat.le_trans (Nat.le_trans (Nat.le_trans (Nat.le_trans (Nat.le_trans (Nat.le_trans (Nat.le_trans (Nat.le_trans (Nat.le_trans (Nat.le_trans (Nat.le_trans (Nat.le_trans (Nat.le_trans (Nat.le_trans E98.1 K99.1) K100.1) K101.1) E537.1) K538.1) K539.1) E541.1) K542.1) K543.1) K544.1) E547.1) K548.1) K549.1) K550.1)) (Nat.le_of_eq g552.symm)))
            have ne626 : ca ≠ a594 := (Nat.ne_of_lt (Nat.lt_of_lt_of_le (Nat.lt_of_lt_of_le f587.lt (Nat.le_trans K577.1 E592.1)) (Nat.le_of_eq g594.symm)))
            have ne627 : ca ≠ a604 := (Nat.ne_of_lt (Nat.lt_of_lt_of_le (Nat.lt_of_lt_of_le f587.lt (Nat.le_trans (Nat.le_trans (Nat.le_trans K577.1 E592.1) E594.1) K602.1)) (Nat.le_of_eq g604.symm)))
            have f628 := ((((((f587.keep K577 (ninS ne625 nin0)).keep K592 nin0).keep K594 nin0).keep K602 (ninS ne626 nin0)).keep K604 nin0).keep K611 (ninS ne627 nin0))
            refine k_callI0 W 1 26 162 (argsL := [(.ref a594), (.ref a604)]) (rest := [(.ref a592)]) (a := a592) d_code_451 rfl rfl (w33 hw) (w34 hw) (by decide) (lenOf pd18 rfl) (ct_veinit l Z a0 hw n0 h611 cd ca a592 a594 b602 a604 b611 [(i2b z86)] [(i2b z92), (i2b z94), (i2b ze)] zc 2 (i2b ze) rfl (by rw [lo_i2b nwe.1]; exact nwe) f612 f615 f616 f619 S611 f620 hzc f622 f623 f624 f628) (w35 hw) (w3 hw) (fun x hx => by simp only [List.mem_cons, List.not_mem_nil, or_false] at hx; rcases hx with rfl; all_goals first | exact (List.mem_of_getElem? (i := 2) rfl)) rfl (Nat.le_of_eq rfl) (Nat.le_of_ble_eq_true rfl) (Nat.le_of_ble_eq_true rfl) ⟨rfl, Nat.le_of_ble_eq_true rfl⟩ ⟨rfl, Nat.le_of_ble_eq_true rfl⟩ rfl (fun _ _ _ q => nomatch q.1) fun T h621 so W hQ => ?_
            obtain ⟨-, K621, FA621, FB621⟩ := hQ
            refine k_astore W d_code_454 rfl (L' := #[.val (.int p0), .val (.int p1), .val (.int p2), .val (.int p3), .val (.int p4), .val (.int (p0 &&& (255 : Int32))), .val (.int ((XT.ushr p0 (8 : Int32)) &&& (255 : Int32))), .val (.int (p1 &&& (255 : Int32))), .val (.int ((XT.ushr p1 (8 : Int32)) &&& (255 : Int32))), .val (.int v82), .val (.int z84), .val (.int z86), .val (.int z88), .val (.int z90), .val (.int z92), .val (.int z94), .val (.int ze), .val (.ref a98), .val (.ref a537), .val (.ref a541), .val (.ref a547), .val (.ref a552), .val (.int (p4 &&& (3 : Int32))), .val (.ref a592), .unset]) rfl ?_
            refine k_iload W d_code_456 rfl ?_
            refine k_ifY W 505 d_code_458 (by decide) (show ¬ z84 = 0 from hc102) ?_
            refine k_iconst W d_code_505 (z := (0 : Int32)) rfl ?_
            refine k_istore W d_code_506 (L' := #[.val (.int p0), .val (.int p1), .val (.int p2), .val (.int p3), .val (.int p4), .val (.int (p0 &&& (255 : Int32))), .val (.int ((XT.ushr p0 (8 : Int32)) &&& (255 : Int32))), .val (.int (p1 &&& (255 : Int32))), .val (.int ((XT.ushr p1 (8 : Int32)) &&& (255 : Int32))), .val (.int v82), .val (.int z84), .val (.int z86), .val (.int z88), .val (.int z90), .val (.int z92), .val (.int z94), .val (.int ze), .val (.ref a98), .val (.ref a537), .val (.ref a541), .val (.ref a547), .val (.ref a552), .val (.int (p4 &&& (3 : Int32))), .val (.ref a592), .val (.int (0 : Int32))]) rfl ?_
            refine k_aload W d_code_508 rfl rfl ?_
            refine k_aload W d_code_510 rfl rfl ?_
            have f629 := (f612.keep K621)
            have ne630 : a552 ≠ a594 := (Nat.ne_of_lt (Nat.lt_of_lt_of_le (Nat.lt_of_lt_of_le FA577.lt E592.1) (Nat.le_of_eq g594.symm)))
            have ne631 : a552 ≠ a604 := (Nat.ne_of_lt (Nat.lt_of_lt_of_le (Nat.lt_of_lt_of_le FA577.lt (Nat.le_trans (Nat.le_trans E592.1 E594.1) K602.1)) (Nat.le_of_eq g604.symm)))
            have ne632 : a552 ≠ a592 := (Nat.ne_of_lt (Nat.lt_of_lt_of_le FA577.lt (Nat.le_of_eq g592.symm)))
            have f633 := ((((((FA577.keep K592 nin0).keep K594 nin0).keep K602 (ninS ne630 nin0)).keep K604 nin0).keep K611 (ninS ne631 nin0)).keep K621 (ninS ne632 nin0))
            have f634 := ((((((FB577.keep K592 nin0).keep K594 nin0).keep K602 (ninS ne630 nin0)).keep K604 nin0).keep K611 (ninS ne631 nin0)).keep K621 (ninS ne632 nin0))
            have ne635 : b560 ≠ a552 := (Ne.symm (Nat.ne_of_lt (Nat.lt_of_lt_of_le (Nat.lt_of_lt_of_le X552.lt E554.1) g560)))
            have ne636 : a554 ≠ a594 := (Nat.ne_of_lt (Nat.lt_of_lt_of_le (Nat.lt_of_lt_of_le f575.1.lt (Nat.le_trans K577.1 E592.1)) (Nat.le_of_eq g594.symm)))
            have ne637 : b560 ≠ a594 := (Nat.ne_of_lt (Nat.lt_of_lt_of_le (Nat.lt_of_lt_of_le f575.2.2.2.lt (Nat.le_trans K577.1 E592.1)) (Nat.le_of_eq g594.symm)))
            have ne638 : a554 ≠ a604 := (Nat.ne_of_lt (Nat.lt_of_lt_of_le (Nat.lt_of_lt_of_le f575.1.lt (Nat.le_trans (Nat.le_trans (Nat.le_trans K577.1 E592.1) E594.1) K602.1)) (Nat.le_of_eq g604.symm)))
            have ne639 : b560 ≠ a604 := (Nat.ne_of_lt (Nat.lt_of_lt_of_le (Nat.lt_of_lt_of_le f575.2.2.2.lt (Nat.le_trans (Nat.le_trans (Nat.le_trans K577.1 E592.1) E594.1) K602.1)) (Nat.le_of_eq g604.symm)))
            have ne640 : a554 ≠ a592 := (Nat.ne_of_lt (Nat.lt_of_lt_of_le (Nat.lt_of_lt_of_le f575.1.lt K577.1) (Nat.le_of_eq g592.symm)))
            have ne641 : b560 ≠ a592 := (Nat.ne_of_lt (Nat.lt_of_lt_of_le (Nat.lt_of_lt_of_le f575.2.2.2.lt K577.1) (Nat.le_of_eq g592.symm)))
            have f642 := (((((((f575.keep K577 (ninS (Ne.symm ne569) nin0) (ninS ne635 nin0)).keep K592 nin0 nin0).keep K594 nin0 nin0).keep K602 (ninS ne636 nin0) (ninS ne637 nin0)).keep K604 nin0 nin0).keep K611 (ninS ne638 nin0) (ninS ne639 nin0)).keep K621 (ninS ne640 nin0) (ninS ne641 nin0))
            have ne643 : b602 ≠ a592 := (Ne.symm (Nat.ne_of_lt (Nat.lt_of_lt_of_le (Nat.lt_of_lt_of_le X592.lt E594.1) g602)))
            have f644 := (f619.keep K621 (ninS (Ne.symm ne613) nin0) (ninS ne643 nin0))
            have ne645 : b567 ≠ a552 := (Ne.symm (Nat.ne_of_lt (Nat.lt_of_lt_of_le (Nat.lt_of_lt_of_le X552.lt (Nat.le_trans (Nat.le_trans E554.1 K560.1) E562.1)) g567)))
            have ne646 : a562 ≠ a594 := (Nat.ne_of_lt (Nat.lt_of_lt_of_le (Nat.lt_of_lt_of_le S567.1.lt (Nat.le_trans K577.1 E592.1)) (Nat.le_of_eq g594.symm)))
            have ne647 : b567 ≠ a594 := (Nat.ne_of_lt (Nat.lt_of_lt_of_le (Nat.lt_of_lt_of_le S567.2.2.2.lt (Nat.le_trans K577.1 E592.1)) (Nat.le_of_eq g594.symm)))
            have ne648 : a562 ≠ a604 := (Nat.ne_of_lt (Nat.lt_of_lt_of_le (Nat.lt_of_lt_of_le S567.1.lt (Nat.le_trans (Nat.le_trans (Nat.le_trans K577.1 E592.1) E594.1) K602.1)) (Nat.le_of_eq g604.symm)))
            have ne649 : b567 ≠ a604 := (Nat.ne_of_lt (Nat.lt_of_lt_of_le (Nat.lt_of_lt_of_le S567.2.2.2.lt (Nat.le_trans (Nat.le_trans (Nat.le_trans K577.1 E592.1) E594.1) K602.1)) (Nat.le_of_eq g604.symm)))
            have ne650 : a562 ≠ a592 := (Nat.ne_of_lt (Nat.lt_of_lt_of_le (Nat.lt_of_lt_of_le S567.1.lt K577.1) (Nat.le_of_eq g592.symm)))
            have ne651 : b567 ≠ a592 := (Nat.ne_of_lt (Nat.lt_of_lt_of_le (Nat.lt_of_lt_of_le S567.2.2.2.lt K577.1) (Nat.le_of_eq g592.symm)))
            have f652 := (((((((S567.keep K577 (ninS (Ne.symm ne570) nin0) (ninS ne645 nin0)).keep K592 nin0 nin0).keep K594 nin0 nin0).keep K602 (ninS ne646 nin0) (ninS ne647 nin0)).keep K604 nin0 nin0).keep K611 (ninS ne648 nin0) (ninS ne649 nin0)).keep K621 (ninS ne650 nin0) (ninS ne651 nin0))
            have ne653 : b611 ≠ a592 := (Ne.symm (Nat.ne_of_lt (Nat.lt_of_lt_of_le (Nat.lt_of_lt_of_le X592.lt (Nat.le_trans (Nat.le_trans E594.1 K602.1) E604.1)) g611)))
            have f654 := (S611.keep K621 (ninS (Ne.symm ne614) nin0) (ninS ne653 nin0))
            have f655 := (Sta.keep f620 K621 (nsS (Exa.plain f612) ns0))
            have f657 := (((((((f568.keep K577).keep K592).keep K594).keep K602).keep K604).keep K611).keep K621)
            refine k_callV W 0 26 162 (argsL := [(.ref a592)]) (rest := []) (a := a552) (C := "com/example/lean_envelope/leanenvelope/check/ValidationError") (z0 := (⟨"com/example/lean_envelope/leanenvelope/check/ValidationError", "equals", "(Ljava/lang/Object;)Z"⟩ : MethodName)) (z := (⟨"com/example/lean_envelope/leanenvelope/check/ValidationError", "equals", "(Ljava/lang/Object;)Z"⟩ : MethodName)) d_code_512 (w109 hw) (w110 hw) (nfSel (w112 hw)) (w112 hw) (w111 hw) (by decide) (lenOf pd16 rfl) f657 (ct_veq l Z a0 hw n0 h621 a552 a592 a554 b560 a594 b602 a562 b567 a604 b611 [(36 : Int32), (i2b (p0 &&& (255 : Int32))), (i2b ((XT.ushr p0 (8 : Int32)) &&& (255 : Int32)))] [(36 : Int32), (i2b z86)] [(i2b (p1 &&& (255 : Int32))), (i2b ((XT.ushr p1 (8 : Int32)) &&& (255 : Int32))), (i2b v82)] [(i2b z92), (i2b z94), (i2b ze)] zc ne632 ne636 ne648 f657 f633 f634 f629 FA621 FB621 f642 f644 f652 f654 f655 hzc) (w113 hw) (w3 hw) (fun x hx => nomatch hx) rfl (Nat.le_of_eq rfl) (Nat.le_of_ble_eq_true rfl) (Nat.le_of_ble_eq_true rfl) ⟨rfl, Nat.le_of_ble_eq_true rfl⟩ ⟨rfl, Nat.le_of_ble_eq_true rfl⟩ rfl (fun _ _ q => by rcases q.1 with ⟨_, u⟩ | ⟨_, u⟩ <;> cases u) fun T h658 v so W hQ => ?_
            obtain ⟨hQ, rfl⟩ := hQ
            rcases hQ with ⟨hP656, hv⟩ | ⟨hP656, hv⟩
            · --
              obtain ⟨e1, e2⟩ := hP656
              exact absurd (congrArg List.length e1) (by simp)
            · --
              obtain rfl := Option.some.inj hv
              refine k_iload W d_code_515 rfl ?_
              refine k_icN W d_code_517 (show ¬ (¬ (0 : Int32) = (0 : Int32)) by decide) ?_
              refine k_aload W d_code_520 rfl rfl ?_
              refine k_aload W d_code_522 rfl rfl ?_
              refine k_callV W 0 26 162 (argsL := [(.ref a552)]) (rest := []) (a := a592) (C := "com/example/lean_envelope/leanenvelope/check/ValidationError") (z0 := (⟨"com/example/lean_envelope/leanenvelope/check/ValidationError", "equals", "(Ljava/lang/Object;)Z"⟩ : MethodName)) (z := (⟨"com/example/lean_envelope/leanenvelope/check/ValidationError", "equals", "(Ljava/lang/Object;)Z"⟩ : MethodName)) d_code_524 (w109 hw) (w110 hw) (nfSel (w112 hw)) (w112 hw) (w111 hw) (by decide) (lenOf pd16 rfl) f629 (ct_veq l Z a0 hw n0 h621 a592 a552 a594 b602 a554 b560 a604 b611 a562 b567 [(36 : Int32), (i2b z86)] [(36 : Int32), (i2b (p0 &&& (255 : Int32))), (i2b ((XT.ushr p0 (8 : Int32)) &&& (255 : Int32)))] [(i2b z92), (i2b z94), (i2b ze)] [(i2b (p1 &&& (255 : Int32))), (i2b ((XT.ushr p1 (8 : Int32)) &&& (255 : Int32))), (i2b v82)] zc (Ne.symm ne632) (Ne.symm ne636) (Ne.symm ne648) f629 FA621 FB621 f657 f633 f634 f644 f642 f654 f652 f655 hzc) (w113 hw) (w3 hw) (fun x hx => nomatch hx) rfl (Nat.le_of_eq rfl) (Nat.le_of_ble_eq_true rfl) (Nat.le_of_ble_eq_true rfl) ⟨rfl, Nat.le_of_ble_eq_true rfl⟩ ⟨rfl, Nat.le_of_ble_eq_true rfl⟩ rfl (fun _ _ q => by rcases q.1 with ⟨_, u⟩ | ⟨_, u⟩ <;> cases u) fun T h660 v so W hQ => ?_
              obtain ⟨hQ, rfl⟩ := hQ
              rcases hQ with ⟨hP659, hv⟩ | ⟨hP659, hv⟩
              · --
                obtain ⟨e1, e2⟩ := hP659
                exact absurd (congrArg List.length e1) (by simp)
              · --
                obtain rfl := Option.some.inj hv
                refine k_iload W d_code_527 rfl ?_
                refine k_icN W d_code_529 (show ¬ (¬ (0 : Int32) = (0 : Int32)) by decide) ?_
                refine k_iconst W d_code_532 (z := (1 : Int32)) rfl ?_
                refine k_goto W 537 d_code_533 (by decide) ?_
                exact k_retN W (t := .boolean) (z' := (1 : Int32)) d_code_537 rfl (by simp) (by decide) [] (fun x hx => nomatch hx) (Nat.le_of_ble_eq_true rfl) (Nat.le_of_ble_eq_true rfl) rfl
          · -- pc 406
            refine k_aload W d_code_406 rfl rfl ?_
            refine k_new W 16 91 d_code_408 (w4 hw) (w5 hw) (w6 hw) ⟨rfl, Nat.le_of_ble_eq_true rfl⟩ ⟨rfl, Nat.le_of_ble_eq_true rfl⟩ fun T h661 a662 g662 W E662 X662 D662 => ?_
            have K662 : Keep h577 h661 [] := keep_ext E662 []
            refine k_dup W d_code_411 rfl ?_
            refine k_aload W d_code_412 rfl rfl ?_
            have ne663 : a98 ≠ a554 := (Nat.ne_of_lt (Nat.lt_of_lt_of_le (Nat.lt_of_lt_of_le A101.lt (Nat.le_trans (Nat.le_trans (Nat.le_trans (Nat.le_trans (Nat.le_trans (Nat.le_trans (Nat.le_trans (Nat.le_trans (Nat.le_trans (Nat.le_trans (Nat.le_trans E537.1 K538.1) K539.1) E541.1) K542.1) K543.1) K544.1) E547.1) K548.1) K549.1) K550.1) E552.1)) (Nat.le_of_eq g554.symm)))
            have ne664 : a98 ≠ a562 := (Nat.ne_of_lt (Nat.lt_of_lt_of_le (Nat.lt_of_lt_of_le f558.lt K560.1) (Nat.le_of_eq g562.symm)))
            have ne665 : a98 ≠ a552 := (Nat.ne_of_lt (Nat.lt_of_lt_of_le (Nat.lt_of_lt_of_le A101.lt (Nat.le_trans (Nat.le_trans (Nat.le_trans (Nat.le_trans (Nat.le_trans (Nat.le_trans (Nat.le_trans (Nat.le_trans (Nat.le_trans (Nat.le_trans E537.1 K538.1) K539.1) E541.1) K542.1) K543.1) K544.1) E547.1) K548.1) K549.1) K550.1)) (Nat.le_of_eq g552.symm)))
            have f666 := (((((f558.keep K560 (ninS ne663 nin0)).keep K562 nin0).keep K567 (ninS ne664 nin0)).keep K577 (ninS ne665 nin0)).keep K662 nin0)
            have f667 := (Sta.keep (Sta.keep f576 K577 (nsS (Exa.plain f568) ns0)) K662 ns0)
            refine k_callI0 W 2 17 94 (argsL := [(.ref a98)]) (rest := [(.ref a662), (.ref a552)]) (a := a662) d_code_414 rfl rfl (w7 hw) (w8 hw) (by decide) (lenOf pd17 rfl) (ct_sinit l Z a0 hw n0 h661 a662 a98 [(36 : Int32), (p0 &&& (255 : Int32)), ((XT.ushr p0 (8 : Int32)) &&& (255 : Int32))] 3 zc .null (.int (0 : Int32)) X662 (D662 (Or.inr (w32 hw)) (ty := (.array .byte)) (by decide)) (D662 (Or.inr (w30 hw)) (ty := .byte) (by decide)) f666 f667 hzc (rgS (by decide) (rgS (Rg.and (n := 256) p0 (255 : Int32) (by decide)) (rgS (Rg.and (n := 256) (XT.ushr p0 (8 : Int32)) (255 : Int32) (by decide)) (fun _ q => nomatch q)))) (Nat.le_of_ble_eq_true rfl) (Nat.le_of_ble_eq_true rfl) (by decide)) (w9 hw) (w6 hw) (fun x hx => by simp only [List.mem_cons, List.not_mem_nil, or_false] at hx; rcases hx with rfl; all_goals first | exact (List.mem_of_getElem? (i := 0) rfl)) rfl (Nat.le_of_eq rfl) (Nat.le_of_ble_eq_true rfl) (Nat.le_of_ble_eq_true rfl) ⟨rfl, Nat.le_of_ble_eq_true rfl⟩ ⟨rfl, Nat.le_of_ble_eq_true rfl⟩ rfl (fun _ _ _ q => nomatch q.1) fun T h668 so W hQ => ?_
            obtain ⟨-, b668, g668, K668, S668⟩ := hQ
            have S668 : St Z h668 a662 b668 [(36 : Int32), (i2b (p0 &&& (255 : Int32))), (i2b ((XT.ushr p0 (8 : Int32)) &&& (255 : Int32)))] := S668
            have f669 := (((f568.keep K577).keep K662).keep K668)
            refine k_callV W 0 17 94 (argsL := [(.ref a662)]) (rest := []) (a := a552) (C := "com/example/lean_envelope/leanenvelope/check/ValidationError") (z0 := (⟨"com/example/lean_envelope/leanenvelope/check/ValidationError", "equals", "(Ljava/lang/Object;)Z"⟩ : MethodName)) (z := (⟨"com/example/lean_envelope/leanenvelope/check/ValidationError", "equals", "(Ljava/lang/Object;)Z"⟩ : MethodName)) d_code_417 (w109 hw) (w110 hw) (nfSel (w112 hw)) (w112 hw) (w111 hw) (by decide) (lenOf pd16 rfl) f669 (ct_veqS l Z a0 hw n0 h668 a552 a662 f669 S668.1) (w113 hw) (w3 hw) (fun x hx => nomatch hx) rfl (Nat.le_of_eq rfl) (Nat.le_of_ble_eq_true rfl) (Nat.le_of_ble_eq_true rfl) ⟨rfl, Nat.le_of_ble_eq_true rfl⟩ ⟨rfl, Nat.le_of_ble_eq_true rfl⟩ rfl (fun _ _ q => nomatch q.1) fun T h670 v so W hQ => ?_
            obtain ⟨hv, rfl, -⟩ := hQ
            obtain rfl := Option.some.inj hv
            refine k_ifN W d_code_420 (show ¬ (¬ (0 : Int32) = 0) by decide) ?_
            refine k_iconst W d_code_423 (z := (1 : Int32)) rfl ?_
            refine k_goto W 428 d_code_424 (by decide) ?_
            exact k_retN W (t := .boolean) (z' := (1 : Int32)) d_code_428 rfl (by simp) (by decide) [] (fun x hx => nomatch hx) (Nat.le_of_ble_eq_true rfl) (Nat.le_of_ble_eq_true rfl) rfl
        · -- pc 385
          refine k_aload W d_code_385 rfl rfl ?_
          refine k_aconst W d_code_387 ?_
          have f672 := (f568.keep K577)
          refine k_callV W 0 15 87 (argsL := [.null]) (rest := []) (a := a552) (C := "com/example/lean_envelope/leanenvelope/check/ValidationError") (z0 := (⟨"com/example/lean_envelope/leanenvelope/check/ValidationError", "equals", "(Ljava/lang/Object;)Z"⟩ : MethodName)) (z := (⟨"com/example/lean_envelope/leanenvelope/check/ValidationError", "equals", "(Ljava/lang/Object;)Z"⟩ : MethodName)) d_code_388 (w109 hw) (w110 hw) (nfSel (w112 hw)) (w112 hw) (w111 hw) (by decide) (lenOf pd16 rfl) f672 (ct_veqN l Z a0 hw n0 h577 a552) (w113 hw) (w3 hw) (fun x hx => nomatch hx) rfl (Nat.le_of_eq rfl) (Nat.le_of_ble_eq_true rfl) (Nat.le_of_ble_eq_true rfl) ⟨rfl, Nat.le_of_ble_eq_true rfl⟩ ⟨rfl, Nat.le_of_ble_eq_true rfl⟩ rfl (fun _ _ q => nomatch q.1) fun T h671 v so W hQ => ?_
          obtain ⟨hv, rfl, -⟩ := hQ
          obtain rfl := Option.some.inj hv
          refine k_ifN W d_code_391 (show ¬ (¬ (0 : Int32) = 0) by decide) ?_
          refine k_iconst W d_code_394 (z := (1 : Int32)) rfl ?_
          refine k_goto W 399 d_code_395 (by decide) ?_
          exact k_retN W (t := .boolean) (z' := (1 : Int32)) d_code_399 rfl (by simp) (by decide) [] (fun x hx => nomatch hx) (Nat.le_of_ble_eq_true rfl) (Nat.le_of_ble_eq_true rfl) rfl
      · -- pc 371
        refine k_aload W d_code_371 rfl rfl ?_
        refine k_aload W d_code_373 rfl rfl ?_
        have f674 := (f568.keep K577)
        refine k_callV W 0 15 87 (argsL := [(.ref a552)]) (rest := []) (a := a552) (C := "com/example/lean_envelope/leanenvelope/check/ValidationError") (z0 := (⟨"com/example/lean_envelope/leanenvelope/check/ValidationError", "equals", "(Ljava/lang/Object;)Z"⟩ : MethodName)) (z := (⟨"com/example/lean_envelope/leanenvelope/check/ValidationError", "equals", "(Ljava/lang/Object;)Z"⟩ : MethodName)) d_code_375 (w109 hw) (w110 hw) (nfSel (w112 hw)) (w112 hw) (w111 hw) (by decide) (lenOf pd16 rfl) f674 (ct_veqI l Z a0 hw n0 h577 a552) (w113 hw) (w3 hw) (fun x hx => nomatch hx) rfl (Nat.le_of_eq rfl) (Nat.le_of_ble_eq_true rfl) (Nat.le_of_ble_eq_true rfl) ⟨rfl, Nat.le_of_ble_eq_true rfl⟩ ⟨rfl, Nat.le_of_ble_eq_true rfl⟩ rfl (fun _ _ q => nomatch q.1) fun T h673 v so W hQ => ?_
        obtain ⟨hv, rfl, -⟩ := hQ
        obtain rfl := Option.some.inj hv
        exact k_retN W (t := .boolean) (z' := (1 : Int32)) d_code_378 rfl (by simp) (by decide) [] (fun x hx => nomatch hx) (Nat.le_of_ble_eq_true rfl) (Nat.le_of_ble_eq_true rfl) rfl
    · -- pc 289
      refine k_iconst W d_code_289 (z := (2 : Int32)) rfl ?_
      refine k_newarr W 2 4 10 d_code_290 (w0 hw) (by decide) (by decide) ⟨rfl, Nat.le_of_ble_eq_true rfl⟩ ⟨rfl, Nat.le_of_ble_eq_true rfl⟩ fun T h675 a676 g676 W E676 A676 => ?_
      have K676 : Keep h544 h675 [] := keep_ext E676 []
      have A676 : Av Z h675 a676 .char [(.int (0 : Int32)), (.int (0 : Int32))] := A676
      refine k_astore W d_code_292 rfl (L' := #[.val (.int p0), .val (.int p1), .val (.int p2), .val (.int p3), .val (.int p4), .val (.int (p0 &&& (255 : Int32))), .val (.int ((XT.ushr p0 (8 : Int32)) &&& (255 : Int32))), .val (.int (p1 &&& (255 : Int32))), .val (.int ((XT.ushr p1 (8 : Int32)) &&& (255 : Int32))), .val (.int v82), .val (.int z84), .val (.int z86), .val (.int z88), .val (.int z90), .val (.int z92), .val (.int z94), .val (.int ze), .val (.ref a98), .val (.ref a537), .val (.ref a541), .val (.ref a676), .unset, .unset, .unset, .unset]) rfl ?_
      refine k_aload W d_code_294 rfl rfl ?_
      refine k_iconst W d_code_296 (z := (0 : Int32)) rfl ?_
      refine k_iload W d_code_297 rfl ?_
      refine k_castore W (z := z92) 0 d_code_299 (List.mem_of_getElem? (i := 0) rfl) A676 (by decide) (Nat.le_of_ble_eq_true rfl) (Rg.nar (Rg.mono rz92 (by decide))) (Rg.fits (Rg.mono rz92 (by decide))) fun T h677 W Wr677 A677 => ?_
      have K677 : Keep h675 h677 [a676] := Keep.of_wr Wr677
      have A677 : Av Z h677 a676 .char [(.int z92), (.int (0 : Int32))] := A677
      refine k_aload W d_code_300 rfl rfl ?_
      refine k_iconst W d_code_302 (z := (1 : Int32)) rfl ?_
      refine k_iload W d_code_303 rfl ?_
      refine k_castore W (z := ze) 1 d_code_305 (List.mem_of_getElem? (i := 0) rfl) A677 (by decide) (Nat.le_of_ble_eq_true rfl) (Rg.nar (Rg.mono nwe.1 (by decide))) (Rg.fits (Rg.mono nwe.1 (by decide))) fun T h678 W Wr678 A678 => ?_
      have K678 : Keep h677 h678 [a676] := Keep.of_wr Wr678
      have A678 : Av Z h678 a676 .char [(.int z92), (.int ze)] := A678
      refine k_goto W 332 d_code_306 (by decide) ?_
      refine k_new W 5 12 d_code_332 (w1 hw) (w2 hw) (w3 hw) ⟨rfl, Nat.le_of_ble_eq_true rfl⟩ ⟨rfl, Nat.le_of_ble_eq_true rfl⟩ fun T h679 a680 g680 W E680 X680 D680 => ?_
      have K680 : Keep h678 h679 [] := keep_ext E680 []
      refine k_dup W d_code_335 rfl ?_
      refine k_new W 6 16 d_code_336 (w4 hw) (w5 hw) (w6 hw) ⟨rfl, Nat.le_of_ble_eq_true rfl⟩ ⟨rfl, Nat.le_of_ble_eq_true rfl⟩ fun T h681 a682 g682 W E682 X682 D682 => ?_
      have K682 : Keep h679 h681 [] := keep_ext E682 []
      refine k_dup W d_code_339 rfl ?_
      refine k_aload W d_code_340 rfl rfl ?_
      have ne683 : a98 ≠ a537 := (Nat.ne_of_lt (Nat.lt_of_lt_of_le A101.lt (Nat.le_of_eq g537.symm)))
      have ne684 : a98 ≠ a541 := (Nat.ne_of_lt (Nat.lt_of_lt_of_le (Nat.lt_of_lt_of_le A101.lt (Nat.le_trans (Nat.le_trans E537.1 K538.1) K539.1)) (Nat.le_of_eq g541.symm)))
      have ne685 : a98 ≠ a676 := (Nat.ne_of_lt (Nat.lt_of_lt_of_le (Nat.lt_of_lt_of_le A101.lt (Nat.le_trans (Nat.le_trans (Nat.le_trans (Nat.le_trans (Nat.le_trans (Nat.le_trans E537.1 K538.1) K539.1) E541.1) K542.1) K543.1) K544.1)) (Nat.le_of_eq g676.symm)))
      have f686 := ((((((((((((A101.keep K537 nin0).keep K538 (ninS ne683 nin0)).keep K539 (ninS ne683 nin0)).keep K541 nin0).keep K542 (ninS ne684 nin0)).keep K543 (ninS ne684 nin0)).keep K544 (ninS ne684 nin0)).keep K676 nin0).keep K677 (ninS ne685 nin0)).keep K678 (ninS ne685 nin0)).keep K680 nin0).keep K682 nin0)
      have f687 := (Sta.keep (Sta.keep (Sta.keep (Sta.keep (Sta.keep (Sta.keep (Sta.keep (Sta.keep (Sta.keep (Sta.keep (Sta.keep (Sta.keep (Sta.keep (Sta.keep (Sta.keep (Sta.keep P0 K98 ns0) K99 (nsS (Av.plain A98) ns0)) K100 (nsS (Av.plain A99) ns0)) K101 (nsS (Av.plain A100) ns0)) K537 ns0) K538 (nsS (Av.plain A537) ns0)) K539 (nsS (Av.plain A538) ns0)) K541 ns0) K542 (nsS (Av.plain A541) ns0)) K543 (nsS (Av.plain A542) ns0)) K544 (nsS (Av.plain A543) ns0)) K676 ns0) K677 (nsS (Av.plain A676) ns0)) K678 (nsS (Av.plain A677) ns0)) K680 ns0) K682 ns0)
      refine k_callI0 W 3 7 19 (argsL := [(.ref a98)]) (rest := [(.ref a682), (.ref a680), (.ref a680)]) (a := a682) d_code_342 rfl rfl (w7 hw) (w8 hw) (by decide) (lenOf pd17 rfl) (ct_sinit l Z a0 hw n0 h681 a682 a98 [(36 : Int32), (p0 &&& (255 : Int32)), ((XT.ushr p0 (8 : Int32)) &&& (255 : Int32))] 3 zc .null (.int (0 : Int32)) X682 (D682 (Or.inr (w32 hw)) (ty := (.array .byte)) (by decide)) (D682 (Or.inr (w30 hw)) (ty := .byte) (by decide)) f686 f687 hzc (rgS (by decide) (rgS (Rg.and (n := 256) p0 (255 : Int32) (by decide)) (rgS (Rg.and (n := 256) (XT.ushr p0 (8 : Int32)) (255 : Int32) (by decide)) (fun _ q => nomatch q)))) (Nat.le_of_ble_eq_true rfl) (Nat.le_of_ble_eq_true rfl) (by decide)) (w9 hw) (w6 hw) (fun x hx => by simp only [List.mem_cons, List.not_mem_nil, or_false] at hx; rcases hx with rfl; all_goals first | exact (List.mem_of_getElem? (i := 0) rfl)) rfl (Nat.le_of_eq rfl) (Nat.le_of_ble_eq_true rfl) (Nat.le_of_ble_eq_true rfl) ⟨rfl, Nat.le_of_ble_eq_true rfl⟩ ⟨rfl, Nat.le_of_ble_eq_true rfl⟩ rfl (fun _ _ _ q => nomatch q.1) fun T h688 so W hQ => ?_
      obtain ⟨-, b688, g688, K688, S688⟩ := hQ
      have S688 : St Z h688 a682 b688 [(36 : Int32), (i2b (p0 &&& (255 : Int32))), (i2b ((XT.ushr p0 (8 : Int32)) &&& (255 : Int32)))] := S688
      refine k_new W 8 23 d_code_345 (w4 hw) (w5 hw) (w6 hw) ⟨rfl, Nat.le_of_ble_eq_true rfl⟩ ⟨rfl, Nat.le_of_ble_eq_true rfl⟩ fun T h689 a690 g690 W E690 X690 D690 => ?_
      have K690 : Keep h688 h689 [] := keep_ext E690 []
      refine k_dup W d_code_348 rfl ?_
      refine k_aload W d_code_349 rfl rfl ?_
      have ne691 : a541 ≠ a676 := (Nat.ne_of_lt (Nat.lt_of_lt_of_le A544.lt (Nat.le_of_eq g676.symm)))
      have ne692 : a541 ≠ a682 := (Nat.ne_of_lt (Nat.lt_of_lt_of_le (Nat.lt_of_lt_of_le A544.lt (Nat.le_trans (Nat.le_trans (Nat.le_trans E676.1 K677.1) K678.1) E680.1)) (Nat.le_of_eq g682.symm)))
      have f693 := (((((((A544.keep K676 nin0).keep K677 (ninS ne691 nin0)).keep K678 (ninS ne691 nin0)).keep K680 nin0).keep K682 nin0).keep K688 (ninS ne692 nin0)).keep K690 nin0)
      have f694 := (Sta.keep (Sta.keep f687 K688 (nsS (Exa.plain X682) ns0)) K690 ns0)
      refine k_callI0 W 4 9 26 (argsL := [(.ref a541)]) (rest := [(.ref a690), (.ref a682), (.ref a680), (.ref a680)]) (a := a690) d_code_351 rfl rfl (w7 hw) (w8 hw) (by decide) (lenOf pd17 rfl) (ct_sinit l Z a0 hw n0 h689 a690 a541 [(p1 &&& (255 : Int32)), ((XT.ushr p1 (8 : Int32)) &&& (255 : Int32)), v82] 3 zc .null (.int (0 : Int32)) X690 (D690 (Or.inr (w32 hw)) (ty := (.array .byte)) (by decide)) (D690 (Or.inr (w30 hw)) (ty := .byte) (by decide)) f693 f694 hzc (rgS (Rg.and (n := 256) p1 (255 : Int32) (by decide)) (rgS (Rg.and (n := 256) (XT.ushr p1 (8 : Int32)) (255 : Int32) (by decide)) (rgS (Rg.mono (show Rg v82 97 from (by rw [ev82]; exact Rg.mono (Rg.add (show Rg (33 : Int32) 34 by decide) (Rg.and (n := 64) (XT.ushr p1 (16 : Int32)) (63 : Int32) (by decide)) (by decide)) (by decide))) (by decide)) (fun _ q => nomatch q)))) (Nat.le_of_ble_eq_true rfl) (Nat.le_of_ble_eq_true rfl) (by decide)) (w9 hw) (w6 hw) (fun x hx => by simp only [List.mem_cons, List.not_mem_nil, or_false] at hx; rcases hx with rfl; all_goals first | exact (List.mem_of_getElem? (i := 0) rfl)) rfl (Nat.le_of_eq rfl) (Nat.le_of_ble_eq_true rfl) (Nat.le_of_ble_eq_true rfl) ⟨rfl, Nat.le_of_ble_eq_true rfl⟩ ⟨rfl, Nat.le_of_ble_eq_true rfl⟩ rfl (fun _ _ _ q => nomatch q.1) fun T h695 so W hQ => ?_
      obtain ⟨-, b695, g695, K695, S695⟩ := hQ
      have S695 : St Z h695 a690 b695 [(i2b (p1 &&& (255 : Int32))), (i2b ((XT.ushr p1 (8 : Int32)) &&& (255 : Int32))), (i2b v82)] := S695
      have f696 := ((((X680.keep K682).keep K688).keep K690).keep K695)
      have ne697 : a680 ≠ a682 := (Nat.ne_of_lt (Nat.lt_of_lt_of_le X680.lt (Nat.le_of_eq g682.symm)))
      have ne698 : a680 ≠ a690 := (Nat.ne_of_lt (Nat.lt_of_lt_of_le (Nat.lt_of_lt_of_le X680.lt (Nat.le_trans E682.1 K688.1)) (Nat.le_of_eq g690.symm)))
      have f699 := (((((D680 (Or.inr (w106 hw)) (ty := (.object "java/lang/String")) (by decide)).keep K682 nin0).keep K688 (ninS ne697 nin0)).keep K690 nin0).keep K695 (ninS ne698 nin0))
      have f700 := (((((D680 (Or.inr (w108 hw)) (ty := (.object "java/lang/String")) (by decide)).keep K682 nin0).keep K688 (ninS ne697 nin0)).keep K690 nin0).keep K695 (ninS ne698 nin0))
      have ne701 : a682 ≠ a690 := (Nat.ne_of_lt (Nat.lt_of_lt_of_le S688.1.lt (Nat.le_of_eq g690.symm)))
      have ne702 : b688 ≠ a690 := (Nat.ne_of_lt (Nat.lt_of_lt_of_le S688.2.2.2.lt (Nat.le_of_eq g690.symm)))
      have f703 := ((S688.keep K690 nin0 nin0).keep K695 (ninS ne701 nin0) (ninS ne702 nin0))
      have f704 := (Sta.keep f694 K695 (nsS (Exa.plain X690) ns0))
      have f706 := (Sta.keep (Sta.keep (Sta.keep (Sta.keep (Sta.keep (Sta.keep (Sta.keep (Sta.keep (Sta.keep (Sta.keep (Sta.keep (Sta.keep (Sta.keep (Sta.keep (Sta.keep (Sta.keep (Sta.keep (Sta.keep (Sta.keep CI K98 ns0) K99 (nsS (Av.plain A98) ns0)) K100 (nsS (Av.plain A99) ns0)) K101 (nsS (Av.plain A100) ns0)) K537 ns0) K538 (nsS (Av.plain A537) ns0)) K539 (nsS (Av.plain A538) ns0)) K541 ns0) K542 (nsS (Av.plain A541) ns0)) K543 (nsS (Av.plain A542) ns0)) K544 (nsS (Av.plain A543) ns0)) K676 ns0) K677 (nsS (Av.plain A676) ns0)) K678 (nsS (Av.plain A677) ns0)) K680 ns0) K682 ns0) K688 (nsS (Exa.plain X682) ns0)) K690 ns0) K695 (nsS (Exa.plain X690) ns0))
      have f707 := (((((((((((((((((((CX.keep K98).keep K99).keep K100).keep K101).keep K537).keep K538).keep K539).keep K541).keep K542).keep K543).keep K544).keep K676).keep K677).keep K678).keep K680).keep K682).keep K688).keep K690).keep K695)
      have f708 := (Sta.keep (Sta.keep (Sta.keep (Sta.keep (Sta.keep (Sta.keep (Sta.keep (Sta.keep (Sta.keep (Sta.keep (Sta.keep (Sta.keep (Sta.keep (Sta.keep (Sta.keep (Sta.keep (Sta.keep (Sta.keep (Sta.keep CA K98 ns0) K99 (nsS (Av.plain A98) ns0)) K100 (nsS (Av.plain A99) ns0)) K101 (nsS (Av.plain A100) ns0)) K537 ns0) K538 (nsS (Av.plain A537) ns0)) K539 (nsS (Av.plain A538) ns0)) K541 ns0) K542 (nsS (Av.plain A541) ns0)) K543 (nsS (Av.plain A542) ns0)) K544 (nsS (Av.plain A543) ns0)) K676 ns0) K677 (nsS (Av.plain A676) ns0)) K678 (nsS (Av.plain A677) ns0)) K680 ns0) K682 ns0) K688 (nsS (Exa.plain X682) ns0)) K690 ns0) K695 (nsS (Exa.plain X690) ns0))
      have ne709 : ca ≠ a98 := (Nat.ne_of_lt (Nat.lt_of_lt_of_le CV.lt (Nat.le_of_eq g98.symm)))
      have ne710 : ca ≠ a537 := (Nat.ne_of_lt (Nat.lt_of_lt_of_le (Nat.lt_of_lt_of_le CV.lt (Nat.le_trans (Nat.le_trans (Nat.le_trans E98.1 K99.1) K100.1) K101.1)) (Nat.le_of_eq g537.symm)))
      have ne711 : ca ≠ a541 := (Nat.ne_of_lt (Nat.lt_of_lt_of_le (Nat.lt_of_lt_of_le CV.lt (Nat.le_trans (Nat.le_trans (Nat.le_trans (Nat.le_trans (Nat.le_trans (Nat.le_trans E98.1 K99.1) K100.1) K101.1) E537.1) K538.1) K539.1)) (Nat.le_of_eq g541.symm)))
      have ne712 : ca ≠ a676 := (Nat.ne_of_lt (Nat.lt_of_lt_of_le (Nat.lt_of_lt_of_le CV.lt (Nat.le_trans (Nat.le_trans (Nat.le_trans (Nat.le_trans (Nat.le_trans (Nat.le_trans (Nat.le_trans (Nat.le_trans (Nat.le_trans (Nat.le_trans E98.1 K99.1) K100.1) K101.1) E537.1) K538.1) K539.1) E541.1) K542.1) K543.1) K544.1)) (Nat.le_of_eq g676.symm)))
      have ne713 : ca ≠ a682 := (Nat.ne_of_lt (Nat.lt_of_lt_of_le (Nat.lt_of_lt_of_le CV.lt (Nat.le_trans (Nat.le_trans (Nat.le_trans (Nat.le_trans (Nat.le_trans (Nat.le_trans (Nat.le_trans (Nat.le_trans (Nat.le_trans (Nat.le_trans (Nat.le_trans (Nat.le_trans (Nat.le_trans (Nat.le_trans E98.1 K99.1) K100.1) K101.1) E537.1) K538.1) K539.1) E541.1) K542.1) K543.1) K544.1) E676.1) K677.1) K678.1) E680.1)) (Nat.le_of_eq g682.symm)))
      have ne714 : ca ≠ a690 := (Nat.ne_of_lt (Nat.lt_of_lt_of_le (Nat.lt_of_lt_of_le CV.lt (Nat.le_trans (Nat.le_trans (Nat.le_trans (Nat.le_trans (Nat.le_trans (Nat.le_trans (Nat.le_trans (Nat.le_trans (Nat.le_trans (Nat.le_trans (Nat.le_trans (Nat.le_trans (Nat.le_trans (Nat.le_trans (Nat.le_trans (Nat.le_trans E98.1 K99.1) K100.1) K101.1) E537.1) K538.1) K539.1) E541.1) K542.1) K543.1) K544.1) E676.1) K677.1) K678.1) E680.1) E682.1) K688.1)) (Nat.le_of_eq g690.symm)))
      have f715 := (((((((((((((((((((CV.keep K98 nin0).keep K99 (ninS ne709 nin0)).keep K100 (ninS ne709 nin0)).keep K101 (ninS ne709 nin0)).keep K537 nin0).keep K538 (ninS ne710 nin0)).keep K539 (ninS ne710 nin0)).keep K541 nin0).keep K542 (ninS ne711 nin0)).keep K543 (ninS ne711 nin0)).keep K544 (ninS ne711 nin0)).keep K676 nin0).keep K677 (ninS ne712 nin0)).keep K678 (ninS ne712 nin0)).keep K680 nin0).keep K682 nin0).keep K688 (ninS ne713 nin0)).keep K690 nin0).keep K695 (ninS ne714 nin0))
      refine k_callI0 W 1 15 86 (argsL := [(.ref a682), (.ref a690)]) (rest := [(.ref a680)]) (a := a680) d_code_354 rfl rfl (w33 hw) (w34 hw) (by decide) (lenOf pd18 rfl) (ct_veinit l Z a0 hw n0 h695 cd ca a680 a682 b688 a690 b695 [(i2b (p0 &&& (255 : Int32))), (i2b ((XT.ushr p0 (8 : Int32)) &&& (255 : Int32)))] [(i2b (p1 &&& (255 : Int32))), (i2b ((XT.ushr p1 (8 : Int32)) &&& (255 : Int32))), (i2b v82)] zc 2 (i2b v82) rfl (by rw [lo_i2b (Rg.mono (show Rg v82 97 from (by rw [ev82]; exact Rg.mono (Rg.add (show Rg (33 : Int32) 34 by decide) (Rg.and (n := 64) (XT.ushr p1 (16 : Int32)) (63 : Int32) (by decide)) (by decide)) (by decide))) (by decide))]; exact nw9) f696 f699 f700 f703 S695 f704 hzc f706 f707 f708 f715) (w35 hw) (w3 hw) (fun x hx => by simp only [List.mem_cons, List.not_mem_nil, or_false] at hx; rcases hx with rfl; all_goals first | exact (List.mem_of_getElem? (i := 2) rfl)) rfl (Nat.le_of_eq rfl) (Nat.le_of_ble_eq_true rfl) (Nat.le_of_ble_eq_true rfl) ⟨rfl, Nat.le_of_ble_eq_true rfl⟩ ⟨rfl, Nat.le_of_ble_eq_true rfl⟩ rfl (fun _ _ _ q => nomatch q.1) fun T h705 so W hQ => ?_
      obtain ⟨-, K705, FA705, FB705⟩ := hQ
      refine k_astore W d_code_357 rfl (L' := #[.val (.int p0), .val (.int p1), .val (.int p2), .val (.int p3), .val (.int p4), .val (.int (p0 &&& (255 : Int32))), .val (.int ((XT.ushr p0 (8 : Int32)) &&& (255 : Int32))), .val (.int (p1 &&& (255 : Int32))), .val (.int ((XT.ushr p1 (8 : Int32)) &&& (255 : Int32))), .val (.int v82), .val (.int z84), .val (.int z86), .val (.int z88), .val (.int z90), .val (.int z92), .val (.int z94), .val (.int ze), .val (.ref a98), .val (.ref a537), .val (.ref a541), .val (.ref a676), .val (.ref a680), .unset, .unset, .unset]) rfl ?_
      refine k_iload W d_code_359 rfl ?_
      refine k_iconst W d_code_361 (z := (3 : Int32)) rfl ?_
      refine k_iand W d_code_362 (z := (p4 &&& (3 : Int32))) rfl ?_
      refine k_istore W d_code_363 (L' := #[.val (.int p0), .val (.int p1), .val (.int p2), .val (.int p3), .val (.int p4), .val (.int (p0 &&& (255 : Int32))), .val (.int ((XT.ushr p0 (8 : Int32)) &&& (255 : Int32))), .val (.int (p1 &&& (255 : Int32))), .val (.int ((XT.ushr p1 (8 : Int32)) &&& (255 : Int32))), .val (.int v82), .val (.int z84), .val (.int z86), .val (.int z88), .val (.int z90), .val (.int z92), .val (.int z94), .val (.int ze), .val (.ref a98), .val (.ref a537), .val (.ref a541), .val (.ref a676), .val (.ref a680), .val (.int (p4 &&& (3 : Int32))), .unset, .unset]) rfl ?_
      refine k_iload W d_code_365 rfl ?_
      refine k_iconst W d_code_367 (z := (1 : Int32)) rfl ?_
      refine k_ic W 379 d_code_368 (by decide) (fun (hc716 : ¬ (p4 &&& (3 : Int32)) = (1 : Int32)) => ?_) (fun (hc716 : ¬ (¬ (p4 &&& (3 : Int32)) = (1 : Int32))) => ?_)
      · -- pc 379
        refine k_iload W d_code_379 rfl ?_
        refine k_iconst W d_code_381 (z := (2 : Int32)) rfl ?_
        refine k_ic W 400 d_code_382 (by decide) (fun (hc717 : ¬ (p4 &&& (3 : Int32)) = (2 : Int32)) => ?_) (fun (hc717 : ¬ (¬ (p4 &&& (3 : Int32)) = (2 : Int32))) => ?_)
        · -- pc 400
          refine k_iload W d_code_400 rfl ?_
          refine k_iconst W d_code_402 (z := (3 : Int32)) rfl ?_
          refine k_ic W 429 d_code_403 (by decide) (fun (hc718 : ¬ (p4 &&& (3 : Int32)) = (3 : Int32)) => ?_) (fun (hc718 : ¬ (¬ (p4 &&& (3 : Int32)) = (3 : Int32))) => ?_)
          · -- pc 429
            refine k_new W 16 88 d_code_429 (w1 hw) (w2 hw) (w3 hw) ⟨rfl, Nat.le_of_ble_eq_true rfl⟩ ⟨rfl, Nat.le_of_ble_eq_true rfl⟩ fun T h719 a720 g720 W E720 X720 D720 => ?_
            have K720 : Keep h705 h719 [] := keep_ext E720 []
            refine k_dup W d_code_432 rfl ?_
            refine k_new W 17 92 d_code_433 (w4 hw) (w5 hw) (w6 hw) ⟨rfl, Nat.le_of_ble_eq_true rfl⟩ ⟨rfl, Nat.le_of_ble_eq_true rfl⟩ fun T h721 a722 g722 W E722 X722 D722 => ?_
            have K722 : Keep h719 h721 [] := keep_ext E722 []
            refine k_dup W d_code_436 rfl ?_
            refine k_aload W d_code_437 rfl rfl ?_
            have ne723 : a537 ≠ a541 := (Nat.ne_of_lt (Nat.lt_of_lt_of_le A539.lt (Nat.le_of_eq g541.symm)))
            have ne724 : a537 ≠ a676 := (Nat.ne_of_lt (Nat.lt_of_lt_of_le (Nat.lt_of_lt_of_le A539.lt (Nat.le_trans (Nat.le_trans (Nat.le_trans E541.1 K542.1) K543.1) K544.1)) (Nat.le_of_eq g676.symm)))
            have ne725 : a537 ≠ a682 := (Nat.ne_of_lt (Nat.lt_of_lt_of_le (Nat.lt_of_lt_of_le A539.lt (Nat.le_trans (Nat.le_trans (Nat.le_trans (Nat.le_trans (Nat.le_trans (Nat.le_trans (Nat.le_trans E541.1 K542.1) K543.1) K544.1) E676.1) K677.1) K678.1) E680.1)) (Nat.le_of_eq g682.symm)))
            have ne726 : a537 ≠ a690 := (Nat.ne_of_lt (Nat.lt_of_lt_of_le (Nat.lt_of_lt_of_le A539.lt (Nat.le_trans (Nat.le_trans (Nat.le_trans (Nat.le_trans (Nat.le_trans (Nat.le_trans (Nat.le_trans (Nat.le_trans (Nat.le_trans E541.1 K542.1) K543.1) K544.1) E676.1) K677.1) K678.1) E680.1) E682.1) K688.1)) (Nat.le_of_eq g690.symm)))
            have ne727 : a537 ≠ a680 := (Nat.ne_of_lt (Nat.lt_of_lt_of_le (Nat.lt_of_lt_of_le A539.lt (Nat.le_trans (Nat.le_trans (Nat.le_trans (Nat.le_trans (Nat.le_trans (Nat.le_trans E541.1 K542.1) K543.1) K544.1) E676.1) K677.1) K678.1)) (Nat.le_of_eq g680.symm)))
            have f728 := (((((((((((((((A539.keep K541 nin0).keep K542 (ninS ne723 nin0)).keep K543 (ninS ne723 nin0)).keep K544 (ninS ne723 nin0)).keep K676 nin0).keep K677 (ninS ne724 nin0)).keep K678 (ninS ne724 nin0)).keep K680 nin0).keep K682 nin0).keep K688 (ninS ne725 nin0)).keep K690 nin0).keep K695 (ninS ne726 nin0)).keep K705 (ninS ne727 nin0)).keep K720 nin0).keep K722 nin0)
            have f729 := (Sta.keep (Sta.keep (Sta.keep f704 K705 (nsS (Exa.plain f696) ns0)) K720 ns0) K722 ns0)
            refine k_callI0 W 3 18 94 (argsL := [(.ref a537)]) (rest := [(.ref a722), (.ref a720), (.ref a720)]) (a := a722) d_code_439 rfl rfl (w7 hw) (w8 hw) (by decide) (lenOf pd17 rfl) (ct_sinit l Z a0 hw n0 h721 a722 a537 [(36 : Int32), z86] 2 zc .null (.int (0 : Int32)) X722 (D722 (Or.inr (w32 hw)) (ty := (.array .byte)) (by decide)) (D722 (Or.inr (w30 hw)) (ty := .byte) (by decide)) f728 f729 hzc (rgS (by decide) (rgS rz86 (fun _ q => nomatch q))) (Nat.le_of_ble_eq_true rfl) (Nat.le_of_ble_eq_true rfl) (by decide)) (w9 hw) (w6 hw) (fun x hx => by simp only [List.mem_cons, List.not_mem_nil, or_false] at hx; rcases hx with rfl; all_goals first | exact (List.mem_of_getElem? (i := 0) rfl)) rfl (Nat.le_of_eq rfl) (Nat.le_of_ble_eq_true rfl) (Nat.le_of_ble_eq_true rfl) ⟨rfl, Nat.le_of_ble_eq_true rfl⟩ ⟨rfl, Nat.le_of_ble_eq_true rfl⟩ rfl (fun _ _ _ q => nomatch q.1) fun T h730 so W hQ => ?_
            obtain ⟨-, b730, g730, K730, S730⟩ := hQ
            have S730 : St Z h730 a722 b730 [(36 : Int32), (i2b z86)] := S730
            refine k_new W 19 98 d_code_442 (w4 hw) (w5 hw) (w6 hw) ⟨rfl, Nat.le_of_ble_eq_true rfl⟩ ⟨rfl, Nat.le_of_ble_eq_true rfl⟩ fun T h731 a732 g732 W E732 X732 D732 => ?_
            have K732 : Keep h730 h731 [] := keep_ext E732 []
            refine k_dup W d_code_445 rfl ?_
            refine k_aload W d_code_446 rfl rfl ?_
            have ne733 : a676 ≠ a682 := (Nat.ne_of_lt (Nat.lt_of_lt_of_le (Nat.lt_of_lt_of_le A678.lt E680.1) (Nat.le_of_eq g682.symm)))
            have ne734 : a676 ≠ a690 := (Nat.ne_of_lt (Nat.lt_of_lt_of_le (Nat.lt_of_lt_of_le A678.lt (Nat.le_trans (Nat.le_trans E680.1 E682.1) K688.1)) (Nat.le_of_eq g690.symm)))
            have ne735 : a676 ≠ a680 := (Nat.ne_of_lt (Nat.lt_of_lt_of_le A678.lt (Nat.le_of_eq g680.symm)))
            have ne736 : a676 ≠ a722 := (Nat.ne_of_lt (Nat.lt_of_lt_of_le (Nat.lt_of_lt_of_le A678.lt (Nat.le_trans (Nat.le_trans (Nat.le_trans (Nat.le_trans (Nat.le_trans (Nat.le_trans E680.1 E682.1) K688.1) E690.1) K695.1) K705.1) E720.1)) (Nat.le_of_eq g722.symm)))
            have f737 := ((((((((((A678.keep K680 nin0).keep K682 nin0).keep K688 (ninS ne733 nin0)).keep K690 nin0).keep K695 (ninS ne734 nin0)).keep K705 (ninS ne735 nin0)).keep K720 nin0).keep K722 nin0).keep K730 (ninS ne736 nin0)).keep K732 nin0)
            have f738 := (Sta.keep (Sta.keep f729 K730 (nsS (Exa.plain X722) ns0)) K732 ns0)
            refine k_callI0 W 4 20 100 (argsL := [(.ref a676)]) (rest := [(.ref a732), (.ref a722), (.ref a720), (.ref a720)]) (a := a732) d_code_448 rfl rfl (w7 hw) (w8 hw) (by decide) (lenOf pd17 rfl) (ct_sinit l Z a0 hw n0 h731 a732 a676 [z92, ze] 2 zc .null (.int (0 : Int32)) X732 (D732 (Or.inr (w32 hw)) (ty := (.array .byte)) (by decide)) (D732 (Or.inr (w30 hw)) (ty := .byte) (by decide)) f737 f738 hzc (rgS rz92 (rgS nwe.1 (fun _ q => nomatch q))) (Nat.le_of_ble_eq_true rfl) (Nat.le_of_ble_eq_true rfl) (by decide)) (w9 hw) (w6 hw) (fun x hx => by simp only [List.mem_cons, List.not_mem_nil, or_false] at hx; rcases hx with rfl; all_goals first | exact (List.mem_of_getElem? (i := 0) rfl)) rfl (Nat.le_of_eq rfl) (Nat.le_of_ble_eq_true rfl) (Nat.le_of_ble_eq_true rfl) ⟨rfl, Nat.le_of_ble_eq_true rfl⟩ ⟨rfl, Nat.le_of_ble_eq_true rfl⟩ rfl (fun _ _ _ q => nomatch q.1) fun T h739 so W hQ => ?_
            obtain ⟨-, b739, g739, K739, S739⟩ := hQ
            have S739 : St Z h739 a732 b739 [(i2b z92), (i2b ze)] := S739
            have f740 := ((((X720.keep K722).keep K730).keep K732).keep K739)
            have ne741 : a720 ≠ a722 := (Nat.ne_of_lt (Nat.lt_of_lt_of_le X720.lt (Nat.le_of_eq g722.symm)))
            have ne742 : a720 ≠ a732 := (Nat.ne_of_lt (Nat.lt_of_lt_of_le (Nat.lt_of_lt_of_le X720.lt (Nat.le_trans E722.1 K730.1)) (Nat.le_of_eq g732.symm)))
            have f743 := (((((D720 (Or.inr (w106 hw)) (ty := (.object "java/lang/String")) (by decide)).keep K722 nin0).keep K730 (ninS ne741 nin0)).keep K732 nin0).keep K739 (ninS ne742 nin0))
            have f744 := (((((D720 (Or.inr (w108 hw)) (ty := (.object "java/lang/String")) (by decide)).keep K722 nin0).keep K730 (ninS ne741 nin0)).keep K732 nin0).keep K739 (ninS ne742 nin0))
            have ne745 : a722 ≠ a732 := (Nat.ne_of_lt (Nat.lt_of_lt_of_le S730.1.lt (Nat.le_of_eq g732.symm)))
            have ne746 : b730 ≠ a732 := (Nat.ne_of_lt (Nat.lt_of_lt_of_le S730.2.2.2.lt (Nat.le_of_eq g732.symm)))
            have f747 := ((S730.keep K732 nin0 nin0).keep K739 (ninS ne745 nin0) (ninS ne746 nin0))
            have f748 := (Sta.keep f738 K739 (nsS (Exa.plain X732) ns0))
            have f750 := (Sta.keep (Sta.keep (Sta.keep (Sta.keep (Sta.keep (Sta.keep f706 K705 (nsS (Exa.plain f696) ns0)) K720 ns0) K722 ns0) K730 (nsS (Exa.plain X722) ns0)) K732 ns0) K739 (nsS (Exa.plain X732) ns0))
            have f751 := ((((((f707.keep K705).keep K720).keep K722).keep K730).keep K732).keep K739)
            have f752 := (Sta.keep (Sta.keep (Sta.keep (Sta.keep (Sta.keep (Sta.keep f708 K705 (nsS (Exa.plain f696) ns0)) K720 ns0) K722 ns0) K730 (nsS (Exa.plain X722) ns0)) K732 ns0) K739 (nsS (Exa.plain X732) ns0))
            have ne753 : ca ≠ a680 := (Nat.ne_of_lt (Nat.lt_of_lt_of_le (Nat.lt_of_lt_of_le CV.lt (Nat.le_trans (Nat.le_trans (Nat.le_trans (Nat.le_trans (Nat.le_trans (Nat.le_trans (Nat.le_trans (Nat.le_trans (Nat.le_trans (Nat.le_trans (Nat.le_trans (Nat.le_trans (Nat.le_trans E98.1 K99.1) K100.1) K101.1) E537.1) K538.1) K539.1) E541.1) K542.1) K543.1) K544.1) E676.1) K677.1) K678.1)) (Nat.le_of_eq g680.symm)))
            have ne754 : ca ≠ a722 := (Nat.ne_of_lt (Nat.lt_of_lt_of_le (Nat.lt_of_lt_of_le f715.lt (Nat.le_trans K705.1 E720.1)) (Nat.le_of_eq g722.symm)))
            have ne755 : ca ≠ a732 := (Nat.ne_of_lt (Nat.lt_of_lt_of_le (Nat.lt_of_lt_of_le f715.lt (Nat.le_trans (Nat.le_trans (Nat.le_trans K705.1 E720.1) E722.1) K730.1)) (Nat.le_of_eq g732.symm)))
            have f756 := ((((((f715.keep K705 (ninS ne753 nin0)).keep K720 nin0).keep K722 nin0).keep K730 (ninS ne754 nin0)).keep K732 nin0).keep K739 (ninS ne755 nin0))
            refine k_callI0 W 1 26 160 (argsL := [(.ref a722), (.ref a732)]) (rest := [(.ref a720)]) (a := a720) d_code_451 rfl rfl (w33 hw) (w34 hw) (by decide) (lenOf pd18 rfl) (ct_veinit l Z a0 hw n0 h739 cd ca a720 a722 b730 a732 b739 [(i2b z86)] [(i2b z92), (i2b ze)] zc 1 (i2b ze) rfl (by rw [lo_i2b nwe.1]; exact nwe) f740 f743 f744 f747 S739 f748 hzc f750 f751 f752 f756) (w35 hw) (w3 hw) (fun x hx => by simp only [List.mem_cons, List.not_mem_nil, or_false] at hx; rcases hx with rfl; all_goals first | exact (List.mem_of_getElem? (i := 2) rfl)) rfl (Nat.le_of_eq rfl) (Nat.le_of_ble_eq_true rfl) (Nat.le_of_ble_eq_true rfl) ⟨rfl, Nat.le_of_ble_eq_true rfl⟩ ⟨rfl, Nat.le_of_ble_eq_true rfl⟩ rfl (fun _ _ _ q => nomatch q.1) fun T h749 so W hQ => ?_
            obtain ⟨-, K749, FA749, FB749⟩ := hQ
            refine k_astore W d_code_454 rfl (L' := #[.val (.int p0), .val (.int p1), .val (.int p2), .val (.int p3), .val (.int p4), .val (.int (p0 &&& (255 : Int32))), .val (.int ((XT.ushr p0 (8 : Int32)) &&& (255 : Int32))), .val (.int (p1 &&& (255 : Int32))), .val (.int ((XT.ushr p1 (8 : Int32)) &&& (255 : Int32))), .val (.int v82), .val (.int z84), .val (.int z86), .val (.int z88), .val (.int z90), .val (.int z92), .val (.int z94), .val (.int ze), .val (.ref a98), .val (.ref a537), .val (.ref a541), .val (.ref a676), .val (.ref a680), .val (.int (p4 &&& (3 : Int32))), .val (.ref a720), .unset]) rfl ?_
            refine k_iload W d_code_456 rfl ?_
            refine k_ifY W 505 d_code_458 (by decide) (show ¬ z84 = 0 from hc102) ?_
            refine k_iconst W d_code_505 (z := (0 : Int32)) rfl ?_
            refine k_istore W d_code_506 (L' := #[.val (.int p0), .val (.int p1), .val (.int p2), .val (.int p3), .val (.int p4), .val (.int (p0 &&& (255 : Int32))), .val (.int ((XT.ushr p0 (8 : Int32)) &&& (255 : Int32))), .val (.int (p1 &&& (255 : Int32))), .val (.int ((XT.ushr p1 (8 : Int32)) &&& (255 : Int32))), .val (.int v82), .val (.int z84), .val (.int z86), .val (.int z88), .val (.int z90), .val (.int z92), .val (.int z94), .val (.int ze), .val (.ref a98), .val (.ref a537), .val (.ref a541), .val (.ref a676), .val (.ref a680), .val (.int (p4 &&& (3 : Int32))), .val (.ref a720), .val (.int (0 : Int32))]) rfl ?_
            refine k_aload W d_code_508 rfl rfl ?_
            refine k_aload W d_code_510 rfl rfl ?_
            have f757 := (f740.keep K749)
            have ne758 : a680 ≠ a722 := (Nat.ne_of_lt (Nat.lt_of_lt_of_le (Nat.lt_of_lt_of_le FA705.lt E720.1) (Nat.le_of_eq g722.symm)))
            have ne759 : a680 ≠ a732 := (Nat.ne_of_lt (Nat.lt_of_lt_of_le (Nat.lt_of_lt_of_le FA705.lt (Nat.le_trans (Nat.le_trans E720.1 E722.1) K730.1)) (Nat.le_of_eq g732.symm)))
            have ne760 : a680 ≠ a720 := (Nat.ne_of_lt (Nat.lt_of_lt_of_le FA705.lt (Nat.le_of_eq g720.symm)))
            have f761 := ((((((FA705.keep K720 nin0).keep K722 nin0).keep K730 (ninS ne758 nin0)).keep K732 nin0).keep K739 (ninS ne759 nin0)).keep K749 (ninS ne760 nin0))
            have f762 := ((((((FB705.keep K720 nin0).keep K722 nin0).keep K730 (ninS ne758 nin0)).keep K732 nin0).keep K739 (ninS ne759 nin0)).keep K749 (ninS ne760 nin0))
            have ne763 : b688 ≠ a680 := (Ne.symm (Nat.ne_of_lt (Nat.lt_of_lt_of_le (Nat.lt_of_lt_of_le X680.lt E682.1) g688)))
            have ne764 : a682 ≠ a722 := (Nat.ne_of_lt (Nat.lt_of_lt_of_le (Nat.lt_of_lt_of_le f703.1.lt (Nat.le_trans K705.1 E720.1)) (Nat.le_of_eq g722.symm)))
            have ne765 : b688 ≠ a722 := (Nat.ne_of_lt (Nat.lt_of_lt_of_le (Nat.lt_of_lt_of_le f703.2.2.2.lt (Nat.le_trans K705.1 E720.1)) (Nat.le_of_eq g722.symm)))
            have ne766 : a682 ≠ a732 := (Nat.ne_of_lt (Nat.lt_of_lt_of_le (Nat.lt_of_lt_of_le f703.1.lt (Nat.le_trans (Nat.le_trans (Nat.le_trans K705.1 E720.1) E722.1) K730.1)) (Nat.le_of_eq g732.symm)))
            have ne767 : b688 ≠ a732 := (Nat.ne_of_lt (Nat.lt_of_lt_of_le (Nat.lt_of_lt_of_le f703.2.2.2.lt (Nat.le_trans (Nat.le_trans (Nat.le_trans K705.1 E720.1) E722.1) K730.1)) (Nat.le_of_eq g732.symm)))
            have ne768 : a682 ≠ a720 := (Nat.ne_of_lt (Nat.lt_of_lt_of_le (Nat.lt_of_lt_of_le f703.1.lt K705.1) (Nat.le_of_eq g720.symm)))
            have ne769 : b688 ≠ a720 := (Nat.ne_of_lt (Nat.lt_of_lt_of_le (Nat.lt_of_lt_of_le f703.2.2.2.lt K705.1) (Nat.le_of_eq g720.symm)))
            have f770 := (((((((f703.keep K705 (ninS (Ne.symm ne697) nin0) (ninS ne763 nin0)).keep K720 nin0 nin0).keep K722 nin0 nin0).keep K730 (ninS ne764 nin0) (ninS ne765 nin0)).keep K732 nin0 nin0).keep K739 (ninS ne766 nin0) (ninS ne767 nin0)).keep K749 (ninS ne768 nin0) (ninS ne769 nin0))
            have ne771 : b730 ≠ a720 := (Ne.symm (Nat.ne_of_lt (Nat.lt_of_lt_of_le (Nat.lt_of_lt_of_le X720.lt E722.1) g730)))
            have f772 := (f747.keep K749 (ninS (Ne.symm ne741) nin0) (ninS ne771 nin0))
            have ne773 : b695 ≠ a680 := (Ne.symm (Nat.ne_of_lt (Nat.lt_of_lt_of_le (Nat.lt_of_lt_of_le X680.lt (Nat.le_trans (Nat.le_trans E682.1 K688.1) E690.1)) g695)))
            have ne774 : a690 ≠ a722 := (Nat.ne_of_lt (Nat.lt_of_lt_of_le (Nat.lt_of_lt_of_le S695.1.lt (Nat.le_trans K705.1 E720.1)) (Nat.le_of_eq g722.symm)))
            have ne775 : b695 ≠ a722 := (Nat.ne_of_lt (Nat.lt_of_lt_of_le (Nat.lt_of_lt_of_le S695.2.2.2.lt (Nat.le_trans K705.1 E720.1)) (Nat.le_of_eq g722.symm)))
            have ne776 : a690 ≠ a732 := (Nat.ne_of_lt (Nat.lt_of_lt_of_le (Nat.lt_of_lt_of_le S695.1.lt (Nat.le_trans (Nat.le_trans (Nat.le_trans K705.1 E720.1) E722.1) K730.1)) (Nat.le_of_eq g732.symm)))
            have ne777 : b695 ≠ a732 := (Nat.ne_of_lt (Nat.lt_of_lt_of_le (Nat.lt_of_lt_of_le S695.2.2.2.lt (Nat.le_trans (Nat.le_trans (Nat.le_trans K705.1 E720.1) E722.1) K730.1)) (Nat.le_of_eq g732.symm)))
            have ne778 : a690 ≠ a720 := (Nat.ne_of_lt (Nat.lt_of_lt_of_le (Nat.lt_of_lt_of_le S695.1.lt K705.1) (Nat.le_of_eq g720.symm)))
            have ne779 : b695 ≠ a720 := (Nat.ne_of_lt (Nat.lt_of_lt_of_le (Nat.lt_of_lt_of_le S695.2.2.2.lt K705.1) (Nat.le_of_eq g720.symm)))
            have f780 := (((((((S695.keep K705 (ninS (Ne.symm ne698) nin0) (ninS ne773 nin0)).keep K720 nin0 nin0).keep K722 nin0 nin0).keep K730 (ninS ne774 nin0) (ninS ne775 nin0)).keep K732 nin0 nin0).keep K739 (ninS ne776 nin0) (ninS ne777 nin0)).keep K749 (ninS ne778 nin0) (ninS ne779 nin0))
            have ne781 : b739 ≠ a720 := (Ne.symm (Nat.ne_of_lt (Nat.lt_of_lt_of_le (Nat.lt_of_lt_of_le X720.lt (Nat.le_trans (Nat.le_trans E722.1 K730.1) E732.1)) g739)))
            have f782 := (S739.keep K749 (ninS (Ne.symm ne742) nin0) (ninS ne781 nin0))
            have f783 := (Sta.keep f748 K749 (nsS (Exa.plain f740) ns0))
            have f785 := (((((((f696.keep K705).keep K720).keep K722).keep K730).keep K732).keep K739).keep K749)
            refine k_callV W 0 26 160 (argsL := [(.ref a720)]) (rest := []) (a := a680) (C := "com/example/lean_envelope/leanenvelope/check/ValidationError") (z0 := (⟨"com/example/lean_envelope/leanenvelope/check/ValidationError", "equals", "(Ljava/lang/Object;)Z"⟩ : MethodName)) (z := (⟨"com/example/lean_envelope/leanenvelope/check/ValidationError", "equals", "(Ljava/lang/Object;)Z"⟩ : MethodName)) d_code_512 (w109 hw) (w110 hw) (nfSel (w112 hw)) (w112 hw) (w111 hw) (by decide) (lenOf pd16 rfl) f785 (ct_veq l Z a0 hw n0 h749 a680 a720 a682 b688 a722 b730 a690 b695 a732 b739 [(36 : Int32), (i2b (p0 &&& (255 : Int32))), (i2b ((XT.ushr p0 (8 : Int32)) &&& (255 : Int32)))] [(36 : Int32), (i2b z86)] [(i2b (p1 &&& (255 : Int32))), (i2b ((XT.ushr p1 (8 : Int32)) &&& (255 : Int32))), (i2b v82)] [(i2b z92), (i2b ze)] zc ne760 ne764 ne776 f785 f761 f762 f757 FA749 FB749 f770 f772 f780 f782 f783 hzc) (w113 hw) (w3 hw) (fun x hx => nomatch hx) rfl (Nat.le_of_eq rfl) (Nat.le_of_ble_eq_true rfl) (Nat.le_of_ble_eq_true rfl) ⟨rfl, Nat.le_of_ble_eq_true rfl⟩ ⟨rfl, Nat.le_of_ble_eq_true rfl⟩ rfl (fun _ _ q => by rcases q.1 with ⟨_, u⟩ | ⟨_, u⟩ <;> cases u) fun T h786 v so W hQ => ?_
            obtain ⟨hQ, rfl⟩ := hQ
            rcases hQ with ⟨hP784, hv⟩ | ⟨hP784, hv⟩
            · --
              obtain ⟨e1, e2⟩ := hP784
              exact absurd (congrArg List.length e1) (by simp)
            · --
              obtain rfl := Option.some.inj hv
              refine k_iload W d_code_515 rfl ?_
              refine k_icN W d_code_517 (show ¬ (¬ (0 : Int32) = (0 : Int32)) by decide) ?_
              refine k_aload W d_code_520 rfl rfl ?_
              refine k_aload W d_code_522 rfl rfl ?_
              refine k_callV W 0 26 160 (argsL := [(.ref a680)]) (rest := []) (a := a720) (C := "com/example/lean_envelope/leanenvelope/check/ValidationError") (z0 := (⟨"com/example/lean_envelope/leanenvelope/check/ValidationError", "equals", "(Ljava/lang/Object;)Z"⟩ : MethodName)) (z := (⟨"com/example/lean_envelope/leanenvelope/check/ValidationError", "equals", "(Ljava/lang/Object;)Z"⟩ : MethodName)) d_code_524 (w109 hw) (w110 hw) (nfSel (w112 hw)) (w112 hw) (w111 hw) (by decide) (lenOf pd16 rfl) f757 (ct_veq l Z a0 hw n0 h749 a720 a680 a722 b730 a682 b688 a732 b739 a690 b695 [(36 : Int32), (i2b z86)] [(36 : Int32), (i2b (p0 &&& (255 : Int32))), (i2b ((XT.ushr p0 (8 : Int32)) &&& (255 : Int32)))] [(i2b z92), (i2b ze)] [(i2b (p1 &&& (255 : Int32))), (i2b ((XT.ushr p1 (8 : Int32)) &&& (255 : Int32))), (i2b v82)] zc (Ne.symm ne760) (Ne.symm ne764) (Ne.symm ne776) f757 FA749 FB749 f785 f761 f762 f772 f770 f782 f780 f783 hzc) (w113 hw) (w3 hw) (fun x hx => nomatch hx) rfl (Nat.le_of_eq rfl) (Nat.le_of_ble_eq_true rfl) (Nat.le_of_ble_eq_true rfl) ⟨rfl, Nat.le_of_ble_eq_true rfl⟩ ⟨rfl, Nat.le_of_ble_eq_true rfl⟩ rfl (fun _ _ q => by rcases q.1 with ⟨_, u⟩ | ⟨_, u⟩ <;> cases u) fun T h788 v so W hQ => ?_
              obtain ⟨hQ, rfl⟩ := hQ
              rcases hQ with ⟨hP787, hv⟩ | ⟨hP787, hv⟩
              · --
                obtain ⟨e1, e2⟩ := hP787
                exact absurd (congrArg List.length e1) (by simp)
              · --
                obtain rfl := Option.some.inj hv
                refine k_iload W d_code_527 rfl ?_
                refine k_icN W d_code_529 (show ¬ (¬ (0 : Int32) = (0 : Int32)) by decide) ?_
                refine k_iconst W d_code_532 (z := (1 : Int32)) rfl ?_
                refine k_goto W 537 d_code_533 (by decide) ?_
                exact k_retN W (t := .boolean) (z' := (1 : Int32)) d_code_537 rfl (by simp) (by decide) [] (fun x hx => nomatch hx) (Nat.le_of_ble_eq_true rfl) (Nat.le_of_ble_eq_true rfl) rfl
          · -- pc 406
            refine k_aload W d_code_406 rfl rfl ?_
            refine k_new W 16 90 d_code_408 (w4 hw) (w5 hw) (w6 hw) ⟨rfl, Nat.le_of_ble_eq_true rfl⟩ ⟨rfl, Nat.le_of_ble_eq_true rfl⟩ fun T h789 a790 g790 W E790 X790 D790 => ?_
            have K790 : Keep h705 h789 [] := keep_ext E790 []
            refine k_dup W d_code_411 rfl ?_
            refine k_aload W d_code_412 rfl rfl ?_
            have ne791 : a98 ≠ a682 := (Nat.ne_of_lt (Nat.lt_of_lt_of_le (Nat.lt_of_lt_of_le A101.lt (Nat.le_trans (Nat.le_trans (Nat.le_trans (Nat.le_trans (Nat.le_trans (Nat.le_trans (Nat.le_trans (Nat.le_trans (Nat.le_trans (Nat.le_trans E537.1 K538.1) K539.1) E541.1) K542.1) K543.1) K544.1) E676.1) K677.1) K678.1) E680.1)) (Nat.le_of_eq g682.symm)))
            have ne792 : a98 ≠ a690 := (Nat.ne_of_lt (Nat.lt_of_lt_of_le (Nat.lt_of_lt_of_le f686.lt K688.1) (Nat.le_of_eq g690.symm)))
            have ne793 : a98 ≠ a680 := (Nat.ne_of_lt (Nat.lt_of_lt_of_le (Nat.lt_of_lt_of_le A101.lt (Nat.le_trans (Nat.le_trans (Nat.le_trans (Nat.le_trans (Nat.le_trans (Nat.le_trans (Nat.le_trans (Nat.le_trans (Nat.le_trans E537.1 K538.1) K539.1) E541.1) K542.1) K543.1) K544.1) E676.1) K677.1) K678.1)) (Nat.le_of_eq g680.symm)))
            have f794 := (((((f686.keep K688 (ninS ne791 nin0)).keep K690 nin0).keep K695 (ninS ne792 nin0)).keep K705 (ninS ne793 nin0)).keep K790 nin0)
            have f795 := (Sta.keep (Sta.keep f704 K705 (nsS (Exa.plain f696) ns0)) K790 ns0)
            refine k_callI0 W 2 17 93 (argsL := [(.ref a98)]) (rest := [(.ref a790), (.ref a680)]) (a := a790) d_code_414 rfl rfl (w7 hw) (w8 hw) (by decide) (lenOf pd17 rfl) (ct_sinit l Z a0 hw n0 h789 a790 a98 [(36 : Int32), (p0 &&& (255 : Int32)), ((XT.ushr p0 (8 : Int32)) &&& (255 : Int32))] 3 zc .null (.int (0 : Int32)) X790 (D790 (Or.inr (w32 hw)) (ty := (.array .byte)) (by decide)) (D790 (Or.inr (w30 hw)) (ty := .byte) (by decide)) f794 f795 hzc (rgS (by decide) (rgS (Rg.and (n := 256) p0 (255 : Int32) (by decide)) (rgS (Rg.and (n := 256) (XT.ushr p0 (8 : Int32)) (255 : Int32) (by decide)) (fun _ q => nomatch q)))) (Nat.le_of_ble_eq_true rfl) (Nat.le_of_ble_eq_true rfl) (by decide)) (w9 hw) (w6 hw) (fun x hx => by simp only [List.mem_cons, List.not_mem_nil, or_false] at hx; rcases hx with rfl; all_goals first | exact (List.mem_of_getElem? (i := 0) rfl)) rfl (Nat.le_of_eq rfl) (Nat.le_of_ble_eq_true rfl) (Nat.le_of_ble_eq_true rfl) ⟨rfl, Nat.le_of_ble_eq_true rfl⟩ ⟨rfl, Nat.le_of_ble_eq_true rfl⟩ rfl (fun _ _ _ q => nomatch q.1) fun T h796 so W hQ => ?_
            obtain ⟨-, b796, g796, K796, S796⟩ := hQ
            have S796 : St Z h796 a790 b796 [(36 : Int32), (i2b (p0 &&& (255 : Int32))), (i2b ((XT.ushr p0 (8 : Int32)) &&& (255 : Int32)))] := S796
            have f797 := (((f696.keep K705).keep K790).keep K796)
            refine k_callV W 0 17 93 (argsL := [(.ref a790)]) (rest := []) (a := a680) (C := "com/example/lean_envelope/leanenvelope/check/ValidationError") (z0 := (⟨"com/example/lean_envelope/leanenvelope/check/ValidationError", "equals", "(Ljava/lang/Object;)Z"⟩ : MethodName)) (z := (⟨"com/example/lean_envelope/leanenvelope/check/ValidationError", "equals", "(Ljava/lang/Object;)Z"⟩ : MethodName)) d_code_417 (w109 hw) (w110 hw) (nfSel (w112 hw)) (w112 hw) (w111 hw) (by decide) (lenOf pd16 rfl) f797 (ct_veqS l Z a0 hw n0 h796 a680 a790 f797 S796.1) (w113 hw) (w3 hw) (fun x hx => nomatch hx) rfl (Nat.le_of_eq rfl) (Nat.le_of_ble_eq_true rfl) (Nat.le_of_ble_eq_true rfl) ⟨rfl, Nat.le_of_ble_eq_true rfl⟩ ⟨rfl, Nat.le_of_ble_eq_true rfl⟩ rfl (fun _ _ q => nomatch q.1) fun T h798 v so W hQ => ?_
            obtain ⟨hv, rfl, -⟩ := hQ
            obtain rfl := Option.some.inj hv
            refine k_ifN W d_code_420 (show ¬ (¬ (0 : Int32) = 0) by decide) ?_
            refine k_iconst W d_code_423 (z := (1 : Int32)) rfl ?_
            refine k_goto W 428 d_code_424 (by decide) ?_
            exact k_retN W (t := .boolean) (z' := (1 : Int32)) d_code_428 rfl (by simp) (by decide) [] (fun x hx => nomatch hx) (Nat.le_of_ble_eq_true rfl) (Nat.le_of_ble_eq_true rfl) rfl
        · -- pc 385
          refine k_aload W d_code_385 rfl rfl ?_
          refine k_aconst W d_code_387 ?_
          have f800 := (f696.keep K705)
          refine k_callV W 0 15 86 (argsL := [.null]) (rest := []) (a := a680) (C := "com/example/lean_envelope/leanenvelope/check/ValidationError") (z0 := (⟨"com/example/lean_envelope/leanenvelope/check/ValidationError", "equals", "(Ljava/lang/Object;)Z"⟩ : MethodName)) (z := (⟨"com/example/lean_envelope/leanenvelope/check/ValidationError", "equals", "(Ljava/lang/Object;)Z"⟩ : MethodName)) d_code_388 (w109 hw) (w110 hw) (nfSel (w112 hw)) (w112 hw) (w111 hw) (by decide) (lenOf pd16 rfl) f800 (ct_veqN l Z a0 hw n0 h705 a680) (w113 hw) (w3 hw) (fun x hx => nomatch hx) rfl (Nat.le_of_eq rfl) (Nat.le_of_ble_eq_true rfl) (Nat.le_of_ble_eq_true rfl) ⟨rfl, Nat.le_of_ble_eq_true rfl⟩ ⟨rfl, Nat.le_of_ble_eq_true rfl⟩ rfl (fun _ _ q => nomatch q.1) fun T h799 v so W hQ => ?_
          obtain ⟨hv, rfl, -⟩ := hQ
          obtain rfl := Option.some.inj hv
          refine k_ifN W d_code_391 (show ¬ (¬ (0 : Int32) = 0) by decide) ?_
          refine k_iconst W d_code_394 (z := (1 : Int32)) rfl ?_
          refine k_goto W 399 d_code_395 (by decide) ?_
          exact k_retN W (t := .boolean) (z' := (1 : Int32)) d_code_399 rfl (by simp) (by decide) [] (fun x hx => nomatch hx) (Nat.le_of_ble_eq_true rfl) (Nat.le_of_ble_eq_true rfl) rfl
      · -- pc 371
        refine k_aload W d_code_371 rfl rfl ?_
        refine k_aload W d_code_373 rfl rfl ?_
        have f802 := (f696.keep K705)
        refine k_callV W 0 15 86 (argsL := [(.ref a680)]) (rest := []) (a := a680) (C := "com/example/lean_envelope/leanenvelope/check/ValidationError") (z0 := (⟨"com/example/lean_envelope/leanenvelope/check/ValidationError", "equals", "(Ljava/lang/Object;)Z"⟩ : MethodName)) (z := (⟨"com/example/lean_envelope/leanenvelope/check/ValidationError", "equals", "(Ljava/lang/Object;)Z"⟩ : MethodName)) d_code_375 (w109 hw) (w110 hw) (nfSel (w112 hw)) (w112 hw) (w111 hw) (by decide) (lenOf pd16 rfl) f802 (ct_veqI l Z a0 hw n0 h705 a680) (w113 hw) (w3 hw) (fun x hx => nomatch hx) rfl (Nat.le_of_eq rfl) (Nat.le_of_ble_eq_true rfl) (Nat.le_of_ble_eq_true rfl) ⟨rfl, Nat.le_of_ble_eq_true rfl⟩ ⟨rfl, Nat.le_of_ble_eq_true rfl⟩ rfl (fun _ _ q => nomatch q.1) fun T h801 v so W hQ => ?_
        obtain ⟨hv, rfl, -⟩ := hQ
        obtain rfl := Option.some.inj hv
        exact k_retN W (t := .boolean) (z' := (1 : Int32)) d_code_378 rfl (by simp) (by decide) [] (fun x hx => nomatch hx) (Nat.le_of_ble_eq_true rfl) (Nat.le_of_ble_eq_true rfl) rfl
set_option maxRecDepth 65536 in
set_option maxHeartbeats 40000000 in
theorem comes_1 {Post : Tables → Env → Array Value → State → Outcome → State → Prop} (hpost : ∀ tb e args s v u, (limb_1_1.after args s (.returned v) u = true ∧ limb_1_2.after args s (.returned v) u = true ∧ True) → FramedW s (.returned v) u (Jvm.fieldLocs frame_1_writes args s ++ Jvm.arrayLocs frame_1_arrays args s ++ Jvm.staticLocs frame_1_statics s) 48 3264 → Post tb e args s (.returned v) u) :
    ArmFor flags0 classFile x code maxLocals ret World_1 tables_1 room_1 Calls_1 rest_1 Pre_1 Post := by
  intro l hfl _ _ p e ha hc hk s m args below hf hA hF happ hP
  obtain ⟨hcalls, hrest, hpre⟩ := hP
  obtain ⟨-, -, -, hnamed, -, -, -, hat⟩ := (Spec.applies_iff hf).mp happ
  obtain ⟨hg, hnarrow⟩ := and_e (Cond.before_iff.mp (show (Jvm.Cond.and given_1 narrow_1).before args s = true from hpre))
  obtain ⟨h1, h2⟩ := and_e hg
  obtain ⟨ga0, h2⟩ := and_e h2
  obtain ⟨ga1, h2⟩ := and_e h2
  obtain ⟨ga2, h2⟩ := and_e h2
  obtain ⟨ga3, h2⟩ := and_e h2
  have ga4 := h2
  obtain ⟨w0, w1, w2, w3, w4, rfl⟩ : ∃ w0 w1 w2 w3 w4 : Value, args = #[w0, w1, w2, w3, w4] := by
    have hs : args.size = 5 := by simpa [Cond.value, given_1] using h1
    obtain ⟨L⟩ := args
    match L, hs with
    | [w0, w1, w2, w3, w4], _ => exact ⟨w0, w1, w2, w3, w4, rfl⟩
  have hw := fun d (hd : d ∈ tables_1) => atoms_spec (ws := Jvm.Cond.code x code maxLocals ret :: tables_1) hat d (List.mem_cons_of_mem _ hd)
  obtain ⟨hsets, hown0⟩ := atoms_of _ (rest_1_c_eq ▸ (show rest_1_c.before _ s = true from hrest))
  have hfit : Fit s := fun {y c} hc i hi => by
    obtain ⟨ha, rfl⟩ := Array.getElem?_eq_some_iff.mp hc
    have q := List.all_eq_true.mp ((Array.all_eq_true_iff_forall_mem.mp hF) _ (Array.getElem_mem ha)) i (List.mem_range.mpr hi)
    simpa [Array.getElem?_eq_getElem hi] using q
  obtain ⟨i0, ei0⟩ := is_v ga0
  obtain rfl : w0 = (.int i0) := Option.some.inj ei0
  obtain ⟨i1, ei1⟩ := is_v ga1
  obtain rfl : w1 = (.int i1) := Option.some.inj ei1
  obtain ⟨i2, ei2⟩ := is_v ga2
  obtain rfl : w2 = (.int i2) := Option.some.inj ei2
  obtain ⟨i3, ei3⟩ := is_v ga3
  obtain rfl : w3 = (.int i3) := Option.some.inj ei3
  obtain ⟨i4, ei4⟩ := is_v ga4
  obtain rfl : w4 = (.int i4) := Option.some.inj ei4
  have n5 := not_v (Cond.before_iff.mp (hsets _ (List.mem_of_getElem? (i := 2) rfl)))
  obtain ⟨zc, ezc⟩ := is_v (Cond.before_iff.mp (hsets _ (List.mem_of_getElem? (i := 1) rfl)))
  have Szc : Sta s s.heap "java/lang/String" "COMPACT_STRINGS" "Z" (.int zc) := Sta.start ezc (Or.inl (hsets _ (List.mem_of_getElem? (i := 0) rfl)))
  have hzc : ¬ (zc = (0 : Int32)) := gotF (Cond.eq_ints ezc (Term.int_eval (0))) n5
  obtain ⟨cd, ecd, CX⟩ := exa_start (Cond.before_iff.mp (hsets _ (List.mem_of_getElem? (i := 11) rfl)))
  have CI : Sta s s.heap "java/lang/CharacterDataLatin1" "instance" "Ljava/lang/CharacterDataLatin1;" (.ref cd) := Sta.start ecd (Or.inl (hsets _ (List.mem_of_getElem? (i := 10) rfl)))
  obtain ⟨ca, eca⟩ := ref_of_arr (Cond.before_iff.mp (hsets _ (List.mem_of_getElem? (i := 14) rfl)))
  have CA : Sta s s.heap "java/lang/CharacterDataLatin1" "A" "[I" (.ref ca) := Sta.start eca (Or.inl (hsets _ (List.mem_of_getElem? (i := 13) rfl)))
  have CV : Av s s.heap ca .int (own_props.map Value.int) := av_start hfit eca (Cond.before_iff.mp (hsets _ (List.mem_of_getElem? (i := 14) rfl))) (eq_start (Cond.before_iff.mp (hsets _ (List.mem_of_getElem? (i := 16) rfl)))) (by rw [List.length_map, own_plen]; rfl) (by rw [List.length_map, own_plen]; decide) ⟨eq_start (Cond.before_iff.mp (hsets _ (List.mem_of_getElem? (i := 17) rfl))), eq_start (Cond.before_iff.mp (hsets _ (List.mem_of_getElem? (i := 18) rfl))), eq_start (Cond.before_iff.mp (hsets _ (List.mem_of_getElem? (i := 19) rfl))), eq_start (Cond.before_iff.mp (hsets _ (List.mem_of_getElem? (i := 20) rfl))), eq_start (Cond.before_iff.mp (hsets _ (List.mem_of_getElem? (i := 21) rfl))), eq_start (Cond.before_iff.mp (hsets _ (List.mem_of_getElem? (i := 22) rfl))), eq_start (Cond.before_iff.mp (hsets _ (List.mem_of_getElem? (i := 23) rfl))), eq_start (Cond.before_iff.mp (hsets _ (List.mem_of_getElem? (i := 24) rfl))), eq_start (Cond.before_iff.mp (hsets _ (List.mem_of_getElem? (i := 25) rfl))), eq_start (Cond.before_iff.mp (hsets _ (List.mem_of_getElem? (i := 26) rfl))), eq_start (Cond.before_iff.mp (hsets _ (List.mem_of_getElem? (i := 27) rfl))), eq_start (Cond.before_iff.mp (hsets _ (List.mem_of_getElem? (i := 28) rfl))), eq_start (Cond.before_iff.mp (hsets _ (List.mem_of_getElem? (i := 29) rfl))), eq_start (Cond.before_iff.mp (hsets _ (List.mem_of_getElem? (i := 30) rfl))), eq_start (Cond.before_iff.mp (hsets _ (List.mem_of_getElem? (i := 31) rfl))), eq_start (Cond.before_iff.mp (hsets _ (List.mem_of_getElem? (i := 32) rfl))), eq_start (Cond.before_iff.mp (hsets _ (List.mem_of_getElem? (i := 33) rfl))), eq_start (Cond.before_iff.mp (hsets _ (List.mem_of_getElem? (i := 34) rfl))), eq_start (Cond.before_iff.mp (hsets _ (List.mem_of_getElem? (i := 35) rfl))), eq_start (Cond.before_iff.mp (hsets _ (List.mem_of_getElem? (i := 36) rfl))), eq_start (Cond.before_iff.mp (hsets _ (List.mem_of_getElem? (i := 37) rfl))), eq_start (Cond.before_iff.mp (hsets _ (List.mem_of_getElem? (i := 38) rfl))), eq_start (Cond.before_iff.mp (hsets _ (List.mem_of_getElem? (i := 39) rfl))), eq_start (Cond.before_iff.mp (hsets _ (List.mem_of_getElem? (i := 40) rfl))), eq_start (Cond.before_iff.mp (hsets _ (List.mem_of_getElem? (i := 41) rfl))), eq_start (Cond.before_iff.mp (hsets _ (List.mem_of_getElem? (i := 42) rfl))), eq_start (Cond.before_iff.mp (hsets _ (List.mem_of_getElem? (i := 43) rfl))), eq_start (Cond.before_iff.mp (hsets _ (List.mem_of_getElem? (i := 44) rfl))), eq_start (Cond.before_iff.mp (hsets _ (List.mem_of_getElem? (i := 45) rfl))), eq_start (Cond.before_iff.mp (hsets _ (List.mem_of_getElem? (i := 46) rfl))), eq_start (Cond.before_iff.mp (hsets _ (List.mem_of_getElem? (i := 47) rfl))), eq_start (Cond.before_iff.mp (hsets _ (List.mem_of_getElem? (i := 48) rfl))), eq_start (Cond.before_iff.mp (hsets _ (List.mem_of_getElem? (i := 49) rfl))), eq_start (Cond.before_iff.mp (hsets _ (List.mem_of_getElem? (i := 50) rfl))), eq_start (Cond.before_iff.mp (hsets _ (List.mem_of_getElem? (i := 51) rfl))), eq_start (Cond.before_iff.mp (hsets _ (List.mem_of_getElem? (i := 52) rfl))), eq_start (Cond.before_iff.mp (hsets _ (List.mem_of_getElem? (i := 53) rfl))), eq_start (Cond.before_iff.mp (hsets _ (List.mem_of_getElem? (i := 54) rfl))), eq_start (Cond.before_iff.mp (hsets _ (List.mem_of_getElem? (i := 55) rfl))), eq_start (Cond.before_iff.mp (hsets _ (List.mem_of_getElem? (i := 56) rfl))), eq_start (Cond.before_iff.mp (hsets _ (List.mem_of_getElem? (i := 57) rfl))), eq_start (Cond.before_iff.mp (hsets _ (List.mem_of_getElem? (i := 58) rfl))), eq_start (Cond.before_iff.mp (hsets _ (List.mem_of_getElem? (i := 59) rfl))), eq_start (Cond.before_iff.mp (hsets _ (List.mem_of_getElem? (i := 60) rfl))), eq_start (Cond.before_iff.mp (hsets _ (List.mem_of_getElem? (i := 61) rfl))), eq_start (Cond.before_iff.mp (hsets _ (List.mem_of_getElem? (i := 62) rfl))), eq_start (Cond.before_iff.mp (hsets _ (List.mem_of_getElem? (i := 63) rfl))), eq_start (Cond.before_iff.mp (hsets _ (List.mem_of_getElem? (i := 64) rfl))), eq_start (Cond.before_iff.mp (hsets _ (List.mem_of_getElem? (i := 65) rfl))), eq_start (Cond.before_iff.mp (hsets _ (List.mem_of_getElem? (i := 66) rfl))), eq_start (Cond.before_iff.mp (hsets _ (List.mem_of_getElem? (i := 67) rfl))), eq_start (Cond.before_iff.mp (hsets _ (List.mem_of_getElem? (i := 68) rfl))), eq_start (Cond.before_iff.mp (hsets _ (List.mem_of_getElem? (i := 69) rfl))), eq_start (Cond.before_iff.mp (hsets _ (List.mem_of_getElem? (i := 70) rfl))), eq_start (Cond.before_iff.mp (hsets _ (List.mem_of_getElem? (i := 71) rfl))), eq_start (Cond.before_iff.mp (hsets _ (List.mem_of_getElem? (i := 72) rfl))), eq_start (Cond.before_iff.mp (hsets _ (List.mem_of_getElem? (i := 73) rfl))), eq_start (Cond.before_iff.mp (hsets _ (List.mem_of_getElem? (i := 74) rfl))), eq_start (Cond.before_iff.mp (hsets _ (List.mem_of_getElem? (i := 75) rfl))), eq_start (Cond.before_iff.mp (hsets _ (List.mem_of_getElem? (i := 76) rfl))), eq_start (Cond.before_iff.mp (hsets _ (List.mem_of_getElem? (i := 77) rfl))), eq_start (Cond.before_iff.mp (hsets _ (List.mem_of_getElem? (i := 78) rfl))), eq_start (Cond.before_iff.mp (hsets _ (List.mem_of_getElem? (i := 79) rfl))), eq_start (Cond.before_iff.mp (hsets _ (List.mem_of_getElem? (i := 80) rfl))), eq_start (Cond.before_iff.mp (hsets _ (List.mem_of_getElem? (i := 81) rfl))), eq_start (Cond.before_iff.mp (hsets _ (List.mem_of_getElem? (i := 82) rfl))), eq_start (Cond.before_iff.mp (hsets _ (List.mem_of_getElem? (i := 83) rfl))), eq_start (Cond.before_iff.mp (hsets _ (List.mem_of_getElem? (i := 84) rfl))), eq_start (Cond.before_iff.mp (hsets _ (List.mem_of_getElem? (i := 85) rfl))), eq_start (Cond.before_iff.mp (hsets _ (List.mem_of_getElem? (i := 86) rfl))), eq_start (Cond.before_iff.mp (hsets _ (List.mem_of_getElem? (i := 87) rfl))), eq_start (Cond.before_iff.mp (hsets _ (List.mem_of_getElem? (i := 88) rfl))), eq_start (Cond.before_iff.mp (hsets _ (List.mem_of_getElem? (i := 89) rfl))), eq_start (Cond.before_iff.mp (hsets _ (List.mem_of_getElem? (i := 90) rfl))), eq_start (Cond.before_iff.mp (hsets _ (List.mem_of_getElem? (i := 91) rfl))), eq_start (Cond.before_iff.mp (hsets _ (List.mem_of_getElem? (i := 92) rfl))), eq_start (Cond.before_iff.mp (hsets _ (List.mem_of_getElem? (i := 93) rfl))), eq_start (Cond.before_iff.mp (hsets _ (List.mem_of_getElem? (i := 94) rfl))), eq_start (Cond.before_iff.mp (hsets _ (List.mem_of_getElem? (i := 95) rfl))), eq_start (Cond.before_iff.mp (hsets _ (List.mem_of_getElem? (i := 96) rfl))), eq_start (Cond.before_iff.mp (hsets _ (List.mem_of_getElem? (i := 97) rfl))), eq_start (Cond.before_iff.mp (hsets _ (List.mem_of_getElem? (i := 98) rfl))), eq_start (Cond.before_iff.mp (hsets _ (List.mem_of_getElem? (i := 99) rfl))), eq_start (Cond.before_iff.mp (hsets _ (List.mem_of_getElem? (i := 100) rfl))), eq_start (Cond.before_iff.mp (hsets _ (List.mem_of_getElem? (i := 101) rfl))), eq_start (Cond.before_iff.mp (hsets _ (List.mem_of_getElem? (i := 102) rfl))), eq_start (Cond.before_iff.mp (hsets _ (List.mem_of_getElem? (i := 103) rfl))), eq_start (Cond.before_iff.mp (hsets _ (List.mem_of_getElem? (i := 104) rfl))), eq_start (Cond.before_iff.mp (hsets _ (List.mem_of_getElem? (i := 105) rfl))), eq_start (Cond.before_iff.mp (hsets _ (List.mem_of_getElem? (i := 106) rfl))), eq_start (Cond.before_iff.mp (hsets _ (List.mem_of_getElem? (i := 107) rfl))), eq_start (Cond.before_iff.mp (hsets _ (List.mem_of_getElem? (i := 108) rfl))), eq_start (Cond.before_iff.mp (hsets _ (List.mem_of_getElem? (i := 109) rfl))), eq_start (Cond.before_iff.mp (hsets _ (List.mem_of_getElem? (i := 110) rfl))), eq_start (Cond.before_iff.mp (hsets _ (List.mem_of_getElem? (i := 111) rfl))), eq_start (Cond.before_iff.mp (hsets _ (List.mem_of_getElem? (i := 112) rfl))), eq_start (Cond.before_iff.mp (hsets _ (List.mem_of_getElem? (i := 113) rfl))), eq_start (Cond.before_iff.mp (hsets _ (List.mem_of_getElem? (i := 114) rfl))), eq_start (Cond.before_iff.mp (hsets _ (List.mem_of_getElem? (i := 115) rfl))), eq_start (Cond.before_iff.mp (hsets _ (List.mem_of_getElem? (i := 116) rfl))), eq_start (Cond.before_iff.mp (hsets _ (List.mem_of_getElem? (i := 117) rfl))), eq_start (Cond.before_iff.mp (hsets _ (List.mem_of_getElem? (i := 118) rfl))), eq_start (Cond.before_iff.mp (hsets _ (List.mem_of_getElem? (i := 119) rfl))), eq_start (Cond.before_iff.mp (hsets _ (List.mem_of_getElem? (i := 120) rfl))), eq_start (Cond.before_iff.mp (hsets _ (List.mem_of_getElem? (i := 121) rfl))), eq_start (Cond.before_iff.mp (hsets _ (List.mem_of_getElem? (i := 122) rfl))), eq_start (Cond.before_iff.mp (hsets _ (List.mem_of_getElem? (i := 123) rfl))), eq_start (Cond.before_iff.mp (hsets _ (List.mem_of_getElem? (i := 124) rfl))), eq_start (Cond.before_iff.mp (hsets _ (List.mem_of_getElem? (i := 125) rfl))), eq_start (Cond.before_iff.mp (hsets _ (List.mem_of_getElem? (i := 126) rfl))), eq_start (Cond.before_iff.mp (hsets _ (List.mem_of_getElem? (i := 127) rfl))), eq_start (Cond.before_iff.mp (hsets _ (List.mem_of_getElem? (i := 128) rfl))), eq_start (Cond.before_iff.mp (hsets _ (List.mem_of_getElem? (i := 129) rfl))), eq_start (Cond.before_iff.mp (hsets _ (List.mem_of_getElem? (i := 130) rfl))), eq_start (Cond.before_iff.mp (hsets _ (List.mem_of_getElem? (i := 131) rfl))), eq_start (Cond.before_iff.mp (hsets _ (List.mem_of_getElem? (i := 132) rfl))), eq_start (Cond.before_iff.mp (hsets _ (List.mem_of_getElem? (i := 133) rfl))), eq_start (Cond.before_iff.mp (hsets _ (List.mem_of_getElem? (i := 134) rfl))), eq_start (Cond.before_iff.mp (hsets _ (List.mem_of_getElem? (i := 135) rfl))), eq_start (Cond.before_iff.mp (hsets _ (List.mem_of_getElem? (i := 136) rfl))), eq_start (Cond.before_iff.mp (hsets _ (List.mem_of_getElem? (i := 137) rfl))), eq_start (Cond.before_iff.mp (hsets _ (List.mem_of_getElem? (i := 138) rfl))), eq_start (Cond.before_iff.mp (hsets _ (List.mem_of_getElem? (i := 139) rfl))), eq_start (Cond.before_iff.mp (hsets _ (List.mem_of_getElem? (i := 140) rfl))), eq_start (Cond.before_iff.mp (hsets _ (List.mem_of_getElem? (i := 141) rfl))), eq_start (Cond.before_iff.mp (hsets _ (List.mem_of_getElem? (i := 142) rfl))), eq_start (Cond.before_iff.mp (hsets _ (List.mem_of_getElem? (i := 143) rfl))), eq_start (Cond.before_iff.mp (hsets _ (List.mem_of_getElem? (i := 144) rfl))), eq_start (Cond.before_iff.mp (hsets _ (List.mem_of_getElem? (i := 145) rfl))), eq_start (Cond.before_iff.mp (hsets _ (List.mem_of_getElem? (i := 146) rfl))), eq_start (Cond.before_iff.mp (hsets _ (List.mem_of_getElem? (i := 147) rfl))), eq_start (Cond.before_iff.mp (hsets _ (List.mem_of_getElem? (i := 148) rfl))), eq_start (Cond.before_iff.mp (hsets _ (List.mem_of_getElem? (i := 149) rfl))), eq_start (Cond.before_iff.mp (hsets _ (List.mem_of_getElem? (i := 150) rfl))), eq_start (Cond.before_iff.mp (hsets _ (List.mem_of_getElem? (i := 151) rfl))), eq_start (Cond.before_iff.mp (hsets _ (List.mem_of_getElem? (i := 152) rfl))), eq_start (Cond.before_iff.mp (hsets _ (List.mem_of_getElem? (i := 153) rfl))), eq_start (Cond.before_iff.mp (hsets _ (List.mem_of_getElem? (i := 154) rfl))), eq_start (Cond.before_iff.mp (hsets _ (List.mem_of_getElem? (i := 155) rfl))), eq_start (Cond.before_iff.mp (hsets _ (List.mem_of_getElem? (i := 156) rfl))), eq_start (Cond.before_iff.mp (hsets _ (List.mem_of_getElem? (i := 157) rfl))), eq_start (Cond.before_iff.mp (hsets _ (List.mem_of_getElem? (i := 158) rfl))), eq_start (Cond.before_iff.mp (hsets _ (List.mem_of_getElem? (i := 159) rfl))), eq_start (Cond.before_iff.mp (hsets _ (List.mem_of_getElem? (i := 160) rfl))), eq_start (Cond.before_iff.mp (hsets _ (List.mem_of_getElem? (i := 161) rfl))), eq_start (Cond.before_iff.mp (hsets _ (List.mem_of_getElem? (i := 162) rfl))), eq_start (Cond.before_iff.mp (hsets _ (List.mem_of_getElem? (i := 163) rfl))), eq_start (Cond.before_iff.mp (hsets _ (List.mem_of_getElem? (i := 164) rfl))), eq_start (Cond.before_iff.mp (hsets _ (List.mem_of_getElem? (i := 165) rfl))), eq_start (Cond.before_iff.mp (hsets _ (List.mem_of_getElem? (i := 166) rfl))), eq_start (Cond.before_iff.mp (hsets _ (List.mem_of_getElem? (i := 167) rfl))), eq_start (Cond.before_iff.mp (hsets _ (List.mem_of_getElem? (i := 168) rfl))), eq_start (Cond.before_iff.mp (hsets _ (List.mem_of_getElem? (i := 169) rfl))), eq_start (Cond.before_iff.mp (hsets _ (List.mem_of_getElem? (i := 170) rfl))), eq_start (Cond.before_iff.mp (hsets _ (List.mem_of_getElem? (i := 171) rfl))), eq_start (Cond.before_iff.mp (hsets _ (List.mem_of_getElem? (i := 172) rfl))), eq_start (Cond.before_iff.mp (hsets _ (List.mem_of_getElem? (i := 173) rfl))), eq_start (Cond.before_iff.mp (hsets _ (List.mem_of_getElem? (i := 174) rfl))), eq_start (Cond.before_iff.mp (hsets _ (List.mem_of_getElem? (i := 175) rfl))), eq_start (Cond.before_iff.mp (hsets _ (List.mem_of_getElem? (i := 176) rfl))), eq_start (Cond.before_iff.mp (hsets _ (List.mem_of_getElem? (i := 177) rfl))), eq_start (Cond.before_iff.mp (hsets _ (List.mem_of_getElem? (i := 178) rfl))), eq_start (Cond.before_iff.mp (hsets _ (List.mem_of_getElem? (i := 179) rfl))), eq_start (Cond.before_iff.mp (hsets _ (List.mem_of_getElem? (i := 180) rfl))), eq_start (Cond.before_iff.mp (hsets _ (List.mem_of_getElem? (i := 181) rfl))), eq_start (Cond.before_iff.mp (hsets _ (List.mem_of_getElem? (i := 182) rfl))), eq_start (Cond.before_iff.mp (hsets _ (List.mem_of_getElem? (i := 183) rfl))), eq_start (Cond.before_iff.mp (hsets _ (List.mem_of_getElem? (i := 184) rfl))), eq_start (Cond.before_iff.mp (hsets _ (List.mem_of_getElem? (i := 185) rfl))), eq_start (Cond.before_iff.mp (hsets _ (List.mem_of_getElem? (i := 186) rfl))), eq_start (Cond.before_iff.mp (hsets _ (List.mem_of_getElem? (i := 187) rfl))), eq_start (Cond.before_iff.mp (hsets _ (List.mem_of_getElem? (i := 188) rfl))), eq_start (Cond.before_iff.mp (hsets _ (List.mem_of_getElem? (i := 189) rfl))), eq_start (Cond.before_iff.mp (hsets _ (List.mem_of_getElem? (i := 190) rfl))), eq_start (Cond.before_iff.mp (hsets _ (List.mem_of_getElem? (i := 191) rfl))), eq_start (Cond.before_iff.mp (hsets _ (List.mem_of_getElem? (i := 192) rfl))), eq_start (Cond.before_iff.mp (hsets _ (List.mem_of_getElem? (i := 193) rfl))), eq_start (Cond.before_iff.mp (hsets _ (List.mem_of_getElem? (i := 194) rfl))), eq_start (Cond.before_iff.mp (hsets _ (List.mem_of_getElem? (i := 195) rfl))), eq_start (Cond.before_iff.mp (hsets _ (List.mem_of_getElem? (i := 196) rfl))), eq_start (Cond.before_iff.mp (hsets _ (List.mem_of_getElem? (i := 197) rfl))), eq_start (Cond.before_iff.mp (hsets _ (List.mem_of_getElem? (i := 198) rfl))), eq_start (Cond.before_iff.mp (hsets _ (List.mem_of_getElem? (i := 199) rfl))), eq_start (Cond.before_iff.mp (hsets _ (List.mem_of_getElem? (i := 200) rfl))), eq_start (Cond.before_iff.mp (hsets _ (List.mem_of_getElem? (i := 201) rfl))), eq_start (Cond.before_iff.mp (hsets _ (List.mem_of_getElem? (i := 202) rfl))), eq_start (Cond.before_iff.mp (hsets _ (List.mem_of_getElem? (i := 203) rfl))), eq_start (Cond.before_iff.mp (hsets _ (List.mem_of_getElem? (i := 204) rfl))), eq_start (Cond.before_iff.mp (hsets _ (List.mem_of_getElem? (i := 205) rfl))), eq_start (Cond.before_iff.mp (hsets _ (List.mem_of_getElem? (i := 206) rfl))), eq_start (Cond.before_iff.mp (hsets _ (List.mem_of_getElem? (i := 207) rfl))), eq_start (Cond.before_iff.mp (hsets _ (List.mem_of_getElem? (i := 208) rfl))), eq_start (Cond.before_iff.mp (hsets _ (List.mem_of_getElem? (i := 209) rfl))), eq_start (Cond.before_iff.mp (hsets _ (List.mem_of_getElem? (i := 210) rfl))), eq_start (Cond.before_iff.mp (hsets _ (List.mem_of_getElem? (i := 211) rfl))), eq_start (Cond.before_iff.mp (hsets _ (List.mem_of_getElem? (i := 212) rfl))), eq_start (Cond.before_iff.mp (hsets _ (List.mem_of_getElem? (i := 213) rfl))), eq_start (Cond.before_iff.mp (hsets _ (List.mem_of_getElem? (i := 214) rfl))), eq_start (Cond.before_iff.mp (hsets _ (List.mem_of_getElem? (i := 215) rfl))), eq_start (Cond.before_iff.mp (hsets _ (List.mem_of_getElem? (i := 216) rfl))), eq_start (Cond.before_iff.mp (hsets _ (List.mem_of_getElem? (i := 217) rfl))), eq_start (Cond.before_iff.mp (hsets _ (List.mem_of_getElem? (i := 218) rfl))), eq_start (Cond.before_iff.mp (hsets _ (List.mem_of_getElem? (i := 219) rfl))), eq_start (Cond.before_iff.mp (hsets _ (List.mem_of_getElem? (i := 220) rfl))), eq_start (Cond.before_iff.mp (hsets _ (List.mem_of_getElem? (i := 221) rfl))), eq_start (Cond.before_iff.mp (hsets _ (List.mem_of_getElem? (i := 222) rfl))), eq_start (Cond.before_iff.mp (hsets _ (List.mem_of_getElem? (i := 223) rfl))), eq_start (Cond.before_iff.mp (hsets _ (List.mem_of_getElem? (i := 224) rfl))), eq_start (Cond.before_iff.mp (hsets _ (List.mem_of_getElem? (i := 225) rfl))), eq_start (Cond.before_iff.mp (hsets _ (List.mem_of_getElem? (i := 226) rfl))), eq_start (Cond.before_iff.mp (hsets _ (List.mem_of_getElem? (i := 227) rfl))), eq_start (Cond.before_iff.mp (hsets _ (List.mem_of_getElem? (i := 228) rfl))), eq_start (Cond.before_iff.mp (hsets _ (List.mem_of_getElem? (i := 229) rfl))), eq_start (Cond.before_iff.mp (hsets _ (List.mem_of_getElem? (i := 230) rfl))), eq_start (Cond.before_iff.mp (hsets _ (List.mem_of_getElem? (i := 231) rfl))), eq_start (Cond.before_iff.mp (hsets _ (List.mem_of_getElem? (i := 232) rfl))), eq_start (Cond.before_iff.mp (hsets _ (List.mem_of_getElem? (i := 233) rfl))), eq_start (Cond.before_iff.mp (hsets _ (List.mem_of_getElem? (i := 234) rfl))), eq_start (Cond.before_iff.mp (hsets _ (List.mem_of_getElem? (i := 235) rfl))), eq_start (Cond.before_iff.mp (hsets _ (List.mem_of_getElem? (i := 236) rfl))), eq_start (Cond.before_iff.mp (hsets _ (List.mem_of_getElem? (i := 237) rfl))), eq_start (Cond.before_iff.mp (hsets _ (List.mem_of_getElem? (i := 238) rfl))), eq_start (Cond.before_iff.mp (hsets _ (List.mem_of_getElem? (i := 239) rfl))), eq_start (Cond.before_iff.mp (hsets _ (List.mem_of_getElem? (i := 240) rfl))), eq_start (Cond.before_iff.mp (hsets _ (List.mem_of_getElem? (i := 241) rfl))), eq_start (Cond.before_iff.mp (hsets _ (List.mem_of_getElem? (i := 242) rfl))), eq_start (Cond.before_iff.mp (hsets _ (List.mem_of_getElem? (i := 243) rfl))), eq_start (Cond.before_iff.mp (hsets _ (List.mem_of_getElem? (i := 244) rfl))), eq_start (Cond.before_iff.mp (hsets _ (List.mem_of_getElem? (i := 245) rfl))), eq_start (Cond.before_iff.mp (hsets _ (List.mem_of_getElem? (i := 246) rfl))), eq_start (Cond.before_iff.mp (hsets _ (List.mem_of_getElem? (i := 247) rfl))), eq_start (Cond.before_iff.mp (hsets _ (List.mem_of_getElem? (i := 248) rfl))), eq_start (Cond.before_iff.mp (hsets _ (List.mem_of_getElem? (i := 249) rfl))), eq_start (Cond.before_iff.mp (hsets _ (List.mem_of_getElem? (i := 250) rfl))), eq_start (Cond.before_iff.mp (hsets _ (List.mem_of_getElem? (i := 251) rfl))), eq_start (Cond.before_iff.mp (hsets _ (List.mem_of_getElem? (i := 252) rfl))), eq_start (Cond.before_iff.mp (hsets _ (List.mem_of_getElem? (i := 253) rfl))), eq_start (Cond.before_iff.mp (hsets _ (List.mem_of_getElem? (i := 254) rfl))), eq_start (Cond.before_iff.mp (hsets _ (List.mem_of_getElem? (i := 255) rfl))), eq_start (Cond.before_iff.mp (hsets _ (List.mem_of_getElem? (i := 256) rfl))), eq_start (Cond.before_iff.mp (hsets _ (List.mem_of_getElem? (i := 257) rfl))), eq_start (Cond.before_iff.mp (hsets _ (List.mem_of_getElem? (i := 258) rfl))), eq_start (Cond.before_iff.mp (hsets _ (List.mem_of_getElem? (i := 259) rfl))), eq_start (Cond.before_iff.mp (hsets _ (List.mem_of_getElem? (i := 260) rfl))), eq_start (Cond.before_iff.mp (hsets _ (List.mem_of_getElem? (i := 261) rfl))), eq_start (Cond.before_iff.mp (hsets _ (List.mem_of_getElem? (i := 262) rfl))), eq_start (Cond.before_iff.mp (hsets _ (List.mem_of_getElem? (i := 263) rfl))), eq_start (Cond.before_iff.mp (hsets _ (List.mem_of_getElem? (i := 264) rfl))), eq_start (Cond.before_iff.mp (hsets _ (List.mem_of_getElem? (i := 265) rfl))), eq_start (Cond.before_iff.mp (hsets _ (List.mem_of_getElem? (i := 266) rfl))), eq_start (Cond.before_iff.mp (hsets _ (List.mem_of_getElem? (i := 267) rfl))), eq_start (Cond.before_iff.mp (hsets _ (List.mem_of_getElem? (i := 268) rfl))), eq_start (Cond.before_iff.mp (hsets _ (List.mem_of_getElem? (i := 269) rfl))), eq_start (Cond.before_iff.mp (hsets _ (List.mem_of_getElem? (i := 270) rfl))), eq_start (Cond.before_iff.mp (hsets _ (List.mem_of_getElem? (i := 271) rfl))), eq_start (Cond.before_iff.mp (hsets _ (List.mem_of_getElem? (i := 272) rfl))), trivial⟩
  obtain ⟨n, o, k1, k2, k3, v, L, so, rfl, hQ, N, -, -, hnw, hq⟩ := rm0 l s _ hw s.heap.size s.heap i0 i1 i2 i3 i4 cd ca zc Szc hzc CI CX CA CV tables_1 p e ha hc hk s m _ below hf ((Spec.applies_iff_loose hf).mp happ).1 ⟨rfl, State.Warmed39.refl s, rfl, (CHv.start (own_EW hw) (fun p hp => hcalls.1 p hp) (hsets _ (List.mem_of_getElem? (i := 2) rfl)) (w22 hw) (w5 hw)), Nat.le_refl _, own_EW hw, fun x hx => nomatch hx⟩ trivial
  subst hQ
  refine ⟨n, _, k1, k2, k3, hpost _ _ _ _ _ _ ⟨Cond.after_iff.mpr rfl, Cond.after_iff.mpr (eq_i res_at (Term.int_eval (1)) rfl), trivial⟩ ⟨hq.1, hq.2.1, hq.2.2.1, (hq.2.2.2.sift fun y hy => Or.inr (N y hy)).mono (by decide) (by decide)⟩⟩
theorem main_1_1 : Claimed_1_1 := comes_1 fun _ _ _ _ _ _ h hF => ⟨h.1, hF⟩
theorem main_1_2 : Claimed_1_2 := comes_1 fun _ _ _ _ _ _ h hF => ⟨h.2.1, hF⟩
end Jvm.Pilot.@@N@@
namespace Jvm.Pilot.@@N@@
open Jvm Jvm.ClassFile Sem Op Lib Jvm.Free Jvm.Stand Jvm.Pilot.@@N@@.Jvm.D
/-! MADE BY PROGRAM (witnessworld.py) out of the Statement's table words and the real class files: 23 classes; the members and pool entries that the words name. The judged class is class 1, her method 1. -/
namespace start1
open Jvm.ClassFile
def u (s : String) : CpInfo := .utf8 (stringToUtf16 s)
/-- a pool by its gaps: so many unusable entries, then the entry; so many at the end -/
def gap : Nat → List CpInfo → List CpInfo
  | 0, r => r
  | n + 1, r => .unusable :: gap n r
def poolList (es : List (Nat × CpInfo)) (last : Nat) : List CpInfo := es.foldr (fun e r => gap e.1 (e.2 :: r)) (gap last [])
def pool (es : List (Nat × CpInfo)) (last : Nat) : Array CpInfo := ⟨poolList es last⟩
def fileOf (pool : Array CpInfo) (this : Nat) (attrs : Array Attribute := #[]) (ms : Array MethodInfo := #[]) (fl : Nat := 33) (sup : Nat := 0) (ifs : Array Nat := #[]) (fds : Array FieldInfo := #[]) : ClassFile where
  minorVersion := 0
  majorVersion := 65
  constantPool := pool
  accessFlags := fl
  thisClass := this
  superClass := sup
  interfaces := ifs
  fields := fds
  methods := ms
  attributes := attrs
def plain (name : String) (sup : Option ClassId) : Class where
  name := name
  kind := .ordinary
  loader := none
  accessFlags := 33
  super := sup
  interfaces := #[]
  cf := none
  fields := #[]
  methods := #[]
  instanceTypes := #[]
  staticTypes := #[]
  resolved := #[]
  callSites := []
  init := .initialized
  statics := none
  mirror := none

def pool0 : Array CpInfo := pool [(5, u "<init>"), (0, u "()V"), (1, .class_ 10), (1, u "java/lang/Object")] 113

def k0c0 : Code := { maxStack := 0, maxLocals := 1, code := object_method_1_code, exceptionTable := #[], attributes := #[] }
def k0m0 : Method := { name := "<init>", desc := "()V", sig := { parameters := [], returnType := none }, accessFlags := 1, code := some k0c0 }
/-- java/lang/Object -/
def k0 : Class := { plain "java/lang/Object" none with
  accessFlags := 33
  interfaces := #[]
  cf := some (fileOf pool0 8 #[] #[{ accessFlags := 1, nameIndex := 5, descriptorIndex := 6, attributes := #[] }] 33 0 #[] #[])
  fields := #[]
  methods := #[k0m0]
  instanceTypes := #[]
  staticTypes := #[]
  resolved := Array.replicate 124 none
  statics := none }

def pool1 : Array CpInfo := pool [(2, .class_ 4), (1, u "java/lang/Object"), (0, u "<init>"), (0, u "()V"), (0, .class_ 8), (0, u "com/example/lean_envelope/leanenvelope/check/ValidationError"), (0, .class_ 10), (0, u "java/lang/String"), (0, .methodref 9 12), (0, .nameAndType 5 13), (0, u "([C)V"), (0, .methodref 7 15), (0, .nameAndType 5 16), (0, u "(Ljava/lang/String;Ljava/lang/String;)V"), (0, .methodref 7 18), (0, .nameAndType 19 20), (0, u "equals"), (0, u "(Ljava/lang/Object;)Z"), (0, .class_ 22), (0, u "com/example/lean_envelope/leanenvelope/check/ValidationErrorEqualsPinLaw"), (2, u "law"), (0, u "(IIIII)Z")] 5

def k1m0 : Method := { name := "<init>", desc := "()V", sig := { parameters := [], returnType := none }, accessFlags := 1, code := none }
def k1c1 : Code := { maxStack := 6, maxLocals := 25, code := code, exceptionTable := #[], attributes := #[] }
def k1m1 : Method := { name := "law", desc := "(IIIII)Z", sig := { parameters := [.int, .int, .int, .int, .int], returnType := some .boolean }, accessFlags := 9, code := some k1c1 }
/-- com/example/lean_envelope/leanenvelope/check/ValidationErrorEqualsPinLaw -/
def k1 : Class := { plain "com/example/lean_envelope/leanenvelope/check/ValidationErrorEqualsPinLaw" (some 0) with
  accessFlags := 49
  interfaces := #[]
  cf := some (fileOf pool1 21 #[] #[{ accessFlags := 1, nameIndex := 5, descriptorIndex := 6, attributes := #[] }, { accessFlags := 9, nameIndex := 25, descriptorIndex := 26, attributes := #[] }] 49 2 #[] #[])
  fields := #[]
  methods := #[k1m0, k1m1]
  instanceTypes := #[]
  staticTypes := #[]
  resolved := Array.replicate 32 none
  statics := none }

def pool2 : Array CpInfo := pool [(1, .methodref 2 3), (0, .class_ 4), (0, .nameAndType 5 6), (0, u "java/lang/Object"), (0, u "<init>"), (0, u "()V"), (0, .string 8), (0, u "path"), (0, .methodref 10 11), (0, .class_ 12), (0, .nameAndType 13 14), (0, u "java/util/Objects"), (0, u "requireNonNull"), (0, u "(Ljava/lang/Object;Ljava/lang/String;)Ljava/lang/Object;"), (0, .string 16), (0, u "message"), (0, .string 18), (0, u "$"), (0, .methodref 20 21), (0, .class_ 22), (0, .nameAndType 23 24), (0, u "java/lang/String"), (0, u "startsWith"), (0, u "(Ljava/lang/String;)Z"), (9, .methodref 20 35), (0, .nameAndType 36 37), (0, u "isBlank"), (0, u "()Z"), (2, .fieldref 41 42), (0, .class_ 43), (0, .nameAndType 8 44), (0, u "com/example/lean_envelope/leanenvelope/check/ValidationError"), (0, u "Ljava/lang/String;"), (0, .fieldref 41 46), (0, .nameAndType 16 44), (11, u "(Ljava/lang/String;Ljava/lang/String;)V"), (7, .methodref 20 67), (0, .nameAndType 68 69), (0, u "equals"), (0, u "(Ljava/lang/Object;)Z")] 40

def k2c0 : Code := { maxStack := 3, maxLocals := 3, code := prog_7_method_1_code, exceptionTable := #[], attributes := #[] }
def k2m0 : Method := { name := "<init>", desc := "(Ljava/lang/String;Ljava/lang/String;)V", sig := { parameters := [(.object "java/lang/String"), (.object "java/lang/String")], returnType := none }, accessFlags := 1, code := some k2c0 }
def k2c1 : Code := { maxStack := 2, maxLocals := 4, code := prog_7_method_6_code, exceptionTable := #[], attributes := #[] }
def k2m1 : Method := { name := "equals", desc := "(Ljava/lang/Object;)Z", sig := { parameters := [(.object "java/lang/Object")], returnType := some .boolean }, accessFlags := 1, code := some k2c1 }
/-- com/example/lean_envelope/leanenvelope/check/ValidationError -/
def k2 : Class := { plain "com/example/lean_envelope/leanenvelope/check/ValidationError" (some 0) with
  accessFlags := 33
  interfaces := #[]
  cf := some (fileOf pool2 41 #[] #[{ accessFlags := 1, nameIndex := 5, descriptorIndex := 58, attributes := #[] }, { accessFlags := 1, nameIndex := 68, descriptorIndex := 69, attributes := #[] }] 33 2 #[] #[{ accessFlags := 18, nameIndex := 8, descriptorIndex := 44, attributes := #[] }, { accessFlags := 18, nameIndex := 16, descriptorIndex := 44, attributes := #[] }])
  fields := #[{ name := "path", type := (.object "java/lang/String"), accessFlags := 18, slot := 0, constantValue := 0 }, { name := "message", type := (.object "java/lang/String"), accessFlags := 18, slot := 1, constantValue := 0 }]
  methods := #[k2m0, k2m1]
  instanceTypes := #[(.object "java/lang/String"), (.object "java/lang/String")]
  staticTypes := #[]
  resolved := Array.replicate 110 none
  statics := none }

def pool3 : Array CpInfo := pool [(1, .class_ 2), (0, u "java/io/Serializable"), (0, .class_ 4), (0, u "java/lang/Object")] 2

/-- java/io/Serializable -/
def k3 : Class := { plain "java/io/Serializable" (some 0) with
  accessFlags := 1537
  interfaces := #[]
  cf := some (fileOf pool3 1 #[] #[] 1537 3 #[] #[])
  fields := #[]
  methods := #[]
  instanceTypes := #[]
  staticTypes := #[]
  resolved := Array.replicate 7 none
  statics := none }

def pool4 : Array CpInfo := pool [(1, .class_ 2), (0, u "java/lang/Comparable"), (0, .class_ 4), (0, u "java/lang/Object")] 7

/-- java/lang/Comparable -/
def k4 : Class := { plain "java/lang/Comparable" (some 0) with
  accessFlags := 1537
  interfaces := #[]
  cf := some (fileOf pool4 1 #[] #[] 1537 3 #[] #[])
  fields := #[]
  methods := #[]
  instanceTypes := #[]
  staticTypes := #[]
  resolved := Array.replicate 12 none
  statics := none }

def pool5 : Array CpInfo := pool [(2, .class_ 4), (1, u "java/lang/CharSequence"), (42, .class_ 48), (0, u "java/lang/CharSequence$1CodePointIterator"), (10, .class_ 60), (0, u "java/lang/CharSequence$1CharIterator"), (5, .class_ 67), (0, u "java/lang/Object")] 63

/-- java/lang/CharSequence -/
def k5 : Class := { plain "java/lang/CharSequence" (some 0) with
  accessFlags := 1537
  interfaces := #[]
  cf := some (fileOf pool5 2 #[.nestMembers #[47, 59]] #[] 1537 66 #[] #[])
  fields := #[]
  methods := #[]
  instanceTypes := #[]
  staticTypes := #[]
  resolved := Array.replicate 131 none
  statics := none }

def pool6 : Array CpInfo := pool [(1, .class_ 2), (0, u "java/lang/constant/Constable"), (0, .class_ 4), (0, u "java/lang/Object")] 6

/-- java/lang/constant/Constable -/
def k6 : Class := { plain "java/lang/constant/Constable" (some 0) with
  accessFlags := 1537
  interfaces := #[]
  cf := some (fileOf pool6 1 #[] #[] 1537 3 #[] #[])
  fields := #[]
  methods := #[]
  instanceTypes := #[]
  staticTypes := #[]
  resolved := Array.replicate 11 none
  statics := none }

def pool7 : Array CpInfo := pool [(1, .class_ 2), (0, u "java/lang/constant/ConstantDesc"), (0, .class_ 4), (0, u "java/lang/Object")] 32

/-- java/lang/constant/ConstantDesc -/
def k7 : Class := { plain "java/lang/constant/ConstantDesc" (some 0) with
  accessFlags := 1537
  interfaces := #[]
  cf := some (fileOf pool7 1 #[] #[] 1537 3 #[] #[])
  fields := #[]
  methods := #[]
  instanceTypes := #[]
  staticTypes := #[]
  resolved := Array.replicate 37 none
  statics := none }

def pool8 : Array CpInfo := pool [(1, .methodref 2 3), (0, .class_ 4), (0, .nameAndType 5 6), (0, u "java/lang/Object"), (0, u "<init>"), (0, u "()V"), (2, .fieldref 10 11), (0, .class_ 12), (0, .nameAndType 13 14), (0, u "java/lang/String"), (0, u "value"), (0, u "[B"), (0, .fieldref 10 16), (0, .nameAndType 17 18), (0, u "coder"), (0, u "B"), (2, u "hash"), (0, u "I"), (2, u "hashIsZero"), (0, u "Z"), (0, .methodref 10 28), (0, .nameAndType 5 29), (0, u "([CIILjava/lang/Void;)V"), (8, .fieldref 10 39), (0, .nameAndType 40 26), (0, u "COMPACT_STRINGS"), (1, .class_ 44), (1, u "java/lang/StringUTF16"), (0, u "compress"), (1, .methodref 42 48), (0, .nameAndType 49 50), (0, u "coderFromArrayLen"), (0, u "([BI)B"), (56, .class_ 109), (1, u "java/lang/StringLatin1"), (32, u "()Z"), (34, .methodref 42 178), (0, .nameAndType 45 179), (0, u "([CII)[B"), (154, u "()I"), (0, .methodref 10 336), (0, .nameAndType 17 337), (0, u "()B"), (38, u "([BI[BII)I"), (115, .methodref 10 493), (0, .nameAndType 494 142), (0, u "isLatin1"), (10, .methodref 10 506), (0, .nameAndType 507 334), (0, u "length"), (33, .methodref 107 542), (0, .nameAndType 543 544), (0, u "equals"), (0, u "([B[B)Z"), (14, .class_ 561), (1, u "jdk/internal/util/ArraysSupport"), (0, u "mismatch"), (10, u "(Ljava/lang/Object;)Z"), (1, .class_ 576), (0, u "java/lang/CharSequence"), (22, u "CASE_INSENSITIVE_ORDER"), (0, u "Ljava/util/Comparator;"), (6, .methodref 559 608), (0, .nameAndType 562 376), (15, .methodref 10 625), (0, .nameAndType 626 627), (0, u "startsWith"), (0, u "(Ljava/lang/String;I)Z"), (3, u "([B)I"), (244, .methodref 10 877), (0, .nameAndType 878 334), (0, u "indexOfNonWhitespace"), (45, .methodref 107 925), (0, .nameAndType 878 631), (26, u "isBlank"), (57, u "([C)V"), (90, u "serialPersistentFields"), (0, u "[Ljava/io/ObjectStreamField;"), (0, .class_ 1104), (0, u "java/lang/String$CaseInsensitiveComparator"), (1, .class_ 1107), (0, u "java/io/Serializable"), (0, .class_ 1109), (0, u "java/lang/Comparable"), (0, .class_ 1111), (0, u "java/lang/constant/Constable"), (0, .class_ 1113), (0, u "java/lang/constant/ConstantDesc"), (2, u "serialVersionUID"), (0, u "J"), (3, u "REPL"), (0, u "C"), (2, u "LATIN1"), (1, u "UTF16"), (129, u "(Ljava/lang/String;)Z")] 193

def k8m0 : Method := { name := "<init>", desc := "()V", sig := { parameters := [], returnType := none }, accessFlags := 1, code := none }
def k8c1 : Code := { maxStack := 5, maxLocals := 2, code := jdk_42_method_3_code, exceptionTable := #[], attributes := #[] }
def k8m1 : Method := { name := "<init>", desc := "([C)V", sig := { parameters := [(.array .char)], returnType := none }, accessFlags := 1, code := some k8c1 }
def k8c2 : Code := { maxStack := 2, maxLocals := 1, code := jdk_42_method_54_code, exceptionTable := #[], attributes := #[] }
def k8m2 : Method := { name := "length", desc := "()I", sig := { parameters := [], returnType := some .int }, accessFlags := 1, code := some k8c2 }
def k8c3 : Code := { maxStack := 2, maxLocals := 3, code := jdk_42_method_66_code, exceptionTable := #[], attributes := #[] }
def k8m3 : Method := { name := "equals", desc := "(Ljava/lang/Object;)Z", sig := { parameters := [(.object "java/lang/Object")], returnType := some .boolean }, accessFlags := 1, code := some k8c3 }
def k8c4 : Code := { maxStack := 5, maxLocals := 8, code := jdk_42_method_75_code, exceptionTable := #[], attributes := #[] }
def k8m4 : Method := { name := "startsWith", desc := "(Ljava/lang/String;I)Z", sig := { parameters := [(.object "java/lang/String"), .int], returnType := some .boolean }, accessFlags := 1, code := some k8c4 }
def k8c5 : Code := { maxStack := 3, maxLocals := 2, code := jdk_42_method_76_code, exceptionTable := #[], attributes := #[] }
def k8m5 : Method := { name := "startsWith", desc := "(Ljava/lang/String;)Z", sig := { parameters := [(.object "java/lang/String")], returnType := some .boolean }, accessFlags := 1, code := some k8c5 }
def k8c6 : Code := { maxStack := 2, maxLocals := 1, code := jdk_42_method_117_code, exceptionTable := #[], attributes := #[] }
def k8m6 : Method := { name := "isBlank", desc := "()Z", sig := { parameters := [], returnType := some .boolean }, accessFlags := 1, code := some k8c6 }
def k8c7 : Code := { maxStack := 1, maxLocals := 1, code := jdk_42_method_120_code, exceptionTable := #[], attributes := #[] }
def k8m7 : Method := { name := "indexOfNonWhitespace", desc := "()I", sig := { parameters := [], returnType := some .int }, accessFlags := 2, code := some k8c7 }
def k8c8 : Code := { maxStack := 4, maxLocals := 6, code := jdk_42_method_149_code, exceptionTable := #[], attributes := #[] }
def k8m8 : Method := { name := "<init>", desc := "([CIILjava/lang/Void;)V", sig := { parameters := [(.array .char), .int, .int, (.object "java/lang/Void")], returnType := none }, accessFlags := 2, code := some k8c8 }
def k8c9 : Code := { maxStack := 1, maxLocals := 1, code := jdk_42_method_152_code, exceptionTable := #[], attributes := #[] }
def k8m9 : Method := { name := "coder", desc := "()B", sig := { parameters := [], returnType := some .byte }, accessFlags := 0, code := some k8c9 }
def k8c10 : Code := { maxStack := 1, maxLocals := 1, code := jdk_42_method_154_code, exceptionTable := #[], attributes := #[] }
def k8m10 : Method := { name := "isLatin1", desc := "()Z", sig := { parameters := [], returnType := some .boolean }, accessFlags := 0, code := some k8c10 }
/-- java/lang/String -/
def k8 : Class := { plain "java/lang/String" (some 0) with
  accessFlags := 49
  interfaces := #[3, 4, 5, 6, 7]
  cf := some (fileOf pool8 10 #[.nestMembers #[1103]] #[{ accessFlags := 1, nameIndex := 5, descriptorIndex := 6, attributes := #[] }, { accessFlags := 1, nameIndex := 5, descriptorIndex := 1010, attributes := #[] }, { accessFlags := 1, nameIndex := 507, descriptorIndex := 334, attributes := #[] }, { accessFlags := 1, nameIndex := 543, descriptorIndex := 573, attributes := #[] }, { accessFlags := 1, nameIndex := 626, descriptorIndex := 627, attributes := #[] }, { accessFlags := 1, nameIndex := 626, descriptorIndex := 1257, attributes := #[] }, { accessFlags := 1, nameIndex := 952, descriptorIndex := 142, attributes := #[] }, { accessFlags := 2, nameIndex := 878, descriptorIndex := 334, attributes := #[] }, { accessFlags := 2, nameIndex := 5, descriptorIndex := 29, attributes := #[] }, { accessFlags := 0, nameIndex := 17, descriptorIndex := 337, attributes := #[] }, { accessFlags := 0, nameIndex := 494, descriptorIndex := 142, attributes := #[] }] 49 2 #[1106, 1108, 575, 1110, 1112] #[{ accessFlags := 18, nameIndex := 13, descriptorIndex := 14, attributes := #[] }, { accessFlags := 18, nameIndex := 17, descriptorIndex := 18, attributes := #[] }, { accessFlags := 2, nameIndex := 21, descriptorIndex := 22, attributes := #[] }, { accessFlags := 2, nameIndex := 25, descriptorIndex := 26, attributes := #[] }, { accessFlags := 26, nameIndex := 1116, descriptorIndex := 1117, attributes := #[] }, { accessFlags := 24, nameIndex := 40, descriptorIndex := 26, attributes := #[] }, { accessFlags := 26, nameIndex := 1101, descriptorIndex := 1102, attributes := #[] }, { accessFlags := 26, nameIndex := 1121, descriptorIndex := 1122, attributes := #[] }, { accessFlags := 25, nameIndex := 599, descriptorIndex := 600, attributes := #[] }, { accessFlags := 24, nameIndex := 1125, descriptorIndex := 18, attributes := #[] }, { accessFlags := 24, nameIndex := 1127, descriptorIndex := 18, attributes := #[] }])
  fields := #[{ name := "value", type := (.array .byte), accessFlags := 18, slot := 0, constantValue := 0 }, { name := "coder", type := .byte, accessFlags := 18, slot := 1, constantValue := 0 }, { name := "hash", type := .int, accessFlags := 2, slot := 2, constantValue := 0 }, { name := "hashIsZero", type := .boolean, accessFlags := 2, slot := 3, constantValue := 0 }, { name := "serialVersionUID", type := .long, accessFlags := 26, slot := 0, constantValue := 0 }, { name := "COMPACT_STRINGS", type := .boolean, accessFlags := 24, slot := 1, constantValue := 0 }, { name := "serialPersistentFields", type := (.array (.object "java/io/ObjectStreamField")), accessFlags := 26, slot := 2, constantValue := 0 }, { name := "REPL", type := .char, accessFlags := 26, slot := 3, constantValue := 0 }, { name := "CASE_INSENSITIVE_ORDER", type := (.object "java/util/Comparator"), accessFlags := 25, slot := 4, constantValue := 0 }, { name := "LATIN1", type := .byte, accessFlags := 24, slot := 5, constantValue := 0 }, { name := "UTF16", type := .byte, accessFlags := 24, slot := 6, constantValue := 0 }]
  methods := #[k8m0, k8m1, k8m2, k8m3, k8m4, k8m5, k8m6, k8m7, k8m8, k8m9, k8m10]
  instanceTypes := #[(.array .byte), .byte, .int, .boolean]
  staticTypes := #[.long, .boolean, (.array (.object "java/io/ObjectStreamField")), .char, (.object "java/util/Comparator"), .byte, .byte]
  resolved := Array.replicate 1451 none
  statics := some 0 }

def pool9 : Array CpInfo := pool [(6, .class_ 8), (1, u "java/lang/Object"), (0, u "<init>"), (0, u "()V"), (1, .class_ 14), (1, u "java/lang/StringUTF16"), (31, u "$assertionsDisabled"), (0, u "Z"), (13, u "HI_BYTE_SHIFT"), (0, u "I"), (2, u "LO_BYTE_SHIFT"), (49, .methodref 12 116), (0, .nameAndType 117 118), (0, u "compress"), (0, u "([CI[BII)I"), (3, u "([CII)[B"), (138, u "coderFromArrayLen"), (0, u "([BI)B"), (106, .class_ 371), (1, u "java/lang/StringUTF16$LinesSpliterator"), (58, u "MAX_LENGTH"), (196, .class_ 628), (0, u "java/lang/StringUTF16$CodePointsSpliterator"), (0, .class_ 630), (0, u "java/lang/StringUTF16$CharsSpliterator")] 4

def k9m0 : Method := { name := "<init>", desc := "()V", sig := { parameters := [], returnType := none }, accessFlags := 0, code := none }
def k9c1 : Code := { maxStack := 2, maxLocals := 2, code := jdk_52_method_15_code, exceptionTable := #[], attributes := #[] }
def k9m1 : Method := { name := "coderFromArrayLen", desc := "([BI)B", sig := { parameters := [(.array .byte), .int], returnType := some .byte }, accessFlags := 8, code := some k9c1 }
def k9c2 : Code := { maxStack := 5, maxLocals := 6, code := jdk_52_method_16_code, exceptionTable := #[], attributes := #[] }
def k9m2 : Method := { name := "compress", desc := "([CII)[B", sig := { parameters := [(.array .char), .int, .int], returnType := some (.array .byte) }, accessFlags := 9, code := some k9c2 }
def k9c3 : Code := { maxStack := 3, maxLocals := 7, code := jdk_52_method_21_code, exceptionTable := #[], attributes := #[] }
def k9m3 : Method := { name := "compress", desc := "([CI[BII)I", sig := { parameters := [(.array .char), .int, (.array .byte), .int, .int], returnType := some .int }, accessFlags := 9, code := some k9c3 }
/-- java/lang/StringUTF16 -/
def k9 : Class := { plain "java/lang/StringUTF16" (some 0) with
  accessFlags := 48
  interfaces := #[]
  cf := some (fileOf pool9 12 #[.nestMembers #[627, 629, 369]] #[{ accessFlags := 0, nameIndex := 9, descriptorIndex := 10, attributes := #[] }, { accessFlags := 8, nameIndex := 261, descriptorIndex := 262, attributes := #[] }, { accessFlags := 9, nameIndex := 117, descriptorIndex := 122, attributes := #[] }, { accessFlags := 9, nameIndex := 117, descriptorIndex := 118, attributes := #[] }] 48 6 #[] #[{ accessFlags := 26, nameIndex := 61, descriptorIndex := 62, attributes := #[] }, { accessFlags := 26, nameIndex := 65, descriptorIndex := 62, attributes := #[] }, { accessFlags := 24, nameIndex := 430, descriptorIndex := 62, attributes := #[] }, { accessFlags := 4120, nameIndex := 46, descriptorIndex := 47, attributes := #[] }])
  fields := #[{ name := "HI_BYTE_SHIFT", type := .int, accessFlags := 26, slot := 0, constantValue := 0 }, { name := "LO_BYTE_SHIFT", type := .int, accessFlags := 26, slot := 1, constantValue := 0 }, { name := "MAX_LENGTH", type := .int, accessFlags := 24, slot := 2, constantValue := 0 }, { name := "$assertionsDisabled", type := .boolean, accessFlags := 4120, slot := 3, constantValue := 0 }]
  methods := #[k9m0, k9m1, k9m2, k9m3]
  instanceTypes := #[]
  staticTypes := #[.int, .int, .int, .boolean]
  resolved := Array.replicate 635 none
  statics := none }

def pool10 : Array CpInfo := pool [(2, .class_ 4), (1, u "java/lang/Object"), (0, u "<init>"), (0, u "()V"), (35, .class_ 44), (1, u "java/util/Objects"), (0, u "requireNonNull"), (48, u "(Ljava/lang/Object;Ljava/lang/String;)Ljava/lang/Object;")] 89

def k10m0 : Method := { name := "<init>", desc := "()V", sig := { parameters := [], returnType := none }, accessFlags := 2, code := none }
def k10c1 : Code := { maxStack := 3, maxLocals := 2, code := jdk_31_method_11_code, exceptionTable := #[], attributes := #[] }
def k10m1 : Method := { name := "requireNonNull", desc := "(Ljava/lang/Object;Ljava/lang/String;)Ljava/lang/Object;", sig := { parameters := [(.object "java/lang/Object"), (.object "java/lang/String")], returnType := some (.object "java/lang/Object") }, accessFlags := 9, code := some k10c1 }
/-- java/util/Objects -/
def k10 : Class := { plain "java/util/Objects" (some 0) with
  accessFlags := 49
  interfaces := #[]
  cf := some (fileOf pool10 42 #[] #[{ accessFlags := 2, nameIndex := 5, descriptorIndex := 6, attributes := #[] }, { accessFlags := 9, nameIndex := 45, descriptorIndex := 94, attributes := #[] }] 49 2 #[] #[])
  fields := #[]
  methods := #[k10m0, k10m1]
  instanceTypes := #[]
  staticTypes := #[]
  resolved := Array.replicate 184 none
  statics := none }

def pool11 : Array CpInfo := pool [(9, u "<init>"), (6, .class_ 18), (1, u "java/lang/Object"), (0, u "()V"), (1, .class_ 23), (1, u "jdk/internal/util/ArraysSupport"), (0, u "LOG2_ARRAY_LONG_INDEX_SCALE"), (0, u "I"), (2, u "U"), (0, u "Ljdk/internal/misc/Unsafe;"), (8, u "BIG_ENDIAN"), (0, u "Z"), (8, u "LOG2_BYTE_BIT_SIZE"), (4, u "LOG2_ARRAY_INT_INDEX_SCALE"), (54, u "JLA"), (0, u "Ljdk/internal/access/JavaLangAccess;"), (11, u "LOG2_ARRAY_BOOLEAN_INDEX_SCALE"), (9, u "LOG2_ARRAY_BYTE_INDEX_SCALE"), (5, u "LOG2_ARRAY_CHAR_INDEX_SCALE"), (5, u "LOG2_ARRAY_SHORT_INDEX_SCALE"), (5, u "mismatch"), (12, u "LOG2_ARRAY_FLOAT_INDEX_SCALE"), (24, u "LOG2_ARRAY_DOUBLE_INDEX_SCALE"), (89, u "T_BOOLEAN"), (2, u "T_CHAR"), (1, u "T_FLOAT"), (1, u "T_DOUBLE"), (1, u "T_BYTE"), (1, u "T_SHORT"), (1, u "T_INT"), (1, u "T_LONG"), (1, u "SOFT_MAX_ARRAY_LENGTH"), (42, u "([BI[BII)I")] 40

def k11m0 : Method := { name := "<init>", desc := "()V", sig := { parameters := [], returnType := none }, accessFlags := 2, code := none }
def k11c1 : Code := { maxStack := 8, maxLocals := 8, code := jdk_48_method_14_code, exceptionTable := #[], attributes := #[] }
def k11m1 : Method := { name := "mismatch", desc := "([BI[BII)I", sig := { parameters := [(.array .byte), .int, (.array .byte), .int, .int], returnType := some .int }, accessFlags := 9, code := some k11c1 }
/-- jdk/internal/util/ArraysSupport -/
def k11 : Class := { plain "jdk/internal/util/ArraysSupport" (some 0) with
  accessFlags := 33
  interfaces := #[]
  cf := some (fileOf pool11 21 #[] #[{ accessFlags := 2, nameIndex := 9, descriptorIndex := 19, attributes := #[] }, { accessFlags := 9, nameIndex := 149, descriptorIndex := 337, attributes := #[] }] 33 16 #[] #[{ accessFlags := 24, nameIndex := 28, descriptorIndex := 29, attributes := #[] }, { accessFlags := 26, nameIndex := 38, descriptorIndex := 39, attributes := #[] }, { accessFlags := 25, nameIndex := 121, descriptorIndex := 25, attributes := #[] }, { accessFlags := 25, nameIndex := 131, descriptorIndex := 25, attributes := #[] }, { accessFlags := 25, nameIndex := 137, descriptorIndex := 25, attributes := #[] }, { accessFlags := 25, nameIndex := 143, descriptorIndex := 25, attributes := #[] }, { accessFlags := 25, nameIndex := 53, descriptorIndex := 25, attributes := #[] }, { accessFlags := 25, nameIndex := 24, descriptorIndex := 25, attributes := #[] }, { accessFlags := 25, nameIndex := 162, descriptorIndex := 25, attributes := #[] }, { accessFlags := 25, nameIndex := 187, descriptorIndex := 25, attributes := #[] }, { accessFlags := 26, nameIndex := 48, descriptorIndex := 25, attributes := #[] }, { accessFlags := 25, nameIndex := 277, descriptorIndex := 25, attributes := #[] }, { accessFlags := 25, nameIndex := 280, descriptorIndex := 25, attributes := #[] }, { accessFlags := 25, nameIndex := 282, descriptorIndex := 25, attributes := #[] }, { accessFlags := 25, nameIndex := 284, descriptorIndex := 25, attributes := #[] }, { accessFlags := 25, nameIndex := 286, descriptorIndex := 25, attributes := #[] }, { accessFlags := 25, nameIndex := 288, descriptorIndex := 25, attributes := #[] }, { accessFlags := 25, nameIndex := 290, descriptorIndex := 25, attributes := #[] }, { accessFlags := 25, nameIndex := 292, descriptorIndex := 25, attributes := #[] }, { accessFlags := 26, nameIndex := 108, descriptorIndex := 109, attributes := #[] }, { accessFlags := 25, nameIndex := 294, descriptorIndex := 25, attributes := #[] }])
  fields := #[{ name := "U", type := (.object "jdk/internal/misc/Unsafe"), accessFlags := 24, slot := 0, constantValue := 0 }, { name := "BIG_ENDIAN", type := .boolean, accessFlags := 26, slot := 1, constantValue := 0 }, { name := "LOG2_ARRAY_BOOLEAN_INDEX_SCALE", type := .int, accessFlags := 25, slot := 2, constantValue := 0 }, { name := "LOG2_ARRAY_BYTE_INDEX_SCALE", type := .int, accessFlags := 25, slot := 3, constantValue := 0 }, { name := "LOG2_ARRAY_CHAR_INDEX_SCALE", type := .int, accessFlags := 25, slot := 4, constantValue := 0 }, { name := "LOG2_ARRAY_SHORT_INDEX_SCALE", type := .int, accessFlags := 25, slot := 5, constantValue := 0 }, { name := "LOG2_ARRAY_INT_INDEX_SCALE", type := .int, accessFlags := 25, slot := 6, constantValue := 0 }, { name := "LOG2_ARRAY_LONG_INDEX_SCALE", type := .int, accessFlags := 25, slot := 7, constantValue := 0 }, { name := "LOG2_ARRAY_FLOAT_INDEX_SCALE", type := .int, accessFlags := 25, slot := 8, constantValue := 0 }, { name := "LOG2_ARRAY_DOUBLE_INDEX_SCALE", type := .int, accessFlags := 25, slot := 9, constantValue := 0 }, { name := "LOG2_BYTE_BIT_SIZE", type := .int, accessFlags := 26, slot := 10, constantValue := 0 }, { name := "T_BOOLEAN", type := .int, accessFlags := 25, slot := 11, constantValue := 0 }, { name := "T_CHAR", type := .int, accessFlags := 25, slot := 12, constantValue := 0 }, { name := "T_FLOAT", type := .int, accessFlags := 25, slot := 13, constantValue := 0 }, { name := "T_DOUBLE", type := .int, accessFlags := 25, slot := 14, constantValue := 0 }, { name := "T_BYTE", type := .int, accessFlags := 25, slot := 15, constantValue := 0 }, { name := "T_SHORT", type := .int, accessFlags := 25, slot := 16, constantValue := 0 }, { name := "T_INT", type := .int, accessFlags := 25, slot := 17, constantValue := 0 }, { name := "T_LONG", type := .int, accessFlags := 25, slot := 18, constantValue := 0 }, { name := "JLA", type := (.object "jdk/internal/access/JavaLangAccess"), accessFlags := 26, slot := 19, constantValue := 0 }, { name := "SOFT_MAX_ARRAY_LENGTH", type := .int, accessFlags := 25, slot := 20, constantValue := 0 }]
  methods := #[k11m0, k11m1]
  instanceTypes := #[]
  staticTypes := #[(.object "jdk/internal/misc/Unsafe"), .boolean, .int, .int, .int, .int, .int, .int, .int, .int, .int, .int, .int, .int, .int, .int, .int, .int, .int, (.object "jdk/internal/access/JavaLangAccess"), .int]
  resolved := Array.replicate 378 none
  statics := none }

def pool12 : Array CpInfo := pool [(4, .class_ 6), (1, u "java/lang/Object"), (0, u "<init>"), (0, u "()V"), (5, .class_ 16), (1, u "java/lang/StringLatin1"), (33, .methodref 14 51), (0, .nameAndType 52 53), (0, u "getChar"), (0, u "([BI)C"), (3, u "([B)I"), (8, .fieldref 67 68), (0, .class_ 69), (0, .nameAndType 70 71), (0, u "java/lang/CharacterDataLatin1"), (0, u "instance"), (0, u "Ljava/lang/CharacterDataLatin1;"), (19, u "(I)Z"), (29, u "$assertionsDisabled"), (0, u "Z"), (88, .methodref 67 212), (0, .nameAndType 213 91), (0, u "isWhitespace"), (2, u "indexOfNonWhitespace"), (4, .class_ 223), (1, u "java/lang/StringLatin1$LinesSpliterator"), (57, u "equals"), (0, u "([B[B)Z"), (107, .class_ 391), (0, u "java/lang/StringLatin1$CharsSpliterator")] 3

def k12m0 : Method := { name := "<init>", desc := "()V", sig := { parameters := [], returnType := none }, accessFlags := 0, code := none }
def k12c1 : Code := { maxStack := 3, maxLocals := 3, code := jdk_43_method_13_code, exceptionTable := #[], attributes := #[] }
def k12m1 : Method := { name := "equals", desc := "([B[B)Z", sig := { parameters := [(.array .byte), (.array .byte)], returnType := some .boolean }, accessFlags := 9, code := some k12c1 }
def k12c2 : Code := { maxStack := 2, maxLocals := 4, code := jdk_43_method_37_code, exceptionTable := #[], attributes := #[] }
def k12m2 : Method := { name := "indexOfNonWhitespace", desc := "([B)I", sig := { parameters := [(.array .byte)], returnType := some .int }, accessFlags := 9, code := some k12c2 }
def k12c3 : Code := { maxStack := 2, maxLocals := 2, code := jdk_43_method_44_code, exceptionTable := #[], attributes := #[] }
def k12m3 : Method := { name := "getChar", desc := "([BI)C", sig := { parameters := [(.array .byte), .int], returnType := some .char }, accessFlags := 9, code := some k12c3 }
/-- java/lang/StringLatin1 -/
def k12 : Class := { plain "java/lang/StringLatin1" (some 0) with
  accessFlags := 48
  interfaces := #[]
  cf := some (fileOf pool12 14 #[.nestMembers #[390, 221]] #[{ accessFlags := 0, nameIndex := 7, descriptorIndex := 8, attributes := #[] }, { accessFlags := 9, nameIndex := 281, descriptorIndex := 282, attributes := #[] }, { accessFlags := 9, nameIndex := 216, descriptorIndex := 57, attributes := #[] }, { accessFlags := 9, nameIndex := 52, descriptorIndex := 53, attributes := #[] }] 48 4 #[] #[{ accessFlags := 4120, nameIndex := 121, descriptorIndex := 122, attributes := #[] }])
  fields := #[{ name := "$assertionsDisabled", type := .boolean, accessFlags := 4120, slot := 0, constantValue := 0 }]
  methods := #[k12m0, k12m1, k12m2, k12m3]
  instanceTypes := #[]
  staticTypes := #[.boolean]
  resolved := Array.replicate 395 none
  statics := none }

def pool13 : Array CpInfo := pool [(2, .class_ 4), (1, u "java/lang/Object"), (0, u "<init>"), (0, u "()V"), (1, .class_ 10), (1, u "java/lang/CharacterData")] 75

def k13m0 : Method := { name := "<init>", desc := "()V", sig := { parameters := [], returnType := none }, accessFlags := 0, code := none }
/-- java/lang/CharacterData -/
def k13 : Class := { plain "java/lang/CharacterData" (some 0) with
  accessFlags := 1056
  interfaces := #[]
  cf := some (fileOf pool13 8 #[] #[{ accessFlags := 0, nameIndex := 5, descriptorIndex := 6, attributes := #[] }] 1056 2 #[] #[])
  fields := #[]
  methods := #[k13m0]
  instanceTypes := #[]
  staticTypes := #[]
  resolved := Array.replicate 86 none
  statics := none }

def pool14 : Array CpInfo := pool [(1, .fieldref 2 3), (0, .class_ 4), (0, .nameAndType 5 6), (0, u "java/lang/CharacterDataLatin1"), (0, u "A"), (0, u "[I"), (2, u "B"), (0, u "[C"), (3, u "(I)I"), (0, .methodref 2 16), (0, .nameAndType 17 14), (0, u "getProperties"), (3, u "(I)Z"), (5, u "DIGITS"), (0, u "[B"), (8, u "sharpsMap"), (1, .class_ 41), (1, u "java/lang/CharacterData"), (0, u "<init>"), (0, u "()V"), (3, u "instance"), (0, u "Ljava/lang/CharacterDataLatin1;"), (78, u "isWhitespace")] 13

def k14c0 : Code := { maxStack := 2, maxLocals := 4, code := jdk_116_method_1_code, exceptionTable := #[], attributes := #[] }
def k14m0 : Method := { name := "getProperties", desc := "(I)I", sig := { parameters := [.int], returnType := some .int }, accessFlags := 0, code := some k14c0 }
def k14c1 : Code := { maxStack := 2, maxLocals := 3, code := jdk_116_method_26_code, exceptionTable := #[], attributes := #[] }
def k14m1 : Method := { name := "isWhitespace", desc := "(I)Z", sig := { parameters := [.int], returnType := some .boolean }, accessFlags := 0, code := some k14c1 }
def k14m2 : Method := { name := "<init>", desc := "()V", sig := { parameters := [], returnType := none }, accessFlags := 2, code := none }
/-- java/lang/CharacterDataLatin1 -/
def k14 : Class := { plain "java/lang/CharacterDataLatin1" (some 13) with
  accessFlags := 32
  interfaces := #[]
  cf := some (fileOf pool14 2 #[] #[{ accessFlags := 0, nameIndex := 17, descriptorIndex := 14, attributes := #[] }, { accessFlags := 0, nameIndex := 127, descriptorIndex := 21, attributes := #[] }, { accessFlags := 2, nameIndex := 42, descriptorIndex := 43, attributes := #[] }] 32 39 #[] #[{ accessFlags := 26, nameIndex := 27, descriptorIndex := 28, attributes := #[] }, { accessFlags := 8, nameIndex := 37, descriptorIndex := 10, attributes := #[] }, { accessFlags := 24, nameIndex := 47, descriptorIndex := 48, attributes := #[] }, { accessFlags := 24, nameIndex := 5, descriptorIndex := 6, attributes := #[] }, { accessFlags := 24, nameIndex := 9, descriptorIndex := 10, attributes := #[] }])
  fields := #[{ name := "DIGITS", type := (.array .byte), accessFlags := 26, slot := 0, constantValue := 0 }, { name := "sharpsMap", type := (.array .char), accessFlags := 8, slot := 1, constantValue := 0 }, { name := "instance", type := (.object "java/lang/CharacterDataLatin1"), accessFlags := 24, slot := 2, constantValue := 0 }, { name := "A", type := (.array .int), accessFlags := 24, slot := 3, constantValue := 0 }, { name := "B", type := (.array .char), accessFlags := 24, slot := 4, constantValue := 0 }]
  methods := #[k14m0, k14m1, k14m2]
  instanceTypes := #[]
  staticTypes := #[(.array .byte), (.array .char), (.object "java/lang/CharacterDataLatin1"), (.array .int), (.array .char)]
  resolved := Array.replicate 141 none
  statics := some 1 }

def pool15 : Array CpInfo := pool [(2, .class_ 4), (1, u "java/lang/Object"), (0, u "<init>"), (0, u "()V"), (17, .class_ 26), (1, u "jdk/internal/util/Preconditions"), (28, .class_ 56), (0, u "jdk/internal/util/Preconditions$4"), (57, .class_ 115), (0, u "jdk/internal/util/Preconditions$1"), (7, u "SIOOBE_FORMATTER"), (0, u "Ljava/util/function/BiFunction;"), (0, .class_ 126), (0, u "jdk/internal/util/Preconditions$2"), (3, u "AIOOBE_FORMATTER"), (0, .class_ 132), (0, u "jdk/internal/util/Preconditions$3"), (3, u "IOOBE_FORMATTER")] 57

def k15m0 : Method := { name := "<init>", desc := "()V", sig := { parameters := [], returnType := none }, accessFlags := 1, code := none }
/-- jdk/internal/util/Preconditions -/
def k15 : Class := { plain "jdk/internal/util/Preconditions" (some 0) with
  accessFlags := 33
  interfaces := #[]
  cf := some (fileOf pool15 24 #[.nestMembers #[55, 131, 125, 114]] #[{ accessFlags := 1, nameIndex := 5, descriptorIndex := 6, attributes := #[] }] 33 2 #[] #[{ accessFlags := 25, nameIndex := 123, descriptorIndex := 124, attributes := #[] }, { accessFlags := 25, nameIndex := 130, descriptorIndex := 124, attributes := #[] }, { accessFlags := 25, nameIndex := 136, descriptorIndex := 124, attributes := #[] }])
  fields := #[{ name := "SIOOBE_FORMATTER", type := (.object "java/util/function/BiFunction"), accessFlags := 25, slot := 0, constantValue := 0 }, { name := "AIOOBE_FORMATTER", type := (.object "java/util/function/BiFunction"), accessFlags := 25, slot := 1, constantValue := 0 }, { name := "IOOBE_FORMATTER", type := (.object "java/util/function/BiFunction"), accessFlags := 25, slot := 2, constantValue := 0 }]
  methods := #[k15m0]
  instanceTypes := #[]
  staticTypes := #[(.object "java/util/function/BiFunction"), (.object "java/util/function/BiFunction"), (.object "java/util/function/BiFunction")]
  resolved := Array.replicate 194 none
  statics := some 2 }

def pool16 : Array CpInfo := pool [(1, u "java/lang/Cloneable"), (0, .class_ 1), (0, u "java/lang/Object"), (0, .class_ 3)] 3

/-- java/lang/Cloneable -/
def k16 : Class := { plain "java/lang/Cloneable" (some 0) with
  accessFlags := 1537
  interfaces := #[]
  cf := some (fileOf pool16 2 #[] #[] 1537 4 #[] #[])
  fields := #[]
  methods := #[]
  instanceTypes := #[]
  staticTypes := #[]
  resolved := Array.replicate 8 none
  statics := none }

/-- the primitive byte -/
def k17 : Class := { plain "byte" none with kind := .primitive 'B', accessFlags := 0x411 }
/-- [B -/
def k18 : Class := { plain "[B" (some 0) with kind := .array 17 .byte, interfaces := #[16, 3], accessFlags := 1041 }

/-- the primitive char -/
def k19 : Class := { plain "char" none with kind := .primitive 'C', accessFlags := 0x411 }
/-- [C -/
def k20 : Class := { plain "[C" (some 0) with kind := .array 19 .char, interfaces := #[16, 3], accessFlags := 1041 }

/-- the primitive int -/
def k21 : Class := { plain "int" none with kind := .primitive 'I', accessFlags := 0x411 }
/-- [I -/
def k22 : Class := { plain "[I" (some 0) with kind := .array 21 .int, interfaces := #[16, 3], accessFlags := 1041 }

def heap : Heap := #[{ cls := 8, slots := #[.long 0, .int 1, .null, .int 0, .null, .int 0, .int 0], vm := .statics 8 },
  { cls := 14, slots := #[.null, .null, .ref 3, .ref 4, .null], vm := .statics 14 },
  { cls := 15, slots := #[.null, .null, .null], vm := .statics 15 },
  { cls := 14, slots := #[], vm := .none },
  { cls := 22, slots := #[.int 1207963663, .int 1207963663, .int 1207963663, .int 1207963663, .int 1207963663, .int 1207963663, .int 1207963663, .int 1207963663, .int 1207963663, .int 1476411407, .int 1342193679, .int 1476411407, .int 1610629135, .int 1342193679, .int 1207963663, .int 1207963663, .int 1207963663, .int 1207963663, .int 1207963663, .int 1207963663, .int 1207963663, .int 1207963663, .int 1207963663, .int 1207963663, .int 1207963663, .int 1207963663, .int 1207963663, .int 1207963663, .int 1342193679, .int 1342193679, .int 1342193679, .int 1476411407, .int 1610629132, .int 1744830488, .int 1744830488, .int 671088664, .int 671113242, .int 671088664, .int 1744830488, .int 1744830488, .int (-402653163), .int (-402653162), .int 1744830488, .int 536870937, .int 939524120, .int 536870932, .int 939524120, .int 939524120, .int 402667017, .int 402667017, .int 402667017, .int 402667017, .int 402667017, .int 402667017, .int 402667017, .int 402667017, .int 402667017, .int 402667017, .int 939524120, .int 1744830488, .int (-402653159), .int 1744830489, .int (-402653159), .int 1744830488, .int 1744830488, .int 8552417, .int 8552417, .int 8552417, .int 8552417, .int 8552417, .int 8552417, .int 8552417, .int 8552417, .int 8552417, .int 8552417, .int 8552417, .int 8552417, .int 8552417, .int 8552417, .int 8552417, .int 8552417, .int 8552417, .int 8552417, .int 8552417, .int 8552417, .int 8552417, .int 8552417, .int 8552417, .int 8552417, .int 8552417, .int 8552417, .int (-402653163), .int 1744830488, .int (-402653162), .int 1744830491, .int 1744850967, .int 1744830491, .int 8486882, .int 8486882, .int 8486882, .int 8486882, .int 8486882, .int 8486882, .int 8486882, .int 8486882, .int 8486882, .int 8486882, .int 8486882, .int 8486882, .int 8486882, .int 8486882, .int 8486882, .int 8486882, .int 8486882, .int 8486882, .int 8486882, .int 8486882, .int 8486882, .int 8486882, .int 8486882, .int 8486882, .int 8486882, .int 8486882, .int (-402653163), .int 1744830489, .int (-402653162), .int 1744830489, .int 1207963663, .int 1207963663, .int 1207963663, .int 1207963663, .int 1207963663, .int 1207963663, .int 1342181391, .int 1207963663, .int 1207963663, .int 1207963663, .int 1207963663, .int 1207963663, .int 1207963663, .int 1207963663, .int 1207963663, .int 1207963663, .int 1207963663, .int 1207963663, .int 1207963663, .int 1207963663, .int 1207963663, .int 1207963663, .int 1207963663, .int 1207963663, .int 1207963663, .int 1207963663, .int 1207963663, .int 1207963663, .int 1207963663, .int 1207963663, .int 1207963663, .int 1207963663, .int 1207963663, .int 939524108, .int 1744830488, .int 671113242, .int 671113242, .int 671113242, .int 671113242, .int 1744830492, .int 1744830488, .int 1744830491, .int 1744830492, .int 28677, .int (-402653155), .int 1744830489, .int 1207963664, .int 1744830492, .int 1744830491, .int 671088668, .int 671088665, .int 402654731, .int 402654731, .int 1744830491, .int 134049794, .int 1744830488, .int 1744830488, .int 1744830491, .int 402654475, .int 28677, .int (-402653154), .int 1744832523, .int 1744832523, .int 1744832523, .int 1744830488, .int 8548353, .int 8548353, .int 8548353, .int 8548353, .int 8548353, .int 8548353, .int 8548353, .int 8548353, .int 8548353, .int 8548353, .int 8548353, .int 8548353, .int 8548353, .int 8548353, .int 8548353, .int 8548353, .int 8548353, .int 8548353, .int 8548353, .int 8548353, .int 8548353, .int 8548353, .int 8548353, .int 1744830489, .int 8548353, .int 8548353, .int 8548353, .int 8548353, .int 8548353, .int 8548353, .int 8548353, .int 134049794, .int 8482818, .int 8482818, .int 8482818, .int 8482818, .int 8482818, .int 8482818, .int 8482818, .int 8482818, .int 8482818, .int 8482818, .int 8482818, .int 8482818, .int 8482818, .int 8482818, .int 8482818, .int 8482818, .int 8482818, .int 8482818, .int 8482818, .int 8482818, .int 8482818, .int 8482818, .int 8482818, .int 1744830489, .int 8482818, .int 8482818, .int 8482818, .int 8482818, .int 8482818, .int 8482818, .int 8482818, .int 102592514], vm := .none }]
def classes : Array Class := #[k0, k1, k2, k3, k4, k5, k6, k7, k8, k9, k10, k11, k12, k13, k14, k15, k16, k17, k18, k19, k20, k21, k22]
def interned : List (Array UInt16 × Addr) := []
def slotsUsed : Nat := 271
def theMethod : MethodId := ⟨1, 1⟩
def args0 : Array Value := #[.int 5, .int 6, .int 7, .int 8, .int 9]
def aboutOver (below : List Frame) : State where
  vm := { classes := classes, interned := interned.toArray }
  heap := heap
  slotsUsed := slotsUsed
  threads := #[{ frames := .invoking theMethod args0 :: below }]
def below0 : List Frame := [.native { method := ⟨0, 0⟩, args := #[] }]
def about1 : State := aboutOver below0
def p0 : Program := .bare "" "" ""
def e0 : Env := launch0.env 0 0 0
theorem w_frames : about1.frames = Frame.invoking theMethod args0 :: below0 := rfl
set_option maxRecDepth 65536 in
theorem w_args : argsFit about1.vm theMethod args0 = true := by decide +kernel
set_option maxRecDepth 65536 in
theorem w_heap : heapFits about1 = true := by decide +kernel
set_option maxRecDepth 65536 in
theorem w_runnable : about1.curStatus? = some .runnable := by decide +kernel
set_option maxRecDepth 65536 in
theorem w_alone : about1.alone = true := by decide +kernel
set_option maxRecDepth 65536 in
theorem w_named : about1.methodNamed? x = some theMethod := by decide +kernel
set_option maxRecDepth 65536 in
theorem w_hears : about1.hears theMethod below0 = true := by decide +kernel
set_option maxRecDepth 65536 in
theorem w_ripe : about1.ripe theMethod args0 below0 = true := by decide +kernel
theorem w_running : about1.status = .running := rfl
set_option maxRecDepth 65536 in
theorem w_room : about1.hasRoom e0.platform room_1 = true :=
  launch0.hasRoom_least _ room_1 (by decide +kernel) (by decide +kernel) (by decide +kernel) (by decide +kernel) (by decide +kernel) (by decide +kernel)
theorem allAtoms_all (ts : List Jvm.Cond) (a : Array Jvm.Value) (st : Jvm.State) : (allAtoms ts).before a st = ts.all (fun c => c.before a st) := by
  induction ts with
  | nil => rfl
  | cons c t ih =>
    show (Jvm.Cond.and c (allAtoms t)).before a st = _
    rw [Jvm.Cond.before_and, ih, List.all_cons]
def words1 : List Jvm.Cond := Jvm.Cond.code x code maxLocals ret :: tables_1
/-- a 'code' word, met by the world's own term for the bytes: nothing is compared byte by byte -/
theorem code_word {y : MethodName} {bytes : ByteArray} {mx : Nat} {rt : Option FieldType} {a : Array Value} {s : State} {m : MethodId} {meth : Method} {c : Code} (h1 : s.methodNamed? y = some m) (h2 : s.vm.method? m = some meth) (h3 : meth.code = some c) (h4 : c.code = bytes)
    (h5 : (c.maxLocals == mx && c.exceptionTable.isEmpty && decide (c.maxStack ≤ mostOperands) && decide (meth.sig.returnType = rt) && !meth.locks && decide (parseMethodDescriptor y.desc = some meth.sig)) = true) : (Jvm.Cond.code y bytes mx rt).before a s = true := by
  simp only [Bool.and_eq_true, beq_iff_eq, Bool.not_eq_true', decide_eq_true_eq] at h5
  obtain ⟨⟨⟨⟨⟨g1, g2⟩, g3⟩, g4⟩, g5⟩, g6⟩ := h5
  simp [Cond.before, Cond.holds, Cond.value, h1, h2, h3, h4, g1, g2, g3, g4, g5, g6]
def isCode : Jvm.Cond → Bool
  | .code _ _ _ _ => true
  | _ => false
theorem all_split {L : List Jvm.Cond} {P : Jvm.Cond → Bool} (h1 : L.all (fun c => isCode c || P c) = true) (h2 : ∀ c ∈ L.filter isCode, P c = true) : L.all P = true := by
  refine List.all_eq_true.mpr fun c hc => ?_
  have h := List.all_eq_true.mp h1 c hc
  rcases Bool.eq_false_or_eq_true (isCode c) with hi | hi
  · exact h2 c (List.mem_filter.mpr ⟨hc, hi⟩)
  · simpa [hi] using h
set_option maxRecDepth 65536 in
theorem w_c0 : (Jvm.Cond.code x code maxLocals ret).before args0 about1 = true := code_word (m := ⟨1, 1⟩) (meth := k1m1) (c := k1c1) (by decide +kernel) rfl rfl rfl (by decide +kernel)
set_option maxRecDepth 65536 in
theorem w_c1 : (Jvm.Cond.code ({ cls := "java/lang/String", name := "<init>", desc := "([C)V" } : Jvm.MethodName) jdk_42_method_3_code (2 : Nat) (Option.none : Option Jvm.ClassFile.FieldType)).before args0 about1 = true := code_word (m := ⟨8, 1⟩) (meth := k8m1) (c := k8c1) (by decide +kernel) rfl rfl rfl (by decide +kernel)
set_option maxRecDepth 65536 in
theorem w_c2 : (Jvm.Cond.code ({ cls := "java/lang/String", name := "<init>", desc := "([CIILjava/lang/Void;)V" } : Jvm.MethodName) jdk_42_method_149_code (6 : Nat) (Option.none : Option Jvm.ClassFile.FieldType)).before args0 about1 = true := code_word (m := ⟨8, 8⟩) (meth := k8m8) (c := k8c8) (by decide +kernel) rfl rfl rfl (by decide +kernel)
set_option maxRecDepth 65536 in
theorem w_c3 : (Jvm.Cond.code ({ cls := "java/lang/Object", name := "<init>", desc := "()V" } : Jvm.MethodName) object_method_1_code (1 : Nat) (Option.none : Option Jvm.ClassFile.FieldType)).before args0 about1 = true := code_word (m := ⟨0, 0⟩) (meth := k0m0) (c := k0c0) (by decide +kernel) rfl rfl rfl (by decide +kernel)
set_option maxRecDepth 65536 in
theorem w_c4 : (Jvm.Cond.code ({ cls := "java/lang/StringUTF16", name := "compress", desc := "([CII)[B" } : Jvm.MethodName) jdk_52_method_16_code (6 : Nat) (Option.some (Jvm.ClassFile.FieldType.array Jvm.ClassFile.FieldType.byte))).before args0 about1 = true := code_word (m := ⟨9, 2⟩) (meth := k9m2) (c := k9c2) (by decide +kernel) rfl rfl rfl (by decide +kernel)
set_option maxRecDepth 65536 in
theorem w_c5 : (Jvm.Cond.code ({ cls := "java/lang/StringUTF16", name := "compress", desc := "([CI[BII)I" } : Jvm.MethodName) jdk_52_method_21_code (7 : Nat) (Option.some Jvm.ClassFile.FieldType.int)).before args0 about1 = true := code_word (m := ⟨9, 3⟩) (meth := k9m3) (c := k9c3) (by decide +kernel) rfl rfl rfl (by decide +kernel)
set_option maxRecDepth 65536 in
theorem w_c6 : (Jvm.Cond.code ({ cls := "java/lang/StringUTF16", name := "coderFromArrayLen", desc := "([BI)B" } : Jvm.MethodName) jdk_52_method_15_code (2 : Nat) (Option.some Jvm.ClassFile.FieldType.byte)).before args0 about1 = true := code_word (m := ⟨9, 1⟩) (meth := k9m1) (c := k9c1) (by decide +kernel) rfl rfl rfl (by decide +kernel)
set_option maxRecDepth 65536 in
theorem w_c7 : (Jvm.Cond.code ({ cls := "com/example/lean_envelope/leanenvelope/check/ValidationError", name := "<init>", desc := "(Ljava/lang/String;Ljava/lang/String;)V" } : Jvm.MethodName) prog_7_method_1_code (3 : Nat) (Option.none : Option Jvm.ClassFile.FieldType)).before args0 about1 = true := code_word (m := ⟨2, 0⟩) (meth := k2m0) (c := k2c0) (by decide +kernel) rfl rfl rfl (by decide +kernel)
set_option maxRecDepth 65536 in
theorem w_c8 : (Jvm.Cond.code ({ cls := "java/util/Objects", name := "requireNonNull", desc := "(Ljava/lang/Object;Ljava/lang/String;)Ljava/lang/Object;" } : Jvm.MethodName) jdk_31_method_11_code (2 : Nat) (Option.some (Jvm.ClassFile.FieldType.object "java/lang/Object"))).before args0 about1 = true := code_word (m := ⟨10, 1⟩) (meth := k10m1) (c := k10c1) (by decide +kernel) rfl rfl rfl (by decide +kernel)
set_option maxRecDepth 65536 in
theorem w_c9 : (Jvm.Cond.code ({ cls := "java/lang/String", name := "startsWith", desc := "(Ljava/lang/String;)Z" } : Jvm.MethodName) jdk_42_method_76_code (2 : Nat) (Option.some Jvm.ClassFile.FieldType.boolean)).before args0 about1 = true := code_word (m := ⟨8, 5⟩) (meth := k8m5) (c := k8c5) (by decide +kernel) rfl rfl rfl (by decide +kernel)
set_option maxRecDepth 65536 in
theorem w_c10 : (Jvm.Cond.code ({ cls := "java/lang/String", name := "startsWith", desc := "(Ljava/lang/String;I)Z" } : Jvm.MethodName) jdk_42_method_75_code (8 : Nat) (Option.some Jvm.ClassFile.FieldType.boolean)).before args0 about1 = true := code_word (m := ⟨8, 4⟩) (meth := k8m4) (c := k8c4) (by decide +kernel) rfl rfl rfl (by decide +kernel)
set_option maxRecDepth 65536 in
theorem w_c11 : (Jvm.Cond.code ({ cls := "java/lang/String", name := "length", desc := "()I" } : Jvm.MethodName) jdk_42_method_54_code (1 : Nat) (Option.some Jvm.ClassFile.FieldType.int)).before args0 about1 = true := code_word (m := ⟨8, 2⟩) (meth := k8m2) (c := k8c2) (by decide +kernel) rfl rfl rfl (by decide +kernel)
set_option maxRecDepth 65536 in
theorem w_c12 : (Jvm.Cond.code ({ cls := "java/lang/String", name := "coder", desc := "()B" } : Jvm.MethodName) jdk_42_method_152_code (1 : Nat) (Option.some Jvm.ClassFile.FieldType.byte)).before args0 about1 = true := code_word (m := ⟨8, 9⟩) (meth := k8m9) (c := k8c9) (by decide +kernel) rfl rfl rfl (by decide +kernel)
set_option maxRecDepth 65536 in
theorem w_c13 : (Jvm.Cond.code ({ cls := "jdk/internal/util/ArraysSupport", name := "mismatch", desc := "([BI[BII)I" } : Jvm.MethodName) jdk_48_method_14_code (8 : Nat) (Option.some Jvm.ClassFile.FieldType.int)).before args0 about1 = true := code_word (m := ⟨11, 1⟩) (meth := k11m1) (c := k11c1) (by decide +kernel) rfl rfl rfl (by decide +kernel)
set_option maxRecDepth 65536 in
theorem w_c14 : (Jvm.Cond.code ({ cls := "java/lang/String", name := "isBlank", desc := "()Z" } : Jvm.MethodName) jdk_42_method_117_code (1 : Nat) (Option.some Jvm.ClassFile.FieldType.boolean)).before args0 about1 = true := code_word (m := ⟨8, 6⟩) (meth := k8m6) (c := k8c6) (by decide +kernel) rfl rfl rfl (by decide +kernel)
set_option maxRecDepth 65536 in
theorem w_c15 : (Jvm.Cond.code ({ cls := "java/lang/String", name := "indexOfNonWhitespace", desc := "()I" } : Jvm.MethodName) jdk_42_method_120_code (1 : Nat) (Option.some Jvm.ClassFile.FieldType.int)).before args0 about1 = true := code_word (m := ⟨8, 7⟩) (meth := k8m7) (c := k8c7) (by decide +kernel) rfl rfl rfl (by decide +kernel)
set_option maxRecDepth 65536 in
theorem w_c16 : (Jvm.Cond.code ({ cls := "java/lang/String", name := "isLatin1", desc := "()Z" } : Jvm.MethodName) jdk_42_method_154_code (1 : Nat) (Option.some Jvm.ClassFile.FieldType.boolean)).before args0 about1 = true := code_word (m := ⟨8, 10⟩) (meth := k8m10) (c := k8c10) (by decide +kernel) rfl rfl rfl (by decide +kernel)
set_option maxRecDepth 65536 in
theorem w_c17 : (Jvm.Cond.code ({ cls := "java/lang/StringLatin1", name := "indexOfNonWhitespace", desc := "([B)I" } : Jvm.MethodName) jdk_43_method_37_code (4 : Nat) (Option.some Jvm.ClassFile.FieldType.int)).before args0 about1 = true := code_word (m := ⟨12, 2⟩) (meth := k12m2) (c := k12c2) (by decide +kernel) rfl rfl rfl (by decide +kernel)
set_option maxRecDepth 65536 in
theorem w_c18 : (Jvm.Cond.code ({ cls := "java/lang/StringLatin1", name := "getChar", desc := "([BI)C" } : Jvm.MethodName) jdk_43_method_44_code (2 : Nat) (Option.some Jvm.ClassFile.FieldType.char)).before args0 about1 = true := code_word (m := ⟨12, 3⟩) (meth := k12m3) (c := k12c3) (by decide +kernel) rfl rfl rfl (by decide +kernel)
set_option maxRecDepth 65536 in
theorem w_c19 : (Jvm.Cond.code ({ cls := "java/lang/CharacterDataLatin1", name := "isWhitespace", desc := "(I)Z" } : Jvm.MethodName) jdk_116_method_26_code (3 : Nat) (Option.some Jvm.ClassFile.FieldType.boolean)).before args0 about1 = true := code_word (m := ⟨14, 1⟩) (meth := k14m1) (c := k14c1) (by decide +kernel) rfl rfl rfl (by decide +kernel)
set_option maxRecDepth 65536 in
theorem w_c20 : (Jvm.Cond.code ({ cls := "java/lang/CharacterDataLatin1", name := "getProperties", desc := "(I)I" } : Jvm.MethodName) jdk_116_method_1_code (4 : Nat) (Option.some Jvm.ClassFile.FieldType.int)).before args0 about1 = true := code_word (m := ⟨14, 0⟩) (meth := k14m0) (c := k14c0) (by decide +kernel) rfl rfl rfl (by decide +kernel)
set_option maxRecDepth 65536 in
theorem w_c21 : (Jvm.Cond.code ({ cls := "com/example/lean_envelope/leanenvelope/check/ValidationError", name := "equals", desc := "(Ljava/lang/Object;)Z" } : Jvm.MethodName) prog_7_method_6_code (4 : Nat) (Option.some Jvm.ClassFile.FieldType.boolean)).before args0 about1 = true := code_word (m := ⟨2, 1⟩) (meth := k2m1) (c := k2c1) (by decide +kernel) rfl rfl rfl (by decide +kernel)
set_option maxRecDepth 65536 in
theorem w_c22 : (Jvm.Cond.code ({ cls := "java/lang/String", name := "equals", desc := "(Ljava/lang/Object;)Z" } : Jvm.MethodName) jdk_42_method_66_code (3 : Nat) (Option.some Jvm.ClassFile.FieldType.boolean)).before args0 about1 = true := code_word (m := ⟨8, 3⟩) (meth := k8m3) (c := k8c3) (by decide +kernel) rfl rfl rfl (by decide +kernel)
set_option maxRecDepth 65536 in
theorem w_c23 : (Jvm.Cond.code ({ cls := "java/lang/StringLatin1", name := "equals", desc := "([B[B)Z" } : Jvm.MethodName) jdk_43_method_13_code (3 : Nat) (Option.some Jvm.ClassFile.FieldType.boolean)).before args0 about1 = true := code_word (m := ⟨12, 1⟩) (meth := k12m1) (c := k12c1) (by decide +kernel) rfl rfl rfl (by decide +kernel)
def codes1 : List Jvm.Cond := [Jvm.Cond.code x code maxLocals ret, Jvm.Cond.code ({ cls := "java/lang/String", name := "<init>", desc := "([C)V" } : Jvm.MethodName) jdk_42_method_3_code (2 : Nat) (Option.none : Option Jvm.ClassFile.FieldType), Jvm.Cond.code ({ cls := "java/lang/String", name := "<init>", desc := "([CIILjava/lang/Void;)V" } : Jvm.MethodName) jdk_42_method_149_code (6 : Nat) (Option.none : Option Jvm.ClassFile.FieldType), Jvm.Cond.code ({ cls := "java/lang/Object", name := "<init>", desc := "()V" } : Jvm.MethodName) object_method_1_code (1 : Nat) (Option.none : Option Jvm.ClassFile.FieldType), Jvm.Cond.code ({ cls := "java/lang/StringUTF16", name := "compress", desc := "([CII)[B" } : Jvm.MethodName) jdk_52_method_16_code (6 : Nat) (Option.some (Jvm.ClassFile.FieldType.array Jvm.ClassFile.FieldType.byte)), Jvm.Cond.code ({ cls := "java/lang/StringUTF16", name := "compress", desc := "([CI[BII)I" } : Jvm.MethodName) jdk_52_method_21_code (7 : Nat) (Option.some Jvm.ClassFile.FieldType.int), Jvm.Cond.code ({ cls := "java/lang/StringUTF16", name := "coderFromArrayLen", desc := "([BI)B" } : Jvm.MethodName) jdk_52_method_15_code (2 : Nat) (Option.some Jvm.ClassFile.FieldType.byte), Jvm.Cond.code ({ cls := "com/example/lean_envelope/leanenvelope/check/ValidationError", name := "<init>", desc := "(Ljava/lang/String;Ljava/lang/String;)V" } : Jvm.MethodName) prog_7_method_1_code (3 : Nat) (Option.none : Option Jvm.ClassFile.FieldType), Jvm.Cond.code ({ cls := "java/util/Objects", name := "requireNonNull", desc := "(Ljava/lang/Object;Ljava/lang/String;)Ljava/lang/Object;" } : Jvm.MethodName) jdk_31_method_11_code (2 : Nat) (Option.some (Jvm.ClassFile.FieldType.object "java/lang/Object")), Jvm.Cond.code ({ cls := "java/lang/String", name := "startsWith", desc := "(Ljava/lang/String;)Z" } : Jvm.MethodName) jdk_42_method_76_code (2 : Nat) (Option.some Jvm.ClassFile.FieldType.boolean), Jvm.Cond.code ({ cls := "java/lang/String", name := "startsWith", desc := "(Ljava/lang/String;I)Z" } : Jvm.MethodName) jdk_42_method_75_code (8 : Nat) (Option.some Jvm.ClassFile.FieldType.boolean), Jvm.Cond.code ({ cls := "java/lang/String", name := "length", desc := "()I" } : Jvm.MethodName) jdk_42_method_54_code (1 : Nat) (Option.some Jvm.ClassFile.FieldType.int), Jvm.Cond.code ({ cls := "java/lang/String", name := "coder", desc := "()B" } : Jvm.MethodName) jdk_42_method_152_code (1 : Nat) (Option.some Jvm.ClassFile.FieldType.byte), Jvm.Cond.code ({ cls := "jdk/internal/util/ArraysSupport", name := "mismatch", desc := "([BI[BII)I" } : Jvm.MethodName) jdk_48_method_14_code (8 : Nat) (Option.some Jvm.ClassFile.FieldType.int), Jvm.Cond.code ({ cls := "java/lang/String", name := "isBlank", desc := "()Z" } : Jvm.MethodName) jdk_42_method_117_code (1 : Nat) (Option.some Jvm.ClassFile.FieldType.boolean), Jvm.Cond.code ({ cls := "java/lang/String", name := "indexOfNonWhitespace", desc := "()I" } : Jvm.MethodName) jdk_42_method_120_code (1 : Nat) (Option.some Jvm.ClassFile.FieldType.int), Jvm.Cond.code ({ cls := "java/lang/String", name := "isLatin1", desc := "()Z" } : Jvm.MethodName) jdk_42_method_154_code (1 : Nat) (Option.some Jvm.ClassFile.FieldType.boolean), Jvm.Cond.code ({ cls := "java/lang/StringLatin1", name := "indexOfNonWhitespace", desc := "([B)I" } : Jvm.MethodName) jdk_43_method_37_code (4 : Nat) (Option.some Jvm.ClassFile.FieldType.int), Jvm.Cond.code ({ cls := "java/lang/StringLatin1", name := "getChar", desc := "([BI)C" } : Jvm.MethodName) jdk_43_method_44_code (2 : Nat) (Option.some Jvm.ClassFile.FieldType.char), Jvm.Cond.code ({ cls := "java/lang/CharacterDataLatin1", name := "isWhitespace", desc := "(I)Z" } : Jvm.MethodName) jdk_116_method_26_code (3 : Nat) (Option.some Jvm.ClassFile.FieldType.boolean), Jvm.Cond.code ({ cls := "java/lang/CharacterDataLatin1", name := "getProperties", desc := "(I)I" } : Jvm.MethodName) jdk_116_method_1_code (4 : Nat) (Option.some Jvm.ClassFile.FieldType.int), Jvm.Cond.code ({ cls := "com/example/lean_envelope/leanenvelope/check/ValidationError", name := "equals", desc := "(Ljava/lang/Object;)Z" } : Jvm.MethodName) prog_7_method_6_code (4 : Nat) (Option.some Jvm.ClassFile.FieldType.boolean), Jvm.Cond.code ({ cls := "java/lang/String", name := "equals", desc := "(Ljava/lang/Object;)Z" } : Jvm.MethodName) jdk_42_method_66_code (3 : Nat) (Option.some Jvm.ClassFile.FieldType.boolean), Jvm.Cond.code ({ cls := "java/lang/StringLatin1", name := "equals", desc := "([B[B)Z" } : Jvm.MethodName) jdk_43_method_13_code (3 : Nat) (Option.some Jvm.ClassFile.FieldType.boolean)]
set_option maxRecDepth 65536 in
theorem codes_eq : words1.filter isCode = codes1 := rfl
theorem w_codes : ∀ c ∈ words1.filter isCode, c.before args0 about1 = true := by
  rw [codes_eq]
  intro c hc
  simp only [codes1, List.mem_cons, List.not_mem_nil, or_false] at hc
  rcases hc with rfl | rfl | rfl | rfl | rfl | rfl | rfl | rfl | rfl | rfl | rfl | rfl | rfl | rfl | rfl | rfl | rfl | rfl | rfl | rfl | rfl | rfl | rfl | rfl
  · exact w_c0
  · exact w_c1
  · exact w_c2
  · exact w_c3
  · exact w_c4
  · exact w_c5
  · exact w_c6
  · exact w_c7
  · exact w_c8
  · exact w_c9
  · exact w_c10
  · exact w_c11
  · exact w_c12
  · exact w_c13
  · exact w_c14
  · exact w_c15
  · exact w_c16
  · exact w_c17
  · exact w_c18
  · exact w_c19
  · exact w_c20
  · exact w_c21
  · exact w_c22
  · exact w_c23
set_option maxRecDepth 65536 in
theorem w_t1 : (words1.take 24).all (fun c => isCode c || c.before args0 about1) = true := by decide +kernel
set_option maxRecDepth 65536 in
theorem w_t2 : ((words1.drop 24).take 24).all (fun c => isCode c || c.before args0 about1) = true := by decide +kernel
set_option maxRecDepth 65536 in
theorem w_t3 : (((words1.drop 24).drop 24).take 24).all (fun c => isCode c || c.before args0 about1) = true := by decide +kernel
set_option maxRecDepth 65536 in
theorem w_t4 : ((((words1.drop 24).drop 24).drop 24).take 24).all (fun c => isCode c || c.before args0 about1) = true := by decide +kernel
set_option maxRecDepth 65536 in
theorem w_t5 : (((((words1.drop 24).drop 24).drop 24).drop 24).take 24).all (fun c => isCode c || c.before args0 about1) = true := by decide +kernel
set_option maxRecDepth 65536 in
theorem w_t6 : (((((words1.drop 24).drop 24).drop 24).drop 24).drop 24).all (fun c => isCode c || c.before args0 about1) = true := by decide +kernel
theorem w_tables : (allAtoms (Jvm.Cond.code x code maxLocals ret :: tables_1)).before args0 about1 = true := by
  rw [allAtoms_all]
  show words1.all (fun c => c.before args0 about1) = true
  refine all_split ?_ w_codes
  rw [← List.take_append_drop 24 words1, List.all_append, w_t1, ← List.take_append_drop 24 (words1.drop 24), List.all_append, w_t2, ← List.take_append_drop 24 ((words1.drop 24).drop 24), List.all_append, w_t3, ← List.take_append_drop 24 (((words1.drop 24).drop 24).drop 24), List.all_append, w_t4, ← List.take_append_drop 24 ((((words1.drop 24).drop 24).drop 24).drop 24), List.all_append, w_t5, w_t6]
  rfl
set_option maxRecDepth 65536 in
theorem w_rest : rest_1_c.before args0 about1 = true := by decide +kernel
set_option maxRecDepth 65536 in
theorem w_case : (Jvm.Cond.and given_1 narrow_1).before args0 about1 = true := by decide +kernel
set_option maxRecDepth 65536 in
theorem w_consts : constsHeld consts_1 about1 := Jvm.Lit.constsHeldB_iff.mp (by decide +kernel)
theorem w_applies : (headSpec (Jvm.Cond.code x code maxLocals ret :: tables_1) room_1).applies x e0.platform about1 = true :=
  (Spec.applies_iff w_frames).mpr ⟨w_running, w_runnable, w_alone, w_named, w_hears, w_ripe, w_room, w_tables⟩
theorem atStart : AtStart classFile x code maxLocals ret World_1 tables_1 room_1 Calls_1 rest_1 Pre_1 launch0 p0 e0 about1 theMethod args0 below0 :=
  ⟨lists_1, trivial, launch0.admits_env _ _ _, launch0.least_env, fairChoices_fair.cas, fairChoices_fair.clock, w_frames, w_args, w_heap, w_applies, ⟨w_consts, trivial⟩, w_rest, w_case⟩
end start1
theorem witness_1 : WitnessClaimed_1 := ⟨start1.p0, start1.e0, start1.about1, start1.theMethod, start1.args0, start1.below0, start1.atStart⟩
end Jvm.Pilot.@@N@@
