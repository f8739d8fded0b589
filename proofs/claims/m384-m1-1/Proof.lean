import JvmDerived
import JvmDerived.Pilot.@@N@@Statement
import JvmDerived.Pilot.@@N@@Code
set_option linter.unusedVariables false
set_option linter.unusedSimpArgs false
namespace Jvm.OwnK
open Sem ClassFile Op Lib Bundle Jvm.Stand Jvm.Free Jvm.LawKit Jvm.RoadKit
/-! ## the end of a body, the goal, the point -/
def Fne (s : State) (n0 : Nat) (Z : State) (EL : List (String × Nat)) (nw : Bool) (rm : Room) (Q : Option Value → Heap → List Addr → Prop) (o : Outcome) (U : State) : Prop :=
  ∃ v L so, o = .returned v ∧ Q v U.heap so ∧ Fr n0 L ∧ CHr Z EL s.vm s.heap U.vm U.heap ∧ (∀ x ∈ so, n0 ≤ x ∧ x < U.heap.size ∧ Safe Z EL U.vm U.heap x) ∧ (nw = true → s.WarmedH U.vm) ∧ ReturnedEndW s o U L rm.cells rm.slots
def WP (p : Program) (e : Env) (below : List Frame) (Φ : Outcome → State → Prop) (T : State) (g : JFrame) : Prop :=
  ∃ s₂ o, Steps p.tables e below (T.setTop g) s₂ ∧ s₂.status = .running ∧ Ended s₂ below o ∧ Φ o s₂
def WS (p : Program) (l : Launch) (e : Env) (R : Room) (s : State) (m : MethodId) (args : Array Value) (below : List Frame) (meth : Method) (c : Code) (Z : State) (a0 : Array Value) (EL : List (String × Nat)) (nw : Bool) (n0 : Nat) (y : MethodName) (code : ByteArray) (maxL : Nat) (ret : Option FieldType)
    (T : State) (h : Heap) (sf : List Addr) (cells slots : Nat) : Prop :=
  ∃ locs, Stand p l e R (s.setVm T.vm) m args below meth c T locs cells slots ∧ T.heap = h ∧ s.Since T.vm h.size ∧ Z.Warmed39 T.vm ∧ T.vm.findClass y.cls = some m.cls ∧ CHr Z EL s.vm s.heap T.vm h ∧ Fr n0 locs ∧ n0 ≤ h.size ∧
    (∀ x ∈ sf, n0 ≤ x ∧ x < h.size ∧ Safe Z EL T.vm h x) ∧ EW Z a0 EL ∧ (nw = true → s.WarmedH T.vm) ∧ (p.tables.exec = Jvm.exec ∧ c.code = code ∧ meth.sig.returnType = ret ∧ meth.locks = false ∧ c.maxLocals = maxL ∧ meth.name = y.name)
def Ct (l : Launch) (Z : State) (a0 : Array Value) (EL : List (String × Nat)) (nw : Bool) (y : MethodName) (bytes : ByteArray) (maxL : Nat) (ret : Option FieldType) (rm : Room) (as' : Array Value) (h : Heap) (sf : List Addr) (n0 : Nat) (Q : Option Value → Heap → List Addr → Prop) : Prop :=
  ∀ ws, MetFree l y (head1 (Cond.code y bytes maxL ret :: ws) rm) (fun a U => a = as' ∧ Z.Warmed39 U.vm ∧ U.heap = h ∧ CHv Z EL U.vm h ∧ n0 ≤ h.size ∧ EW Z a0 EL ∧ ∀ x ∈ sf, n0 ≤ x ∧ x < h.size ∧ Safe Z EL U.vm h x) (fun _ _ _ _ _ => True)
    (fun _ U o U' => Fne U n0 Z EL nw rm Q o U')
def D (code : ByteArray) (pc : Nat) (i : Instr) (n pc' : Nat) : Prop := decode code pc = .ok (i, n) ∧ pc' = pc + n
section Base
variable {p : Program} {l : Launch} {e : Env} {R : Room} {s : State} {m : MethodId} {args : Array Value} {below : List Frame} {meth : Method} {c : Code} {Z : State} {EL : List (String × Nat)} {nw : Bool} {n0 : Nat} {y : MethodName} {code : ByteArray} {maxL : Nat} {ret : Option FieldType} {T : State} {h : Heap} {sf : List Addr} {cells slots : Nat} {Φ : Outcome → State → Prop} {a0 : Array Value} {pc pc' : Nat} {L : Array Slot} {S : List Value}
theorem WP.st {T' : State} {g g' : JFrame} (k : ∀ t, Steps p.tables e below (T'.setTop g') t → Steps p.tables e below (T.setTop g) t) (w : WP p e below Φ T' g') : WP p e below Φ T g := by
  obtain ⟨s₂, o, h1, h2⟩ := w; exact ⟨s₂, o, k _ h1, h2⟩
theorem WP.cast {g g' : JFrame} (q : g = g') (w : WP p e below Φ T g') : WP p e below Φ T g := q ▸ w
theorem WP.steps {T' : State} {g g' : JFrame} (k : Steps p.tables e below (T.setTop g) (T'.setTop g')) (w : WP p e below Φ T' g') : WP p e below Φ T g := WP.st (fun _ q => k.trans q) w

theorem WS.here (W : WS p l e R s m args below meth c Z a0 EL nw n0 y code maxL ret T h sf cells slots) : At T m c below := by obtain ⟨_, X, -⟩ := W; exact X.here
theorem WS.hx (W : WS p l e R s m args below meth c Z a0 EL nw n0 y code maxL ret T h sf cells slots) : p.tables.exec = Jvm.exec := by obtain ⟨_, _, _, _, _, _, _, _, _, _, _, _, q, -⟩ := W; exact q
theorem WS.hby (W : WS p l e R s m args below meth c Z a0 EL nw n0 y code maxL ret T h sf cells slots) : c.code = code := by obtain ⟨_, _, _, _, _, _, _, _, _, _, _, _, _, q, -⟩ := W; exact q
theorem WS.hn (W : WS p l e R s m args below meth c Z a0 EL nw n0 y code maxL ret T h sf cells slots) : n0 ≤ h.size := by obtain ⟨_, _, _, _, _, _, _, _, q, -⟩ := W; exact q
theorem WS.hT (W : WS p l e R s m args below meth c Z a0 EL nw n0 y code maxL ret T h sf cells slots) : T.heap = h := by obtain ⟨_, _, q, -⟩ := W; exact q
theorem WS.hZ (W : WS p l e R s m args below meth c Z a0 EL nw n0 y code maxL ret T h sf cells slots) : Z.Warmed39 T.vm := by obtain ⟨_, _, _, _, q, -⟩ := W; exact q
theorem WS.lt (W : WS p l e R s m args below meth c Z a0 EL nw n0 y code maxL ret T h sf cells slots) {x : Addr} (q : x ∈ sf) : x < h.size := by obtain ⟨_, _, _, _, _, _, _, _, _, w, -⟩ := W; exact (w x q).2.1
theorem WS.ge (W : WS p l e R s m args below meth c Z a0 EL nw n0 y code maxL ret T h sf cells slots) {x : Addr} (q : x ∈ sf) : n0 ≤ x := by obtain ⟨_, _, _, _, _, _, _, _, _, w, -⟩ := W; exact (w x q).1
theorem WS.hd (W : WS p l e R s m args below meth c Z a0 EL nw n0 y code maxL ret T h sf cells slots) {i : Instr} {n : Nat} (d : D code pc i n pc') : decode c.code pc = .ok (i, n) := hb W.hby d.1
theorem WS.mono (W : WS p l e R s m args below meth c Z a0 EL nw n0 y code maxL ret T h sf cells slots) {cells' slots' : Nat} {sf' : List Addr} (hc : cells ≤ cells') (hs : slots ≤ slots') (hf : ∀ x ∈ sf', x ∈ sf) : WS p l e R s m args below meth c Z a0 EL nw n0 y code maxL ret T h sf' cells' slots' := by
  obtain ⟨locs, X, a1, a2, a3, a4, a5, a6, a7, a8, a9⟩ := W
  exact ⟨locs, X.mono hc hs, a1, a2, a3, a4, a5, a6, a7, fun x hx => a8 x (hf x hx), a9⟩
/-- a step by a law of the library over the point's own start: the point behind it -/
theorem WS.pack {T' : State} {h' : Heap} {sf' : List Addr} {locs' : List Loc} {cells' slots' : Nat} (W : WS p l e R s m args below meth c Z a0 EL nw n0 y code maxL ret T h sf cells slots) (X' : Stand p l e R (s.setVm T.vm) m args below meth c T' locs' cells' slots') (eT : T'.heap = h') (N : Fr n0 locs') (hle : h.size ≤ h'.size) (K : CHv Z EL T.vm h → CHv Z EL T.vm h' ∧ ∀ y, Bk Z EL T.vm h' y → Bk Z EL T.vm h y) (hf : ∀ x ∈ sf', x ∈ sf ∨ (h.size ≤ x ∧ x < h'.size)) :
    WS p l e R s m args below meth c Z a0 EL nw n0 y code maxL ret T' h' sf' cells' slots' := by
  obtain ⟨locs, X, a1, a2, a3, a4, a5, a6, a7, a8, hE, aW, a10⟩ := W
  have C0 := K a5.1
  have C1 : CHr Z EL T.vm h T.vm h' := ⟨C0.1, hle, fun z q => Or.inl (C0.2 z q)⟩
  have C2 := CHv.at X' a3 hE C1.1
  have hS2 : (s.setVm T.vm).Since T'.vm h'.size := X'.warmed.since _
  refine ⟨locs', X'.retabled X'.warmed.wide, eT, a2.trans hS2 hle, wtrans (s := s.setVm T.vm) a3 X'.warmed, by rw [X'.warmed.alike.findClass]; exact a4, (a5.trans C1).trans C2, N, Nat.le_trans a7 hle, fun x hx => ?_, hE, fun u => State.WarmedH.trans (t := s.setVm T.vm) (aW u) X'.warmed, a10⟩
  rcases hf x hx with q | ⟨q1, q2⟩
  · obtain ⟨b1, b2, b3⟩ := a8 x q
    exact ⟨b1, Nat.lt_of_lt_of_le b2 hle, C2.safe (Nat.lt_of_lt_of_le b2 hle) (C1.safe b2 b3)⟩
  · refine ⟨Nat.le_trans a7 q1, q2, C2.safe q2 fun B => ?_⟩
    obtain ⟨cell, z⟩ := (C0.2 x B).there
    have := (Array.getElem?_eq_some_iff.mp z).1; omega
/-- nothing of the heap moved -/
theorem WS.same {T' : State} (W : WS p l e R s m args below meth c Z a0 EL nw n0 y code maxL ret T h sf cells slots) (f : ∀ locs, Stand p l e R (s.setVm T.vm) m args below meth c T locs cells slots → Stand p l e R (s.setVm T.vm) m args below meth c T' locs cells slots) (eT : T'.heap = h) : WS p l e R s m args below meth c Z a0 EL nw n0 y code maxL ret T' h sf cells slots := by
  obtain ⟨locs, X, a1, a2, a3, a4, a5, a6, a7, a8, a9⟩ := id W
  exact W.pack (f _ X) eT a6 (Nat.le_refl _) (fun H => ⟨H, fun _ q => q⟩) (fun x hx => Or.inl hx)

theorem k_aloadN (W : WS p l e R s m args below meth c Z a0 EL nw n0 y code maxL ret T h sf cells slots) {k : Fin 4} {v : Value} (d : D code pc (.aload_n k) 1 pc')   (hl : L[k.val]? = some (.val v)) (hv : v.isRef = true) (w : WP p e below Φ T (mkF m pc' L (v :: S))) : WP p e below Φ T (mkF m pc L (S)) := by
  obtain ⟨hd, rfl⟩ := d
  exact WP.st (fun _ q => XS.aloadN W.here W.hx rfl (hb W.hby hd) hl hv q) w
theorem k_aload (W : WS p l e R s m args below meth c Z a0 EL nw n0 y code maxL ret T h sf cells slots) {k : Nat} {v : Value} (d : D code pc (.aload k) 2 pc')   (hl : L[k]? = some (.val v)) (hv : v.isRef = true) (w : WP p e below Φ T (mkF m pc' L (v :: S))) : WP p e below Φ T (mkF m pc L (S)) := by
  obtain ⟨hd, rfl⟩ := d
  exact WP.st (fun _ q => XS.aload W.here W.hx rfl (hb W.hby hd) hl hv q) w
theorem k_iloadN (W : WS p l e R s m args below meth c Z a0 EL nw n0 y code maxL ret T h sf cells slots) {k : Fin 4} {v : Int32} (d : D code pc (.iload_n k) 1 pc')   (hl : L[k.val]? = some (.val (.int v))) (w : WP p e below Φ T (mkF m pc' L (.int v :: S))) : WP p e below Φ T (mkF m pc L (S)) := by
  obtain ⟨hd, rfl⟩ := d
  exact WP.st (fun _ q => XS.iloadN W.here W.hx rfl (hb W.hby hd) hl q) w
theorem k_iload (W : WS p l e R s m args below meth c Z a0 EL nw n0 y code maxL ret T h sf cells slots) {k : Nat} {v : Int32} (d : D code pc (.iload k) 2 pc')   (hl : L[k]? = some (.val (.int v))) (w : WP p e below Φ T (mkF m pc' L (.int v :: S))) : WP p e below Φ T (mkF m pc L (S)) := by
  obtain ⟨hd, rfl⟩ := d
  exact WP.st (fun _ q => XS.iload W.here W.hx rfl (hb W.hby hd) hl q) w
theorem k_lloadN (W : WS p l e R s m args below meth c Z a0 EL nw n0 y code maxL ret T h sf cells slots) {k : Fin 4} {v : Int64} (d : D code pc (.lload_n k) 1 pc')   (hl : L[k.val]? = some (.val (.long v))) (w : WP p e below Φ T (mkF m pc' L (.long v :: S))) : WP p e below Φ T (mkF m pc L (S)) := by
  obtain ⟨hd, rfl⟩ := d
  exact WP.st (fun _ q => XS.lloadN W.here W.hx rfl (hb W.hby hd) hl q) w
theorem k_lload (W : WS p l e R s m args below meth c Z a0 EL nw n0 y code maxL ret T h sf cells slots) {k : Nat} {v : Int64} (d : D code pc (.lload k) 2 pc')   (hl : L[k]? = some (.val (.long v))) (w : WP p e below Φ T (mkF m pc' L (.long v :: S))) : WP p e below Φ T (mkF m pc L (S)) := by
  obtain ⟨hd, rfl⟩ := d
  exact WP.st (fun _ q => XS.lload W.here W.hx rfl (hb W.hby hd) hl q) w
theorem k_istoreN (W : WS p l e R s m args below meth c Z a0 EL nw n0 y code maxL ret T h sf cells slots) {k : Fin 4} {x : Int32} {L' : Array Slot} (d : D code pc (.istore_n k) 1 pc')    (hl : storeLocals L k.val (.int x) = some L') (w : WP p e below Φ T (mkF m pc' L' (S))) : WP p e below Φ T (mkF m pc L (.int x :: S)) := by
  obtain ⟨hd, rfl⟩ := d
  exact WP.st (fun _ q => XS.istoreN W.here W.hx rfl (hb W.hby hd) rfl hl q) w
theorem k_istore (W : WS p l e R s m args below meth c Z a0 EL nw n0 y code maxL ret T h sf cells slots) {k : Nat} {x : Int32} {L' : Array Slot} (d : D code pc (.istore k) 2 pc')    (hl : storeLocals L k (.int x) = some L') (w : WP p e below Φ T (mkF m pc' L' (S))) : WP p e below Φ T (mkF m pc L (.int x :: S)) := by
  obtain ⟨hd, rfl⟩ := d
  exact WP.st (fun _ q => XS.istore W.here W.hx rfl (hb W.hby hd) rfl hl q) w
theorem k_lstoreN (W : WS p l e R s m args below meth c Z a0 EL nw n0 y code maxL ret T h sf cells slots) {k : Fin 4} {x : Int64} {L' : Array Slot} (d : D code pc (.lstore_n k) 1 pc')    (hl : storeLocals L k.val (.long x) = some L') (w : WP p e below Φ T (mkF m pc' L' (S))) : WP p e below Φ T (mkF m pc L (.long x :: S)) := by
  obtain ⟨hd, rfl⟩ := d
  exact WP.st (fun _ q => XS.lstoreN W.here W.hx rfl (hb W.hby hd) rfl hl q) w
theorem k_lstore (W : WS p l e R s m args below meth c Z a0 EL nw n0 y code maxL ret T h sf cells slots) {k : Nat} {x : Int64} {L' : Array Slot} (d : D code pc (.lstore k) 2 pc')    (hl : storeLocals L k (.long x) = some L') (w : WP p e below Φ T (mkF m pc' L' (S))) : WP p e below Φ T (mkF m pc L (.long x :: S)) := by
  obtain ⟨hd, rfl⟩ := d
  exact WP.st (fun _ q => XS.lstore W.here W.hx rfl (hb W.hby hd) rfl hl q) w
theorem k_astoreN (W : WS p l e R s m args below meth c Z a0 EL nw n0 y code maxL ret T h sf cells slots) {k : Fin 4} {x : Value} {L' : Array Slot} (d : D code pc (.astore_n k) 1 pc')    (hv : x.isRef = true) (hl : storeLocals L k.val x = some L') (w : WP p e below Φ T (mkF m pc' L' (S))) : WP p e below Φ T (mkF m pc L (x :: S)) := by
  obtain ⟨hd, rfl⟩ := d
  exact WP.st (fun _ q => XS.astoreN W.here W.hx rfl (hb W.hby hd) rfl hv hl q) w
theorem k_astore (W : WS p l e R s m args below meth c Z a0 EL nw n0 y code maxL ret T h sf cells slots) {k : Nat} {x : Value} {L' : Array Slot} (d : D code pc (.astore k) 2 pc')    (hv : x.isRef = true) (hl : storeLocals L k x = some L') (w : WP p e below Φ T (mkF m pc' L' (S))) : WP p e below Φ T (mkF m pc L (x :: S)) := by
  obtain ⟨hd, rfl⟩ := d
  exact WP.st (fun _ q => XS.astore W.here W.hx rfl (hb W.hby hd) rfl hv hl q) w
theorem k_iconst (W : WS p l e R s m args below meth c Z a0 EL nw n0 y code maxL ret T h sf cells slots) {i : Int} {z : Int32} (d : D code pc (.iconst i) 1 pc')   (hz : Int32.ofInt i = z) (w : WP p e below Φ T (mkF m pc' L (.int z :: S))) : WP p e below Φ T (mkF m pc L (S)) := by
  obtain ⟨hd, rfl⟩ := d
  exact WP.st (fun _ q => XS.iconst W.here W.hx rfl (hb W.hby hd) (by rw [hz]; exact q)) w
theorem k_bipush (W : WS p l e R s m args below meth c Z a0 EL nw n0 y code maxL ret T h sf cells slots) {i : Int} {z : Int32} (d : D code pc (.bipush i) 2 pc')   (hz : (Int8.ofInt i).toInt32 = z) (w : WP p e below Φ T (mkF m pc' L (.int z :: S))) : WP p e below Φ T (mkF m pc L (S)) := by
  obtain ⟨hd, rfl⟩ := d
  exact WP.st (fun _ q => XS.bipush W.here W.hx rfl (hb W.hby hd) (by rw [hz]; exact q)) w
theorem k_sipush (W : WS p l e R s m args below meth c Z a0 EL nw n0 y code maxL ret T h sf cells slots) {i : Int} {z : Int32} (d : D code pc (.sipush i) 3 pc')   (hz : (Int16.ofInt i).toInt32 = z) (w : WP p e below Φ T (mkF m pc' L (.int z :: S))) : WP p e below Φ T (mkF m pc L (S)) := by
  obtain ⟨hd, rfl⟩ := d
  exact WP.st (fun _ q => XS.sipush W.here W.hx rfl (hb W.hby hd) (by rw [hz]; exact q)) w
theorem k_lconst (W : WS p l e R s m args below meth c Z a0 EL nw n0 y code maxL ret T h sf cells slots) {k : Fin 2} {z : Int64} (d : D code pc (.lconst k) 1 pc')   (hz : Int64.ofNat k = z) (w : WP p e below Φ T (mkF m pc' L (.long z :: S))) : WP p e below Φ T (mkF m pc L (S)) := by
  obtain ⟨hd, rfl⟩ := d
  exact WP.st (fun _ q => XS.lconst W.here W.hx rfl (hb W.hby hd) (by rw [hz]; exact q)) w
theorem k_aconst (W : WS p l e R s m args below meth c Z a0 EL nw n0 y code maxL ret T h sf cells slots)  (d : D code pc (.aconst_null) 1 pc')  (w : WP p e below Φ T (mkF m pc' L (.null :: S))) : WP p e below Φ T (mkF m pc L (S)) := by
  obtain ⟨hd, rfl⟩ := d
  exact WP.st (fun _ q => XS.aconstNull W.here W.hx rfl (hb W.hby hd) q) w
theorem k_iadd (W : WS p l e R s m args below meth c Z a0 EL nw n0 y code maxL ret T h sf cells slots) {x y z : Int32} (d : D code pc (.iadd) 1 pc')  (hz : x + y = z) (w : WP p e below Φ T (mkF m pc' L (.int z :: S))) : WP p e below Φ T (mkF m pc L (.int y :: .int x :: S)) := by
  obtain ⟨hd, rfl⟩ := d
  exact WP.st (fun _ q => XS.iadd W.here W.hx rfl (hb W.hby hd) rfl (by rw [hz]; exact q)) w
theorem k_isub (W : WS p l e R s m args below meth c Z a0 EL nw n0 y code maxL ret T h sf cells slots) {x y z : Int32} (d : D code pc (.isub) 1 pc')  (hz : x - y = z) (w : WP p e below Φ T (mkF m pc' L (.int z :: S))) : WP p e below Φ T (mkF m pc L (.int y :: .int x :: S)) := by
  obtain ⟨hd, rfl⟩ := d
  exact WP.st (fun _ q => XS.isub W.here W.hx rfl (hb W.hby hd) rfl (by rw [hz]; exact q)) w
theorem k_iand (W : WS p l e R s m args below meth c Z a0 EL nw n0 y code maxL ret T h sf cells slots) {x y z : Int32} (d : D code pc (.iand) 1 pc')  (hz : x &&& y = z) (w : WP p e below Φ T (mkF m pc' L (.int z :: S))) : WP p e below Φ T (mkF m pc L (.int y :: .int x :: S)) := by
  obtain ⟨hd, rfl⟩ := d
  exact WP.st (fun _ q => XS.iand W.here W.hx rfl (hb W.hby hd) rfl (by rw [hz]; exact q)) w
theorem k_imul (W : WS p l e R s m args below meth c Z a0 EL nw n0 y code maxL ret T h sf cells slots) {x y z : Int32} (d : D code pc (.imul) 1 pc')  (hz : x * y = z) (w : WP p e below Φ T (mkF m pc' L (.int z :: S))) : WP p e below Φ T (mkF m pc L (.int y :: .int x :: S)) := by
  obtain ⟨hd, rfl⟩ := d
  exact WP.st (fun _ q => XS.imul W.here W.hx rfl (hb W.hby hd) rfl (by rw [hz]; exact q)) w
theorem k_ixor (W : WS p l e R s m args below meth c Z a0 EL nw n0 y code maxL ret T h sf cells slots) {x y z : Int32} (d : D code pc (.ixor) 1 pc')  (hz : x ^^^ y = z) (w : WP p e below Φ T (mkF m pc' L (.int z :: S))) : WP p e below Φ T (mkF m pc L (.int y :: .int x :: S)) := by
  obtain ⟨hd, rfl⟩ := d
  exact WP.st (fun _ q => XS.ixor W.here W.hx rfl (hb W.hby hd) rfl (by rw [hz]; exact q)) w
theorem k_ior (W : WS p l e R s m args below meth c Z a0 EL nw n0 y code maxL ret T h sf cells slots) {x y z : Int32} (d : D code pc (.ior) 1 pc')  (hz : x ||| y = z) (w : WP p e below Φ T (mkF m pc' L (.int z :: S))) : WP p e below Φ T (mkF m pc L (.int y :: .int x :: S)) := by
  obtain ⟨hd, rfl⟩ := d
  exact WP.st (fun _ q => XS.ior W.here W.hx rfl (hb W.hby hd) rfl (by rw [hz]; exact q)) w
theorem k_ishl (W : WS p l e R s m args below meth c Z a0 EL nw n0 y code maxL ret T h sf cells slots) {x y z : Int32} (d : D code pc (.ishl) 1 pc')  (hz : x <<< (y &&& 31) = z) (w : WP p e below Φ T (mkF m pc' L (.int z :: S))) : WP p e below Φ T (mkF m pc L (.int y :: .int x :: S)) := by
  obtain ⟨hd, rfl⟩ := d
  exact WP.st (fun _ q => XS.ishl W.here W.hx rfl (hb W.hby hd) rfl (by rw [hz]; exact q)) w
theorem k_ishr (W : WS p l e R s m args below meth c Z a0 EL nw n0 y code maxL ret T h sf cells slots) {x y z : Int32} (d : D code pc (.ishr) 1 pc')  (hz : x >>> (y &&& 31) = z) (w : WP p e below Φ T (mkF m pc' L (.int z :: S))) : WP p e below Φ T (mkF m pc L (.int y :: .int x :: S)) := by
  obtain ⟨hd, rfl⟩ := d
  exact WP.st (fun _ q => XS.ishr W.here W.hx rfl (hb W.hby hd) rfl (by rw [hz]; exact q)) w
theorem k_iushr (W : WS p l e R s m args below meth c Z a0 EL nw n0 y code maxL ret T h sf cells slots) {x y z : Int32} (d : D code pc (.iushr) 1 pc')  (hz : XT.ushr x y = z) (w : WP p e below Φ T (mkF m pc' L (.int z :: S))) : WP p e below Φ T (mkF m pc L (.int y :: .int x :: S)) := by
  obtain ⟨hd, rfl⟩ := d
  exact WP.st (fun _ q => XT.iushr W.here W.hx rfl (hb W.hby hd) rfl (by rw [hz]; exact q)) w
theorem k_idiv (W : WS p l e R s m args below meth c Z a0 EL nw n0 y code maxL ret T h sf cells slots) {x y z : Int32} (d : D code pc (.idiv) 1 pc')  (hy : y ≠ 0) (hz : x / y = z) (w : WP p e below Φ T (mkF m pc' L (.int z :: S))) : WP p e below Φ T (mkF m pc L (.int y :: .int x :: S)) := by
  obtain ⟨hd, rfl⟩ := d
  exact WP.st (fun _ q => XS.idiv W.here W.hx rfl (hb W.hby hd) rfl hy (by rw [hz]; exact q)) w
theorem k_irem (W : WS p l e R s m args below meth c Z a0 EL nw n0 y code maxL ret T h sf cells slots) {x y z : Int32} (d : D code pc (.irem) 1 pc')  (hy : y ≠ 0) (hz : x % y = z) (w : WP p e below Φ T (mkF m pc' L (.int z :: S))) : WP p e below Φ T (mkF m pc L (.int y :: .int x :: S)) := by
  obtain ⟨hd, rfl⟩ := d
  exact WP.st (fun _ q => XS.irem W.here W.hx rfl (hb W.hby hd) rfl hy (by rw [irem_eq_mod x y, hz]; exact q)) w
theorem k_ineg (W : WS p l e R s m args below meth c Z a0 EL nw n0 y code maxL ret T h sf cells slots) {x z : Int32} (d : D code pc (.ineg) 1 pc')  (hz : -x = z) (w : WP p e below Φ T (mkF m pc' L (.int z :: S))) : WP p e below Φ T (mkF m pc L (.int x :: S)) := by
  obtain ⟨hd, rfl⟩ := d
  exact WP.st (fun _ q => XS.ineg W.here W.hx rfl (hb W.hby hd) rfl (by rw [hz]; exact q)) w
theorem k_ladd (W : WS p l e R s m args below meth c Z a0 EL nw n0 y code maxL ret T h sf cells slots) {x y z : Int64} (d : D code pc (.ladd) 1 pc')  (hz : x + y = z) (w : WP p e below Φ T (mkF m pc' L (.long z :: S))) : WP p e below Φ T (mkF m pc L (.long y :: .long x :: S)) := by
  obtain ⟨hd, rfl⟩ := d
  exact WP.st (fun _ q => XS.ladd W.here W.hx rfl (hb W.hby hd) rfl (by rw [hz]; exact q)) w
theorem k_lsub (W : WS p l e R s m args below meth c Z a0 EL nw n0 y code maxL ret T h sf cells slots) {x y z : Int64} (d : D code pc (.lsub) 1 pc')  (hz : x - y = z) (w : WP p e below Φ T (mkF m pc' L (.long z :: S))) : WP p e below Φ T (mkF m pc L (.long y :: .long x :: S)) := by
  obtain ⟨hd, rfl⟩ := d
  exact WP.st (fun _ q => XS.lsub W.here W.hx rfl (hb W.hby hd) rfl (by rw [hz]; exact q)) w
theorem k_land (W : WS p l e R s m args below meth c Z a0 EL nw n0 y code maxL ret T h sf cells slots) {x y z : Int64} (d : D code pc (.land) 1 pc')  (hz : x &&& y = z) (w : WP p e below Φ T (mkF m pc' L (.long z :: S))) : WP p e below Φ T (mkF m pc L (.long y :: .long x :: S)) := by
  obtain ⟨hd, rfl⟩ := d
  exact WP.st (fun _ q => XS.land W.here W.hx rfl (hb W.hby hd) rfl (by rw [hz]; exact q)) w
theorem k_lmul (W : WS p l e R s m args below meth c Z a0 EL nw n0 y code maxL ret T h sf cells slots) {x y z : Int64} (d : D code pc (.lmul) 1 pc')  (hz : x * y = z) (w : WP p e below Φ T (mkF m pc' L (.long z :: S))) : WP p e below Φ T (mkF m pc L (.long y :: .long x :: S)) := by
  obtain ⟨hd, rfl⟩ := d
  exact WP.st (fun _ q => XS.lmul W.here W.hx rfl (hb W.hby hd) rfl (by rw [hz]; exact q)) w
theorem k_lxor (W : WS p l e R s m args below meth c Z a0 EL nw n0 y code maxL ret T h sf cells slots) {x y z : Int64} (d : D code pc (.lxor) 1 pc')  (hz : x ^^^ y = z) (w : WP p e below Φ T (mkF m pc' L (.long z :: S))) : WP p e below Φ T (mkF m pc L (.long y :: .long x :: S)) := by
  obtain ⟨hd, rfl⟩ := d
  exact WP.st (fun _ q => XS.lxor W.here W.hx rfl (hb W.hby hd) rfl (by rw [hz]; exact q)) w
theorem k_lor (W : WS p l e R s m args below meth c Z a0 EL nw n0 y code maxL ret T h sf cells slots) {x y z : Int64} (d : D code pc (.lor) 1 pc')  (hz : x ||| y = z) (w : WP p e below Φ T (mkF m pc' L (.long z :: S))) : WP p e below Φ T (mkF m pc L (.long y :: .long x :: S)) := by
  obtain ⟨hd, rfl⟩ := d
  exact WP.st (fun _ q => XS.lor W.here W.hx rfl (hb W.hby hd) rfl (by rw [hz]; exact q)) w
theorem k_lshl (W : WS p l e R s m args below meth c Z a0 EL nw n0 y code maxL ret T h sf cells slots) {x z : Int64} {y : Int32} (d : D code pc (.lshl) 1 pc')   (hz : x <<< (y.toInt64 &&& 63) = z) (w : WP p e below Φ T (mkF m pc' L (.long z :: S))) : WP p e below Φ T (mkF m pc L (.int y :: .long x :: S)) := by
  obtain ⟨hd, rfl⟩ := d
  exact WP.st (fun _ q => XT.lshl W.here W.hx rfl (hb W.hby hd) rfl (by rw [hz]; exact q)) w
theorem k_lshr (W : WS p l e R s m args below meth c Z a0 EL nw n0 y code maxL ret T h sf cells slots) {x z : Int64} {y : Int32} (d : D code pc (.lshr) 1 pc')   (hz : x >>> (y.toInt64 &&& 63) = z) (w : WP p e below Φ T (mkF m pc' L (.long z :: S))) : WP p e below Φ T (mkF m pc L (.int y :: .long x :: S)) := by
  obtain ⟨hd, rfl⟩ := d
  exact WP.st (fun _ q => XT.lshr W.here W.hx rfl (hb W.hby hd) rfl (by rw [hz]; exact q)) w
theorem k_lushr (W : WS p l e R s m args below meth c Z a0 EL nw n0 y code maxL ret T h sf cells slots) {x z : Int64} {y : Int32} (d : D code pc (.lushr) 1 pc')   (hz : XT.ushrL x y = z) (w : WP p e below Φ T (mkF m pc' L (.long z :: S))) : WP p e below Φ T (mkF m pc L (.int y :: .long x :: S)) := by
  obtain ⟨hd, rfl⟩ := d
  exact WP.st (fun _ q => XT.lushr W.here W.hx rfl (hb W.hby hd) rfl (by rw [hz]; exact q)) w
theorem k_lrem (W : WS p l e R s m args below meth c Z a0 EL nw n0 y code maxL ret T h sf cells slots) {x y z : Int64} (d : D code pc (.lrem) 1 pc')  (hy : y ≠ 0) (hz : x - (x / y) * y = z) (w : WP p e below Φ T (mkF m pc' L (.long z :: S))) : WP p e below Φ T (mkF m pc L (.long y :: .long x :: S)) := by
  obtain ⟨hd, rfl⟩ := d
  exact WP.st (fun _ q => XS.lrem W.here W.hx rfl (hb W.hby hd) rfl hy (by rw [hz]; exact q)) w
theorem k_ldiv (W : WS p l e R s m args below meth c Z a0 EL nw n0 y code maxL ret T h sf cells slots) {x y z : Int64} (d : D code pc (.ldiv) 1 pc')  (hy : y ≠ 0) (hz : x / y = z) (w : WP p e below Φ T (mkF m pc' L (.long z :: S))) : WP p e below Φ T (mkF m pc L (.long y :: .long x :: S)) := by
  obtain ⟨hd, rfl⟩ := d
  exact WP.st (fun _ q => XS.ldiv W.here W.hx rfl (hb W.hby hd) rfl hy (by rw [hz]; exact q)) w
theorem k_lneg (W : WS p l e R s m args below meth c Z a0 EL nw n0 y code maxL ret T h sf cells slots) {x z : Int64} (d : D code pc (.lneg) 1 pc')  (hz : -x = z) (w : WP p e below Φ T (mkF m pc' L (.long z :: S))) : WP p e below Φ T (mkF m pc L (.long x :: S)) := by
  obtain ⟨hd, rfl⟩ := d
  exact WP.st (fun _ q => XS.lneg W.here W.hx rfl (hb W.hby hd) rfl (by rw [hz]; exact q)) w
theorem k_lcmp (W : WS p l e R s m args below meth c Z a0 EL nw n0 y code maxL ret T h sf cells slots) {x y : Int64} {z : Int32} (d : D code pc (.lcmp) 1 pc')   (hz : XT.cmpL x y = z) (w : WP p e below Φ T (mkF m pc' L (.int z :: S))) : WP p e below Φ T (mkF m pc L (.long y :: .long x :: S)) := by
  obtain ⟨hd, rfl⟩ := d
  exact WP.st (fun _ q => XT.lcmp W.here W.hx rfl (hb W.hby hd) rfl (by rw [hz]; exact q)) w
theorem k_i2b (W : WS p l e R s m args below meth c Z a0 EL nw n0 y code maxL ret T h sf cells slots) {x z : Int32} (d : D code pc (.i2b) 1 pc')  (hz : x.toInt8.toInt32 = z) (w : WP p e below Φ T (mkF m pc' L (.int z :: S))) : WP p e below Φ T (mkF m pc L (.int x :: S)) := by
  obtain ⟨hd, rfl⟩ := d
  exact WP.st (fun _ q => XS.i2b W.here W.hx rfl (hb W.hby hd) rfl (by rw [hz]; exact q)) w
theorem k_i2c (W : WS p l e R s m args below meth c Z a0 EL nw n0 y code maxL ret T h sf cells slots) {x z : Int32} (d : D code pc (.i2c) 1 pc')  (hz : x.toUInt32.toUInt16.toUInt32.toInt32 = z) (w : WP p e below Φ T (mkF m pc' L (.int z :: S))) : WP p e below Φ T (mkF m pc L (.int x :: S)) := by
  obtain ⟨hd, rfl⟩ := d
  exact WP.st (fun _ q => XS.i2c W.here W.hx rfl (hb W.hby hd) rfl (by rw [hz]; exact q)) w
theorem k_i2s (W : WS p l e R s m args below meth c Z a0 EL nw n0 y code maxL ret T h sf cells slots) {x z : Int32} (d : D code pc (.i2s) 1 pc')  (hz : x.toInt16.toInt32 = z) (w : WP p e below Φ T (mkF m pc' L (.int z :: S))) : WP p e below Φ T (mkF m pc L (.int x :: S)) := by
  obtain ⟨hd, rfl⟩ := d
  exact WP.st (fun _ q => XS.i2s W.here W.hx rfl (hb W.hby hd) rfl (by rw [hz]; exact q)) w
theorem k_i2l (W : WS p l e R s m args below meth c Z a0 EL nw n0 y code maxL ret T h sf cells slots) {x : Int32} {z : Int64} (d : D code pc (.i2l) 1 pc')   (hz : x.toInt64 = z) (w : WP p e below Φ T (mkF m pc' L (.long z :: S))) : WP p e below Φ T (mkF m pc L (.int x :: S)) := by
  obtain ⟨hd, rfl⟩ := d
  exact WP.st (fun _ q => XS.i2l W.here W.hx rfl (hb W.hby hd) rfl (by rw [hz]; exact q)) w
theorem k_l2i (W : WS p l e R s m args below meth c Z a0 EL nw n0 y code maxL ret T h sf cells slots) {x : Int64} {z : Int32} (d : D code pc (.l2i) 1 pc')   (hz : x.toInt32 = z) (w : WP p e below Φ T (mkF m pc' L (.int z :: S))) : WP p e below Φ T (mkF m pc L (.long x :: S)) := by
  obtain ⟨hd, rfl⟩ := d
  exact WP.st (fun _ q => XS.l2i W.here W.hx rfl (hb W.hby hd) rfl (by rw [hz]; exact q)) w
theorem k_dup (W : WS p l e R s m args below meth c Z a0 EL nw n0 y code maxL ret T h sf cells slots) {x : Value} (d : D code pc (.dup) 1 pc')  (hc : x.category = 1) (w : WP p e below Φ T (mkF m pc' L (x :: x :: S))) : WP p e below Φ T (mkF m pc L (x :: S)) := by
  obtain ⟨hd, rfl⟩ := d
  exact WP.st (fun _ q => XS.dup W.here W.hx rfl (hb W.hby hd) rfl hc q) w
theorem k_pop (W : WS p l e R s m args below meth c Z a0 EL nw n0 y code maxL ret T h sf cells slots) {x : Value} (d : D code pc (.pop) 1 pc')  (hc : x.category = 1) (w : WP p e below Φ T (mkF m pc' L (S))) : WP p e below Φ T (mkF m pc L (x :: S)) := by
  obtain ⟨hd, rfl⟩ := d
  exact WP.st (fun _ q => XS.pop W.here W.hx rfl (hb W.hby hd) rfl hc q) w
theorem k_dupX1 (W : WS p l e R s m args below meth c Z a0 EL nw n0 y code maxL ret T h sf cells slots) {x z : Value} (d : D code pc (.dup_x1) 1 pc')  (hc : x.category = 1) (hc' : z.category = 1) (w : WP p e below Φ T (mkF m pc' L (x :: z :: x :: S))) : WP p e below Φ T (mkF m pc L (x :: z :: S)) := by
  obtain ⟨hd, rfl⟩ := d
  exact WP.st (fun _ q => XS.dupX1 W.here W.hx rfl (hb W.hby hd) rfl hc hc' q) w
theorem k_dup2 (W : WS p l e R s m args below meth c Z a0 EL nw n0 y code maxL ret T h sf cells slots) {x z : Value} (d : D code pc (.dup2) 1 pc')  (hc : x.category = 1) (hc' : z.category = 1) (w : WP p e below Φ T (mkF m pc' L (x :: z :: x :: z :: S))) : WP p e below Φ T (mkF m pc L (x :: z :: S)) := by
  obtain ⟨hd, rfl⟩ := d
  exact WP.st (fun _ q => XT.dup2 W.here W.hx rfl (hb W.hby hd) rfl hc hc' q) w
theorem k_dup2L (W : WS p l e R s m args below meth c Z a0 EL nw n0 y code maxL ret T h sf cells slots) {x : Int64} (d : D code pc (.dup2) 1 pc')  (w : WP p e below Φ T (mkF m pc' L (.long x :: .long x :: S))) : WP p e below Φ T (mkF m pc L (.long x :: S)) := by
  obtain ⟨hd, rfl⟩ := d
  exact WP.st (fun _ q => XT.dup2L W.here W.hx rfl (hb W.hby hd) rfl q) w
theorem k_iinc (W : WS p l e R s m args below meth c Z a0 EL nw n0 y code maxL ret T h sf cells slots) {k : Nat} {cst : Int} {x z : Int32} {L' : Array Slot} (d : D code pc (.iinc k cst) 3 pc')     (hl : L[k]? = some (.val (.int x))) (hz : x + Int32.ofInt cst = z) (hl' : storeLocals L k (.int z) = some L') (w : WP p e below Φ T (mkF m pc' L' (S))) : WP p e below Φ T (mkF m pc L (S)) := by
  obtain ⟨hd, rfl⟩ := d
  exact WP.st (fun _ q => XS.iinc W.here W.hx rfl (hb W.hby hd) hl (by rw [hz]; exact hl') q) w
theorem k_goto (W : WS p l e R s m args below meth c Z a0 EL nw n0 y code maxL ret T h sf cells slots) {o : Int} (pc1 : Nat) (d : D code pc (.goto o) 3 pc') (ho : 0 ≤ (pc : Int) + o ∧ ((pc : Int) + o).toNat = pc1) (w : WP p e below Φ T (mkF m pc1 L S)) : WP p e below Φ T (mkF m pc L S) := by
  obtain ⟨hd, rfl⟩ := d
  exact WP.st (fun _ q => XS.goto W.here W.hx rfl (pc0 := pc) (pc' := pc1) rfl (hb W.hby hd) ho.1 ho.2 q) w
def icP : ClassFile.Cond → Int32 → Prop
  | .eq, x => x = 0
  | .ne, x => ¬ x = 0
  | .lt, x => x < 0
  | .ge, x => ¬ x < 0
  | .gt, x => 0 < x
  | .le, x => ¬ 0 < x
def ic2 : ClassFile.Cond → Int32 → Int32 → Prop
  | .eq, x, y => x = y
  | .ne, x, y => ¬ x = y
  | .lt, x, y => x < y
  | .ge, x, y => ¬ x < y
  | .gt, x, y => y < x
  | .le, x, y => ¬ y < x
theorem icP_iff (cd : ClassFile.Cond) (x : Int32) : ifCond.holds cd x = true ↔ icP cd x := by
  cases cd <;> simp [ifCond.holds, icP, Int32.not_lt, Int32.not_le]
theorem ic2_iff (cd : ClassFile.Cond) (x y : Int32) : if_icmp.holds cd x y = true ↔ ic2 cd x y := by
  cases cd <;> simp [if_icmp.holds, ic2, Int32.not_lt, Int32.not_le]
theorem k_ifY (W : WS p l e R s m args below meth c Z a0 EL nw n0 y code maxL ret T h sf cells slots) {cd : ClassFile.Cond} {x : Int32} {o : Int} (pc1 : Nat) (d : D code pc (.ifCond cd o) 3 pc') (ho : 0 ≤ (pc : Int) + o ∧ ((pc : Int) + o).toNat = pc1) (hc : icP cd x) (w : WP p e below Φ T (mkF m pc1 L S)) : WP p e below Φ T (mkF m pc L (.int x :: S)) := by
  obtain ⟨hd, rfl⟩ := d
  exact WP.st (fun _ q => XS.ifYes W.here W.hx rfl (pc0 := pc) (pc' := pc1) rfl (hb W.hby hd) rfl ((icP_iff _ _).mpr hc) ho.1 ho.2 q) w
theorem k_ifN (W : WS p l e R s m args below meth c Z a0 EL nw n0 y code maxL ret T h sf cells slots) {cd : ClassFile.Cond} {x : Int32} {o : Int} (d : D code pc (.ifCond cd o) 3 pc') (hc : ¬ icP cd x) (w : WP p e below Φ T (mkF m pc' L S)) : WP p e below Φ T (mkF m pc L (.int x :: S)) := by
  obtain ⟨hd, rfl⟩ := d
  exact WP.st (fun _ q => XS.ifNo W.here W.hx rfl (hb W.hby hd) rfl (by cases hh : ifCond.holds cd x with | false => rfl | true => exact absurd ((icP_iff _ _).mp hh) hc) q) w
theorem k_if (W : WS p l e R s m args below meth c Z a0 EL nw n0 y code maxL ret T h sf cells slots) {cd : ClassFile.Cond} {x : Int32} {o : Int} (pc1 : Nat) (d : D code pc (.ifCond cd o) 3 pc') (ho : 0 ≤ (pc : Int) + o ∧ ((pc : Int) + o).toNat = pc1) (w1 : icP cd x → WP p e below Φ T (mkF m pc1 L S)) (w2 : ¬ icP cd x → WP p e below Φ T (mkF m pc' L S)) : WP p e below Φ T (mkF m pc L (.int x :: S)) := by
  by_cases q : icP cd x
  · exact k_ifY W pc1 d ho q (w1 q)
  · exact k_ifN W d q (w2 q)
theorem k_icY (W : WS p l e R s m args below meth c Z a0 EL nw n0 y code maxL ret T h sf cells slots) {cd : ClassFile.Cond} {x z : Int32} {o : Int} (pc1 : Nat) (d : D code pc (.if_icmp cd o) 3 pc') (ho : 0 ≤ (pc : Int) + o ∧ ((pc : Int) + o).toNat = pc1) (hc : ic2 cd x z) (w : WP p e below Φ T (mkF m pc1 L S)) : WP p e below Φ T (mkF m pc L (.int z :: .int x :: S)) := by
  obtain ⟨hd, rfl⟩ := d
  exact WP.st (fun _ q => XS.icmpYes W.here W.hx rfl (pc0 := pc) (pc' := pc1) rfl (hb W.hby hd) rfl ((ic2_iff _ _ _).mpr hc) ho.1 ho.2 q) w
theorem k_icN (W : WS p l e R s m args below meth c Z a0 EL nw n0 y code maxL ret T h sf cells slots) {cd : ClassFile.Cond} {x z : Int32} {o : Int} (d : D code pc (.if_icmp cd o) 3 pc') (hc : ¬ ic2 cd x z) (w : WP p e below Φ T (mkF m pc' L S)) : WP p e below Φ T (mkF m pc L (.int z :: .int x :: S)) := by
  obtain ⟨hd, rfl⟩ := d
  exact WP.st (fun _ q => XS.icmpNo W.here W.hx rfl (hb W.hby hd) rfl (by cases hh : if_icmp.holds cd x z with | false => rfl | true => exact absurd ((ic2_iff _ _ _).mp hh) hc) q) w
theorem k_ic (W : WS p l e R s m args below meth c Z a0 EL nw n0 y code maxL ret T h sf cells slots) {cd : ClassFile.Cond} {x z : Int32} {o : Int} (pc1 : Nat) (d : D code pc (.if_icmp cd o) 3 pc') (ho : 0 ≤ (pc : Int) + o ∧ ((pc : Int) + o).toNat = pc1) (w1 : ic2 cd x z → WP p e below Φ T (mkF m pc1 L S)) (w2 : ¬ ic2 cd x z → WP p e below Φ T (mkF m pc' L S)) : WP p e below Φ T (mkF m pc L (.int z :: .int x :: S)) := by
  by_cases q : ic2 cd x z
  · exact k_icY W pc1 d ho q (w1 q)
  · exact k_icN W d q (w2 q)
theorem k_nullY (W : WS p l e R s m args below meth c Z a0 EL nw n0 y code maxL ret T h sf cells slots) {o : Int} (pc1 : Nat) (d : D code pc (.ifnull o) 3 pc') (ho : 0 ≤ (pc : Int) + o ∧ ((pc : Int) + o).toNat = pc1) (w : WP p e below Φ T (mkF m pc1 L S)) : WP p e below Φ T (mkF m pc L (.null :: S)) := by
  obtain ⟨hd, rfl⟩ := d
  exact WP.st (fun _ q => XS.ifnullYes W.here W.hx rfl (pc0 := pc) (pc' := pc1) rfl (hb W.hby hd) rfl ho.1 ho.2 q) w
theorem k_nullN (W : WS p l e R s m args below meth c Z a0 EL nw n0 y code maxL ret T h sf cells slots) {o : Int} {b : Addr} (d : D code pc (.ifnull o) 3 pc') (w : WP p e below Φ T (mkF m pc' L S)) : WP p e below Φ T (mkF m pc L (.ref b :: S)) := by
  obtain ⟨hd, rfl⟩ := d
  exact WP.st (fun _ q => XS.ifnullNo W.here W.hx rfl (hb W.hby hd) rfl q) w
theorem k_nnY (W : WS p l e R s m args below meth c Z a0 EL nw n0 y code maxL ret T h sf cells slots) {o : Int} {b : Addr} (pc1 : Nat) (d : D code pc (.ifnonnull o) 3 pc') (ho : 0 ≤ (pc : Int) + o ∧ ((pc : Int) + o).toNat = pc1) (w : WP p e below Φ T (mkF m pc1 L S)) : WP p e below Φ T (mkF m pc L (.ref b :: S)) := by
  obtain ⟨hd, rfl⟩ := d
  exact WP.st (fun _ q => XS.ifnonnullYes W.here W.hx rfl (pc0 := pc) (pc' := pc1) rfl (hb W.hby hd) rfl ho.1 ho.2 q) w
theorem k_nnN (W : WS p l e R s m args below meth c Z a0 EL nw n0 y code maxL ret T h sf cells slots) {o : Int} (d : D code pc (.ifnonnull o) 3 pc') (w : WP p e below Φ T (mkF m pc' L S)) : WP p e below Φ T (mkF m pc L (.null :: S)) := by
  obtain ⟨hd, rfl⟩ := d
  exact WP.st (fun _ q => XS.ifnonnullNo W.here W.hx rfl (hb W.hby hd) rfl q) w
def acP : ACond → Value → Value → Prop
  | .eq, x, y => x = y
  | .ne, x, y => ¬ x = y
theorem k_acY (W : WS p l e R s m args below meth c Z a0 EL nw n0 y code maxL ret T h sf cells slots) {cd : ACond} {x z : Value} {o : Int} (pc1 : Nat) (d : D code pc (.if_acmp cd o) 3 pc') (h1 : x.isRef = true) (h2 : z.isRef = true) (ho : 0 ≤ (pc : Int) + o ∧ ((pc : Int) + o).toNat = pc1) (hc : acP cd x z) (w : WP p e below Φ T (mkF m pc1 L S)) : WP p e below Φ T (mkF m pc L (z :: x :: S)) := by
  obtain ⟨hd, rfl⟩ := d
  obtain ⟨locs, X, -⟩ := id W
  cases cd
  · exact WP.st (fun _ q => Jvm.RoadKit.acmp X W.hx rfl h1 h2 (pc0 := pc) (pc' := pc1) (same := true) rfl (hb W.hby hd) rfl (decide_eq_true hc) ho.1 (by simp [acV, ho.2]) q) w
  · exact WP.st (fun _ q => Jvm.RoadKit.acmp X W.hx rfl h1 h2 (pc0 := pc) (pc' := pc1) (same := false) rfl (hb W.hby hd) rfl (decide_eq_false hc) ho.1 (by simp [acV, ho.2]) q) w
theorem k_acN (W : WS p l e R s m args below meth c Z a0 EL nw n0 y code maxL ret T h sf cells slots) {cd : ACond} {x z : Value} {o : Int} (d : D code pc (.if_acmp cd o) 3 pc') (h1 : x.isRef = true) (h2 : z.isRef = true) (ho : 0 ≤ (pc : Int) + o) (hc : ¬ acP cd x z) (w : WP p e below Φ T (mkF m pc' L S)) : WP p e below Φ T (mkF m pc L (z :: x :: S)) := by
  obtain ⟨hd, rfl⟩ := d
  obtain ⟨locs, X, -⟩ := id W
  cases cd
  · exact WP.st (fun _ q => Jvm.RoadKit.acmp X W.hx rfl h1 h2 (pc0 := pc) (pc' := pc + 3) (same := false) rfl (hb W.hby hd) rfl (decide_eq_false hc) ho (by simp [acV]) q) w
  · exact WP.st (fun _ q => Jvm.RoadKit.acmp X W.hx rfl h1 h2 (pc0 := pc) (pc' := pc + 3) (same := true) rfl (hb W.hby hd) rfl (decide_eq_true (Classical.not_not.mp hc)) ho (by simp [acV]) q) w
end Base

/-! ## small facts on numbers -/
abbrev i2c (x : Int32) : Int32 := x.toUInt32.toUInt16.toUInt32.toInt32
abbrev i2b (x : Int32) : Int32 := x.toInt8.toInt32
abbrev Rg (x : Int32) (n : Int) : Prop := 0 ≤ x.toInt ∧ x.toInt < n
theorem Rg.mono {x : Int32} {n k : Int} (q : Rg x n) (h : n ≤ k) : Rg x k := ⟨q.1, Int.lt_of_lt_of_le q.2 h⟩
theorem toInt_and_nonneg (x m : Int32) (hm : 0 ≤ m.toInt) : 0 ≤ (x &&& m).toInt ∧ (x &&& m).toInt ≤ m.toInt := by
  have e1 : (x &&& m).toBitVec = x.toBitVec &&& m.toBitVec := rfl
  have h1 : m.toInt = m.toBitVec.toNat := by
    have : m.toInt = m.toBitVec.toInt := rfl
    rw [this] at hm ⊢
    rw [BitVec.toInt_eq_toNat_cond] at hm ⊢
    split at hm <;> split <;> omega
  have h2 : (x.toBitVec &&& m.toBitVec).toNat ≤ m.toBitVec.toNat := by rw [BitVec.toNat_and]; exact Nat.and_le_right
  have hm2 : 2 * m.toBitVec.toNat < 2 ^ 32 := by
    have : m.toInt < 2 ^ 31 := Int32.toInt_lt m
    omega
  have h3 : (x &&& m).toInt = (x.toBitVec &&& m.toBitVec).toNat := by
    show (x.toBitVec &&& m.toBitVec).toInt = _
    rw [BitVec.toInt_eq_toNat_cond, if_pos (by omega)]
  rw [h3, h1]; omega
theorem Rg.and (x m : Int32) {n : Int} (hm : 0 ≤ m.toInt ∧ m.toInt < n) : Rg (x &&& m) n := by
  have := toInt_and_nonneg x m hm.1; exact ⟨this.1, by omega⟩
theorem toInt_i2c (x : Int32) : (i2c x).toInt = x.toBitVec.toNat % 65536 := by
  have h : (i2c x).toBitVec = (x.toBitVec.setWidth 16).setWidth 32 := rfl
  show (i2c x).toBitVec.toInt = _
  rw [h, BitVec.toInt_eq_toNat_cond, BitVec.toNat_setWidth, BitVec.toNat_setWidth]
  have : x.toBitVec.toNat % 2 ^ 16 < 2 ^ 16 := Nat.mod_lt _ (by decide)
  rw [Nat.mod_eq_of_lt (a := x.toBitVec.toNat % 2 ^ 16) (by omega), if_pos (by omega)]
  rfl
theorem rg_i2c (x : Int32) : Rg (i2c x) 65536 := by rw [Rg, toInt_i2c]; omega
theorem natOf {x : Int32} (q : 0 ≤ x.toInt) : (x.toBitVec.toNat : Int) = x.toInt := by
  have : x.toInt = x.toBitVec.toInt := rfl
  rw [this] at q ⊢
  rw [BitVec.toInt_eq_toNat_cond] at q ⊢
  split at q <;> split <;> omega
theorem Rg.c {x : Int32} (q : Rg x 65536) : i2c x = x := by
  apply Int32.toInt_inj.mp
  have := natOf q.1; rw [toInt_i2c]; have h2 := q.2; omega
theorem Rg.nar {x : Int32} (q : Rg x 65536) : nar .char x = x := q.c
theorem Rg.fits {x : Int32} (q : Rg x 65536) : fits .char (.int x) = true := by
  have h0 : (0 : Int32) ≤ x := Int32.le_iff_toInt_le.mpr q.1
  have h1 : x ≤ 65535 := Int32.le_iff_toInt_le.mpr (by have := q.2; have e : (65535 : Int32).toInt = 65535 := by decide
                                                       omega)
  simp [Jvm.fits, h0, h1]
theorem Rg.le255 {x : Int32} (q : Rg x 256) : ¬ 255 < x := by rw [Int32.lt_iff_toInt_lt]; have := q.2; have h : (255 : Int32).toInt = 255 := by decide
                                                              omega
theorem nar_i2b (x : Int32) : nar .byte (i2b x) = i2b x := by simp [nar, i2b]
theorem fits_i2b (x : Int32) : Jvm.fits .byte (.int (i2b x)) = true := by
  have e : (i2b x).toInt = x.toInt8.toInt := Int8.toInt_toInt32 _
  have h0 : (-128 : Int32) ≤ i2b x := Int32.le_iff_toInt_le.mpr (by rw [e]; exact Int8.le_toInt _)
  have h1 : i2b x ≤ 127 := Int32.le_iff_toInt_le.mpr (by rw [e]; exact Int8.toInt_le _)
  simp [Jvm.fits, h0, h1]
theorem shr0 (x : Int32) : x >>> ((0 : Int32) &&& 31) = x := by
  have : ((0 : Int32) &&& 31) = 0 := by decide
  rw [this]; simp
theorem Rg.fin {x : Int32} (q : Rg x 256) : ∃ k : Fin 256, x = Int32.ofNat k.val := by
  obtain ⟨h1, h2⟩ := q
  obtain ⟨n, hn⟩ : ∃ n : Nat, x.toInt = n := ⟨x.toInt.toNat, (Int.toNat_of_nonneg h1).symm⟩
  refine ⟨⟨n, by omega⟩, ?_⟩
  apply Int32.toInt_inj.mp
  rw [Int32.toInt_ofNat_of_lt (by simp; omega), hn]
theorem lo_all : ∀ k : Fin 256, (i2b (Int32.ofNat k.val)) &&& 255 = Int32.ofNat k.val := by decide +kernel
theorem lo_i2b {x : Int32} (q : Rg x 256) : (i2b x) &&& 255 = x := by
  obtain ⟨k, rfl⟩ := q.fin; exact lo_all k
theorem i2b_inj {x y : Int32} (q : Rg x 256) (r : Rg y 256) (h : i2b x = i2b y) : x = y := by
  rw [← lo_i2b q, ← lo_i2b r, h]
theorem Rg.mod {x k : Int32} {n : Int} (q : Rg x n) (hk : 0 < k.toInt) : Rg (x % k) k.toInt := by
  have h : (x % k).toInt = x.toInt.tmod k.toInt := Int32.toInt_mod _ _
  rw [Rg, h]
  have h1 := q.1
  rw [Int.tmod_eq_emod_of_nonneg h1]
  exact ⟨Int.emod_nonneg _ (by omega), Int.emod_lt_of_pos _ hk⟩
theorem Rg.add {x y : Int32} {n k : Int} (q : Rg x n) (r : Rg y k) (h : n + k ≤ 2147483648) : Rg (x + y) (n + k - 1) := by
  have e : (x + y).toInt = x.toInt + y.toInt := by
    rw [Int32.toInt_add]
    have h1 := q.1; have h2 := q.2; have h3 := r.1; have h4 := r.2
    rw [Int.bmod_eq_of_le (by omega) (by omega)]
  rw [Rg, e]
  have h1 := q.1; have h2 := q.2; have h3 := r.1; have h4 := r.2
  omega
theorem toInt_land_nonneg (x m : Int64) (hm : 0 ≤ m.toInt) : 0 ≤ (x &&& m).toInt ∧ (x &&& m).toInt ≤ m.toInt := by
  have h1 : m.toInt = m.toBitVec.toNat := by
    have : m.toInt = m.toBitVec.toInt := rfl
    rw [this] at hm ⊢
    rw [BitVec.toInt_eq_toNat_cond] at hm ⊢
    split at hm <;> split <;> omega
  have h2 : (x.toBitVec &&& m.toBitVec).toNat ≤ m.toBitVec.toNat := by rw [BitVec.toNat_and]; exact Nat.and_le_right
  have hm2 : 2 * m.toBitVec.toNat < 2 ^ 64 := by
    have : m.toInt < 2 ^ 63 := Int64.toInt_lt m
    omega
  have h3 : (x &&& m).toInt = (x.toBitVec &&& m.toBitVec).toNat := by
    show (x.toBitVec &&& m.toBitVec).toInt = _
    rw [BitVec.toInt_eq_toNat_cond, if_pos (by omega)]
  rw [h3, h1]; omega
theorem lrem_rg {x y : Int64} (hx : 0 ≤ x.toInt) (hy : 0 < y.toInt) : 0 ≤ (x - x / y * y).toInt ∧ (x - x / y * y).toInt < y.toInt := by
  have hxl : x.toInt < 2 ^ 63 := Int64.toInt_lt x
  have hyl : y.toInt < 2 ^ 63 := Int64.toInt_lt y
  have e0 : x.toInt.tdiv y.toInt = x.toInt / y.toInt := Int.tdiv_eq_ediv_of_nonneg hx
  have d0 : 0 ≤ x.toInt / y.toInt := Int.ediv_nonneg hx (by omega)
  have d1 : x.toInt / y.toInt ≤ x.toInt := Int.ediv_le_self _ hx
  have e1 : (x / y).toInt = x.toInt / y.toInt := by rw [Int64.toInt_div, e0, Int.bmod_eq_of_le (by omega) (by omega)]
  have d2 : x.toInt / y.toInt * y.toInt ≤ x.toInt := Int.ediv_mul_le _ (by omega)
  have d3 : 0 ≤ x.toInt / y.toInt * y.toInt := Int.mul_nonneg d0 (by omega)
  have e2 : (x / y * y).toInt = x.toInt / y.toInt * y.toInt := by rw [Int64.toInt_mul, e1, Int.bmod_eq_of_le (by omega) (by omega)]
  have e3 : (x - x / y * y).toInt = x.toInt - x.toInt / y.toInt * y.toInt := by rw [Int64.toInt_sub, e2, Int.bmod_eq_of_le (by omega) (by omega)]
  have e4 : x.toInt % y.toInt = x.toInt - x.toInt / y.toInt * y.toInt := by
    have := Int.emod_add_mul_ediv x.toInt y.toInt; rw [Int.mul_comm] at this; omega
  rw [e3, ← e4]
  exact ⟨Int.emod_nonneg _ (by omega), Int.emod_lt_of_pos _ hy⟩
theorem cmpL_eq {x y : Int64} : XT.cmpL x y = 0 ↔ x = y := by
  unfold XT.cmpL; split
  · rename_i h; constructor
    · intro q; exact absurd q (by decide)
    · intro q; subst q; exact absurd h (Int64.lt_irrefl)
  · split <;> simp_all
theorem cmpL_lt {x y : Int64} : XT.cmpL x y < 0 ↔ x < y := by
  unfold XT.cmpL; split
  · rename_i h; constructor
    · intro q; exact absurd q (by decide)
    · intro q; rw [Int64.lt_iff_toInt_lt] at h q; omega
  · rename_i h; split
    · rename_i h2; subst h2; simp
    · rename_i h2; constructor
      · intro _; rw [Int64.lt_iff_toInt_lt] at h ⊢; have : x.toInt ≠ y.toInt := fun q => h2 (Int64.toInt_inj.mp q); omega
      · intro _; decide
theorem cmpL_gt {x y : Int64} : 0 < XT.cmpL x y ↔ y < x := by
  unfold XT.cmpL; split
  · rename_i h; constructor
    · intro _; exact h
    · intro _; decide
  · rename_i h; split
    · constructor
      · intro q; exact absurd q (by decide)
      · intro q; exact absurd q h
    · constructor
      · intro q; exact absurd q (by decide)
      · intro q; exact absurd q h
theorem bit01 {x : Int32} (q : Rg x 2) : x = 0 ∨ x = 1 := by
  have h1 := q.1; have h2 := q.2
  rcases (by omega : x.toInt = 0 ∨ x.toInt = 1) with h | h
  · exact Or.inl (Int32.toInt_inj.mp (h.trans (by decide)))
  · exact Or.inr (Int32.toInt_inj.mp (h.trans (by decide)))
theorem toInt_of {i : Nat} (h : i < 2147483648) : (Int32.ofNat i).toInt = i := Int32.toInt_ofNat_of_lt (by simpa using h)
theorem ix_of {i : Nat} (h : i < 2147483648) : ¬ Int32.ofNat i < 0 ∧ (Int32.ofNat i).toNatClampNeg = i := by
  refine ⟨?_, ?_⟩
  · rw [Int32.lt_iff_toInt_lt, toInt_of h]; simp
  · unfold Int32.toNatClampNeg; rw [toInt_of h]; rfl
theorem of_lt {i n : Nat} (h : i < n) (hn : n < 2147483648) : Int32.ofNat i < Int32.ofNat n := by
  rw [Int32.lt_iff_toInt_lt, toInt_of hn, toInt_of (by omega)]; omega
theorem of_ge {i n : Nat} (h : n ≤ i) (hn : i < 2147483648) : ¬ Int32.ofNat i < Int32.ofNat n := by
  rw [Int32.lt_iff_toInt_lt, toInt_of hn, toInt_of (by omega)]; omega
theorem of_sub {i n : Nat} (h : n ≤ i) (hi : i < 2147483648) : ¬ Int32.ofNat i - Int32.ofNat n < 0 := by
  have e : Int32.ofNat i - Int32.ofNat n = Int32.ofNat (i - n) := by
    apply Int32.toInt_inj.mp
    rw [Int32.toInt_sub, toInt_of hi, toInt_of (i := n) (by omega), toInt_of (i := i - n) (by omega), Int.bmod_eq_of_le (by omega) (by omega)]; omega
  rw [e]; exact (ix_of (by omega)).1
theorem of_subn {i n : Nat} (h : n ≤ i) : Int32.ofNat i - Int32.ofNat n = Int32.ofNat (i - n) := by
  have e : Int32.ofNat i = Int32.ofNat (i - n) + Int32.ofNat n := by rw [← Int32.ofNat_add, Nat.sub_add_cancel h]
  rw [e, Int32.add_sub_cancel]
theorem of_addn (i n : Nat) : Int32.ofNat i + Int32.ofNat n = Int32.ofNat (i + n) := (Int32.ofNat_add i n).symm
theorem lt_as {x y : Int32} (h : ¬ x < y) (q : ¬ y < x) : x = y := by
  rw [Int32.lt_iff_toInt_lt] at h q; exact Int32.toInt_inj.mp (by omega)
theorem acp0 {bs : List Int32} {ud : List Value} {i n : Nat} (h : ud.length = n) : ud.take 0 ++ ((bs.map Value.int).drop i).take n ++ ud.drop (0 + n) = ((bs.drop i).take n).map Value.int := by
  rw [List.take_zero, List.nil_append, Nat.zero_add, List.drop_eq_nil_of_le (as := ud) (by omega), List.append_nil, List.map_take, List.map_drop]
theorem take_dropL (bs : List Int32) (i : Nat) : (bs.drop i).take (bs.length - i) = bs.drop i := List.take_of_length_le (by rw [List.length_drop]; exact Nat.le_refl _)
theorem allM {P : Int32 → Prop} {x : Int32} {L : List Int32} (q : P x) (r : ∀ z ∈ L, P z) : ∀ z ∈ x :: L, P z := fun z hz => (List.mem_cons.mp hz).elim (fun e => e ▸ q) (r z)
theorem of_inj {i n : Nat} (hi : i < 2147483648) (hn : n < 2147483648) (h : Int32.ofNat i = Int32.ofNat n) : i = n := by
  have := congrArg Int32.toInt h; rw [toInt_of hi, toInt_of hn] at this; omega
theorem subne {i e n : Nat} (hi : i < 2147483648) (he : e < 2147483648) (hn : n < 2147483648) (h : i ≠ 0 ∨ e ≠ n) (q : ¬ ¬ Int32.ofNat i = 0) : ¬ Int32.ofNat e = Int32.ofNat n := fun u => by
  have h1 : i = 0 := of_inj hi (by decide) (Classical.not_not.mp q)
  have h2 := of_inj he hn u
  rcases h with h | h
  · exact h h1
  · exact h h2
theorem of_ne0 {n : Nat} (h : 0 < n) (hn : n < 2147483648) : ¬ Int32.ofNat n = 0 := fun q => by
  have h1 := congrArg Int32.toInt q; rw [toInt_of hn] at h1
  have h2 : (0 : Int32).toInt = 0 := by decide
  omega
theorem cmp_step {cs : List Int32} {vs : List Value} {i : Nat} {ci : Int32} (hci : cs[i]? = some ci) (hl : vs.length = cs.length) : (((cs.take i).map i2b).map Value.int ++ vs.drop i).set i (.int (i2b ci)) = ((cs.take (i + 1)).map i2b).map Value.int ++ vs.drop (i + 1) := by
  have h0 : i < cs.length := (List.getElem?_eq_some_iff.mp hci).1
  have h1 : (((cs.take i).map i2b).map Value.int).length = i := by simp; omega
  have h2 : i < vs.length := by omega
  rw [List.set_append_right _ _ (by omega), h1, Nat.sub_self, List.drop_eq_getElem_cons h2, List.set_cons_zero, List.take_add_one, hci]
  simp
theorem le7 {n : Nat} (h : n ≤ 7) : ¬ (7 : Int32) < Int32.ofNat n := by
  have h7 : (7 : Int32) = Int32.ofNat 7 := rfl
  rw [h7]; exact of_ge h (by decide)
theorem of_succ (i : Nat) : Int32.ofNat i + Int32.ofInt 1 = Int32.ofNat (i + 1) := by
  rw [Int32.ofNat_add]; rfl
theorem rgS {x : Int32} {L : List Int32} {n : Int} (q : Rg x n) (r : ∀ c ∈ L, Rg c n) : ∀ c ∈ x :: L, Rg c n := fun c hc => (List.mem_cons.mp hc).elim (fun e => e ▸ q) (r c)
theorem cat_ref {v : Value} (h : v.isRef = true) : v.category = 1 := by cases v <;> simp_all [Value.isRef, Value.category]
theorem cat_i (x : Int32) : (Value.int x).category = 1 := rfl
theorem cat_l (x : Int64) : (Value.long x).category = 2 := rfl
theorem cat_r (x : Addr) : (Value.ref x).category = 1 := rfl
theorem cat_n : Value.null.category = 1 := rfl
theorem nar_refv {t : FieldType} {v : Value} (h : v.isRef = true) (ht : t.isReference = true) : narrow t v = v := by cases t <;> simp_all [narrow, FieldType.isReference]
theorem fits_refv {t : FieldType} {v : Value} (h : v.isRef = true) (ht : t.isReference = true) : Jvm.fits t v = true := by cases t <;> cases v <;> simp_all [Jvm.fits, Value.isRef, FieldType.isReference]

/-! ## what is known of a heap -/
section Facts
variable {Z : State} {h h' : Heap} {a b : Addr} {ty : FieldType} {vs : List Value} {ws : List Addr} {C : String}
def Av (Z : State) (h : Heap) (a : Addr) (ty : FieldType) (vs : List Value) : Prop :=
  ∃ c : Cell, Arr Z h a c ty ∧ c.slots.toList = vs ∧ vs.length < 2147483648 ∧ ∀ v ∈ vs, fits ty v = true
theorem Av.lt (F : Av Z h a ty vs) : a < h.size := by obtain ⟨c, A, -⟩ := F; exact A.lt
theorem Av.keep (F : Av Z h a ty vs) (K : Keep h h' ws) (q : a ∉ ws) : Av Z h' a ty vs := by obtain ⟨c, A, r⟩ := F; exact ⟨c, ⟨K.2.1 a c A.1 q, A.2⟩, r⟩
theorem Av.len (F : Av Z h a ty vs) : vs.length < 2147483648 := F.choose_spec.2.2.1
theorem fits_default (ty : FieldType) : fits ty (defaultValue ty) = true := by cases ty <;> simp [fits, defaultValue]
theorem Av.new {k : ClassId} {z : Int32} (A : Arr Z h a (newA k ty z) ty) (n : Nat) (q : z.toNatClampNeg = n) : Av Z h a ty (List.replicate n (defaultValue ty)) := by
  refine ⟨_, A, by simp [newA, q], ?_, fun v hv => ?_⟩
  · rw [List.length_replicate, ← q]; have := Int32.toInt_lt z; unfold Int32.toNatClampNeg; omega
  · rw [List.eq_of_mem_replicate hv]; exact fits_default ty
theorem Av.set {j : Nat} {v : Value} (F : Av Z h a ty vs) (W : Wr h h' a j v) (hv : fits ty v = true) : Av Z h' a ty (vs.set j v) := by
  obtain ⟨c, A, r1, r2, r3⟩ := F
  refine ⟨c.setSlot j v, A.same W, by simp [Cell.setSlot, r1], by simpa using r2, fun u hu => ?_⟩
  rcases List.mem_or_eq_of_mem_set hu with q | q
  · exact r3 u q
  · rw [q]; exact hv
theorem Av.arv (F : Av Z h a ty vs) (d : Value) : ∃ k, Arv Z h a k ty (Int32.ofNat vs.length) vs d := by
  obtain ⟨c, A, r1, r2, r3⟩ := F
  have hs : c.slots.size = vs.length := by rw [← r1]; simp
  have hx := ix_of r2
  refine ⟨c.cls, c, A, rfl, by rw [hx.2, hs], hx.1, fun k hk => ?_, fun i hi => ?_⟩
  · rw [← Array.getElem?_toList, r1, List.getD_eq_getElem?_getD, List.getElem?_eq_getElem (by omega)]; rfl
  · rw [List.getD_eq_getElem?_getD, List.getElem?_eq_getElem (by omega)]; exact r3 _ (List.getElem_mem _)
theorem Av.fitc {c : Cell} (A : Arr Z h a c ty) (r1 : c.slots.toList = vs) (r3 : ∀ v ∈ vs, fits ty v = true) : FitC Z c := fun i v hv => by
  obtain ⟨-, k, hk, comp, hkind⟩ := A.2.1
  have : v ∈ vs := by rw [← r1]; exact List.mem_of_getElem? (i := i) (by rw [Array.getElem?_toList]; exact hv)
  simp [State.fitsSlot, State.slotType?, hk, hkind, r3 v this]
theorem Av.of_arv {k : ClassId} {z : Int32} {d : Value} (F : Arv Z h a k ty z vs d) (q : z.toNatClampNeg = vs.length) : Av Z h a ty vs := by
  obtain ⟨c, A, -, r1, r2, H, G⟩ := F
  have e : c.slots.toList = vs := by
    apply List.ext_getElem?; intro i
    by_cases hi : i < c.slots.size
    · have := H i hi
      rw [Array.getElem?_toList, this, List.getD_eq_getElem?_getD]
      have hv : i < vs.length := by omega
      simp [hv]
    · rw [Array.getElem?_toList, Array.getElem?_eq_none (by omega), List.getElem?_eq_none (by omega)]
  refine ⟨c, A, e, ?_, fun v hv => ?_⟩
  · rw [← q]; have := Int32.toInt_lt z; unfold Int32.toNatClampNeg; omega
  · obtain ⟨i, hi, rfl⟩ := List.mem_iff_getElem.mp hv
    have := G i (by omega)
    rwa [List.getD_eq_getElem?_getD, List.getElem?_eq_getElem hi] at this
theorem keep_ext (E : Ext h h') (ws : List Addr) : Keep h h' ws := (Keep.refl h ws).ext E
theorem nin1 {x y : Addr} (q : x ≠ y) : x ∉ [y] := ninS q nin0
def AllExa (Z : State) (h : Heap) (C : String) (vs : List Value) : Prop := ∀ v ∈ vs, ∃ r, v = .ref r ∧ Exa Z h r C
theorem AllExa.keep (F : AllExa Z h C vs) (K : Keep h h' ws) : AllExa Z h' C vs := fun v hv => by obtain ⟨r, e, E⟩ := F v hv; exact ⟨r, e, E.keep K⟩
theorem Sta.keep {n d : String} {v : Value} (F : Sta Z h C n d v) (K : Keep h h' ws) (q : ∀ x ∈ ws, ∀ cell : Cell, h[x]? = some cell → cell.vm.isStatics = false) : Sta Z h' C n d v := by
  obtain ⟨cf, i, k, f, st, cell, h1, h2, h3, h4, h5, h6, h7⟩ := F
  exact ⟨cf, i, k, f, st, cell, h1, h2, h3, h4, K.2.1 _ _ h5 (fun hm => by have := q _ hm _ h5; rw [h6] at this; cases this), h6, h7⟩
theorem Av.plain (F : Av Z h a ty vs) : ∀ cell : Cell, h[a]? = some cell → cell.vm.isStatics = false := fun cell q => by
  obtain ⟨c, A, -⟩ := F; cases A.1.symm.trans q; exact Arr.plain A
theorem Exa.plain (F : Exa Z h a C) : ∀ cell : Cell, h[a]? = some cell → cell.vm.isStatics = false := fun cell q => by
  obtain ⟨c, _, h1, _, _, h4, _⟩ := F; cases h1.symm.trans q; exact h4
theorem ne_av {ty' : FieldType} {vs' : List Value} (F : Av Z h a ty vs) (G : Av Z h b ty' vs') (q : ty ≠ ty') : a ≠ b := fun e => by
  subst e
  obtain ⟨c, A, -⟩ := F; obtain ⟨c', A', -⟩ := G
  cases A.1.symm.trans A'.1
  obtain ⟨-, k, hk, comp, hkind⟩ := A.2.1
  obtain ⟨-, k', hk', comp', hkind'⟩ := A'.2.1
  cases hk.symm.trans hk'
  have := hkind.symm.trans hkind'
  injection this with _ e
  exact q e
theorem ne_len {vs' : List Value} (F : Av Z h a ty vs) (G : Av Z h b ty vs') (q : vs ≠ vs') : a ≠ b := fun e => by
  subst e
  obtain ⟨c, A, r, -⟩ := F; obtain ⟨c', A', r', -⟩ := G
  cases A.1.symm.trans A'.1
  exact q (r.symm.trans r')
theorem ne_exav {n : Nat} {a0 : Array Value} (E : Exa Z h a C) (w : (Cond.instantiable C n).before a0 Z = true) (F : Av Z h b ty vs) : a ≠ b := by
  obtain ⟨c, A, -⟩ := F; exact ne_arr E w A
/-- a String of Latin-1 bytes (as signed), its byte[] at b -/
def St (Z : State) (h : Heap) (a b : Addr) (bs : List Int32) : Prop :=
  Exa Z h a "java/lang/String" ∧ Fld Z h a "java/lang/String" "coder" "B" (.int 0) ∧ Fld Z h a "java/lang/String" "value" "[B" (.ref b) ∧ Av Z h b .byte (bs.map Value.int)
theorem St.keep {bs : List Int32} (F : St Z h a b bs) (K : Keep h h' ws) (q : a ∉ ws) (r : b ∉ ws) : St Z h' a b bs := ⟨F.1.keep K, F.2.1.keep K q, F.2.2.1.keep K q, F.2.2.2.keep K r⟩
end Facts

/-! ## a body's entry and its ends -/
section Ends
variable {p : Program} {l : Launch} {e : Env} {R : Room} {s : State} {m : MethodId} {args : Array Value} {below : List Frame} {meth : Method} {c : Code} {Z : State} {EL : List (String × Nat)} {nw : Bool} {n0 : Nat} {y : MethodName} {code : ByteArray} {maxL : Nat} {ret : Option FieldType} {T : State} {h : Heap} {sf : List Addr} {cells slots : Nat} {Φ : Outcome → State → Prop} {a0 : Array Value} {pc pc' : Nat} {L : Array Slot} {S : List Value} {rm : Room} {Q : Option Value → Heap → List Addr → Prop}
theorem Ct.body {as' : Array Value} (hp : plainFor y = true)
    (body : ∀ p e s m below meth c s₁, WS p l e rm s m as' below meth c Z a0 EL nw n0 y code maxL ret s₁ h sf 0 0 → WP p e below (Fne s n0 Z EL nw rm Q) s₁ (entryFrame m as' maxL)) : Ct l Z a0 EL nw y code maxL ret rm as' h sf n0 Q := by
  intro ws
  refine MetFree.of_bodySF hp hisR ?_
  intro p e s m args below meth c s₁ Bd hml hP hK
  obtain ⟨rfl, hZ, hh, hC, hn, hE, hsf⟩ := hP
  have X0 : Stand p l e rm s m args below meth c s₁ [] 0 0 := Stand.of_body Bd
  have e0 : s₁.heap = h := by rw [← hh, Bd.state]; rfl
  have ev : s₁.vm = s.vm := by rw [Bd.state]; rfl
  have hs : s.heap = h := hh
  refine body p e s m below meth c s₁ ⟨[], X0.retabled X0.warmed.wide, e0, X0.warmed.since _, wtrans hZ X0.warmed, ?_, ?_, Fr.nil _, hn, ?_, hE, fun _ => X0.warmed, Bd.exec, Bd.bytes, Bd.returns, Bd.notSynchronized, hml, (name_of_methodNamed Bd.named Bd.method).1⟩
  · rw [ev]; exact findClass_of_methodNamed Bd.named
  · rw [ev, hs]; exact CHr.refl hC
  · rw [ev]; exact hsf
theorem WS.fin (W : WS p l e R s m args below meth c Z a0 EL nw n0 y code maxL ret T h sf cells slots) (so : List Addr) (hso : ∀ x ∈ so, x ∈ sf) {v : Option Value} (hv : meth.sig.returnType = none → v = none) (hc : cells ≤ rm.cells) (hs : slots ≤ rm.slots) (q : Q v h so) :
    ∃ fs, (∀ (f : JFrame) (acts : List Action), f.method = m → f.locked = none → f.entered = [] → (doReturn e (T.setTop f) acts v).1 = T.setFrames fs) ∧ (T.setFrames fs).status = .running ∧ Ended (T.setFrames fs) below (.returned v) ∧ Fne s n0 Z EL nw rm Q (.returned v) (T.setFrames fs) := by
  obtain ⟨locs, X, a1, a2, a3, a4, a5, a6, a7, a8, a9, aW, b1, b2, b3, b4, b5⟩ := W
  obtain ⟨fs, q1, q2, q3, q4⟩ := (X.mono hc hs).leaveW a2 (by rw [a1]; exact Nat.le_refl _) hv b4
  refine ⟨fs, q1, q2, q3, v, locs, so, rfl, ?_, a6, ?_, ?_, aW, q4⟩
  · show Q v T.heap so; rw [a1]; exact q
  · show CHr Z EL s.vm s.heap T.vm T.heap; rw [a1]; exact a5
  · show ∀ x ∈ so, n0 ≤ x ∧ x < T.heap.size ∧ Safe Z EL T.vm T.heap x; rw [a1]; exact fun x hx => a8 x (hso x hx)
theorem k_ret (W : WS p l e R s m args below meth c Z a0 EL nw n0 y code maxL ret T h sf cells slots) (d : D code pc .return_ 1 pc') (hr : ret = none) (so : List Addr) (hso : ∀ x ∈ so, x ∈ sf) (hc : cells ≤ rm.cells) (hs : slots ≤ rm.slots) (q : Q none h so) : WP p e below (Fne s n0 Z EL nw rm Q) T (mkF m pc L []) := by
  have hret : meth.sig.returnType = ret := by obtain ⟨_, _, _, _, _, _, _, _, _, _, _, _, _, _, q, -⟩ := W; exact q
  obtain ⟨fs, q1, q2, q3, q4⟩ := W.fin so hso (v := none) (fun _ => rfl) hc hs q
  obtain ⟨locs, X, -⟩ := id W
  exact ⟨_, _, X.returnOut W.hx (hret.trans hr) (W.hd d) q1, q2, q3, q4⟩
theorem k_ireturn (W : WS p l e R s m args below meth c Z a0 EL nw n0 y code maxL ret T h sf cells slots) {z : Int32} (d : D code pc .ireturn 1 pc') (hr : ret = some .int) (so : List Addr) (hso : ∀ x ∈ so, x ∈ sf) (hc : cells ≤ rm.cells) (hs : slots ≤ rm.slots) (q : Q (some (.int z)) h so) : WP p e below (Fne s n0 Z EL nw rm Q) T (mkF m pc L (.int z :: S)) := by
  have hret : meth.sig.returnType = ret := by obtain ⟨_, _, _, _, _, _, _, _, _, _, _, _, _, _, q, -⟩ := W; exact q
  obtain ⟨fs, q1, q2, q3, q4⟩ := W.fin so hso (v := some (.int z)) (fun u => by rw [hret, hr] at u; cases u) hc hs q
  obtain ⟨locs, X, -⟩ := id W
  exact ⟨_, _, retOut X W.hx (hret.trans hr) rfl (Or.inl ⟨rfl, Or.inl rfl, z, rfl⟩) (W.hd d) q1, q2, q3, q4⟩
theorem k_retN (W : WS p l e R s m args below meth c Z a0 EL nw n0 y code maxL ret T h sf cells slots) {z z' : Int32} {t : FieldType} (d : D code pc .ireturn 1 pc') (hr : ret = some t) (ht : t = .boolean ∨ t = .byte ∨ t = .char ∨ t = .short) (hz : nar t z = z') (so : List Addr) (hso : ∀ x ∈ so, x ∈ sf) (hc : cells ≤ rm.cells) (hs : slots ≤ rm.slots) (q : Q (some (.int z')) h so) : WP p e below (Fne s n0 Z EL nw rm Q) T (mkF m pc L (.int z :: S)) := by
  have hret : meth.sig.returnType = ret := by obtain ⟨_, _, _, _, _, _, _, _, _, _, _, _, _, _, q, -⟩ := W; exact q
  obtain ⟨fs, q1, q2, q3, q4⟩ := W.fin so hso (v := some (.int z')) (fun u => by rw [hret, hr] at u; cases u) hc hs q
  obtain ⟨locs, X, -⟩ := id W
  subst hz
  exact ⟨_, _, retN X W.hx (t := t) (hret.trans hr) ht (W.hd d) q1, q2, q3, q4⟩
theorem k_lreturn (W : WS p l e R s m args below meth c Z a0 EL nw n0 y code maxL ret T h sf cells slots) {z : Int64} (d : D code pc .lreturn 1 pc') (hr : ret = some .long) (so : List Addr) (hso : ∀ x ∈ so, x ∈ sf) (hc : cells ≤ rm.cells) (hs : slots ≤ rm.slots) (q : Q (some (.long z)) h so) : WP p e below (Fne s n0 Z EL nw rm Q) T (mkF m pc L (.long z :: S)) := by
  have hret : meth.sig.returnType = ret := by obtain ⟨_, _, _, _, _, _, _, _, _, _, _, _, _, _, q, -⟩ := W; exact q
  obtain ⟨fs, q1, q2, q3, q4⟩ := W.fin so hso (v := some (.long z)) (fun u => by rw [hret, hr] at u; cases u) hc hs q
  obtain ⟨locs, X, -⟩ := id W
  exact ⟨_, _, retOut X W.hx (hret.trans hr) rfl (Or.inr (Or.inl ⟨rfl, rfl, z, rfl⟩)) (W.hd d) q1, q2, q3, q4⟩
theorem k_areturn (W : WS p l e R s m args below meth c Z a0 EL nw n0 y code maxL ret T h sf cells slots) {v : Value} {t : FieldType} (d : D code pc .areturn 1 pc') (hr : ret = some t) (ht : t.isReference = true) (hv : v.isRef = true) (so : List Addr) (hso : ∀ x ∈ so, x ∈ sf) (hc : cells ≤ rm.cells) (hs : slots ≤ rm.slots) (q : Q (some v) h so) : WP p e below (Fne s n0 Z EL nw rm Q) T (mkF m pc L (v :: S)) := by
  have hret : meth.sig.returnType = ret := by obtain ⟨_, _, _, _, _, _, _, _, _, _, _, _, _, _, q, -⟩ := W; exact q
  obtain ⟨fs, q1, q2, q3, q4⟩ := W.fin so hso (v := some v) (fun u => by rw [hret, hr] at u; cases u) hc hs q
  obtain ⟨locs, X, -⟩ := id W
  have hn : narrow t v = v := by cases t <;> simp_all [narrow, FieldType.isReference]
  exact ⟨_, _, retOut X W.hx (hret.trans hr) hn (Or.inr (Or.inr (Or.inr (Or.inr ⟨rfl, ht, hv⟩)))) (W.hd d) q1, q2, q3, q4⟩
end Ends

/-! ## steps on the heap -/
section Steps
variable {p : Program} {l : Launch} {e : Env} {R : Room} {s : State} {m : MethodId} {args : Array Value} {below : List Frame} {meth : Method} {c : Code} {Z : State} {EL : List (String × Nat)} {nw : Bool} {n0 : Nat} {y : MethodName} {code : ByteArray} {maxL : Nat} {ret : Option FieldType} {T : State} {h : Heap} {sf : List Addr} {cells slots : Nat} {Φ : Outcome → State → Prop} {a0 : Array Value} {pc pc' : Nat} {L : Array Slot} {S : List Value}
abbrev catS (S : List Value) : Nat := (S.map fun v => v.category).sum
theorem cat0 : catS [] = 0 := rfl
theorem catC {v : Value} {S : List Value} {a n : Nat} (h : v.category = a) (q : catS S = n) : catS (v :: S) = a + n := by
  have : catS (v :: S) = v.category + catS S := by simp [catS]
  rw [this, h, q]
abbrev Ix (j : Int32) (i : Nat) : Prop := ¬ j < 0 ∧ j.toNatClampNeg = i
theorem Ix.ok {j : Int32} {i n : Nat} (q : Ix j i) (hi : i < n) : ¬ (j < 0 ∨ n ≤ j.toNatClampNeg) := by
  rintro (u | u)
  · exact q.1 u
  · rw [q.2] at u; omega

theorem k_getF (W : WS p l e R s m args below meth c Z a0 EL nw n0 y code maxL ret T h sf cells slots) {index : Nat} {R0 O n d host : String} (dd : D code pc (.getfield index) 3 pc') (w : (Cond.fieldLink y.cls index R0 n d).before a0 Z = true ∨ (Cond.fieldLinkNest y.cls index R0 n d host).before a0 Z = true) (via : Via Z R0 O n d) {a : Addr} {v : Value} (F : Fld Z h a O n d v)
    (k : ∀ T', WS p l e R s m args below meth c Z a0 EL nw n0 y code maxL ret T' h sf cells slots → WP p e below Φ T' (mkF m pc' L (v :: S))) : WP p e below Φ T (mkF m pc L (.ref a :: S)) := by
  obtain ⟨locs, X, eT, hS, hZ, hown, hC, hN, hn, hsf, hE, hWm, b1, b2, b3, b4, b5, b6⟩ := id W
  obtain ⟨T', X', e', st⟩ := getF X W.hx hZ hown w via eT F (g := mkF m pc L (.ref a :: S)) rfl rfl (W.hd dd)
  obtain ⟨hd, rfl⟩ := dd
  exact WP.st (fun t q => st t q) (k T' (W.pack X' e' hN (Nat.le_refl _) (fun H => ⟨H, fun _ q => q⟩) (fun x hx => Or.inl hx)))

theorem k_getS (W : WS p l e R s m args below meth c Z a0 EL nw n0 y code maxL ret T h sf cells slots) {index : Nat} {R0 O n d : String} (dd : D code pc (.getstatic index) 3 pc') (w : (Cond.fieldLink y.cls index R0 n d).before a0 Z = true) (via : Via Z R0 O n d) {v : Value} (F : Sta Z h O n d v)
    (k : ∀ T', WS p l e R s m args below meth c Z a0 EL nw n0 y code maxL ret T' h sf cells slots → WP p e below Φ T' (mkF m pc' L (v :: S))) : WP p e below Φ T (mkF m pc L (S)) := by
  obtain ⟨locs, X, eT, hS, hZ, hown, hC, hN, hn, hsf, hE, hWm, b1, b2, b3, b4, b5, b6⟩ := id W
  obtain ⟨T', X', e', st⟩ := getS X W.hx hZ (host := "") hown w via eT F (g := mkF m pc L S) rfl (W.hd dd)
  obtain ⟨hd, rfl⟩ := dd
  exact WP.st (fun t q => st t q) (k T' (W.pack X' e' hN (Nat.le_refl _) (fun H => ⟨H, fun _ q => q⟩) (fun x hx => Or.inl hx)))

theorem k_putF (W : WS p l e R s m args below meth c Z a0 EL nw n0 y code maxL ret T h sf cells slots) {index kk : Nat} {R0 O n d C : String} {ty : FieldType} (dd : D code pc (.putfield index) 3 pc') (w : (Cond.fieldLink y.cls index R0 n d).before a0 Z = true) (via : Via Z R0 O n d) {a : Addr} {v v' old : Value} (ha : a ∈ sf) (F : Fld Z h a O n d old) (E : Exa Z h a C)
    (Lw : (Cond.lays C O n d).before a0 Z = true ∨ ((Cond.laysFinal C O n d).before a0 Z = true ∧ y.cls = O ∧ y.name = "<init>")) (wi : (Cond.instantiable C kk).before a0 Z = true) (hty : parseFieldDescriptor d = some ty) (hnr : narrow ty v = v') (hf : fits ty v' = true)
    (k : ∀ T' h', WS p l e R s m args below meth c Z a0 EL nw n0 y code maxL ret T' h' sf cells slots → Wr h h' a (Jvm.RoadKit.slotOf Z O n d) v' → WP p e below Φ T' (mkF m pc' L (S))) : WP p e below Φ T (mkF m pc L (v :: .ref a :: S)) := by
  obtain ⟨locs, X, eT, hS, hZ, hown, hC, hN, hn, hsf, hE, hWm, b1, b2, b3, b4, b5, b6⟩ := id W
  obtain ⟨T', h', X', e', Wh, st⟩ := putFN X W.hx hZ hown w via eT F E (Lw.imp id fun q => ⟨q.1, q.2.1, b6.trans q.2.2⟩) wi hty hnr hf (g := mkF m pc L (v :: .ref a :: S)) rfl rfl (W.hd dd)
  obtain ⟨hd, rfl⟩ := dd
  exact WP.st (fun t q => st t q) (k T' h' (W.pack X' e' (Fr.snoc X' hN (hsf a ha).1) (Nat.le_of_eq Wh.size.symm) (fun H => H.wrStep Wh (hsf a ha).2.2) (fun x hx => Or.inl hx)) Wh)

theorem k_new (W : WS p l e R s m args below meth c Z a0 EL nw n0 y code maxL ret T h sf cells slots) {index n : Nat} {C : String} (c' s' : Nat) (dd : D code pc (.new index) 3 pc') (w : (Cond.classLink y.cls index C).before a0 Z = true) (wi : (Cond.instantiable C n).before a0 Z = true) (wz : (Cond.initialized C).before a0 Z = true) (hc : cells + 1 = c' ∧ c' ≤ R.cells) (hl : slots + n = s' ∧ s' ≤ R.slots)
    (k : ∀ T' h' a, a = h.size → WS p l e R s m args below meth c Z a0 EL nw n0 y code maxL ret T' h' (a :: sf) c' s' → Ext h h' → Exa Z h' a C → (∀ {O nm d : String} {ty : FieldType}, Laid Z a0 C O nm d → parseFieldDescriptor d = some ty → Fld Z h' a O nm d (defaultValue ty)) → WP p e below Φ T' (mkF m pc' L (.ref a :: S))) : WP p e below Φ T (mkF m pc L (S)) := by
  obtain ⟨locs, X, eT, hS, hZ, hown, hC, hN, hn, hsf, hE, hWm, b1, b2, b3, b4, b5, b6⟩ := id W
  obtain ⟨rfl, hc⟩ := hc
  obtain ⟨rfl, hl⟩ := hl
  obtain ⟨T', h', X', e', E, A, Dd, -, st⟩ := newO X W.hx hZ hown w wi wz eT (g := mkF m pc L S) rfl (W.hd dd) hc hl
  obtain ⟨hd, rfl⟩ := dd
  exact WP.st (fun t q => st t q) (k T' h' _ rfl (W.pack X' e' hN E.1 (fun H => H.step fun _ _ _ q => E.2 _ _ q) (fun x hx => (List.mem_cons.mp hx).elim (fun q => Or.inr (by subst q; exact ⟨Nat.le_refl _, A.lt⟩)) Or.inl)) E A Dd)

theorem k_newarr (W : WS p l e R s m args below meth c Z a0 EL nw n0 y code maxL ret T h sf cells slots) {aty : ArrayType} {z : Int32} (n c' s' : Nat) (dd : D code pc (.newarray aty) 2 pc') (w : (Cond.arrayClass (newarray.typeOf aty)).before a0 Z = true) (hz : Ix z n) (hb : n * 8 ≤ 536870912) (hc : cells + 1 = c' ∧ c' ≤ R.cells) (hl : slots + n = s' ∧ s' ≤ R.slots)
    (k : ∀ T' h' a, a = h.size → WS p l e R s m args below meth c Z a0 EL nw n0 y code maxL ret T' h' (a :: sf) c' s' → Ext h h' → Av Z h' a (newarray.typeOf aty) (List.replicate n (defaultValue (newarray.typeOf aty))) → WP p e below Φ T' (mkF m pc' L (.ref a :: S))) : WP p e below Φ T (mkF m pc L (.int z :: S)) := by
  obtain ⟨locs, X, eT, hS, hZ, hown, hC, hN, hn, hsf, hE, hWm, b1, b2, b3, b4, b5, b6⟩ := id W
  obtain ⟨rfl, hc⟩ := hc
  obtain ⟨rfl, hl⟩ := hl
  obtain ⟨T', h', cA, X', e', E, A, st⟩ := newP X W.hx hZ w eT (g := mkF m pc L (.int z :: S)) rfl (W.hd dd) rfl hz.1 (cap := n) (Nat.le_of_eq hz.2) hb hc hl
  obtain ⟨hd, rfl⟩ := dd
  exact WP.st (fun t q => st t q) (k T' h' _ rfl (W.pack X' e' hN E.1 (fun H => H.step fun _ _ _ q => E.2 _ _ q) (fun x hx => (List.mem_cons.mp hx).elim (fun q => Or.inr (by subst q; exact ⟨Nat.le_refl _, A.lt⟩)) Or.inl)) E (Av.new A n hz.2))

theorem k_castore (W : WS p l e R s m args below meth c Z a0 EL nw n0 y code maxL ret T h sf cells slots) {a : Addr} {vs : List Value} {j x z : Int32} (i : Nat) (dd : D code pc (.castore) 1 pc') (ha : a ∈ sf) (F : Av Z h a .char vs) (hj : Ix j i) (hi : i < vs.length) (hz : nar .char x = z) (hf : fits .char (.int z) = true)
    (k : ∀ T' h', WS p l e R s m args below meth c Z a0 EL nw n0 y code maxL ret T' h' sf cells slots → Wr h h' a i (.int z) → Av Z h' a .char (vs.set i (.int z)) → WP p e below Φ T' (mkF m pc' L (S))) : WP p e below Φ T (mkF m pc L (.int x :: .int j :: .ref a :: S)) := by
  obtain ⟨locs, X, eT, hS, hZ, hown, hC, hN, hn, hsf, hE, hWm, b1, b2, b3, b4, b5, b6⟩ := id W
  obtain ⟨cl, A, r1, r2, r3⟩ := id F
  have hsz : cl.slots.size = vs.length := by rw [← r1]; simp
  obtain ⟨T', h', X', e', Wh, st⟩ := stC X W.hx hZ eT A (j := j) (x := x) (hj.ok (by rw [hsz]; exact hi)) (g := mkF m pc L (.int x :: .int j :: .ref a :: S)) rfl rfl (W.hd dd)
  rw [hj.2] at X' Wh
  subst hz
  obtain ⟨hd, rfl⟩ := dd
  exact WP.st (fun t q => st t q) (k T' h' (W.pack X' e' (Fr.snoc X' hN (hsf a ha).1) (Nat.le_of_eq Wh.size.symm) (fun H => H.wrStep Wh (hsf a ha).2.2) (fun x hx => Or.inl hx)) Wh (F.set Wh hf))

theorem k_bastore (W : WS p l e R s m args below meth c Z a0 EL nw n0 y code maxL ret T h sf cells slots) {a : Addr} {vs : List Value} {j x z : Int32} (i : Nat) (dd : D code pc (.bastore) 1 pc') (ha : a ∈ sf) (F : Av Z h a .byte vs) (hj : Ix j i) (hi : i < vs.length) (hz : nar .byte x = z) (hf : fits .byte (.int z) = true)
    (k : ∀ T' h', WS p l e R s m args below meth c Z a0 EL nw n0 y code maxL ret T' h' sf cells slots → Wr h h' a i (.int z) → Av Z h' a .byte (vs.set i (.int z)) → WP p e below Φ T' (mkF m pc' L (S))) : WP p e below Φ T (mkF m pc L (.int x :: .int j :: .ref a :: S)) := by
  obtain ⟨locs, X, eT, hS, hZ, hown, hC, hN, hn, hsf, hE, hWm, b1, b2, b3, b4, b5, b6⟩ := id W
  obtain ⟨cl, A, r1, r2, r3⟩ := id F
  have hsz : cl.slots.size = vs.length := by rw [← r1]; simp
  obtain ⟨T', h', X', e', Wh, st⟩ := stB X W.hx hZ eT A (j := j) (x := x) (hj.ok (by rw [hsz]; exact hi)) (g := mkF m pc L (.int x :: .int j :: .ref a :: S)) rfl rfl (W.hd dd)
  rw [hj.2] at X' Wh
  subst hz
  obtain ⟨hd, rfl⟩ := dd
  exact WP.st (fun t q => st t q) (k T' h' (W.pack X' e' (Fr.snoc X' hN (hsf a ha).1) (Nat.le_of_eq Wh.size.symm) (fun H => H.wrStep Wh (hsf a ha).2.2) (fun x hx => Or.inl hx)) Wh (F.set Wh hf))

theorem k_iastore (W : WS p l e R s m args below meth c Z a0 EL nw n0 y code maxL ret T h sf cells slots) {a : Addr} {vs : List Value} {j x z : Int32} (i : Nat) (dd : D code pc (.iastore) 1 pc') (ha : a ∈ sf) (F : Av Z h a .int vs) (hj : Ix j i) (hi : i < vs.length) (hz : x = z) (hf : fits .int (.int z) = true)
    (k : ∀ T' h', WS p l e R s m args below meth c Z a0 EL nw n0 y code maxL ret T' h' sf cells slots → Wr h h' a i (.int z) → Av Z h' a .int (vs.set i (.int z)) → WP p e below Φ T' (mkF m pc' L (S))) : WP p e below Φ T (mkF m pc L (.int x :: .int j :: .ref a :: S)) := by
  obtain ⟨locs, X, eT, hS, hZ, hown, hC, hN, hn, hsf, hE, hWm, b1, b2, b3, b4, b5, b6⟩ := id W
  obtain ⟨cl, A, r1, r2, r3⟩ := id F
  have hsz : cl.slots.size = vs.length := by rw [← r1]; simp
  obtain ⟨T', h', X', e', Wh, st⟩ := stI X W.hx hZ eT A (j := j) (x := x) (hj.ok (by rw [hsz]; exact hi)) (g := mkF m pc L (.int x :: .int j :: .ref a :: S)) rfl rfl (W.hd dd)
  rw [hj.2] at X' Wh
  subst hz
  obtain ⟨hd, rfl⟩ := dd
  exact WP.st (fun t q => st t q) (k T' h' (W.pack X' e' (Fr.snoc X' hN (hsf a ha).1) (Nat.le_of_eq Wh.size.symm) (fun H => H.wrStep Wh (hsf a ha).2.2) (fun x hx => Or.inl hx)) Wh (F.set Wh hf))

theorem k_sastore (W : WS p l e R s m args below meth c Z a0 EL nw n0 y code maxL ret T h sf cells slots) {a : Addr} {vs : List Value} {j x z : Int32} (i : Nat) (dd : D code pc (.sastore) 1 pc') (ha : a ∈ sf) (F : Av Z h a .short vs) (hj : Ix j i) (hi : i < vs.length) (hz : nar .short x = z) (hf : fits .short (.int z) = true)
    (k : ∀ T' h', WS p l e R s m args below meth c Z a0 EL nw n0 y code maxL ret T' h' sf cells slots → Wr h h' a i (.int z) → Av Z h' a .short (vs.set i (.int z)) → WP p e below Φ T' (mkF m pc' L (S))) : WP p e below Φ T (mkF m pc L (.int x :: .int j :: .ref a :: S)) := by
  obtain ⟨locs, X, eT, hS, hZ, hown, hC, hN, hn, hsf, hE, hWm, b1, b2, b3, b4, b5, b6⟩ := id W
  obtain ⟨cl, A, r1, r2, r3⟩ := id F
  have hsz : cl.slots.size = vs.length := by rw [← r1]; simp
  obtain ⟨T', h', X', e', Wh, st⟩ := stS X W.hx hZ eT A (j := j) (x := x) (hj.ok (by rw [hsz]; exact hi)) (g := mkF m pc L (.int x :: .int j :: .ref a :: S)) rfl rfl (W.hd dd)
  rw [hj.2] at X' Wh
  subst hz
  obtain ⟨hd, rfl⟩ := dd
  exact WP.st (fun t q => st t q) (k T' h' (W.pack X' e' (Fr.snoc X' hN (hsf a ha).1) (Nat.le_of_eq Wh.size.symm) (fun H => H.wrStep Wh (hsf a ha).2.2) (fun x hx => Or.inl hx)) Wh (F.set Wh hf))

theorem k_zastore (W : WS p l e R s m args below meth c Z a0 EL nw n0 y code maxL ret T h sf cells slots) {a : Addr} {vs : List Value} {j x z : Int32} (i : Nat) (dd : D code pc (.bastore) 1 pc') (ha : a ∈ sf) (F : Av Z h a .boolean vs) (hj : Ix j i) (hi : i < vs.length) (hz : nar .boolean x = z) (hf : fits .boolean (.int z) = true)
    (k : ∀ T' h', WS p l e R s m args below meth c Z a0 EL nw n0 y code maxL ret T' h' sf cells slots → Wr h h' a i (.int z) → Av Z h' a .boolean (vs.set i (.int z)) → WP p e below Φ T' (mkF m pc' L (S))) : WP p e below Φ T (mkF m pc L (.int x :: .int j :: .ref a :: S)) := by
  obtain ⟨locs, X, eT, hS, hZ, hown, hC, hN, hn, hsf, hE, hWm, b1, b2, b3, b4, b5, b6⟩ := id W
  obtain ⟨cl, A, r1, r2, r3⟩ := id F
  have hsz : cl.slots.size = vs.length := by rw [← r1]; simp
  obtain ⟨T', h', X', e', Wh, st⟩ := stZ X W.hx hZ eT A (j := j) (x := x) (hj.ok (by rw [hsz]; exact hi)) (g := mkF m pc L (.int x :: .int j :: .ref a :: S)) rfl rfl (W.hd dd)
  rw [hj.2] at X' Wh
  subst hz
  obtain ⟨hd, rfl⟩ := dd
  exact WP.st (fun t q => st t q) (k T' h' (W.pack X' e' (Fr.snoc X' hN (hsf a ha).1) (Nat.le_of_eq Wh.size.symm) (fun H => H.wrStep Wh (hsf a ha).2.2) (fun x hx => Or.inl hx)) Wh (F.set Wh hf))

theorem k_caload (W : WS p l e R s m args below meth c Z a0 EL nw n0 y code maxL ret T h sf cells slots) {a : Addr} {vs : List Value} {j : Int32} {v : Value} (i : Nat) (dd : D code pc (.caload) 1 pc') (F : Av Z h a .char vs) (hj : Ix j i) (hi : vs[i]? = some v)
    (w : WP p e below Φ T (mkF m pc' L (v :: S))) : WP p e below Φ T (mkF m pc L (.int j :: .ref a :: S)) := by
  obtain ⟨locs, X, eT, hS, hZ, hown, hC, hN, hn, hsf, hE, hWm, b1, b2, b3, b4, b5, b6⟩ := id W
  obtain ⟨cl, A, r1, r2, r3⟩ := id F
  have hsz : cl.slots.size = vs.length := by rw [← r1]; simp
  have hlt : i < vs.length := (List.getElem?_eq_some_iff.mp hi).1
  have hv : cl.slots[j.toNatClampNeg]? = some v := by rw [hj.2, ← Array.getElem?_toList, r1]; exact hi
  have hA : (s.setVm T.vm).isArrayOf cl .char := State.isArrayOf_alike hZ.alike A.2.1
  obtain ⟨hd, rfl⟩ := id dd
  exact WP.st (fun t q => X.caload W.hx (by rw [eT]; exact A.1) hA A.2.2 (hj.ok (by rw [hsz]; exact hlt)) hv (g := mkF m pc L (.int j :: .ref a :: S)) rfl rfl (W.hd dd) _ q) w

theorem k_iaload (W : WS p l e R s m args below meth c Z a0 EL nw n0 y code maxL ret T h sf cells slots) {a : Addr} {vs : List Value} {j : Int32} {v : Value} (i : Nat) (dd : D code pc (.iaload) 1 pc') (F : Av Z h a .int vs) (hj : Ix j i) (hi : vs[i]? = some v)
    (w : WP p e below Φ T (mkF m pc' L (v :: S))) : WP p e below Φ T (mkF m pc L (.int j :: .ref a :: S)) := by
  obtain ⟨locs, X, eT, hS, hZ, hown, hC, hN, hn, hsf, hE, hWm, b1, b2, b3, b4, b5, b6⟩ := id W
  obtain ⟨cl, A, r1, r2, r3⟩ := id F
  have hsz : cl.slots.size = vs.length := by rw [← r1]; simp
  have hlt : i < vs.length := (List.getElem?_eq_some_iff.mp hi).1
  have hv : cl.slots[j.toNatClampNeg]? = some v := by rw [hj.2, ← Array.getElem?_toList, r1]; exact hi
  have hA : (s.setVm T.vm).isArrayOf cl .int := State.isArrayOf_alike hZ.alike A.2.1
  obtain ⟨hd, rfl⟩ := id dd
  exact WP.st (fun t q => X.iaload W.hx (by rw [eT]; exact A.1) hA A.2.2 (hj.ok (by rw [hsz]; exact hlt)) hv (g := mkF m pc L (.int j :: .ref a :: S)) rfl rfl (W.hd dd) _ q) w

theorem k_baload (W : WS p l e R s m args below meth c Z a0 EL nw n0 y code maxL ret T h sf cells slots) {a : Addr} {vs : List Value} {j : Int32} {v : Value} (i : Nat) (dd : D code pc (.baload) 1 pc') (F : Av Z h a .byte vs) (hj : Ix j i) (hi : vs[i]? = some v)
    (w : WP p e below Φ T (mkF m pc' L (v :: S))) : WP p e below Φ T (mkF m pc L (.int j :: .ref a :: S)) := by
  obtain ⟨locs, X, eT, hS, hZ, hown, hC, hN, hn, hsf, hE, hWm, b1, b2, b3, b4, b5, b6⟩ := id W
  obtain ⟨cl, A, r1, r2, r3⟩ := id F
  have hsz : cl.slots.size = vs.length := by rw [← r1]; simp
  have hlt : i < vs.length := (List.getElem?_eq_some_iff.mp hi).1
  have hv : cl.slots[j.toNatClampNeg]? = some v := by rw [hj.2, ← Array.getElem?_toList, r1]; exact hi
  have hA : (s.setVm T.vm).isArrayOf cl .byte := State.isArrayOf_alike hZ.alike A.2.1
  obtain ⟨hd, rfl⟩ := id dd
  exact WP.st (fun t q => X.baloadBytes W.hx (by rw [eT]; exact A.1) hA A.2.2 (hj.ok (by rw [hsz]; exact hlt)) hv (g := mkF m pc L (.int j :: .ref a :: S)) rfl rfl (W.hd dd) _ q) w

theorem k_aaload (W : WS p l e R s m args below meth c Z a0 EL nw n0 y code maxL ret T h sf cells slots) {a : Addr} {vs : List Value} {ty : FieldType} {j : Int32} {v : Value} (i : Nat) (dd : D code pc .aaload 1 pc') (F : Av Z h a ty vs) (hty : ty.isReference = true) (hj : Ix j i) (hi : vs[i]? = some v)
    (w : WP p e below Φ T (mkF m pc' L (v :: S))) : WP p e below Φ T (mkF m pc L (.int j :: .ref a :: S)) := by
  obtain ⟨locs, X, eT, hS, hZ, hown, hC, hN, hn, hsf, hE, hWm, b1, b2, b3, b4, b5, b6⟩ := id W
  obtain ⟨cl, A, r1, r2, r3⟩ := id F
  have hsz : cl.slots.size = vs.length := by rw [← r1]; simp
  have hlt : i < vs.length := (List.getElem?_eq_some_iff.mp hi).1
  have hv : cl.slots[j.toNatClampNeg]? = some v := by rw [hj.2, ← Array.getElem?_toList, r1]; exact hi
  have hA : (s.setVm T.vm).isArrayOf cl ty := State.isArrayOf_alike hZ.alike A.2.1
  obtain ⟨hd, rfl⟩ := id dd
  exact WP.st (fun t q => X.aaload W.hx (by rw [eT]; exact A.1) hA hty A.2.2 (hj.ok (by rw [hsz]; exact hlt)) hv (g := mkF m pc L (.int j :: .ref a :: S)) rfl rfl (W.hd dd) _ q) w

theorem k_arraylength (W : WS p l e R s m args below meth c Z a0 EL nw n0 y code maxL ret T h sf cells slots) {a : Addr} {ty : FieldType} {vs : List Value} {z : Int32} (dd : D code pc .arraylength 1 pc') (F : Av Z h a ty vs) (hz : vs.length.toInt32 = z) (w : WP p e below Φ T (mkF m pc' L (.int z :: S))) : WP p e below Φ T (mkF m pc L (.ref a :: S)) := by
  obtain ⟨locs, X, eT, hS, hZ, hown, hC, hN, hn, hsf, hE, hWm, b1, b2, b3, b4, b5, b6⟩ := id W
  obtain ⟨cl, A, r1, r2, r3⟩ := id F
  have hsz : cl.slots.size = vs.length := by rw [← r1]; simp
  have hA : (s.setVm T.vm).isArrayOf cl ty := State.isArrayOf_alike hZ.alike A.2.1
  obtain ⟨hd, rfl⟩ := id dd
  exact WP.st (fun t q => X.arraylength W.hx (by rw [eT]; exact A.1) hA (g := mkF m pc L (.ref a :: S)) rfl rfl (W.hd dd) _ (by rw [hsz, hz]; exact q)) w

theorem k_cast (W : WS p l e R s m args below meth c Z a0 EL nw n0 y code maxL ret T h sf cells slots) {index : Nat} {K : String} {a : Addr} (dd : D code pc (.checkcast index) 3 pc') (w : (Cond.classLink y.cls index K).before a0 Z = true) (F : Ins Z h a K true)
    (k : ∀ T', WS p l e R s m args below meth c Z a0 EL nw n0 y code maxL ret T' h sf cells slots → WP p e below Φ T' (mkF m pc' L (.ref a :: S))) : WP p e below Φ T (mkF m pc L (.ref a :: S)) := by
  obtain ⟨locs, X, eT, hS, hZ, hown, hC, hN, hn, hsf, hE, hWm, b1, b2, b3, b4, b5, b6⟩ := id W
  obtain ⟨T', X', e', st⟩ := castY X W.hx hZ hown w eT F (g := mkF m pc L (.ref a :: S)) rfl rfl (W.hd dd)
  obtain ⟨hd, rfl⟩ := dd
  exact WP.st (fun t q => st t q) (k T' (W.pack X' e' hN (Nat.le_refl _) (fun H => ⟨H, fun _ q => q⟩) (fun x hx => Or.inl hx)))
theorem k_instY (W : WS p l e R s m args below meth c Z a0 EL nw n0 y code maxL ret T h sf cells slots) {index : Nat} {K : String} {a : Addr} (dd : D code pc (.instanceof index) 3 pc') (w : (Cond.classLink y.cls index K).before a0 Z = true) (F : Ins Z h a K true)
    (k : ∀ T', WS p l e R s m args below meth c Z a0 EL nw n0 y code maxL ret T' h sf cells slots → WP p e below Φ T' (mkF m pc' L (.int 1 :: S))) : WP p e below Φ T (mkF m pc L (.ref a :: S)) := by
  obtain ⟨locs, X, eT, hS, hZ, hown, hC, hN, hn, hsf, hE, hWm, b1, b2, b3, b4, b5, b6⟩ := id W
  obtain ⟨T', X', e', st⟩ := instY X W.hx hZ hown w eT F (g := mkF m pc L (.ref a :: S)) rfl rfl (W.hd dd)
  obtain ⟨hd, rfl⟩ := dd
  exact WP.st (fun t q => st t q) (k T' (W.pack X' e' hN (Nat.le_refl _) (fun H => ⟨H, fun _ q => q⟩) (fun x hx => Or.inl hx)))

theorem nsRoot {O K : String} {n : Nat} (w : (Cond.noSuperclass O).before a0 Z = true) (wk : (Cond.instantiable K n).before a0 Z = true) (hn : O ≠ K) : NS Z O K := by
  obtain ⟨c, k, h1, h2, h3, -, -⟩ := Cond.noSuperclass_spec w
  obtain ⟨t, -, g1, -⟩ := Cond.instantiable_spec wk
  have ne := ids_ne h1 g1 hn
  refine ⟨c, t, h1, g1, fun fuel => ?_⟩
  cases fuel with
  | zero => rfl
  | succ f => simp [Vm.isSubclassAux, ne, h2, h3]
theorem nsNo {C S K : String} {n : Nat} (w : (Cond.superclass C S).before a0 Z = true) (wk : (Cond.instantiable K n).before a0 Z = true) (q : NS Z C K) (hn : C ≠ K) : ∃ c t, Z.vm.findClass C = some c ∧ Z.vm.findClass K = some t ∧ Z.vm.assignable c t = false := by
  obtain ⟨c, t, h0, g0, n3⟩ := q
  obtain ⟨p, k, kp, h1, h2, h3, h4, h5, -, h7⟩ := Cond.superclass_spec h0 w
  obtain ⟨t', k', g1, g2, g3, g4, -⟩ := Cond.instantiable_spec wk
  cases g0.symm.trans g1
  have g5 : k'.isInterface = false := by cases hh : k'.isInterface <;> simp [hh] at g4 ⊢
  have ne := ids_ne h0 g0 hn
  refine ⟨c, t, h0, g0, ?_⟩
  show Z.vm.assignableAux (255 + 1) c t = false
  simp [Vm.assignableAux, ne, h2, g2, h5, g3, g5, Vm.isSubclass, n3]
theorem k_instN (W : WS p l e R s m args below meth c Z a0 EL nw n0 y code maxL ret T h sf cells slots) {index : Nat} {K C : String} {a : Addr} (dd : D code pc (.instanceof index) 3 pc') (w : (Cond.classLink y.cls index K).before a0 Z = true) (E : Exa Z h a C) (F : ∃ c t, Z.vm.findClass C = some c ∧ Z.vm.findClass K = some t ∧ Z.vm.assignable c t = false)
    (k : ∀ T', WS p l e R s m args below meth c Z a0 EL nw n0 y code maxL ret T' h sf cells slots → WP p e below Φ T' (mkF m pc' L (.int 0 :: S))) : WP p e below Φ T (mkF m pc L (.ref a :: S)) := by
  obtain ⟨locs, X, eT, hS, hZ, hown, hC, hN, hn, hsf, hE, hWm, b1, b2, b3, b4, b5, b6⟩ := id W
  obtain ⟨T', X', e', st⟩ := instNo X W.hx hZ hown w eT E F (g := mkF m pc L (.ref a :: S)) rfl rfl (W.hd dd)
  obtain ⟨hd, rfl⟩ := dd
  exact WP.st (fun t q => st t q) (k T' (W.pack X' e' hN (Nat.le_refl _) (fun H => ⟨H, fun _ q => q⟩) (fun x hx => Or.inl hx)))
theorem k_instNull (W : WS p l e R s m args below meth c Z a0 EL nw n0 y code maxL ret T h sf cells slots) {index : Nat} (dd : D code pc (.instanceof index) 3 pc') (w : WP p e below Φ T (mkF m pc' L (.int 0 :: S))) : WP p e below Φ T (mkF m pc L (.null :: S)) := by
  obtain ⟨locs, X, eT, hS, hZ, hown, hC, hN, hn, hsf, hE, hWm, b1, b2, b3, b4, b5, b6⟩ := id W
  obtain ⟨hd, rfl⟩ := id dd
  exact WP.st (fun t q => X.instanceofNull W.hx (g := mkF m pc L (.null :: S)) rfl rfl (W.hd dd) _ q) w
theorem k_castNull (W : WS p l e R s m args below meth c Z a0 EL nw n0 y code maxL ret T h sf cells slots) {index : Nat} (dd : D code pc (.checkcast index) 3 pc') (w : WP p e below Φ T (mkF m pc' L (.null :: S))) : WP p e below Φ T (mkF m pc L (.null :: S)) := by
  obtain ⟨locs, X, eT, hS, hZ, hown, hC, hN, hn, hsf, hE, hWm, b1, b2, b3, b4, b5, b6⟩ := id W
  obtain ⟨hd, rfl⟩ := id dd
  exact WP.st (fun t q => X.checkcastNull W.hx (g := mkF m pc L (.null :: S)) rfl rfl (W.hd dd) _ q) w

theorem k_ldcI (W : WS p l e R s m args below meth c Z a0 EL nw n0 y code maxL ret T h sf cells slots) {index : Nat} {v : Int32} (dd : D code pc (.ldc index) 2 pc') (w : (Cond.constant y.cls index v).before a0 Z = true) (k : WP p e below Φ T (mkF m pc' L (.int v :: S))) : WP p e below Φ T (mkF m pc L (S)) := by
  obtain ⟨locs, X, eT, hS, hZ, hown, hC, hN, hn, hsf, hE, hWm, b1, b2, b3, b4, b5, b6⟩ := id W
  obtain ⟨hd, rfl⟩ := id dd
  exact WP.st (fun t q => Jvm.Stand.ldcI X W.hx hown (mv (s := s.setVm T.vm) hZ w) (g := mkF m pc L S) rfl (W.hd dd) q) k
theorem k_ldc2J (W : WS p l e R s m args below meth c Z a0 EL nw n0 y code maxL ret T h sf cells slots) {index : Nat} {v : Int64} (dd : D code pc (.ldc2_w index) 3 pc') (w : (Cond.constantLong y.cls index v).before a0 Z = true) (k : WP p e below Φ T (mkF m pc' L (.long v :: S))) : WP p e below Φ T (mkF m pc L (S)) := by
  obtain ⟨locs, X, eT, hS, hZ, hown, hC, hN, hn, hsf, hE, hWm, b1, b2, b3, b4, b5, b6⟩ := id W
  obtain ⟨hd, rfl⟩ := id dd
  exact WP.st (fun t q => Jvm.Stand.ldc2J X W.hx hown (mv (s := s.setVm T.vm) hZ w) (g := mkF m pc L S) rfl (W.hd dd) q) k

theorem k_initO (W : WS p l e R s m args below meth c Z a0 EL nw n0 y code maxL ret T h sf cells slots) {index : Nat} {a : Addr} (Wd : Nat) (dd : D code pc (.invokespecial index) 3 pc') (w1 : (Cond.methodLink y.cls index Lib.objectInit).before a0 Z = true) (w2 : (Cond.instanceMethod Lib.objectInit).before a0 Z = true) (w3 : (Cond.code Lib.objectInit ⟨#[0xb1]⟩ 1 none).before a0 Z = true)
    (hL : L.size = maxL) (hW : catS S ≤ Wd) (hf : 1 ≤ R.frames) (hl : Wd + 12 ≤ R.locals) (k : ∀ T', WS p l e R s m args below meth c Z a0 EL nw n0 y code maxL ret T' h sf cells slots → WP p e below Φ T' (mkF m pc' L (S))) : WP p e below Φ T (mkF m pc L (.ref a :: S)) := by
  obtain ⟨locs, X, eT, hS, hZ, hown, hC, hN, hn, hsf, hE, hWm, b1, b2, b3, b4, b5, b6⟩ := id W
  obtain ⟨T', X', e', st⟩ := initO X W.hx hZ hown w1 w2 w3 eT (g := mkF m pc L (.ref a :: S)) rfl (hL.trans b5.symm) rfl (W.hd dd) hf (W := Wd) (by show 2 * 0 + _ ≤ _; rw [Nat.mul_zero, Nat.zero_add]; exact hW) hl
  obtain ⟨hd, rfl⟩ := dd
  exact WP.st (fun t q => st t q) (k T' (W.pack X' e' hN (Nat.le_refl _) (fun H => ⟨H, fun _ q => q⟩) (fun x hx => Or.inl hx)))

theorem k_clone (W : WS p l e R s m args below meth c Z a0 EL nw n0 y code maxL ret T h sf cells slots) {index : Nat} {ad : String} {a : Addr} {vs : List Value} {ty : FieldType} (Wd n c' s' : Nat) (dd : D code pc (.invokevirtual index) 3 pc') (w1 : (Cond.methodLink y.cls index ⟨ad, "clone", "()Ljava/lang/Object;"⟩).before a0 Z = true) (w2 : (Cond.sameMethod ad "java/lang/Object" "clone" "()Ljava/lang/Object;").before a0 Z = true) (w3 : (Cond.native ⟨"java/lang/Object", "clone", "()Ljava/lang/Object;"⟩).before a0 Z = true)
    (w4 : (Cond.instanceMethod ⟨"java/lang/Object", "clone", "()Ljava/lang/Object;"⟩).before a0 Z = true) (w5 : (Cond.selects ad ⟨ad, "clone", "()Ljava/lang/Object;"⟩ ⟨"java/lang/Object", "clone", "()Ljava/lang/Object;"⟩).before a0 Z = true) (w6 : (Cond.castable ad "java/lang/Cloneable").before a0 Z = true) (F : Av Z h a ty vs) (E : Exa Z h a ad) (hn : vs.length ≤ n)
    (hL : L.size = maxL) (hW : catS S ≤ Wd) (hf : 1 ≤ R.frames) (hlo : Wd + 14 ≤ R.locals) (hc : cells + 1 = c' ∧ c' ≤ R.cells) (hl : slots + n = s' ∧ s' ≤ R.slots)
    (k : ∀ T' h' b, b = h.size → WS p l e R s m args below meth c Z a0 EL nw n0 y code maxL ret T' h' (b :: sf) c' s' → Ext h h' → Av Z h' b ty vs → Exa Z h' b ad → WP p e below Φ T' (mkF m pc' L (.ref b :: S))) : WP p e below Φ T (mkF m pc L (.ref a :: S)) := by
  obtain ⟨locs, X, eT, hS, hZ, hown, hC, hN, hn, hsf, hE, hWm, b1, b2, b3, b4, b5, b6⟩ := id W
  obtain ⟨rfl, hc⟩ := hc
  obtain ⟨rfl, hl⟩ := hl
  obtain ⟨cl, A, r1, r2, r3⟩ := id F
  have hsz : cl.slots.size = vs.length := by rw [← r1]; simp
  obtain ⟨T', h', X', e', Eh, B, E', st⟩ := cloneA X W.hx hZ hown w1 w2 w3 w4 w5 w6 eT A E (Av.fitc A r1 r3) (g := mkF m pc L (.ref a :: S)) rfl (hL.trans b5.symm) rfl (W.hd dd) hf (W := Wd) (cap := n) (by show 2 * 0 + _ ≤ _; rw [Nat.mul_zero, Nat.zero_add]; exact hW) hlo (by omega) hc hl
  obtain ⟨hd, rfl⟩ := dd
  exact WP.st (fun t q => st t q) (k T' h' _ rfl (W.pack X' e' hN Eh.1 (fun H => H.step fun _ _ _ q => Eh.2 _ _ q) (fun x hx => (List.mem_cons.mp hx).elim (fun q => Or.inr (by subst q; exact ⟨Nat.le_refl _, B.lt⟩)) Or.inl)) Eh ⟨_, B, r1, r2, r3⟩ E')

theorem k_acopy (W : WS p l e R s m args below meth c Z a0 EL nw n0 y code maxL ret T h sf cells slots) {index : Nat} {a b : Addr} {vs ud : List Value} {ty : FieldType} {sp dp nn : Int32} (Wd i j n : Nat) (dd : D code pc (.invokestatic index) 3 pc') (w1 : (Cond.methodLink y.cls index Jvm.Stand.acN).before a0 Z = true) (w2 : (Cond.native Jvm.Stand.acN).before a0 Z = true) (w3 : (Cond.static Jvm.Stand.acN).before a0 Z = true) (w4 : (Cond.initialized "java/lang/System").before a0 Z = true)
    (F : Av Z h a ty vs) (G : Av Z h b ty ud) (hty : refKind ty = false) (hb' : b ∈ sf) (h1 : Ix sp i) (h2 : Ix dp j) (h3 : Ix nn n) (h4 : i + n ≤ vs.length) (h5 : j + n ≤ ud.length)
    (hL : L.size = maxL) (hW : catS S ≤ Wd) (hf : 1 ≤ R.frames) (hlo : Wd + 18 ≤ R.locals)
    (k : ∀ T' h', WS p l e R s m args below meth c Z a0 EL nw n0 y code maxL ret T' h' sf cells slots → Keep h h' [b] → Av Z h' b ty (ud.take j ++ (vs.drop i).take n ++ ud.drop (j + n)) → WP p e below Φ T' (mkF m pc' L (S))) : WP p e below Φ T (mkF m pc L (.int nn :: .int dp :: .ref b :: .int sp :: .ref a :: S)) := by
  obtain ⟨locs, X, eT, hS, hZ, hown, hC, hN, hn, hsf, hE, hWm, b1, b2, b3, b4, b5, b6⟩ := id W
  obtain ⟨k1, A⟩ := F.arv (defaultValue ty)
  obtain ⟨k2, B⟩ := G.arv (defaultValue ty)
  have hx1 := ix_of F.len
  have hx2 := ix_of G.len
  have hus : (vs.drop i).take n = (List.range nn.toNatClampNeg).map fun q => vs.getD (sp.toNatClampNeg + q) (defaultValue ty) := by
    rw [h1.2, h3.2]
    apply List.ext_getElem?; intro q
    by_cases hq : q < n
    · rw [List.getElem?_take_of_lt hq, List.getElem?_drop, List.getElem?_map, List.getElem?_range hq]
      show _ = some (vs.getD (i + q) (defaultValue ty))
      rw [List.getD_eq_getElem?_getD, List.getElem?_eq_getElem (by omega)]; rfl
    · rw [List.getElem?_eq_none (by rw [List.length_take]; omega), List.getElem?_eq_none (by simp; omega)]
  obtain ⟨T', h', L', X', e', N', K', B', st⟩ := cpA X W.hx hZ hown w1 w2 w3 w4 eT A B (Or.inl ⟨rfl, hty⟩) h1.1 h2.1 h3.1 (by rw [h1.2, h3.2, hx1.2]; exact h4) (by rw [h2.2, h3.2, hx2.2]; exact h5) hus (by rw [h2.2, h3.2]; exact h5) hN (hsf b hb').1 (g := mkF m pc L (.int nn :: .int dp :: .ref b :: .int sp :: .ref a :: S)) rfl (hL.trans b5.symm) rfl (W.hd dd) hf (W := Wd) (by show 2 * 0 + _ ≤ _; rw [Nat.mul_zero, Nat.zero_add]; exact hW) hlo
  rw [h2.2, h3.2] at B'
  obtain ⟨hd, rfl⟩ := dd
  exact WP.st (fun t q => st t q) (k T' h' (W.pack X' e' N' K'.1 (fun H => H.step fun z hz c q => K'.2.1 z c q (fun u => (hsf b hb').2.2 ((List.mem_singleton.mp u) ▸ hz))) (fun x hx => Or.inl hx)) K' (Av.of_arv B' (by rw [hx2.2]; simp; omega)))

theorem k_ldcO (W : WS p l e R s m args below meth c Z a0 EL nw n0 y code maxL ret T h sf cells slots) {index : Nat} {text : String} (n c' s' : Nat) (hnw : nw = false) (dd : D code pc (.ldc index) 2 pc') (w : (Cond.stringLink y.cls index text).before a0 Z = true) (wS : ∀ a ∈ Bundle.stringAtoms, a.before a0 Z = true) (hn1 : 4 * text.toList.length ≤ n ∧ n ≤ 536870912) (hc : cells + 2 = c' ∧ c' ≤ R.cells) (hl : slots + (n + 4) = s' ∧ s' ≤ R.slots)
    (k : ∀ T' h' a, WS p l e R s m args below meth c Z a0 EL nw n0 y code maxL ret T' h' sf c' s' → Ext h h' → WP p e below Φ T' (mkF m pc' L (.ref a :: S))) : WP p e below Φ T (mkF m pc L (S)) := by
  obtain ⟨locs, X, eT, hS, hZ, hown, hC, hN, hn, hsf, hE, hWm, b1, b2, b3, b4, b5, b6⟩ := id W
  obtain ⟨rfl, hc⟩ := hc
  obtain ⟨rfl, hl⟩ := hl
  obtain ⟨a, T', h', k1, X', e', E, hS', hk', hW', hown', hC', -, st⟩ := ldcOH (EL := EL) X W.hx hZ hown w wS eT hS (Nat.le_refl _) hE hC.1 (g := mkF m pc L S) rfl (W.hd dd) hn1.1 hn1.2 hc hl
  obtain ⟨hd, rfl⟩ := dd
  refine WP.st (fun t q => st t q) (k T' h' a ⟨locs, X', e', ⟨hS'.1, fun j p u v => ⟨(hS'.2 j p u v).1, Nat.lt_of_lt_of_le (hS'.2 j p u v).2 hk'⟩⟩, hW', hown', hC.trans hC', hN, Nat.le_trans hn E.1, fun x hx => ?_, hE, fun u => by (rw [hnw] at u; cases u), b1, b2, b3, b4, b5, b6⟩ E)
  obtain ⟨g1, g2, g3⟩ := hsf x hx
  exact ⟨g1, Nat.lt_of_lt_of_le g2 E.1, hC'.safe g2 g3⟩
theorem k_ldcS (W : WS p l e R s m args below meth c Z a0 EL nw n0 y code maxL ret T h sf cells slots) {index : Nat} {text : String} (bs : List Int32) (n c' s' : Nat) (hnw : nw = false) (dd : D code pc (.ldc index) 2 pc') (w : (Cond.stringLink y.cls index text).before a0 Z = true) (wS : ∀ a ∈ Bundle.stringAtoms, a.before a0 Z = true) (hmem : (y.cls, index) ∈ EL)
    (ht : (∀ c ∈ text.toList, c.toNat < 256) ∧ text.toList.map (fun c => Value.int (Jvm.Lit.byteI c.toNat.toUInt16)) = bs.map Value.int) (hlen : bs.length < 2147483648) (hn1 : 4 * text.toList.length ≤ n ∧ n ≤ 536870912) (hc : cells + 2 = c' ∧ c' ≤ R.cells) (hl : slots + (n + 4) = s' ∧ s' ≤ R.slots)
    (k : ∀ T' h' a b, WS p l e R s m args below meth c Z a0 EL nw n0 y code maxL ret T' h' sf c' s' → Ext h h' → St Z h' a b bs → (∀ x ∈ sf, x ≠ a ∧ x ≠ b) → WP p e below Φ T' (mkF m pc' L (.ref a :: S))) : WP p e below Φ T (mkF m pc L (S)) := by
  obtain ⟨locs, X, eT, hS, hZ, hown, hC, hN, hn, hsf, hE, hWm, b1, b2, b3, b4, b5, b6⟩ := id W
  obtain ⟨rfl, hc⟩ := hc
  obtain ⟨rfl, hl⟩ := hl
  have hzz : (Int32.ofNat bs.length).toNatClampNeg = (bs.map Value.int).length := by
    rw [List.length_map]; unfold Int32.toNatClampNeg; rw [Int32.toInt_ofNat_of_lt (by simpa using hlen)]; rfl
  have hz0 : ¬ Int32.ofNat bs.length < 0 := by
    rw [Int32.lt_iff_toInt_lt, Int32.toInt_ofNat_of_lt (by simpa using hlen)]; simp
  obtain ⟨a, T', h', k1, b, kk, X', e', E, hS', hk', hW', hown', G1, G2, G3, G4, -, -, hC', -, hne, st⟩ := ldcCH (EL := EL) X W.hx hZ hown w wS eT hS (Nat.le_refl _) hE hmem hC.1 (vs := bs.map Value.int) (z := Int32.ofNat bs.length) ht hz0 hzz (g := mkF m pc L S) rfl (W.hd dd) hn1.1 hn1.2 hc hl
  obtain ⟨hd, rfl⟩ := dd
  have hsf' : ∀ x ∈ sf, n0 ≤ x ∧ x < h'.size ∧ Safe Z EL T'.vm h' x := fun x hx => by
    obtain ⟨g1, g2, g3⟩ := hsf x hx
    exact ⟨g1, Nat.lt_of_lt_of_le g2 E.1, hC'.safe g2 g3⟩
  exact WP.st (fun t q => st t q) (k T' h' a b ⟨locs, X', e', ⟨hS'.1, fun j p u v => ⟨(hS'.2 j p u v).1, Nat.lt_of_lt_of_le (hS'.2 j p u v).2 hk'⟩⟩, hW', hown', hC.trans hC', hN, Nat.le_trans hn E.1, hsf', hE, fun u => by (rw [hnw] at u; cases u), b1, b2, b3, b4, b5, b6⟩ E ⟨G1, G2, G3, Av.of_arv G4 hzz⟩ (fun x hx => hne x (hsf' x hx).2.2))
end Steps

/-! ## calls by contract -/
section Calls
variable {p : Program} {l : Launch} {e : Env} {R : Room} {s : State} {m : MethodId} {args : Array Value} {below : List Frame} {meth : Method} {c : Code} {Z : State} {EL : List (String × Nat)} {nw : Bool} {n0 : Nat} {y : MethodName} {code : ByteArray} {maxL : Nat} {ret : Option FieldType} {T : State} {h : Heap} {sf : List Addr} {cells slots : Nat} {Φ : Outcome → State → Prop} {a0 : Array Value} {pc pc' : Nat} {L : Array Slot} {S : List Value}
theorem backCt {z : MethodName} {bytes : ByteArray} {mL : Nat} {rt : Option FieldType} {rm : Room} {as' : Array Value} {sfc : List Addr} {Q : Option Value → Heap → List Addr → Prop} {len Wd : Nat} {vm0 : Vm}
    (hM : Ct l Z a0 EL nw z bytes mL rt rm as' h sfc n0 Q) (hZ : Z.Warmed39 vm0) (wc : (Cond.code z bytes mL rt).before a0 Z = true) (wz : (Cond.initialized z.cls).before a0 Z = true) (hf : rm.frames + 1 ≤ R.frames) (hl : Wd + (mL + 11) + rm.locals ≤ R.locals) (hE : EW Z a0 EL) (hn : n0 ≤ h.size) (H : CHv Z EL vm0 h) (hsf : ∀ x ∈ sfc, n0 ≤ x ∧ x < h.size ∧ Safe Z EL vm0 h x) :
    BackS l R p e below (s.setVm vm0) args z len Wd (fun A a => a = as' ∧ A.U.heap = h ∧ A.cells + rm.cells ≤ R.cells ∧ A.slots + rm.slots ≤ R.slots)
      (fun A _ v B => ∃ L so, Q v B.U.heap so ∧ Fr n0 L ∧ B.locs = A.locs ++ L ∧ B.cells = A.cells + rm.cells ∧ B.slots = A.slots + rm.slots ∧ CHr Z EL vm0 h B.U.vm B.U.heap ∧ (nw = true → (s.setVm vm0).WarmedH B.U.vm) ∧ ∀ x ∈ so, n0 ≤ x ∧ x < B.U.heap.size ∧ Safe Z EL B.U.vm B.U.heap x) := by
  refine BackS.of_freeW (bytes := bytes) (maxL := mL) (ret := rt) (E := fun _ first o t L k n => k = rm.cells ∧ n = rm.slots ∧ ∃ v so, o = .returned v ∧ Q v t.heap so ∧ Fr n0 L ∧ CHr Z EL first.vm first.heap t.vm t.heap ∧ (nw = true → first.WarmedH t.vm) ∧ ∀ x ∈ so, n0 ≤ x ∧ x < t.heap.size ∧ Safe Z EL t.vm t.heap x) (hM []) hf hl ?_ ?_ (fun _ _ _ _ _ _ _ _ _ => trivial) ?_ ?_
  · intro m meth c A a Y hp
    have hU : Z.Warmed39 A.U.vm := wtrans (s := s.setVm vm0) hZ Y.warmed
    exact ⟨by show (Cond.and _ .tt).before a A.U = true; rw [Cond.before_and, mv hU wc]; rfl, mv hU wc, mv hU wz, hp.2.2.1, hp.2.2.2⟩
  · intro m meth c A a g mk Y hp
    have C := CHv.at Y hZ hE H
    refine ⟨hp.1, wtrans (s := s.setVm vm0) hZ Y.warmed, hp.2.1, C.1, hn, hE, fun x hx => ?_⟩
    obtain ⟨q1, q2, q3⟩ := hsf x hx
    exact ⟨q1, q2, C.safe q2 q3⟩
  · rintro a first o t ⟨v, L, so, q1, q2, q3, q4, q5, qw, q6⟩
    exact ⟨L, _, _, q6, rfl, rfl, v, so, q1, q2, q3, q4, qw, q5⟩
  · rintro m meth c A a g mk v t L k n Y hp - - ⟨rfl, rfl, v', so, q1, q2, q3, q4, qw, q5⟩
    cases q1
    refine ⟨L, so, q2, q3, rfl, rfl, rfl, (CHv.at Y hZ hE H).trans ?_, fun u => State.WarmedH.trans Y.warmed (qw u), q5⟩
    rw [← hp.2.1]; exact q4

theorem k_callS (W : WS p l e R s m args below meth c Z a0 EL nw n0 y code maxL ret T h sf cells slots) {z : MethodName} {bytes : ByteArray} {mL : Nat} {rt : Option FieldType} {rm : Room} {sfc : List Addr} {Q : Option Value → Heap → List Addr → Prop} (Wd c' s' : Nat) {argsL rest : List Value} {index : Nat} (dd : D code pc (.invokestatic index) 3 pc') (w1 : (Cond.methodLink y.cls index z).before a0 Z = true) (w2 : (Cond.static z).before a0 Z = true) (hy : z.cls ≠ "java/lang/invoke/MethodHandle" ∧ z.cls ≠ "java/lang/invoke/VarHandle") (hlen : ∀ sig, parseMethodDescriptor z.desc = some sig → argsL.length = sig.parameters.length) (hC : Ct l Z a0 EL nw z bytes mL rt rm argsL.toArray h sfc n0 Q) (w4 : (Cond.code z bytes mL rt).before a0 Z = true) (w3 : (Cond.initialized z.cls).before a0 Z = true) (hsfc : ∀ x ∈ sfc, x ∈ sf) (hL : L.size = maxL) (hW : catS rest ≤ Wd) (hf : rm.frames + 1 ≤ R.frames) (hl : Wd + (mL + 11) + rm.locals ≤ R.locals) (hc : cells + rm.cells = c' ∧ c' ≤ R.cells) (hs : slots + rm.slots = s' ∧ s' ≤ R.slots) (hst : S = argsL.reverse ++ rest) (hnv : ∀ h so, ¬ Q none h so)
    (k : ∀ T' h' (v : Value) so, WS p l e R s m args below meth c Z a0 EL nw n0 y code maxL ret T' h' sf c' s' → Q (some v) h' so → WP p e below Φ T' (mkF m pc' L (v :: rest))) : WP p e below Φ T (mkF m pc L S) := by
  obtain ⟨locs, X, eT, hS, hZ, hown, hC0, hN, hn, hsf, hE, hWm, b1, b2, b3, b4, b5, b6⟩ := id W
  obtain ⟨rfl, hc⟩ := hc
  obtain ⟨rfl, hs⟩ := hs
  have hB := backCt (R := R) (p := p) (e := e) (below := below) (s := s) (args := args) (len := 3) (Wd := Wd) hC hZ w4 w3 hf hl hE hn hC0.1 (fun x hx => hsf x (hsfc x hx))
  obtain ⟨v, vm₁, ⟨U', L', c1, s1⟩, -, X', hS', hg, hpost, st⟩ := callSS X W.hx hown (mvT (s := s.setVm T.vm) hZ w1) (mvT (s := s.setVm T.vm) hZ w2) (mvT (s := s.setVm T.vm) hZ w3) (mvT (s := s.setVm T.vm) hZ w4) hy hB (g := mkF m pc L S) rfl (hL.trans b5.symm) (argsL := argsL) (rest := rest) hlen hst (by show 2 * 0 + _ ≤ _; rw [Nat.mul_zero, Nat.zero_add]; exact hW) (W.hd dd) (fun vm₁ _ => ⟨rfl, eT, hc, hs⟩)
  obtain ⟨L1, so, q1, q2, q3, q4, q5, q6, qw, q7⟩ := hpost
  dsimp only [Pt.U, Pt.locs, Pt.cells, Pt.slots] at X' hS' hg q1 q2 q3 q4 q5 q6 qw q7 st
  subst q3 q4 q5
  obtain ⟨hd, rfl⟩ := dd
  have WW : WS p l e R s m args below meth c Z a0 EL nw n0 y code maxL ret U' U'.heap (so ++ sf) (cells + rm.cells) (slots + rm.slots) := by
    refine ⟨_, X', rfl, hS.trans hS' (by rw [← eT]; exact hg), State.Warmed39.trans (t := s.setVm T.vm) hZ hS'.1, by rw [hS'.1.alike.findClass]; exact hown, hC0.trans q6, hN.app q2, Nat.le_trans hn (by rw [← eT]; exact hg), fun x hx => ?_, hE, fun u => State.WarmedH.trans (t := s.setVm T.vm) (hWm u) (qw u), b1, b2, b3, b4, b5, b6⟩
    rcases List.mem_append.mp hx with u | u
    · exact q7 x u
    · obtain ⟨g1, g2, g3⟩ := hsf x u
      exact ⟨g1, Nat.lt_of_lt_of_le g2 (by rw [← eT]; exact hg), q6.safe g2 g3⟩
  cases v with
  | none => exact absurd q1 (hnv _ _)
  | some v =>
  refine WP.steps st (k _ _ v so (WS.mono (sf' := sf) WW (Nat.le_refl _) (Nat.le_refl _) (fun x hx => List.mem_append_right _ hx)) q1)

theorem k_callS0 (W : WS p l e R s m args below meth c Z a0 EL nw n0 y code maxL ret T h sf cells slots) {z : MethodName} {bytes : ByteArray} {mL : Nat} {rt : Option FieldType} {rm : Room} {sfc : List Addr} {Q : Option Value → Heap → List Addr → Prop} (Wd c' s' : Nat) {argsL rest : List Value} {index : Nat} (dd : D code pc (.invokestatic index) 3 pc') (w1 : (Cond.methodLink y.cls index z).before a0 Z = true) (w2 : (Cond.static z).before a0 Z = true) (hy : z.cls ≠ "java/lang/invoke/MethodHandle" ∧ z.cls ≠ "java/lang/invoke/VarHandle") (hlen : ∀ sig, parseMethodDescriptor z.desc = some sig → argsL.length = sig.parameters.length) (hC : Ct l Z a0 EL nw z bytes mL rt rm argsL.toArray h sfc n0 Q) (w4 : (Cond.code z bytes mL rt).before a0 Z = true) (w3 : (Cond.initialized z.cls).before a0 Z = true) (hsfc : ∀ x ∈ sfc, x ∈ sf) (hL : L.size = maxL) (hW : catS rest ≤ Wd) (hf : rm.frames + 1 ≤ R.frames) (hl : Wd + (mL + 11) + rm.locals ≤ R.locals) (hc : cells + rm.cells = c' ∧ c' ≤ R.cells) (hs : slots + rm.slots = s' ∧ s' ≤ R.slots) (hst : S = argsL.reverse ++ rest) (hnv : ∀ v h so, ¬ Q (some v) h so)
    (k : ∀ T' h'  so, WS p l e R s m args below meth c Z a0 EL nw n0 y code maxL ret T' h' sf c' s' → Q none h' so → WP p e below Φ T' (mkF m pc' L rest)) : WP p e below Φ T (mkF m pc L S) := by
  obtain ⟨locs, X, eT, hS, hZ, hown, hC0, hN, hn, hsf, hE, hWm, b1, b2, b3, b4, b5, b6⟩ := id W
  obtain ⟨rfl, hc⟩ := hc
  obtain ⟨rfl, hs⟩ := hs
  have hB := backCt (R := R) (p := p) (e := e) (below := below) (s := s) (args := args) (len := 3) (Wd := Wd) hC hZ w4 w3 hf hl hE hn hC0.1 (fun x hx => hsf x (hsfc x hx))
  obtain ⟨v, vm₁, ⟨U', L', c1, s1⟩, -, X', hS', hg, hpost, st⟩ := callSS X W.hx hown (mvT (s := s.setVm T.vm) hZ w1) (mvT (s := s.setVm T.vm) hZ w2) (mvT (s := s.setVm T.vm) hZ w3) (mvT (s := s.setVm T.vm) hZ w4) hy hB (g := mkF m pc L S) rfl (hL.trans b5.symm) (argsL := argsL) (rest := rest) hlen hst (by show 2 * 0 + _ ≤ _; rw [Nat.mul_zero, Nat.zero_add]; exact hW) (W.hd dd) (fun vm₁ _ => ⟨rfl, eT, hc, hs⟩)
  obtain ⟨L1, so, q1, q2, q3, q4, q5, q6, qw, q7⟩ := hpost
  dsimp only [Pt.U, Pt.locs, Pt.cells, Pt.slots] at X' hS' hg q1 q2 q3 q4 q5 q6 qw q7 st
  subst q3 q4 q5
  obtain ⟨hd, rfl⟩ := dd
  have WW : WS p l e R s m args below meth c Z a0 EL nw n0 y code maxL ret U' U'.heap (so ++ sf) (cells + rm.cells) (slots + rm.slots) := by
    refine ⟨_, X', rfl, hS.trans hS' (by rw [← eT]; exact hg), State.Warmed39.trans (t := s.setVm T.vm) hZ hS'.1, by rw [hS'.1.alike.findClass]; exact hown, hC0.trans q6, hN.app q2, Nat.le_trans hn (by rw [← eT]; exact hg), fun x hx => ?_, hE, fun u => State.WarmedH.trans (t := s.setVm T.vm) (hWm u) (qw u), b1, b2, b3, b4, b5, b6⟩
    rcases List.mem_append.mp hx with u | u
    · exact q7 x u
    · obtain ⟨g1, g2, g3⟩ := hsf x u
      exact ⟨g1, Nat.lt_of_lt_of_le g2 (by rw [← eT]; exact hg), q6.safe g2 g3⟩
  cases v with
  | some v => exact absurd q1 (hnv _ _ _)
  | none =>
  refine WP.steps st (k _ _ so (WS.mono (sf' := sf) WW (Nat.le_refl _) (Nat.le_refl _) (fun x hx => List.mem_append_right _ hx)) q1)

theorem k_callSn (W : WS p l e R s m args below meth c Z a0 EL nw n0 y code maxL ret T h sf cells slots) {z : MethodName} {bytes : ByteArray} {mL : Nat} {rt : Option FieldType} {rm : Room} {sfc : List Addr} {Q : Option Value → Heap → List Addr → Prop} (Wd c' s' : Nat) {argsL rest : List Value} {index : Nat} (dd : D code pc (.invokestatic index) 3 pc') (w1 : (Cond.methodLink y.cls index z).before a0 Z = true) (w2 : (Cond.static z).before a0 Z = true) (hy : z.cls ≠ "java/lang/invoke/MethodHandle" ∧ z.cls ≠ "java/lang/invoke/VarHandle") (hlen : ∀ sig, parseMethodDescriptor z.desc = some sig → argsL.length = sig.parameters.length) (hC : Ct l Z a0 EL nw z bytes mL rt rm argsL.toArray h sfc n0 Q) (w4 : (Cond.code z bytes mL rt).before a0 Z = true) (w3 : (Cond.initialized z.cls).before a0 Z = true) (hsfc : ∀ x ∈ sfc, x ∈ sf) (hL : L.size = maxL) (hW : catS rest ≤ Wd) (hf : rm.frames + 1 ≤ R.frames) (hl : Wd + (mL + 11) + rm.locals ≤ R.locals) (hc : cells + rm.cells = c' ∧ c' ≤ R.cells) (hs : slots + rm.slots = s' ∧ s' ≤ R.slots) (hst : S = argsL.reverse ++ rest) (hnv : ∀ h so, ¬ Q none h so)
    (k : ∀ T' h' (v : Value) so, WS p l e R s m args below meth c Z a0 EL nw n0 y code maxL ret T' h' (so ++ sf) c' s' → Q (some v) h' so → WP p e below Φ T' (mkF m pc' L (v :: rest))) : WP p e below Φ T (mkF m pc L S) := by
  obtain ⟨locs, X, eT, hS, hZ, hown, hC0, hN, hn, hsf, hE, hWm, b1, b2, b3, b4, b5, b6⟩ := id W
  obtain ⟨rfl, hc⟩ := hc
  obtain ⟨rfl, hs⟩ := hs
  have hB := backCt (R := R) (p := p) (e := e) (below := below) (s := s) (args := args) (len := 3) (Wd := Wd) hC hZ w4 w3 hf hl hE hn hC0.1 (fun x hx => hsf x (hsfc x hx))
  obtain ⟨v, vm₁, ⟨U', L', c1, s1⟩, -, X', hS', hg, hpost, st⟩ := callSS X W.hx hown (mvT (s := s.setVm T.vm) hZ w1) (mvT (s := s.setVm T.vm) hZ w2) (mvT (s := s.setVm T.vm) hZ w3) (mvT (s := s.setVm T.vm) hZ w4) hy hB (g := mkF m pc L S) rfl (hL.trans b5.symm) (argsL := argsL) (rest := rest) hlen hst (by show 2 * 0 + _ ≤ _; rw [Nat.mul_zero, Nat.zero_add]; exact hW) (W.hd dd) (fun vm₁ _ => ⟨rfl, eT, hc, hs⟩)
  obtain ⟨L1, so, q1, q2, q3, q4, q5, q6, qw, q7⟩ := hpost
  dsimp only [Pt.U, Pt.locs, Pt.cells, Pt.slots] at X' hS' hg q1 q2 q3 q4 q5 q6 qw q7 st
  subst q3 q4 q5
  obtain ⟨hd, rfl⟩ := dd
  have WW : WS p l e R s m args below meth c Z a0 EL nw n0 y code maxL ret U' U'.heap (so ++ sf) (cells + rm.cells) (slots + rm.slots) := by
    refine ⟨_, X', rfl, hS.trans hS' (by rw [← eT]; exact hg), State.Warmed39.trans (t := s.setVm T.vm) hZ hS'.1, by rw [hS'.1.alike.findClass]; exact hown, hC0.trans q6, hN.app q2, Nat.le_trans hn (by rw [← eT]; exact hg), fun x hx => ?_, hE, fun u => State.WarmedH.trans (t := s.setVm T.vm) (hWm u) (qw u), b1, b2, b3, b4, b5, b6⟩
    rcases List.mem_append.mp hx with u | u
    · exact q7 x u
    · obtain ⟨g1, g2, g3⟩ := hsf x u
      exact ⟨g1, Nat.lt_of_lt_of_le g2 (by rw [← eT]; exact hg), q6.safe g2 g3⟩
  cases v with
  | none => exact absurd q1 (hnv _ _)
  | some v =>
  refine WP.steps st (k _ _ v so WW q1)

theorem k_callI0 (W : WS p l e R s m args below meth c Z a0 EL nw n0 y code maxL ret T h sf cells slots) {z : MethodName} {bytes : ByteArray} {mL : Nat} {rt : Option FieldType} {rm : Room} {sfc : List Addr} {Q : Option Value → Heap → List Addr → Prop} (Wd c' s' : Nat) {argsL rest : List Value} {index : Nat} {a : Addr} (dd : D code pc (.invokespecial index) 3 pc') (hrt : rt = none) (hz : z.name = "<init>") (w1 : (Cond.methodLink y.cls index z).before a0 Z = true) (w2 : (Cond.instanceMethod z).before a0 Z = true) (hy : z.cls ≠ "java/lang/invoke/MethodHandle" ∧ z.cls ≠ "java/lang/invoke/VarHandle") (hlen : ∀ sig, parseMethodDescriptor z.desc = some sig → argsL.length = sig.parameters.length) (hC : Ct l Z a0 EL nw z bytes mL rt rm (.ref a :: argsL).toArray h sfc n0 Q) (w4 : (Cond.code z bytes mL rt).before a0 Z = true) (w3 : (Cond.initialized z.cls).before a0 Z = true) (hsfc : ∀ x ∈ sfc, x ∈ sf) (hL : L.size = maxL) (hW : catS rest ≤ Wd) (hf : rm.frames + 1 ≤ R.frames) (hl : Wd + (mL + 11) + rm.locals ≤ R.locals) (hc : cells + rm.cells = c' ∧ c' ≤ R.cells) (hs : slots + rm.slots = s' ∧ s' ≤ R.slots) (hst : S = argsL.reverse ++ .ref a :: rest) (hnv : ∀ v h so, ¬ Q (some v) h so)
    (k : ∀ T' h'  so, WS p l e R s m args below meth c Z a0 EL nw n0 y code maxL ret T' h' sf c' s' → Q none h' so → WP p e below Φ T' (mkF m pc' L rest)) : WP p e below Φ T (mkF m pc L S) := by
  obtain ⟨locs, X, eT, hS, hZ, hown, hC0, hN, hn, hsf, hE, hWm, b1, b2, b3, b4, b5, b6⟩ := id W
  obtain ⟨rfl, hc⟩ := hc
  obtain ⟨rfl, hs⟩ := hs
  have hB := backCt (R := R) (p := p) (e := e) (below := below) (s := s) (args := args) (len := 3) (Wd := Wd) hC hZ w4 w3 hf hl hE hn hC0.1 (fun x hx => hsf x (hsfc x hx))
  subst hrt
  obtain ⟨v, vm₁, ⟨U', L', c1, s1⟩, -, X', hS', hg, hpost, st⟩ := X.specialBackS W.hx (y := z) hz hown (mvT (s := s.setVm T.vm) hZ w1) (mvT (s := s.setVm T.vm) hZ w2) (mvT (s := s.setVm T.vm) hZ w4) hy hB (g := mkF m pc L S) rfl (hL.trans b5.symm) (Steps.refl _) (a := a) (argsL := argsL) (rest := rest) hlen hst (by show 2 * 0 + _ ≤ _; rw [Nat.mul_zero, Nat.zero_add]; exact hW) (W.hd dd) (fun vm₁ _ => ⟨rfl, eT, hc, hs⟩)
  obtain ⟨L1, so, q1, q2, q3, q4, q5, q6, qw, q7⟩ := hpost
  dsimp only [Pt.U, Pt.locs, Pt.cells, Pt.slots] at X' hS' hg q1 q2 q3 q4 q5 q6 qw q7 st
  subst q3 q4 q5
  obtain ⟨hd, rfl⟩ := dd
  have WW : WS p l e R s m args below meth c Z a0 EL nw n0 y code maxL ret U' U'.heap (so ++ sf) (cells + rm.cells) (slots + rm.slots) := by
    refine ⟨_, X', rfl, hS.trans hS' (by rw [← eT]; exact hg), State.Warmed39.trans (t := s.setVm T.vm) hZ hS'.1, by rw [hS'.1.alike.findClass]; exact hown, hC0.trans q6, hN.app q2, Nat.le_trans hn (by rw [← eT]; exact hg), fun x hx => ?_, hE, fun u => State.WarmedH.trans (t := s.setVm T.vm) (hWm u) (qw u), b1, b2, b3, b4, b5, b6⟩
    rcases List.mem_append.mp hx with u | u
    · exact q7 x u
    · obtain ⟨g1, g2, g3⟩ := hsf x u
      exact ⟨g1, Nat.lt_of_lt_of_le g2 (by rw [← eT]; exact hg), q6.safe g2 g3⟩
  cases v with
  | some v => exact absurd q1 (hnv _ _ _)
  | none =>
  refine WP.steps st (k _ _ so (WS.mono (sf' := sf) WW (Nat.le_refl _) (Nat.le_refl _) (fun x hx => List.mem_append_right _ hx)) q1)

theorem k_callV (W : WS p l e R s m args below meth c Z a0 EL nw n0 y code maxL ret T h sf cells slots) {z : MethodName} {bytes : ByteArray} {mL : Nat} {rt : Option FieldType} {rm : Room} {sfc : List Addr} {Q : Option Value → Heap → List Addr → Prop} (Wd c' s' : Nat) {argsL rest : List Value} {index : Nat} {a : Addr} {C : String} {z0 : MethodName} (dd : D code pc (.invokevirtual index) 3 pc') (w1 : (Cond.methodLink y.cls index z0).before a0 Z = true) (w2 : (Cond.declares z0).before a0 Z = true) (nf : ∀ s' : State, Z.Warmed39 s'.vm → NotFace s' z0) (w5 : (Cond.selects C z0 z).before a0 Z = true) (w6 : (Cond.instanceMethod z).before a0 Z = true) (hy : z0.cls ≠ "java/lang/invoke/MethodHandle" ∧ z0.cls ≠ "java/lang/invoke/VarHandle") (hlen : ∀ sig, parseMethodDescriptor z0.desc = some sig → argsL.length = sig.parameters.length) (E : Exa Z h a C) (hC : Ct l Z a0 EL nw z bytes mL rt rm (.ref a :: argsL).toArray h sfc n0 Q) (w4 : (Cond.code z bytes mL rt).before a0 Z = true) (w3 : (Cond.initialized z.cls).before a0 Z = true) (hsfc : ∀ x ∈ sfc, x ∈ sf) (hL : L.size = maxL) (hW : catS rest ≤ Wd) (hf : rm.frames + 1 ≤ R.frames) (hl : Wd + (mL + 11) + rm.locals ≤ R.locals) (hc : cells + rm.cells = c' ∧ c' ≤ R.cells) (hs : slots + rm.slots = s' ∧ s' ≤ R.slots) (hst : S = argsL.reverse ++ .ref a :: rest) (hnv : ∀ h so, ¬ Q none h so)
    (k : ∀ T' h' (v : Value) so, WS p l e R s m args below meth c Z a0 EL nw n0 y code maxL ret T' h' sf c' s' → Q (some v) h' so → WP p e below Φ T' (mkF m pc' L (v :: rest))) : WP p e below Φ T (mkF m pc L S) := by
  obtain ⟨locs, X, eT, hS, hZ, hown, hC0, hN, hn, hsf, hE, hWm, b1, b2, b3, b4, b5, b6⟩ := id W
  obtain ⟨rfl, hc⟩ := hc
  obtain ⟨rfl, hs⟩ := hs
  have hB := backCt (R := R) (p := p) (e := e) (below := below) (s := s) (args := args) (len := 3) (Wd := Wd) hC hZ w4 w3 hf hl hE hn hC0.1 (fun x hx => hsf x (hsfc x hx))
  obtain ⟨cq, kq, qa, qb, qc⟩ := isOf (s := s.setVm T.vm) hZ eT E
  obtain ⟨v, vm₁, ⟨U', L', c1, s1⟩, -, X', hS', hg, hpost, st⟩ := X.virtualBackS W.hx (y := z0) (z := z) hown (mvT (s := s.setVm T.vm) hZ w1) (mvT (s := s.setVm T.vm) hZ w2) (nf (s.setVm T.vm) hZ) (mvT (s := s.setVm T.vm) hZ w5) (mvT (s := s.setVm T.vm) hZ w6) hy hB qa qc (g := mkF m pc L S) rfl (hL.trans b5.symm) (Steps.refl _) (argsL := argsL) (rest := rest) hlen hst (by show 2 * 0 + _ ≤ _; rw [Nat.mul_zero, Nat.zero_add]; exact hW) (W.hd dd) (fun vm₁ _ => ⟨rfl, eT, hc, hs⟩)
  obtain ⟨L1, so, q1, q2, q3, q4, q5, q6, qw, q7⟩ := hpost
  dsimp only [Pt.U, Pt.locs, Pt.cells, Pt.slots] at X' hS' hg q1 q2 q3 q4 q5 q6 qw q7 st
  subst q3 q4 q5
  obtain ⟨hd, rfl⟩ := dd
  have WW : WS p l e R s m args below meth c Z a0 EL nw n0 y code maxL ret U' U'.heap (so ++ sf) (cells + rm.cells) (slots + rm.slots) := by
    refine ⟨_, X', rfl, hS.trans hS' (by rw [← eT]; exact hg), State.Warmed39.trans (t := s.setVm T.vm) hZ hS'.1, by rw [hS'.1.alike.findClass]; exact hown, hC0.trans q6, hN.app q2, Nat.le_trans hn (by rw [← eT]; exact hg), fun x hx => ?_, hE, fun u => State.WarmedH.trans (t := s.setVm T.vm) (hWm u) (qw u), b1, b2, b3, b4, b5, b6⟩
    rcases List.mem_append.mp hx with u | u
    · exact q7 x u
    · obtain ⟨g1, g2, g3⟩ := hsf x u
      exact ⟨g1, Nat.lt_of_lt_of_le g2 (by rw [← eT]; exact hg), q6.safe g2 g3⟩
  cases v with
  | none => exact absurd q1 (hnv _ _)
  | some v =>
  refine WP.steps st (k _ _ v so (WS.mono (sf' := sf) WW (Nat.le_refl _) (Nat.le_refl _) (fun x hx => List.mem_append_right _ hx)) q1)

theorem k_callV0 (W : WS p l e R s m args below meth c Z a0 EL nw n0 y code maxL ret T h sf cells slots) {z : MethodName} {bytes : ByteArray} {mL : Nat} {rt : Option FieldType} {rm : Room} {sfc : List Addr} {Q : Option Value → Heap → List Addr → Prop} (Wd c' s' : Nat) {argsL rest : List Value} {index : Nat} {a : Addr} {C : String} {z0 : MethodName} (dd : D code pc (.invokevirtual index) 3 pc') (w1 : (Cond.methodLink y.cls index z0).before a0 Z = true) (w2 : (Cond.declares z0).before a0 Z = true) (nf : ∀ s' : State, Z.Warmed39 s'.vm → NotFace s' z0) (w5 : (Cond.selects C z0 z).before a0 Z = true) (w6 : (Cond.instanceMethod z).before a0 Z = true) (hy : z0.cls ≠ "java/lang/invoke/MethodHandle" ∧ z0.cls ≠ "java/lang/invoke/VarHandle") (hlen : ∀ sig, parseMethodDescriptor z0.desc = some sig → argsL.length = sig.parameters.length) (E : Exa Z h a C) (hC : Ct l Z a0 EL nw z bytes mL rt rm (.ref a :: argsL).toArray h sfc n0 Q) (w4 : (Cond.code z bytes mL rt).before a0 Z = true) (w3 : (Cond.initialized z.cls).before a0 Z = true) (hsfc : ∀ x ∈ sfc, x ∈ sf) (hL : L.size = maxL) (hW : catS rest ≤ Wd) (hf : rm.frames + 1 ≤ R.frames) (hl : Wd + (mL + 11) + rm.locals ≤ R.locals) (hc : cells + rm.cells = c' ∧ c' ≤ R.cells) (hs : slots + rm.slots = s' ∧ s' ≤ R.slots) (hst : S = argsL.reverse ++ .ref a :: rest) (hnv : ∀ v h so, ¬ Q (some v) h so)
    (k : ∀ T' h'  so, WS p l e R s m args below meth c Z a0 EL nw n0 y code maxL ret T' h' sf c' s' → Q none h' so → WP p e below Φ T' (mkF m pc' L rest)) : WP p e below Φ T (mkF m pc L S) := by
  obtain ⟨locs, X, eT, hS, hZ, hown, hC0, hN, hn, hsf, hE, hWm, b1, b2, b3, b4, b5, b6⟩ := id W
  obtain ⟨rfl, hc⟩ := hc
  obtain ⟨rfl, hs⟩ := hs
  have hB := backCt (R := R) (p := p) (e := e) (below := below) (s := s) (args := args) (len := 3) (Wd := Wd) hC hZ w4 w3 hf hl hE hn hC0.1 (fun x hx => hsf x (hsfc x hx))
  obtain ⟨cq, kq, qa, qb, qc⟩ := isOf (s := s.setVm T.vm) hZ eT E
  obtain ⟨v, vm₁, ⟨U', L', c1, s1⟩, -, X', hS', hg, hpost, st⟩ := X.virtualBackS W.hx (y := z0) (z := z) hown (mvT (s := s.setVm T.vm) hZ w1) (mvT (s := s.setVm T.vm) hZ w2) (nf (s.setVm T.vm) hZ) (mvT (s := s.setVm T.vm) hZ w5) (mvT (s := s.setVm T.vm) hZ w6) hy hB qa qc (g := mkF m pc L S) rfl (hL.trans b5.symm) (Steps.refl _) (argsL := argsL) (rest := rest) hlen hst (by show 2 * 0 + _ ≤ _; rw [Nat.mul_zero, Nat.zero_add]; exact hW) (W.hd dd) (fun vm₁ _ => ⟨rfl, eT, hc, hs⟩)
  obtain ⟨L1, so, q1, q2, q3, q4, q5, q6, qw, q7⟩ := hpost
  dsimp only [Pt.U, Pt.locs, Pt.cells, Pt.slots] at X' hS' hg q1 q2 q3 q4 q5 q6 qw q7 st
  subst q3 q4 q5
  obtain ⟨hd, rfl⟩ := dd
  have WW : WS p l e R s m args below meth c Z a0 EL nw n0 y code maxL ret U' U'.heap (so ++ sf) (cells + rm.cells) (slots + rm.slots) := by
    refine ⟨_, X', rfl, hS.trans hS' (by rw [← eT]; exact hg), State.Warmed39.trans (t := s.setVm T.vm) hZ hS'.1, by rw [hS'.1.alike.findClass]; exact hown, hC0.trans q6, hN.app q2, Nat.le_trans hn (by rw [← eT]; exact hg), fun x hx => ?_, hE, fun u => State.WarmedH.trans (t := s.setVm T.vm) (hWm u) (qw u), b1, b2, b3, b4, b5, b6⟩
    rcases List.mem_append.mp hx with u | u
    · exact q7 x u
    · obtain ⟨g1, g2, g3⟩ := hsf x u
      exact ⟨g1, Nat.lt_of_lt_of_le g2 (by rw [← eT]; exact hg), q6.safe g2 g3⟩
  cases v with
  | some v => exact absurd q1 (hnv _ _ _)
  | none =>
  refine WP.steps st (k _ _ so (WS.mono (sf' := sf) WW (Nat.le_refl _) (Nat.le_refl _) (fun x hx => List.mem_append_right _ hx)) q1)

theorem k_callVn (W : WS p l e R s m args below meth c Z a0 EL nw n0 y code maxL ret T h sf cells slots) {z : MethodName} {bytes : ByteArray} {mL : Nat} {rt : Option FieldType} {rm : Room} {sfc : List Addr} {Q : Option Value → Heap → List Addr → Prop} (Wd c' s' : Nat) {argsL rest : List Value} {index : Nat} {a : Addr} {C : String} {z0 : MethodName} (dd : D code pc (.invokevirtual index) 3 pc') (w1 : (Cond.methodLink y.cls index z0).before a0 Z = true) (w2 : (Cond.declares z0).before a0 Z = true) (nf : ∀ s' : State, Z.Warmed39 s'.vm → NotFace s' z0) (w5 : (Cond.selects C z0 z).before a0 Z = true) (w6 : (Cond.instanceMethod z).before a0 Z = true) (hy : z0.cls ≠ "java/lang/invoke/MethodHandle" ∧ z0.cls ≠ "java/lang/invoke/VarHandle") (hlen : ∀ sig, parseMethodDescriptor z0.desc = some sig → argsL.length = sig.parameters.length) (E : Exa Z h a C) (hC : Ct l Z a0 EL nw z bytes mL rt rm (.ref a :: argsL).toArray h sfc n0 Q) (w4 : (Cond.code z bytes mL rt).before a0 Z = true) (w3 : (Cond.initialized z.cls).before a0 Z = true) (hsfc : ∀ x ∈ sfc, x ∈ sf) (hL : L.size = maxL) (hW : catS rest ≤ Wd) (hf : rm.frames + 1 ≤ R.frames) (hl : Wd + (mL + 11) + rm.locals ≤ R.locals) (hc : cells + rm.cells = c' ∧ c' ≤ R.cells) (hs : slots + rm.slots = s' ∧ s' ≤ R.slots) (hst : S = argsL.reverse ++ .ref a :: rest) (hnv : ∀ h so, ¬ Q none h so)
    (k : ∀ T' h' (v : Value) so, WS p l e R s m args below meth c Z a0 EL nw n0 y code maxL ret T' h' (so ++ sf) c' s' → Q (some v) h' so → WP p e below Φ T' (mkF m pc' L (v :: rest))) : WP p e below Φ T (mkF m pc L S) := by
  obtain ⟨locs, X, eT, hS, hZ, hown, hC0, hN, hn, hsf, hE, hWm, b1, b2, b3, b4, b5, b6⟩ := id W
  obtain ⟨rfl, hc⟩ := hc
  obtain ⟨rfl, hs⟩ := hs
  have hB := backCt (R := R) (p := p) (e := e) (below := below) (s := s) (args := args) (len := 3) (Wd := Wd) hC hZ w4 w3 hf hl hE hn hC0.1 (fun x hx => hsf x (hsfc x hx))
  obtain ⟨cq, kq, qa, qb, qc⟩ := isOf (s := s.setVm T.vm) hZ eT E
  obtain ⟨v, vm₁, ⟨U', L', c1, s1⟩, -, X', hS', hg, hpost, st⟩ := X.virtualBackS W.hx (y := z0) (z := z) hown (mvT (s := s.setVm T.vm) hZ w1) (mvT (s := s.setVm T.vm) hZ w2) (nf (s.setVm T.vm) hZ) (mvT (s := s.setVm T.vm) hZ w5) (mvT (s := s.setVm T.vm) hZ w6) hy hB qa qc (g := mkF m pc L S) rfl (hL.trans b5.symm) (Steps.refl _) (argsL := argsL) (rest := rest) hlen hst (by show 2 * 0 + _ ≤ _; rw [Nat.mul_zero, Nat.zero_add]; exact hW) (W.hd dd) (fun vm₁ _ => ⟨rfl, eT, hc, hs⟩)
  obtain ⟨L1, so, q1, q2, q3, q4, q5, q6, qw, q7⟩ := hpost
  dsimp only [Pt.U, Pt.locs, Pt.cells, Pt.slots] at X' hS' hg q1 q2 q3 q4 q5 q6 qw q7 st
  subst q3 q4 q5
  obtain ⟨hd, rfl⟩ := dd
  have WW : WS p l e R s m args below meth c Z a0 EL nw n0 y code maxL ret U' U'.heap (so ++ sf) (cells + rm.cells) (slots + rm.slots) := by
    refine ⟨_, X', rfl, hS.trans hS' (by rw [← eT]; exact hg), State.Warmed39.trans (t := s.setVm T.vm) hZ hS'.1, by rw [hS'.1.alike.findClass]; exact hown, hC0.trans q6, hN.app q2, Nat.le_trans hn (by rw [← eT]; exact hg), fun x hx => ?_, hE, fun u => State.WarmedH.trans (t := s.setVm T.vm) (hWm u) (qw u), b1, b2, b3, b4, b5, b6⟩
    rcases List.mem_append.mp hx with u | u
    · exact q7 x u
    · obtain ⟨g1, g2, g3⟩ := hsf x u
      exact ⟨g1, Nat.lt_of_lt_of_le g2 (by rw [← eT]; exact hg), q6.safe g2 g3⟩
  cases v with
  | none => exact absurd q1 (hnv _ _)
  | some v =>
  refine WP.steps st (k _ _ v so WW q1)

theorem k_callP (W : WS p l e R s m args below meth c Z a0 EL nw n0 y code maxL ret T h sf cells slots) {z : MethodName} {bytes : ByteArray} {mL : Nat} {rt : Option FieldType} {rm : Room} {sfc : List Addr} {Q : Option Value → Heap → List Addr → Prop} (Wd c' s' : Nat) {argsL rest : List Value} {index : Nat} {a : Addr} {C : String} (dd : D code pc (.invokevirtual index) 3 pc') (w1 : (Cond.methodLink y.cls index z).before a0 Z = true) (w2 : (Cond.instanceMethod z).before a0 Z = true) (w5 : (Cond.selects z.cls z z).before a0 Z = true) (w6 : (Cond.privateMethod z).before a0 Z = true) (hy : z.cls ≠ "java/lang/invoke/MethodHandle" ∧ z.cls ≠ "java/lang/invoke/VarHandle") (hlen : ∀ sig, parseMethodDescriptor z.desc = some sig → argsL.length = sig.parameters.length) (E : Exa Z h a C) (hC : Ct l Z a0 EL nw z bytes mL rt rm (.ref a :: argsL).toArray h sfc n0 Q) (w4 : (Cond.code z bytes mL rt).before a0 Z = true) (w3 : (Cond.initialized z.cls).before a0 Z = true) (hsfc : ∀ x ∈ sfc, x ∈ sf) (hL : L.size = maxL) (hW : catS rest ≤ Wd) (hf : rm.frames + 1 ≤ R.frames) (hl : Wd + (mL + 11) + rm.locals ≤ R.locals) (hc : cells + rm.cells = c' ∧ c' ≤ R.cells) (hs : slots + rm.slots = s' ∧ s' ≤ R.slots) (hst : S = argsL.reverse ++ .ref a :: rest) (hnv : ∀ h so, ¬ Q none h so)
    (k : ∀ T' h' (v : Value) so, WS p l e R s m args below meth c Z a0 EL nw n0 y code maxL ret T' h' sf c' s' → Q (some v) h' so → WP p e below Φ T' (mkF m pc' L (v :: rest))) : WP p e below Φ T (mkF m pc L S) := by
  obtain ⟨locs, X, eT, hS, hZ, hown, hC0, hN, hn, hsf, hE, hWm, b1, b2, b3, b4, b5, b6⟩ := id W
  obtain ⟨rfl, hc⟩ := hc
  obtain ⟨rfl, hs⟩ := hs
  have hB := backCt (R := R) (p := p) (e := e) (below := below) (s := s) (args := args) (len := 3) (Wd := Wd) hC hZ w4 w3 hf hl hE hn hC0.1 (fun x hx => hsf x (hsfc x hx))
  obtain ⟨cc, hc1, hc2⟩ := E.cell
  obtain ⟨v, vm₁, ⟨U', L', c1, s1⟩, -, X', hS', hg, hpost, st⟩ := X.privateBackS W.hx (y := z) hown (mvT (s := s.setVm T.vm) hZ w1) (mvT (s := s.setVm T.vm) hZ w2) (mvT (s := s.setVm T.vm) hZ w5) (Cond.privateMethod_at (mvP (s := s.setVm T.vm) hZ w6 (args := #[]))) (mvT (s := s.setVm T.vm) hZ w4) hy hB (g := mkF m pc L S) rfl (hL.trans b5.symm) (Steps.refl _) (a := a) (by rw [eT]; exact hc1) hc2 (argsL := argsL) (rest := rest) hlen hst (by show 2 * 0 + _ ≤ _; rw [Nat.mul_zero, Nat.zero_add]; exact hW) (W.hd dd) (fun vm₁ _ => ⟨rfl, eT, hc, hs⟩)
  obtain ⟨L1, so, q1, q2, q3, q4, q5, q6, qw, q7⟩ := hpost
  dsimp only [Pt.U, Pt.locs, Pt.cells, Pt.slots] at X' hS' hg q1 q2 q3 q4 q5 q6 qw q7 st
  subst q3 q4 q5
  obtain ⟨hd, rfl⟩ := dd
  have WW : WS p l e R s m args below meth c Z a0 EL nw n0 y code maxL ret U' U'.heap (so ++ sf) (cells + rm.cells) (slots + rm.slots) := by
    refine ⟨_, X', rfl, hS.trans hS' (by rw [← eT]; exact hg), State.Warmed39.trans (t := s.setVm T.vm) hZ hS'.1, by rw [hS'.1.alike.findClass]; exact hown, hC0.trans q6, hN.app q2, Nat.le_trans hn (by rw [← eT]; exact hg), fun x hx => ?_, hE, fun u => State.WarmedH.trans (t := s.setVm T.vm) (hWm u) (qw u), b1, b2, b3, b4, b5, b6⟩
    rcases List.mem_append.mp hx with u | u
    · exact q7 x u
    · obtain ⟨g1, g2, g3⟩ := hsf x u
      exact ⟨g1, Nat.lt_of_lt_of_le g2 (by rw [← eT]; exact hg), q6.safe g2 g3⟩
  cases v with
  | none => exact absurd q1 (hnv _ _)
  | some v =>
  refine WP.steps st (k _ _ v so (WS.mono (sf' := sf) WW (Nat.le_refl _) (Nat.le_refl _) (fun x hx => List.mem_append_right _ hx)) q1)

theorem k_callP0 (W : WS p l e R s m args below meth c Z a0 EL nw n0 y code maxL ret T h sf cells slots) {z : MethodName} {bytes : ByteArray} {mL : Nat} {rt : Option FieldType} {rm : Room} {sfc : List Addr} {Q : Option Value → Heap → List Addr → Prop} (Wd c' s' : Nat) {argsL rest : List Value} {index : Nat} {a : Addr} {C : String} (dd : D code pc (.invokevirtual index) 3 pc') (w1 : (Cond.methodLink y.cls index z).before a0 Z = true) (w2 : (Cond.instanceMethod z).before a0 Z = true) (w5 : (Cond.selects z.cls z z).before a0 Z = true) (w6 : (Cond.privateMethod z).before a0 Z = true) (hy : z.cls ≠ "java/lang/invoke/MethodHandle" ∧ z.cls ≠ "java/lang/invoke/VarHandle") (hlen : ∀ sig, parseMethodDescriptor z.desc = some sig → argsL.length = sig.parameters.length) (E : Exa Z h a C) (hC : Ct l Z a0 EL nw z bytes mL rt rm (.ref a :: argsL).toArray h sfc n0 Q) (w4 : (Cond.code z bytes mL rt).before a0 Z = true) (w3 : (Cond.initialized z.cls).before a0 Z = true) (hsfc : ∀ x ∈ sfc, x ∈ sf) (hL : L.size = maxL) (hW : catS rest ≤ Wd) (hf : rm.frames + 1 ≤ R.frames) (hl : Wd + (mL + 11) + rm.locals ≤ R.locals) (hc : cells + rm.cells = c' ∧ c' ≤ R.cells) (hs : slots + rm.slots = s' ∧ s' ≤ R.slots) (hst : S = argsL.reverse ++ .ref a :: rest) (hnv : ∀ v h so, ¬ Q (some v) h so)
    (k : ∀ T' h'  so, WS p l e R s m args below meth c Z a0 EL nw n0 y code maxL ret T' h' sf c' s' → Q none h' so → WP p e below Φ T' (mkF m pc' L rest)) : WP p e below Φ T (mkF m pc L S) := by
  obtain ⟨locs, X, eT, hS, hZ, hown, hC0, hN, hn, hsf, hE, hWm, b1, b2, b3, b4, b5, b6⟩ := id W
  obtain ⟨rfl, hc⟩ := hc
  obtain ⟨rfl, hs⟩ := hs
  have hB := backCt (R := R) (p := p) (e := e) (below := below) (s := s) (args := args) (len := 3) (Wd := Wd) hC hZ w4 w3 hf hl hE hn hC0.1 (fun x hx => hsf x (hsfc x hx))
  obtain ⟨cc, hc1, hc2⟩ := E.cell
  obtain ⟨v, vm₁, ⟨U', L', c1, s1⟩, -, X', hS', hg, hpost, st⟩ := X.privateBackS W.hx (y := z) hown (mvT (s := s.setVm T.vm) hZ w1) (mvT (s := s.setVm T.vm) hZ w2) (mvT (s := s.setVm T.vm) hZ w5) (Cond.privateMethod_at (mvP (s := s.setVm T.vm) hZ w6 (args := #[]))) (mvT (s := s.setVm T.vm) hZ w4) hy hB (g := mkF m pc L S) rfl (hL.trans b5.symm) (Steps.refl _) (a := a) (by rw [eT]; exact hc1) hc2 (argsL := argsL) (rest := rest) hlen hst (by show 2 * 0 + _ ≤ _; rw [Nat.mul_zero, Nat.zero_add]; exact hW) (W.hd dd) (fun vm₁ _ => ⟨rfl, eT, hc, hs⟩)
  obtain ⟨L1, so, q1, q2, q3, q4, q5, q6, qw, q7⟩ := hpost
  dsimp only [Pt.U, Pt.locs, Pt.cells, Pt.slots] at X' hS' hg q1 q2 q3 q4 q5 q6 qw q7 st
  subst q3 q4 q5
  obtain ⟨hd, rfl⟩ := dd
  have WW : WS p l e R s m args below meth c Z a0 EL nw n0 y code maxL ret U' U'.heap (so ++ sf) (cells + rm.cells) (slots + rm.slots) := by
    refine ⟨_, X', rfl, hS.trans hS' (by rw [← eT]; exact hg), State.Warmed39.trans (t := s.setVm T.vm) hZ hS'.1, by rw [hS'.1.alike.findClass]; exact hown, hC0.trans q6, hN.app q2, Nat.le_trans hn (by rw [← eT]; exact hg), fun x hx => ?_, hE, fun u => State.WarmedH.trans (t := s.setVm T.vm) (hWm u) (qw u), b1, b2, b3, b4, b5, b6⟩
    rcases List.mem_append.mp hx with u | u
    · exact q7 x u
    · obtain ⟨g1, g2, g3⟩ := hsf x u
      exact ⟨g1, Nat.lt_of_lt_of_le g2 (by rw [← eT]; exact hg), q6.safe g2 g3⟩
  cases v with
  | some v => exact absurd q1 (hnv _ _ _)
  | none =>
  refine WP.steps st (k _ _ so (WS.mono (sf' := sf) WW (Nat.le_refl _) (Nat.le_refl _) (fun x hx => List.mem_append_right _ hx)) q1)

theorem k_callPn (W : WS p l e R s m args below meth c Z a0 EL nw n0 y code maxL ret T h sf cells slots) {z : MethodName} {bytes : ByteArray} {mL : Nat} {rt : Option FieldType} {rm : Room} {sfc : List Addr} {Q : Option Value → Heap → List Addr → Prop} (Wd c' s' : Nat) {argsL rest : List Value} {index : Nat} {a : Addr} {C : String} (dd : D code pc (.invokevirtual index) 3 pc') (w1 : (Cond.methodLink y.cls index z).before a0 Z = true) (w2 : (Cond.instanceMethod z).before a0 Z = true) (w5 : (Cond.selects z.cls z z).before a0 Z = true) (w6 : (Cond.privateMethod z).before a0 Z = true) (hy : z.cls ≠ "java/lang/invoke/MethodHandle" ∧ z.cls ≠ "java/lang/invoke/VarHandle") (hlen : ∀ sig, parseMethodDescriptor z.desc = some sig → argsL.length = sig.parameters.length) (E : Exa Z h a C) (hC : Ct l Z a0 EL nw z bytes mL rt rm (.ref a :: argsL).toArray h sfc n0 Q) (w4 : (Cond.code z bytes mL rt).before a0 Z = true) (w3 : (Cond.initialized z.cls).before a0 Z = true) (hsfc : ∀ x ∈ sfc, x ∈ sf) (hL : L.size = maxL) (hW : catS rest ≤ Wd) (hf : rm.frames + 1 ≤ R.frames) (hl : Wd + (mL + 11) + rm.locals ≤ R.locals) (hc : cells + rm.cells = c' ∧ c' ≤ R.cells) (hs : slots + rm.slots = s' ∧ s' ≤ R.slots) (hst : S = argsL.reverse ++ .ref a :: rest) (hnv : ∀ h so, ¬ Q none h so)
    (k : ∀ T' h' (v : Value) so, WS p l e R s m args below meth c Z a0 EL nw n0 y code maxL ret T' h' (so ++ sf) c' s' → Q (some v) h' so → WP p e below Φ T' (mkF m pc' L (v :: rest))) : WP p e below Φ T (mkF m pc L S) := by
  obtain ⟨locs, X, eT, hS, hZ, hown, hC0, hN, hn, hsf, hE, hWm, b1, b2, b3, b4, b5, b6⟩ := id W
  obtain ⟨rfl, hc⟩ := hc
  obtain ⟨rfl, hs⟩ := hs
  have hB := backCt (R := R) (p := p) (e := e) (below := below) (s := s) (args := args) (len := 3) (Wd := Wd) hC hZ w4 w3 hf hl hE hn hC0.1 (fun x hx => hsf x (hsfc x hx))
  obtain ⟨cc, hc1, hc2⟩ := E.cell
  obtain ⟨v, vm₁, ⟨U', L', c1, s1⟩, -, X', hS', hg, hpost, st⟩ := X.privateBackS W.hx (y := z) hown (mvT (s := s.setVm T.vm) hZ w1) (mvT (s := s.setVm T.vm) hZ w2) (mvT (s := s.setVm T.vm) hZ w5) (Cond.privateMethod_at (mvP (s := s.setVm T.vm) hZ w6 (args := #[]))) (mvT (s := s.setVm T.vm) hZ w4) hy hB (g := mkF m pc L S) rfl (hL.trans b5.symm) (Steps.refl _) (a := a) (by rw [eT]; exact hc1) hc2 (argsL := argsL) (rest := rest) hlen hst (by show 2 * 0 + _ ≤ _; rw [Nat.mul_zero, Nat.zero_add]; exact hW) (W.hd dd) (fun vm₁ _ => ⟨rfl, eT, hc, hs⟩)
  obtain ⟨L1, so, q1, q2, q3, q4, q5, q6, qw, q7⟩ := hpost
  dsimp only [Pt.U, Pt.locs, Pt.cells, Pt.slots] at X' hS' hg q1 q2 q3 q4 q5 q6 qw q7 st
  subst q3 q4 q5
  obtain ⟨hd, rfl⟩ := dd
  have WW : WS p l e R s m args below meth c Z a0 EL nw n0 y code maxL ret U' U'.heap (so ++ sf) (cells + rm.cells) (slots + rm.slots) := by
    refine ⟨_, X', rfl, hS.trans hS' (by rw [← eT]; exact hg), State.Warmed39.trans (t := s.setVm T.vm) hZ hS'.1, by rw [hS'.1.alike.findClass]; exact hown, hC0.trans q6, hN.app q2, Nat.le_trans hn (by rw [← eT]; exact hg), fun x hx => ?_, hE, fun u => State.WarmedH.trans (t := s.setVm T.vm) (hWm u) (qw u), b1, b2, b3, b4, b5, b6⟩
    rcases List.mem_append.mp hx with u | u
    · exact q7 x u
    · obtain ⟨g1, g2, g3⟩ := hsf x u
      exact ⟨g1, Nat.lt_of_lt_of_le g2 (by rw [← eT]; exact hg), q6.safe g2 g3⟩
  cases v with
  | none => exact absurd q1 (hnv _ _)
  | some v =>
  refine WP.steps st (k _ _ v so WW q1)

theorem nfSel {C : String} {z0 : MethodName} (w : (Cond.selects C z0 z0).before a0 Z = true) (s' : State) (hZ : Z.Warmed39 s'.vm) : NotFace s' z0 := notFace_of_selects (args := #[]) (mvT hZ w)
end Calls

/-! ## facts out of the case's words -/
section Start
variable {args : Array Value} {Z : State} {t u : Term} {a : Addr} {C n d : String} {v : Value} {ty : FieldType} {z : Int32} {vs : List Value}
theorem eq_start (h : (Cond.eq t (Term.int z)).value args Z none Z [] = some true) : t.eval args Z none [] Z = some (.int z) := by
  have hz : (Term.int z).eval args Z none [] Z = some (.int z) := rfl
  simp only [Cond.value, hz] at h
  cases ht : t.eval args Z none [] Z with
  | none => rw [ht] at h; cases h
  | some w => cases w <;> simp [ht] at h; rw [h]
theorem eqR_start (h : (Cond.eq t u).value args Z none Z [] = some true) (hu : u.eval args Z none [] Z = some (.ref a)) : t.eval args Z none [] Z = some (.ref a) := by
  simp only [Cond.value, hu] at h
  cases ht : t.eval args Z none [] Z with
  | none => rw [ht] at h; cases h
  | some w => cases w <;> simp [ht] at h; rw [h]
theorem exa_start (h : (Cond.exactly t C).value args Z none Z [] = some true) : ∃ a, t.eval args Z none [] Z = some (.ref a) ∧ Exa Z Z.heap a C := by
  obtain ⟨a', c', cell, k, e1, e2, e3, e4, e5, rfl, e7⟩ := Cond.exactly_spec (Cond.before_iff.mpr h)
  exact ⟨a', e1, cell, k, e3, e2, e4, e5, e7⟩
theorem fld_start (ht : t.eval args Z none [] Z = some (.ref a)) (hf : (Term.field t C n d).eval args Z none [] Z = some v) : Fld Z Z.heap a C n d v := Fld.start (by simpa [Term.eval, ht] using hf)
def Els (t : Term) (args : Array Value) (Z : State) : Nat → List Value → Prop
  | _, [] => True
  | i, v :: vs => (Term.elem t (Term.int (Int32.ofNat i))).eval args Z none [] Z = some v ∧ Els t args Z (i + 1) vs
theorem Els.get : ∀ {vs : List Value} {k : Nat}, Els t args Z k vs → ∀ i, i < vs.length → (Term.elem t (Term.int (Int32.ofNat (k + i)))).eval args Z none [] Z = vs[i]?
  | [], _, _, i, hi => by simp at hi
  | v :: vs, k, h, 0, _ => by simpa using h.1
  | v :: vs, k, h, i + 1, hi => by
    have := Els.get h.2 i (by simpa using hi)
    rw [show k + (i + 1) = k + 1 + i by omega]; simpa using this
theorem ref_of_arr (h : (Cond.arrayOf t ty).value args Z none Z [] = some true) : ∃ a, t.eval args Z none [] Z = some (.ref a) := by
  simp only [Cond.value] at h
  split at h
  · cases h
  · cases ht : t.eval args Z none [] Z with
    | none => rw [ht] at h; cases h
    | some w => cases w <;> simp [ht] at h <;> exact ⟨_, rfl⟩
theorem av_start (hf : Fit Z) (ht : t.eval args Z none [] Z = some (.ref a)) (h : (Cond.arrayOf t ty).value args Z none Z [] = some true) (hl : (Term.length t).eval args Z none [] Z = some (.int z)) (hz : Int32.ofNat vs.length = z) (hv : vs.length < 2147483648) (he : Els t args Z 0 vs) : Av Z Z.heap a ty vs := by
  obtain ⟨c, A⟩ := Arr.start ht h
  have hA : Z.arrayAt? a = some c := A.fin (Vm.Alike.refl _)
  have hs : c.slots.size = vs.length := by
    simp only [Term.eval, ht, Option.bind_eq_bind, Option.bind_some, hA, Option.pure_def] at hl
    split at hl
    · rename_i hlt
      have e1 : c.slots.size.toInt32 = z := by simpa using hl
      exact of_inj (by simpa using hlt) hv (e1.trans hz.symm)
    · cases hl
  have hg : ∀ i, i < vs.length → c.slots[i]? = vs[i]? := fun i hi => by
    have q := he.get i hi
    have hx := ix_of (i := i) (by omega)
    rw [Nat.zero_add] at q
    simp only [Term.eval, ht, Option.bind_eq_bind, Option.bind_some, hA, if_neg hx.1, hx.2] at q
    exact q
  have e : c.slots.toList = vs := by
    apply List.ext_getElem?; intro i
    by_cases hi : i < vs.length
    · rw [Array.getElem?_toList]; exact hg i hi
    · rw [Array.getElem?_toList, Array.getElem?_eq_none (by omega), List.getElem?_eq_none (by omega)]
  refine ⟨c, A, e, hv, fun w hw => ?_⟩
  obtain ⟨i, hi, rfl⟩ := List.mem_iff_getElem.mp hw
  have hx := ix_of (i := i) (by omega)
  obtain ⟨w', q1, q2⟩ := elem_fit hf A (j := Int32.ofNat i) (by rintro (u | u); exact hx.1 u; rw [hx.2] at u; omega)
  rw [hx.2, hg i hi, List.getElem?_eq_getElem hi] at q1
  cases q1; exact q2
theorem exa_any {idx : List Nat} (h : (Cond.exactly t C).value args Z none Z idx = some true) : ∃ a, t.eval args Z none idx Z = some (.ref a) ∧ Exa Z Z.heap a C := by
  obtain ⟨a', c', cell, k, e1, e2, e3, e4, e5, rfl, e7⟩ := Cond.exactly_spec (args := args) (first := Z) (o := none) (s := Z) (idx := idx) (t := t) (cls := C) (by simp [Cond.holds, h])
  exact ⟨a', e1, cell, k, e3, e2, e4, e5, e7⟩
theorem all_get {c : Cond} {cell : Cell} (h : (Cond.all t c).value args Z none Z [] = some true) (ht : t.eval args Z none [] Z = some (.ref a)) (hA : Z.arrayAt? a = some cell) : ∀ i, i < cell.slots.size → c.value args Z none Z [i] = some true := by
  simp only [Cond.value, ht, hA] at h
  have key : ∀ (l : List Nat) (acc : Option Bool), l.foldl (fun acc i => match acc with | some true => c.value args Z none Z [i] | x => x) acc = some true → acc = some true ∧ ∀ i ∈ l, c.value args Z none Z [i] = some true := by
    intro l
    induction l with
    | nil => intro acc q; exact ⟨q, fun i hi => nomatch hi⟩
    | cons j l ih =>
      intro acc q
      obtain ⟨q1, q2⟩ := ih _ q
      have ha : acc = some true := by
        cases acc with
        | none => simp at q1
        | some b => cases b <;> simp at q1 ⊢
      refine ⟨ha, fun i hi => ?_⟩
      subst ha
      rcases List.mem_cons.mp hi with rfl | hi
      · exact q1
      · exact q2 i hi
  exact fun i hi => (key _ _ h).2 i (List.mem_range.mpr hi)
theorem cache_start {c2 : Cond} {C1 n1 d1 : String} (hf : Fit Z) (ht : (Term.static C1 n1 d1).eval args Z none [] Z = some (.ref a)) (h : (Cond.arrayOf (Term.static C1 n1 d1) ty).value args Z none Z [] = some true) (hl : (Term.length (Term.static C1 n1 d1)).eval args Z none [] Z = some (.int z))
    (hall : (Cond.all (Term.static C1 n1 d1) (Cond.and (Cond.exactly (Term.elem (Term.static C1 n1 d1) (Term.index 0)) C) c2)).value args Z none Z [] = some true) : ∃ vs, Av Z Z.heap a ty vs ∧ Int32.ofNat vs.length = z ∧ AllExa Z Z.heap C vs := by
  obtain ⟨c, A⟩ := Arr.start ht h
  have hA : Z.arrayAt? a = some c := A.fin (Vm.Alike.refl _)
  have hs : c.slots.size < 2147483648 ∧ c.slots.size.toInt32 = z := by
    simp only [Term.eval] at hl
    simp only [Term.eval] at ht
    rw [ht] at hl
    simp only [Option.bind_eq_bind, Option.bind_some, hA, Option.pure_def] at hl
    split at hl
    · rename_i hlt; exact ⟨by simpa using hlt, by simpa using hl⟩
    · cases hl
  refine ⟨c.slots.toList, ⟨c, A, rfl, by simpa using hs.1, fun w hw => ?_⟩, by simpa using hs.2, fun v hv => ?_⟩
  · obtain ⟨i, hi, rfl⟩ := List.mem_iff_getElem.mp hw
    have hi' : i < c.slots.size := by simpa using hi
    have hx := ix_of (i := i) (by omega)
    obtain ⟨w', q1, q2⟩ := elem_fit hf A (j := Int32.ofNat i) (by rintro (u | u); exact hx.1 u; rw [hx.2] at u; omega)
    rw [hx.2, Array.getElem?_eq_getElem hi'] at q1
    cases q1; simpa using q2
  · obtain ⟨i, hi, rfl⟩ := List.mem_iff_getElem.mp hv
    have hi' : i < c.slots.size := by simpa using hi
    obtain ⟨r, q1, q2⟩ := exa_any (and_e (all_get hall ht hA i hi')).1
    have hx := ix_of (i := i) (by omega)
    have ht2 : (Term.static C1 n1 d1).eval args Z none [i] Z = some (.ref a) := ht
    have hi2 : (Term.index 0).eval args Z none [i] Z = some (.int (Int32.ofNat i)) := rfl
    have q3 : (Term.elem (Term.static C1 n1 d1) (Term.index 0)).eval args Z none [i] Z = c.slots[i]? := by
      show (do
        let .ref a ← (Term.static C1 n1 d1).eval args Z none [i] Z | none
        let .int j ← (Term.index 0).eval args Z none [i] Z | none
        if j < 0 then none else (← Z.arrayAt? a).slots[j.toNatClampNeg]?) = _
      rw [ht2, hi2]
      simp only [Option.bind_eq_bind, Option.bind_some, hA, if_neg hx.1, hx.2]
    rw [q3, Array.getElem?_eq_getElem hi'] at q1
    exact ⟨r, by simpa using q1, q2⟩
end Start

end Jvm.OwnK
namespace Jvm.Pilot.@@N@@
open Jvm Jvm.ClassFile Sem Op Lib Jvm.Free Jvm.Stand Jvm.LawKit Jvm.RoadKit Bundle Jvm.OwnK Jvm.Pilot.@@N@@.Jvm.D
def own_EL : List (String × Nat) := [("java/lang/String", 7), ("java/lang/StringLatin1", 151)]
theorem w0 {Z : State} {a0 : Array Value} (hw : ∀ d ∈ tables_1, d.before a0 Z = true) : (Jvm.Cond.constant "com/example/kourier/kourier/rabbitmq/RouteParsePinLaw" (7 : Nat) (2147483647 : Int32)).before a0 Z = true := hw _ (List.mem_of_getElem? (i := 0) rfl)
theorem w1 {Z : State} {a0 : Array Value} (hw : ∀ d ∈ tables_1, d.before a0 Z = true) : (Jvm.Cond.methodLink "com/example/kourier/kourier/rabbitmq/RouteParsePinLaw" (8 : Nat) ({ cls := "com/example/kourier/kourier/rabbitmq/RouteParsePinLaw", name := "draw", desc := "(I)C" } : Jvm.MethodName)).before a0 Z = true := hw _ (List.mem_of_getElem? (i := 1) rfl)
theorem w2 {Z : State} {a0 : Array Value} (hw : ∀ d ∈ tables_1, d.before a0 Z = true) : (Jvm.Cond.static ({ cls := "com/example/kourier/kourier/rabbitmq/RouteParsePinLaw", name := "draw", desc := "(I)C" } : Jvm.MethodName)).before a0 Z = true := hw _ (List.mem_of_getElem? (i := 2) rfl)
theorem w3 {Z : State} {a0 : Array Value} (hw : ∀ d ∈ tables_1, d.before a0 Z = true) : (Jvm.Cond.initialized "com/example/kourier/kourier/rabbitmq/RouteParsePinLaw").before a0 Z = true := hw _ (List.mem_of_getElem? (i := 3) rfl)
theorem w4 {Z : State} {a0 : Array Value} (hw : ∀ d ∈ tables_1, d.before a0 Z = true) : (Jvm.Cond.code ({ cls := "com/example/kourier/kourier/rabbitmq/RouteParsePinLaw", name := "draw", desc := "(I)C" } : Jvm.MethodName) method_4_code (1 : Nat) (Option.some Jvm.ClassFile.FieldType.char)).before a0 Z = true := hw _ (List.mem_of_getElem? (i := 4) rfl)
theorem w5 {Z : State} {a0 : Array Value} (hw : ∀ d ∈ tables_1, d.before a0 Z = true) : (Jvm.Cond.methodLink "com/example/kourier/kourier/rabbitmq/RouteParsePinLaw" (14 : Nat) ({ cls := "com/example/kourier/kourier/rabbitmq/RouteParsePinLaw", name := "make", desc := "(ICCCC)Ljava/lang/String;" } : Jvm.MethodName)).before a0 Z = true := hw _ (List.mem_of_getElem? (i := 5) rfl)
theorem w6 {Z : State} {a0 : Array Value} (hw : ∀ d ∈ tables_1, d.before a0 Z = true) : (Jvm.Cond.static ({ cls := "com/example/kourier/kourier/rabbitmq/RouteParsePinLaw", name := "make", desc := "(ICCCC)Ljava/lang/String;" } : Jvm.MethodName)).before a0 Z = true := hw _ (List.mem_of_getElem? (i := 6) rfl)
theorem w7 {Z : State} {a0 : Array Value} (hw : ∀ d ∈ tables_1, d.before a0 Z = true) : (Jvm.Cond.code ({ cls := "com/example/kourier/kourier/rabbitmq/RouteParsePinLaw", name := "make", desc := "(ICCCC)Ljava/lang/String;" } : Jvm.MethodName) method_5_code (5 : Nat) (Option.some (Jvm.ClassFile.FieldType.object "java/lang/String"))).before a0 Z = true := hw _ (List.mem_of_getElem? (i := 7) rfl)
theorem w8 {Z : State} {a0 : Array Value} (hw : ∀ d ∈ tables_1, d.before a0 Z = true) : (Jvm.Cond.classLink "com/example/kourier/kourier/rabbitmq/RouteParsePinLaw" (32 : Nat) "java/lang/String").before a0 Z = true := hw _ (List.mem_of_getElem? (i := 8) rfl)
theorem w9 {Z : State} {a0 : Array Value} (hw : ∀ d ∈ tables_1, d.before a0 Z = true) : (Jvm.Cond.instantiable "java/lang/String" (4 : Nat)).before a0 Z = true := hw _ (List.mem_of_getElem? (i := 9) rfl)
theorem w10 {Z : State} {a0 : Array Value} (hw : ∀ d ∈ tables_1, d.before a0 Z = true) : (Jvm.Cond.initialized "java/lang/String").before a0 Z = true := hw _ (List.mem_of_getElem? (i := 10) rfl)
theorem w11 {Z : State} {a0 : Array Value} (hw : ∀ d ∈ tables_1, d.before a0 Z = true) : (Jvm.Cond.arrayClass Jvm.ClassFile.FieldType.char).before a0 Z = true := hw _ (List.mem_of_getElem? (i := 11) rfl)
theorem w12 {Z : State} {a0 : Array Value} (hw : ∀ d ∈ tables_1, d.before a0 Z = true) : (Jvm.Cond.methodLink "com/example/kourier/kourier/rabbitmq/RouteParsePinLaw" (44 : Nat) ({ cls := "java/lang/String", name := "<init>", desc := "([C)V" } : Jvm.MethodName)).before a0 Z = true := hw _ (List.mem_of_getElem? (i := 12) rfl)
theorem w13 {Z : State} {a0 : Array Value} (hw : ∀ d ∈ tables_1, d.before a0 Z = true) : (Jvm.Cond.instanceMethod ({ cls := "java/lang/String", name := "<init>", desc := "([C)V" } : Jvm.MethodName)).before a0 Z = true := hw _ (List.mem_of_getElem? (i := 13) rfl)
theorem w14 {Z : State} {a0 : Array Value} (hw : ∀ d ∈ tables_1, d.before a0 Z = true) : (Jvm.Cond.code ({ cls := "java/lang/String", name := "<init>", desc := "([C)V" } : Jvm.MethodName) jdk_42_method_3_code (2 : Nat) (Option.none : Option Jvm.ClassFile.FieldType)).before a0 Z = true := hw _ (List.mem_of_getElem? (i := 14) rfl)
theorem w15 {Z : State} {a0 : Array Value} (hw : ∀ d ∈ tables_1, d.before a0 Z = true) : (Jvm.Cond.methodLink "java/lang/String" (27 : Nat) ({ cls := "java/lang/String", name := "<init>", desc := "([CIILjava/lang/Void;)V" } : Jvm.MethodName)).before a0 Z = true := hw _ (List.mem_of_getElem? (i := 15) rfl)
theorem w16 {Z : State} {a0 : Array Value} (hw : ∀ d ∈ tables_1, d.before a0 Z = true) : (Jvm.Cond.instanceMethod ({ cls := "java/lang/String", name := "<init>", desc := "([CIILjava/lang/Void;)V" } : Jvm.MethodName)).before a0 Z = true := hw _ (List.mem_of_getElem? (i := 16) rfl)
theorem w18 {Z : State} {a0 : Array Value} (hw : ∀ d ∈ tables_1, d.before a0 Z = true) : (Jvm.Cond.code ({ cls := "java/lang/String", name := "<init>", desc := "([CIILjava/lang/Void;)V" } : Jvm.MethodName) jdk_42_method_149_code (6 : Nat) (Option.none : Option Jvm.ClassFile.FieldType)).before a0 Z = true := hw _ (List.mem_of_getElem? (i := 18) rfl)
theorem w19 {Z : State} {a0 : Array Value} (hw : ∀ d ∈ tables_1, d.before a0 Z = true) : (Jvm.Cond.methodLink "java/lang/String" (1 : Nat) ({ cls := "java/lang/Object", name := "<init>", desc := "()V" } : Jvm.MethodName)).before a0 Z = true := hw _ (List.mem_of_getElem? (i := 19) rfl)
theorem w20 {Z : State} {a0 : Array Value} (hw : ∀ d ∈ tables_1, d.before a0 Z = true) : (Jvm.Cond.instanceMethod ({ cls := "java/lang/Object", name := "<init>", desc := "()V" } : Jvm.MethodName)).before a0 Z = true := hw _ (List.mem_of_getElem? (i := 20) rfl)
theorem w21 {Z : State} {a0 : Array Value} (hw : ∀ d ∈ tables_1, d.before a0 Z = true) : (Jvm.Cond.code ({ cls := "java/lang/Object", name := "<init>", desc := "()V" } : Jvm.MethodName) object_method_1_code (1 : Nat) (Option.none : Option Jvm.ClassFile.FieldType)).before a0 Z = true := hw _ (List.mem_of_getElem? (i := 21) rfl)
theorem w22 {Z : State} {a0 : Array Value} (hw : ∀ d ∈ tables_1, d.before a0 Z = true) : (Jvm.Cond.stringLink "java/lang/String" (7 : Nat) "").before a0 Z = true := hw _ (List.mem_of_getElem? (i := 22) rfl)
theorem w23 {Z : State} {a0 : Array Value} (hw : ∀ d ∈ tables_1, d.before a0 Z = true) : (Jvm.Cond.arrayClass Jvm.ClassFile.FieldType.byte).before a0 Z = true := hw _ (List.mem_of_getElem? (i := 23) rfl)
theorem w24 {Z : State} {a0 : Array Value} (hw : ∀ d ∈ tables_1, d.before a0 Z = true) : (Jvm.Cond.laysFinal "java/lang/String" "java/lang/String" "value" "[B").before a0 Z = true := hw _ (List.mem_of_getElem? (i := 24) rfl)
theorem w25 {Z : State} {a0 : Array Value} (hw : ∀ d ∈ tables_1, d.before a0 Z = true) : (Jvm.Cond.laysFinal "java/lang/String" "java/lang/String" "coder" "B").before a0 Z = true := hw _ (List.mem_of_getElem? (i := 25) rfl)
theorem w28 {Z : State} {a0 : Array Value} (hw : ∀ d ∈ tables_1, d.before a0 Z = true) : (Jvm.Cond.fieldLink "java/lang/String" (9 : Nat) "java/lang/String" "value" "[B").before a0 Z = true := hw _ (List.mem_of_getElem? (i := 28) rfl)
theorem w29 {Z : State} {a0 : Array Value} (hw : ∀ d ∈ tables_1, d.before a0 Z = true) : (Jvm.Cond.fieldLink "java/lang/String" (15 : Nat) "java/lang/String" "coder" "B").before a0 Z = true := hw _ (List.mem_of_getElem? (i := 29) rfl)
theorem w30 {Z : State} {a0 : Array Value} (hw : ∀ d ∈ tables_1, d.before a0 Z = true) : (Jvm.Cond.methodLink "com/example/kourier/kourier/rabbitmq/RouteParsePinLaw" (18 : Nat) ({ cls := "com/example/kourier/kourier/rabbitmq/Route", name := "parse", desc := "(Ljava/lang/String;)Lcom/example/kourier/kourier/rabbitmq/Route;" } : Jvm.MethodName)).before a0 Z = true := hw _ (List.mem_of_getElem? (i := 30) rfl)
theorem w31 {Z : State} {a0 : Array Value} (hw : ∀ d ∈ tables_1, d.before a0 Z = true) : (Jvm.Cond.static ({ cls := "com/example/kourier/kourier/rabbitmq/Route", name := "parse", desc := "(Ljava/lang/String;)Lcom/example/kourier/kourier/rabbitmq/Route;" } : Jvm.MethodName)).before a0 Z = true := hw _ (List.mem_of_getElem? (i := 31) rfl)
theorem w32 {Z : State} {a0 : Array Value} (hw : ∀ d ∈ tables_1, d.before a0 Z = true) : (Jvm.Cond.initialized "com/example/kourier/kourier/rabbitmq/Route").before a0 Z = true := hw _ (List.mem_of_getElem? (i := 32) rfl)
theorem w33 {Z : State} {a0 : Array Value} (hw : ∀ d ∈ tables_1, d.before a0 Z = true) : (Jvm.Cond.code ({ cls := "com/example/kourier/kourier/rabbitmq/Route", name := "parse", desc := "(Ljava/lang/String;)Lcom/example/kourier/kourier/rabbitmq/Route;" } : Jvm.MethodName) prog_16_method_2_code (2 : Nat) (Option.some (Jvm.ClassFile.FieldType.object "com/example/kourier/kourier/rabbitmq/Route"))).before a0 Z = true := hw _ (List.mem_of_getElem? (i := 33) rfl)
theorem w34 {Z : State} {a0 : Array Value} (hw : ∀ d ∈ tables_1, d.before a0 Z = true) : (Jvm.Cond.methodLink "com/example/kourier/kourier/rabbitmq/Route" (16 : Nat) ({ cls := "java/lang/String", name := "indexOf", desc := "(I)I" } : Jvm.MethodName)).before a0 Z = true := hw _ (List.mem_of_getElem? (i := 34) rfl)
theorem w35 {Z : State} {a0 : Array Value} (hw : ∀ d ∈ tables_1, d.before a0 Z = true) : (Jvm.Cond.declares ({ cls := "java/lang/String", name := "indexOf", desc := "(I)I" } : Jvm.MethodName)).before a0 Z = true := hw _ (List.mem_of_getElem? (i := 35) rfl)
theorem w36 {Z : State} {a0 : Array Value} (hw : ∀ d ∈ tables_1, d.before a0 Z = true) : (Jvm.Cond.instanceMethod ({ cls := "java/lang/String", name := "indexOf", desc := "(I)I" } : Jvm.MethodName)).before a0 Z = true := hw _ (List.mem_of_getElem? (i := 36) rfl)
theorem w37 {Z : State} {a0 : Array Value} (hw : ∀ d ∈ tables_1, d.before a0 Z = true) : (Jvm.Cond.selects "java/lang/String" ({ cls := "java/lang/String", name := "indexOf", desc := "(I)I" } : Jvm.MethodName) ({ cls := "java/lang/String", name := "indexOf", desc := "(I)I" } : Jvm.MethodName)).before a0 Z = true := hw _ (List.mem_of_getElem? (i := 37) rfl)
theorem w38 {Z : State} {a0 : Array Value} (hw : ∀ d ∈ tables_1, d.before a0 Z = true) : (Jvm.Cond.code ({ cls := "java/lang/String", name := "indexOf", desc := "(I)I" } : Jvm.MethodName) jdk_42_method_79_code (2 : Nat) (Option.some Jvm.ClassFile.FieldType.int)).before a0 Z = true := hw _ (List.mem_of_getElem? (i := 38) rfl)
theorem w39 {Z : State} {a0 : Array Value} (hw : ∀ d ∈ tables_1, d.before a0 Z = true) : (Jvm.Cond.methodLink "java/lang/String" (633 : Nat) ({ cls := "java/lang/String", name := "indexOf", desc := "(II)I" } : Jvm.MethodName)).before a0 Z = true := hw _ (List.mem_of_getElem? (i := 39) rfl)
theorem w40 {Z : State} {a0 : Array Value} (hw : ∀ d ∈ tables_1, d.before a0 Z = true) : (Jvm.Cond.declares ({ cls := "java/lang/String", name := "indexOf", desc := "(II)I" } : Jvm.MethodName)).before a0 Z = true := hw _ (List.mem_of_getElem? (i := 40) rfl)
theorem w41 {Z : State} {a0 : Array Value} (hw : ∀ d ∈ tables_1, d.before a0 Z = true) : (Jvm.Cond.instanceMethod ({ cls := "java/lang/String", name := "indexOf", desc := "(II)I" } : Jvm.MethodName)).before a0 Z = true := hw _ (List.mem_of_getElem? (i := 41) rfl)
theorem w42 {Z : State} {a0 : Array Value} (hw : ∀ d ∈ tables_1, d.before a0 Z = true) : (Jvm.Cond.selects "java/lang/String" ({ cls := "java/lang/String", name := "indexOf", desc := "(II)I" } : Jvm.MethodName) ({ cls := "java/lang/String", name := "indexOf", desc := "(II)I" } : Jvm.MethodName)).before a0 Z = true := hw _ (List.mem_of_getElem? (i := 42) rfl)
theorem w43 {Z : State} {a0 : Array Value} (hw : ∀ d ∈ tables_1, d.before a0 Z = true) : (Jvm.Cond.code ({ cls := "java/lang/String", name := "indexOf", desc := "(II)I" } : Jvm.MethodName) jdk_42_method_80_code (3 : Nat) (Option.some Jvm.ClassFile.FieldType.int)).before a0 Z = true := hw _ (List.mem_of_getElem? (i := 43) rfl)
theorem w44 {Z : State} {a0 : Array Value} (hw : ∀ d ∈ tables_1, d.before a0 Z = true) : (Jvm.Cond.methodLink "java/lang/String" (492 : Nat) ({ cls := "java/lang/String", name := "isLatin1", desc := "()Z" } : Jvm.MethodName)).before a0 Z = true := hw _ (List.mem_of_getElem? (i := 44) rfl)
theorem w45 {Z : State} {a0 : Array Value} (hw : ∀ d ∈ tables_1, d.before a0 Z = true) : (Jvm.Cond.declares ({ cls := "java/lang/String", name := "isLatin1", desc := "()Z" } : Jvm.MethodName)).before a0 Z = true := hw _ (List.mem_of_getElem? (i := 45) rfl)
theorem w46 {Z : State} {a0 : Array Value} (hw : ∀ d ∈ tables_1, d.before a0 Z = true) : (Jvm.Cond.instanceMethod ({ cls := "java/lang/String", name := "isLatin1", desc := "()Z" } : Jvm.MethodName)).before a0 Z = true := hw _ (List.mem_of_getElem? (i := 46) rfl)
theorem w47 {Z : State} {a0 : Array Value} (hw : ∀ d ∈ tables_1, d.before a0 Z = true) : (Jvm.Cond.selects "java/lang/String" ({ cls := "java/lang/String", name := "isLatin1", desc := "()Z" } : Jvm.MethodName) ({ cls := "java/lang/String", name := "isLatin1", desc := "()Z" } : Jvm.MethodName)).before a0 Z = true := hw _ (List.mem_of_getElem? (i := 47) rfl)
theorem w48 {Z : State} {a0 : Array Value} (hw : ∀ d ∈ tables_1, d.before a0 Z = true) : (Jvm.Cond.code ({ cls := "java/lang/String", name := "isLatin1", desc := "()Z" } : Jvm.MethodName) jdk_42_method_154_code (1 : Nat) (Option.some Jvm.ClassFile.FieldType.boolean)).before a0 Z = true := hw _ (List.mem_of_getElem? (i := 48) rfl)
theorem w49 {Z : State} {a0 : Array Value} (hw : ∀ d ∈ tables_1, d.before a0 Z = true) : (Jvm.Cond.fieldLink "java/lang/String" (38 : Nat) "java/lang/String" "COMPACT_STRINGS" "Z").before a0 Z = true := hw _ (List.mem_of_getElem? (i := 49) rfl)
theorem w50 {Z : State} {a0 : Array Value} (hw : ∀ d ∈ tables_1, d.before a0 Z = true) : (Jvm.Cond.methodLink "java/lang/String" (505 : Nat) ({ cls := "java/lang/String", name := "length", desc := "()I" } : Jvm.MethodName)).before a0 Z = true := hw _ (List.mem_of_getElem? (i := 50) rfl)
theorem w51 {Z : State} {a0 : Array Value} (hw : ∀ d ∈ tables_1, d.before a0 Z = true) : (Jvm.Cond.declares ({ cls := "java/lang/String", name := "length", desc := "()I" } : Jvm.MethodName)).before a0 Z = true := hw _ (List.mem_of_getElem? (i := 51) rfl)
theorem w52 {Z : State} {a0 : Array Value} (hw : ∀ d ∈ tables_1, d.before a0 Z = true) : (Jvm.Cond.instanceMethod ({ cls := "java/lang/String", name := "length", desc := "()I" } : Jvm.MethodName)).before a0 Z = true := hw _ (List.mem_of_getElem? (i := 52) rfl)
theorem w53 {Z : State} {a0 : Array Value} (hw : ∀ d ∈ tables_1, d.before a0 Z = true) : (Jvm.Cond.selects "java/lang/String" ({ cls := "java/lang/String", name := "length", desc := "()I" } : Jvm.MethodName) ({ cls := "java/lang/String", name := "length", desc := "()I" } : Jvm.MethodName)).before a0 Z = true := hw _ (List.mem_of_getElem? (i := 53) rfl)
theorem w54 {Z : State} {a0 : Array Value} (hw : ∀ d ∈ tables_1, d.before a0 Z = true) : (Jvm.Cond.code ({ cls := "java/lang/String", name := "length", desc := "()I" } : Jvm.MethodName) jdk_42_method_54_code (1 : Nat) (Option.some Jvm.ClassFile.FieldType.int)).before a0 Z = true := hw _ (List.mem_of_getElem? (i := 54) rfl)
theorem w55 {Z : State} {a0 : Array Value} (hw : ∀ d ∈ tables_1, d.before a0 Z = true) : (Jvm.Cond.methodLink "java/lang/String" (335 : Nat) ({ cls := "java/lang/String", name := "coder", desc := "()B" } : Jvm.MethodName)).before a0 Z = true := hw _ (List.mem_of_getElem? (i := 55) rfl)
theorem w56 {Z : State} {a0 : Array Value} (hw : ∀ d ∈ tables_1, d.before a0 Z = true) : (Jvm.Cond.declares ({ cls := "java/lang/String", name := "coder", desc := "()B" } : Jvm.MethodName)).before a0 Z = true := hw _ (List.mem_of_getElem? (i := 56) rfl)
theorem w57 {Z : State} {a0 : Array Value} (hw : ∀ d ∈ tables_1, d.before a0 Z = true) : (Jvm.Cond.instanceMethod ({ cls := "java/lang/String", name := "coder", desc := "()B" } : Jvm.MethodName)).before a0 Z = true := hw _ (List.mem_of_getElem? (i := 57) rfl)
theorem w58 {Z : State} {a0 : Array Value} (hw : ∀ d ∈ tables_1, d.before a0 Z = true) : (Jvm.Cond.selects "java/lang/String" ({ cls := "java/lang/String", name := "coder", desc := "()B" } : Jvm.MethodName) ({ cls := "java/lang/String", name := "coder", desc := "()B" } : Jvm.MethodName)).before a0 Z = true := hw _ (List.mem_of_getElem? (i := 58) rfl)
theorem w59 {Z : State} {a0 : Array Value} (hw : ∀ d ∈ tables_1, d.before a0 Z = true) : (Jvm.Cond.code ({ cls := "java/lang/String", name := "coder", desc := "()B" } : Jvm.MethodName) jdk_42_method_152_code (1 : Nat) (Option.some Jvm.ClassFile.FieldType.byte)).before a0 Z = true := hw _ (List.mem_of_getElem? (i := 59) rfl)
theorem w60 {Z : State} {a0 : Array Value} (hw : ∀ d ∈ tables_1, d.before a0 Z = true) : (Jvm.Cond.methodLink "java/lang/String" (637 : Nat) ({ cls := "java/lang/StringLatin1", name := "indexOf", desc := "([BIII)I" } : Jvm.MethodName)).before a0 Z = true := hw _ (List.mem_of_getElem? (i := 60) rfl)
theorem w61 {Z : State} {a0 : Array Value} (hw : ∀ d ∈ tables_1, d.before a0 Z = true) : (Jvm.Cond.static ({ cls := "java/lang/StringLatin1", name := "indexOf", desc := "([BIII)I" } : Jvm.MethodName)).before a0 Z = true := hw _ (List.mem_of_getElem? (i := 61) rfl)
theorem w62 {Z : State} {a0 : Array Value} (hw : ∀ d ∈ tables_1, d.before a0 Z = true) : (Jvm.Cond.initialized "java/lang/StringLatin1").before a0 Z = true := hw _ (List.mem_of_getElem? (i := 62) rfl)
theorem w63 {Z : State} {a0 : Array Value} (hw : ∀ d ∈ tables_1, d.before a0 Z = true) : (Jvm.Cond.code ({ cls := "java/lang/StringLatin1", name := "indexOf", desc := "([BIII)I" } : Jvm.MethodName) jdk_43_method_22_code (4 : Nat) (Option.some Jvm.ClassFile.FieldType.int)).before a0 Z = true := hw _ (List.mem_of_getElem? (i := 63) rfl)
theorem w64 {Z : State} {a0 : Array Value} (hw : ∀ d ∈ tables_1, d.before a0 Z = true) : (Jvm.Cond.methodLink "java/lang/StringLatin1" (88 : Nat) ({ cls := "java/lang/StringLatin1", name := "canEncode", desc := "(I)Z" } : Jvm.MethodName)).before a0 Z = true := hw _ (List.mem_of_getElem? (i := 64) rfl)
theorem w65 {Z : State} {a0 : Array Value} (hw : ∀ d ∈ tables_1, d.before a0 Z = true) : (Jvm.Cond.static ({ cls := "java/lang/StringLatin1", name := "canEncode", desc := "(I)Z" } : Jvm.MethodName)).before a0 Z = true := hw _ (List.mem_of_getElem? (i := 65) rfl)
theorem w66 {Z : State} {a0 : Array Value} (hw : ∀ d ∈ tables_1, d.before a0 Z = true) : (Jvm.Cond.code ({ cls := "java/lang/StringLatin1", name := "canEncode", desc := "(I)Z" } : Jvm.MethodName) jdk_43_method_4_code (1 : Nat) (Option.some Jvm.ClassFile.FieldType.boolean)).before a0 Z = true := hw _ (List.mem_of_getElem? (i := 66) rfl)
theorem w67 {Z : State} {a0 : Array Value} (hw : ∀ d ∈ tables_1, d.before a0 Z = true) : (Jvm.Cond.methodLink "java/lang/StringLatin1" (92 : Nat) ({ cls := "java/lang/Math", name := "max", desc := "(II)I" } : Jvm.MethodName)).before a0 Z = true := hw _ (List.mem_of_getElem? (i := 67) rfl)
theorem w68 {Z : State} {a0 : Array Value} (hw : ∀ d ∈ tables_1, d.before a0 Z = true) : (Jvm.Cond.static ({ cls := "java/lang/Math", name := "max", desc := "(II)I" } : Jvm.MethodName)).before a0 Z = true := hw _ (List.mem_of_getElem? (i := 68) rfl)
theorem w69 {Z : State} {a0 : Array Value} (hw : ∀ d ∈ tables_1, d.before a0 Z = true) : (Jvm.Cond.initialized "java/lang/Math").before a0 Z = true := hw _ (List.mem_of_getElem? (i := 69) rfl)
theorem w70 {Z : State} {a0 : Array Value} (hw : ∀ d ∈ tables_1, d.before a0 Z = true) : (Jvm.Cond.code ({ cls := "java/lang/Math", name := "max", desc := "(II)I" } : Jvm.MethodName) jdk_29_method_65_code (2 : Nat) (Option.some Jvm.ClassFile.FieldType.int)).before a0 Z = true := hw _ (List.mem_of_getElem? (i := 70) rfl)
theorem w71 {Z : State} {a0 : Array Value} (hw : ∀ d ∈ tables_1, d.before a0 Z = true) : (Jvm.Cond.methodLink "java/lang/StringLatin1" (38 : Nat) ({ cls := "java/lang/Math", name := "min", desc := "(II)I" } : Jvm.MethodName)).before a0 Z = true := hw _ (List.mem_of_getElem? (i := 71) rfl)
theorem w72 {Z : State} {a0 : Array Value} (hw : ∀ d ∈ tables_1, d.before a0 Z = true) : (Jvm.Cond.static ({ cls := "java/lang/Math", name := "min", desc := "(II)I" } : Jvm.MethodName)).before a0 Z = true := hw _ (List.mem_of_getElem? (i := 72) rfl)
theorem w73 {Z : State} {a0 : Array Value} (hw : ∀ d ∈ tables_1, d.before a0 Z = true) : (Jvm.Cond.code ({ cls := "java/lang/Math", name := "min", desc := "(II)I" } : Jvm.MethodName) jdk_29_method_69_code (2 : Nat) (Option.some Jvm.ClassFile.FieldType.int)).before a0 Z = true := hw _ (List.mem_of_getElem? (i := 73) rfl)
theorem w74 {Z : State} {a0 : Array Value} (hw : ∀ d ∈ tables_1, d.before a0 Z = true) : (Jvm.Cond.methodLink "java/lang/String" (177 : Nat) ({ cls := "java/lang/StringUTF16", name := "compress", desc := "([CII)[B" } : Jvm.MethodName)).before a0 Z = true := hw _ (List.mem_of_getElem? (i := 74) rfl)
theorem w75 {Z : State} {a0 : Array Value} (hw : ∀ d ∈ tables_1, d.before a0 Z = true) : (Jvm.Cond.static ({ cls := "java/lang/StringUTF16", name := "compress", desc := "([CII)[B" } : Jvm.MethodName)).before a0 Z = true := hw _ (List.mem_of_getElem? (i := 75) rfl)
theorem w76 {Z : State} {a0 : Array Value} (hw : ∀ d ∈ tables_1, d.before a0 Z = true) : (Jvm.Cond.initialized "java/lang/StringUTF16").before a0 Z = true := hw _ (List.mem_of_getElem? (i := 76) rfl)
theorem w77 {Z : State} {a0 : Array Value} (hw : ∀ d ∈ tables_1, d.before a0 Z = true) : (Jvm.Cond.code ({ cls := "java/lang/StringUTF16", name := "compress", desc := "([CII)[B" } : Jvm.MethodName) jdk_52_method_16_code (6 : Nat) (Option.some (Jvm.ClassFile.FieldType.array Jvm.ClassFile.FieldType.byte))).before a0 Z = true := hw _ (List.mem_of_getElem? (i := 77) rfl)
theorem w78 {Z : State} {a0 : Array Value} (hw : ∀ d ∈ tables_1, d.before a0 Z = true) : (Jvm.Cond.methodLink "java/lang/StringUTF16" (115 : Nat) ({ cls := "java/lang/StringUTF16", name := "compress", desc := "([CI[BII)I" } : Jvm.MethodName)).before a0 Z = true := hw _ (List.mem_of_getElem? (i := 78) rfl)
theorem w79 {Z : State} {a0 : Array Value} (hw : ∀ d ∈ tables_1, d.before a0 Z = true) : (Jvm.Cond.static ({ cls := "java/lang/StringUTF16", name := "compress", desc := "([CI[BII)I" } : Jvm.MethodName)).before a0 Z = true := hw _ (List.mem_of_getElem? (i := 79) rfl)
theorem w80 {Z : State} {a0 : Array Value} (hw : ∀ d ∈ tables_1, d.before a0 Z = true) : (Jvm.Cond.code ({ cls := "java/lang/StringUTF16", name := "compress", desc := "([CI[BII)I" } : Jvm.MethodName) jdk_52_method_21_code (7 : Nat) (Option.some Jvm.ClassFile.FieldType.int)).before a0 Z = true := hw _ (List.mem_of_getElem? (i := 80) rfl)
theorem w81 {Z : State} {a0 : Array Value} (hw : ∀ d ∈ tables_1, d.before a0 Z = true) : (Jvm.Cond.methodLink "java/lang/String" (47 : Nat) ({ cls := "java/lang/StringUTF16", name := "coderFromArrayLen", desc := "([BI)B" } : Jvm.MethodName)).before a0 Z = true := hw _ (List.mem_of_getElem? (i := 81) rfl)
theorem w82 {Z : State} {a0 : Array Value} (hw : ∀ d ∈ tables_1, d.before a0 Z = true) : (Jvm.Cond.static ({ cls := "java/lang/StringUTF16", name := "coderFromArrayLen", desc := "([BI)B" } : Jvm.MethodName)).before a0 Z = true := hw _ (List.mem_of_getElem? (i := 82) rfl)
theorem w83 {Z : State} {a0 : Array Value} (hw : ∀ d ∈ tables_1, d.before a0 Z = true) : (Jvm.Cond.code ({ cls := "java/lang/StringUTF16", name := "coderFromArrayLen", desc := "([BI)B" } : Jvm.MethodName) jdk_52_method_15_code (2 : Nat) (Option.some Jvm.ClassFile.FieldType.byte)).before a0 Z = true := hw _ (List.mem_of_getElem? (i := 83) rfl)
theorem w84 {Z : State} {a0 : Array Value} (hw : ∀ d ∈ tables_1, d.before a0 Z = true) : (Jvm.Cond.methodLink "java/lang/StringLatin1" (95 : Nat) ({ cls := "java/lang/StringLatin1", name := "indexOfChar", desc := "([BIII)I" } : Jvm.MethodName)).before a0 Z = true := hw _ (List.mem_of_getElem? (i := 84) rfl)
theorem w85 {Z : State} {a0 : Array Value} (hw : ∀ d ∈ tables_1, d.before a0 Z = true) : (Jvm.Cond.static ({ cls := "java/lang/StringLatin1", name := "indexOfChar", desc := "([BIII)I" } : Jvm.MethodName)).before a0 Z = true := hw _ (List.mem_of_getElem? (i := 85) rfl)
theorem w86 {Z : State} {a0 : Array Value} (hw : ∀ d ∈ tables_1, d.before a0 Z = true) : (Jvm.Cond.code ({ cls := "java/lang/StringLatin1", name := "indexOfChar", desc := "([BIII)I" } : Jvm.MethodName) jdk_43_method_23_code (6 : Nat) (Option.some Jvm.ClassFile.FieldType.int)).before a0 Z = true := hw _ (List.mem_of_getElem? (i := 86) rfl)
theorem w87 {Z : State} {a0 : Array Value} (hw : ∀ d ∈ tables_1, d.before a0 Z = true) : (Jvm.Cond.classLink "com/example/kourier/kourier/rabbitmq/Route" (8 : Nat) "com/example/kourier/kourier/rabbitmq/Route").before a0 Z = true := hw _ (List.mem_of_getElem? (i := 87) rfl)
theorem w88 {Z : State} {a0 : Array Value} (hw : ∀ d ∈ tables_1, d.before a0 Z = true) : (Jvm.Cond.instantiable "com/example/kourier/kourier/rabbitmq/Route" (2 : Nat)).before a0 Z = true := hw _ (List.mem_of_getElem? (i := 88) rfl)
theorem w89 {Z : State} {a0 : Array Value} (hw : ∀ d ∈ tables_1, d.before a0 Z = true) : (Jvm.Cond.methodLink "com/example/kourier/kourier/rabbitmq/Route" (22 : Nat) ({ cls := "java/lang/String", name := "substring", desc := "(II)Ljava/lang/String;" } : Jvm.MethodName)).before a0 Z = true := hw _ (List.mem_of_getElem? (i := 89) rfl)
theorem w90 {Z : State} {a0 : Array Value} (hw : ∀ d ∈ tables_1, d.before a0 Z = true) : (Jvm.Cond.declares ({ cls := "java/lang/String", name := "substring", desc := "(II)Ljava/lang/String;" } : Jvm.MethodName)).before a0 Z = true := hw _ (List.mem_of_getElem? (i := 90) rfl)
theorem w91 {Z : State} {a0 : Array Value} (hw : ∀ d ∈ tables_1, d.before a0 Z = true) : (Jvm.Cond.instanceMethod ({ cls := "java/lang/String", name := "substring", desc := "(II)Ljava/lang/String;" } : Jvm.MethodName)).before a0 Z = true := hw _ (List.mem_of_getElem? (i := 91) rfl)
theorem w92 {Z : State} {a0 : Array Value} (hw : ∀ d ∈ tables_1, d.before a0 Z = true) : (Jvm.Cond.selects "java/lang/String" ({ cls := "java/lang/String", name := "substring", desc := "(II)Ljava/lang/String;" } : Jvm.MethodName) ({ cls := "java/lang/String", name := "substring", desc := "(II)Ljava/lang/String;" } : Jvm.MethodName)).before a0 Z = true := hw _ (List.mem_of_getElem? (i := 92) rfl)
theorem w93 {Z : State} {a0 : Array Value} (hw : ∀ d ∈ tables_1, d.before a0 Z = true) : (Jvm.Cond.code ({ cls := "java/lang/String", name := "substring", desc := "(II)Ljava/lang/String;" } : Jvm.MethodName) jdk_42_method_92_code (5 : Nat) (Option.some (Jvm.ClassFile.FieldType.object "java/lang/String"))).before a0 Z = true := hw _ (List.mem_of_getElem? (i := 93) rfl)
theorem w94 {Z : State} {a0 : Array Value} (hw : ∀ d ∈ tables_1, d.before a0 Z = true) : (Jvm.Cond.methodLink "java/lang/String" (521 : Nat) ({ cls := "java/lang/String", name := "checkBoundsBeginEnd", desc := "(III)V" } : Jvm.MethodName)).before a0 Z = true := hw _ (List.mem_of_getElem? (i := 94) rfl)
theorem w95 {Z : State} {a0 : Array Value} (hw : ∀ d ∈ tables_1, d.before a0 Z = true) : (Jvm.Cond.static ({ cls := "java/lang/String", name := "checkBoundsBeginEnd", desc := "(III)V" } : Jvm.MethodName)).before a0 Z = true := hw _ (List.mem_of_getElem? (i := 95) rfl)
theorem w96 {Z : State} {a0 : Array Value} (hw : ∀ d ∈ tables_1, d.before a0 Z = true) : (Jvm.Cond.code ({ cls := "java/lang/String", name := "checkBoundsBeginEnd", desc := "(III)V" } : Jvm.MethodName) jdk_42_method_158_code (3 : Nat) (Option.none : Option Jvm.ClassFile.FieldType)).before a0 Z = true := hw _ (List.mem_of_getElem? (i := 96) rfl)
theorem w97 {Z : State} {a0 : Array Value} (hw : ∀ d ∈ tables_1, d.before a0 Z = true) : (Jvm.Cond.fieldLink "java/lang/String" (1053 : Nat) "jdk/internal/util/Preconditions" "SIOOBE_FORMATTER" "Ljava/util/function/BiFunction;").before a0 Z = true := hw _ (List.mem_of_getElem? (i := 97) rfl)
theorem w98 {Z : State} {a0 : Array Value} (hw : ∀ d ∈ tables_1, d.before a0 Z = true) : (Jvm.Cond.initialized "jdk/internal/util/Preconditions").before a0 Z = true := hw _ (List.mem_of_getElem? (i := 98) rfl)
theorem w99 {Z : State} {a0 : Array Value} (hw : ∀ d ∈ tables_1, d.before a0 Z = true) : (Jvm.Cond.methodLink "java/lang/String" (1062 : Nat) ({ cls := "jdk/internal/util/Preconditions", name := "checkFromToIndex", desc := "(IIILjava/util/function/BiFunction;)I" } : Jvm.MethodName)).before a0 Z = true := hw _ (List.mem_of_getElem? (i := 99) rfl)
theorem w100 {Z : State} {a0 : Array Value} (hw : ∀ d ∈ tables_1, d.before a0 Z = true) : (Jvm.Cond.static ({ cls := "jdk/internal/util/Preconditions", name := "checkFromToIndex", desc := "(IIILjava/util/function/BiFunction;)I" } : Jvm.MethodName)).before a0 Z = true := hw _ (List.mem_of_getElem? (i := 100) rfl)
theorem w101 {Z : State} {a0 : Array Value} (hw : ∀ d ∈ tables_1, d.before a0 Z = true) : (Jvm.Cond.code ({ cls := "jdk/internal/util/Preconditions", name := "checkFromToIndex", desc := "(IIILjava/util/function/BiFunction;)I" } : Jvm.MethodName) jdk_41_method_12_code (4 : Nat) (Option.some Jvm.ClassFile.FieldType.int)).before a0 Z = true := hw _ (List.mem_of_getElem? (i := 101) rfl)
theorem w102 {Z : State} {a0 : Array Value} (hw : ∀ d ∈ tables_1, d.before a0 Z = true) : (Jvm.Cond.methodLink "java/lang/String" (685 : Nat) ({ cls := "java/lang/StringLatin1", name := "newString", desc := "([BII)Ljava/lang/String;" } : Jvm.MethodName)).before a0 Z = true := hw _ (List.mem_of_getElem? (i := 102) rfl)
theorem w103 {Z : State} {a0 : Array Value} (hw : ∀ d ∈ tables_1, d.before a0 Z = true) : (Jvm.Cond.static ({ cls := "java/lang/StringLatin1", name := "newString", desc := "([BII)Ljava/lang/String;" } : Jvm.MethodName)).before a0 Z = true := hw _ (List.mem_of_getElem? (i := 103) rfl)
theorem w104 {Z : State} {a0 : Array Value} (hw : ∀ d ∈ tables_1, d.before a0 Z = true) : (Jvm.Cond.code ({ cls := "java/lang/StringLatin1", name := "newString", desc := "([BII)Ljava/lang/String;" } : Jvm.MethodName) jdk_43_method_47_code (3 : Nat) (Option.some (Jvm.ClassFile.FieldType.object "java/lang/String"))).before a0 Z = true := hw _ (List.mem_of_getElem? (i := 104) rfl)
theorem w105 {Z : State} {a0 : Array Value} (hw : ∀ d ∈ tables_1, d.before a0 Z = true) : (Jvm.Cond.stringLink "java/lang/StringLatin1" (151 : Nat) "").before a0 Z = true := hw _ (List.mem_of_getElem? (i := 105) rfl)
theorem w106 {Z : State} {a0 : Array Value} (hw : ∀ d ∈ tables_1, d.before a0 Z = true) : (Jvm.Cond.methodLink "com/example/kourier/kourier/rabbitmq/Route" (26 : Nat) ({ cls := "java/lang/String", name := "substring", desc := "(I)Ljava/lang/String;" } : Jvm.MethodName)).before a0 Z = true := hw _ (List.mem_of_getElem? (i := 106) rfl)
theorem w107 {Z : State} {a0 : Array Value} (hw : ∀ d ∈ tables_1, d.before a0 Z = true) : (Jvm.Cond.declares ({ cls := "java/lang/String", name := "substring", desc := "(I)Ljava/lang/String;" } : Jvm.MethodName)).before a0 Z = true := hw _ (List.mem_of_getElem? (i := 107) rfl)
theorem w108 {Z : State} {a0 : Array Value} (hw : ∀ d ∈ tables_1, d.before a0 Z = true) : (Jvm.Cond.instanceMethod ({ cls := "java/lang/String", name := "substring", desc := "(I)Ljava/lang/String;" } : Jvm.MethodName)).before a0 Z = true := hw _ (List.mem_of_getElem? (i := 108) rfl)
theorem w109 {Z : State} {a0 : Array Value} (hw : ∀ d ∈ tables_1, d.before a0 Z = true) : (Jvm.Cond.selects "java/lang/String" ({ cls := "java/lang/String", name := "substring", desc := "(I)Ljava/lang/String;" } : Jvm.MethodName) ({ cls := "java/lang/String", name := "substring", desc := "(I)Ljava/lang/String;" } : Jvm.MethodName)).before a0 Z = true := hw _ (List.mem_of_getElem? (i := 109) rfl)
theorem w110 {Z : State} {a0 : Array Value} (hw : ∀ d ∈ tables_1, d.before a0 Z = true) : (Jvm.Cond.code ({ cls := "java/lang/String", name := "substring", desc := "(I)Ljava/lang/String;" } : Jvm.MethodName) jdk_42_method_91_code (2 : Nat) (Option.some (Jvm.ClassFile.FieldType.object "java/lang/String"))).before a0 Z = true := hw _ (List.mem_of_getElem? (i := 110) rfl)
theorem w111 {Z : State} {a0 : Array Value} (hw : ∀ d ∈ tables_1, d.before a0 Z = true) : (Jvm.Cond.methodLink "java/lang/String" (681 : Nat) ({ cls := "java/lang/String", name := "substring", desc := "(II)Ljava/lang/String;" } : Jvm.MethodName)).before a0 Z = true := hw _ (List.mem_of_getElem? (i := 111) rfl)
theorem w112 {Z : State} {a0 : Array Value} (hw : ∀ d ∈ tables_1, d.before a0 Z = true) : (Jvm.Cond.classLink "java/lang/StringLatin1" (1 : Nat) "java/lang/String").before a0 Z = true := hw _ (List.mem_of_getElem? (i := 112) rfl)
theorem w113 {Z : State} {a0 : Array Value} (hw : ∀ d ∈ tables_1, d.before a0 Z = true) : (Jvm.Cond.methodLink "java/lang/StringLatin1" (232 : Nat) ({ cls := "java/util/Arrays", name := "copyOfRange", desc := "([BII)[B" } : Jvm.MethodName)).before a0 Z = true := hw _ (List.mem_of_getElem? (i := 113) rfl)
theorem w114 {Z : State} {a0 : Array Value} (hw : ∀ d ∈ tables_1, d.before a0 Z = true) : (Jvm.Cond.static ({ cls := "java/util/Arrays", name := "copyOfRange", desc := "([BII)[B" } : Jvm.MethodName)).before a0 Z = true := hw _ (List.mem_of_getElem? (i := 114) rfl)
theorem w115 {Z : State} {a0 : Array Value} (hw : ∀ d ∈ tables_1, d.before a0 Z = true) : (Jvm.Cond.initialized "java/util/Arrays").before a0 Z = true := hw _ (List.mem_of_getElem? (i := 115) rfl)
theorem w116 {Z : State} {a0 : Array Value} (hw : ∀ d ∈ tables_1, d.before a0 Z = true) : (Jvm.Cond.code ({ cls := "java/util/Arrays", name := "copyOfRange", desc := "([BII)[B" } : Jvm.MethodName) jdk_65_method_132_code (3 : Nat) (Option.some (Jvm.ClassFile.FieldType.array Jvm.ClassFile.FieldType.byte))).before a0 Z = true := hw _ (List.mem_of_getElem? (i := 116) rfl)
theorem w117 {Z : State} {a0 : Array Value} (hw : ∀ d ∈ tables_1, d.before a0 Z = true) : (Jvm.Cond.methodLink "java/util/Arrays" (339 : Nat) ({ cls := "java/util/Arrays", name := "copyOfRangeByte", desc := "([BII)[B" } : Jvm.MethodName)).before a0 Z = true := hw _ (List.mem_of_getElem? (i := 117) rfl)
theorem w118 {Z : State} {a0 : Array Value} (hw : ∀ d ∈ tables_1, d.before a0 Z = true) : (Jvm.Cond.static ({ cls := "java/util/Arrays", name := "copyOfRangeByte", desc := "([BII)[B" } : Jvm.MethodName)).before a0 Z = true := hw _ (List.mem_of_getElem? (i := 118) rfl)
theorem w119 {Z : State} {a0 : Array Value} (hw : ∀ d ∈ tables_1, d.before a0 Z = true) : (Jvm.Cond.code ({ cls := "java/util/Arrays", name := "copyOfRangeByte", desc := "([BII)[B" } : Jvm.MethodName) jdk_65_method_133_code (5 : Nat) (Option.some (Jvm.ClassFile.FieldType.array Jvm.ClassFile.FieldType.byte))).before a0 Z = true := hw _ (List.mem_of_getElem? (i := 119) rfl)
theorem w120 {Z : State} {a0 : Array Value} (hw : ∀ d ∈ tables_1, d.before a0 Z = true) : (Jvm.Cond.methodLink "java/util/Arrays" (343 : Nat) ({ cls := "java/util/Arrays", name := "checkLength", desc := "(II)V" } : Jvm.MethodName)).before a0 Z = true := hw _ (List.mem_of_getElem? (i := 120) rfl)
theorem w121 {Z : State} {a0 : Array Value} (hw : ∀ d ∈ tables_1, d.before a0 Z = true) : (Jvm.Cond.static ({ cls := "java/util/Arrays", name := "checkLength", desc := "(II)V" } : Jvm.MethodName)).before a0 Z = true := hw _ (List.mem_of_getElem? (i := 121) rfl)
theorem w122 {Z : State} {a0 : Array Value} (hw : ∀ d ∈ tables_1, d.before a0 Z = true) : (Jvm.Cond.code ({ cls := "java/util/Arrays", name := "checkLength", desc := "(II)V" } : Jvm.MethodName) jdk_65_method_131_code (2 : Nat) (Option.none : Option Jvm.ClassFile.FieldType)).before a0 Z = true := hw _ (List.mem_of_getElem? (i := 122) rfl)
theorem w123 {Z : State} {a0 : Array Value} (hw : ∀ d ∈ tables_1, d.before a0 Z = true) : (Jvm.Cond.methodLink "java/util/Arrays" (304 : Nat) ({ cls := "java/lang/Math", name := "min", desc := "(II)I" } : Jvm.MethodName)).before a0 Z = true := hw _ (List.mem_of_getElem? (i := 123) rfl)
theorem w124 {Z : State} {a0 : Array Value} (hw : ∀ d ∈ tables_1, d.before a0 Z = true) : (Jvm.Cond.methodLink "java/util/Arrays" (150 : Nat) ({ cls := "java/lang/System", name := "arraycopy", desc := "(Ljava/lang/Object;ILjava/lang/Object;II)V" } : Jvm.MethodName)).before a0 Z = true := hw _ (List.mem_of_getElem? (i := 124) rfl)
theorem w125 {Z : State} {a0 : Array Value} (hw : ∀ d ∈ tables_1, d.before a0 Z = true) : (Jvm.Cond.static ({ cls := "java/lang/System", name := "arraycopy", desc := "(Ljava/lang/Object;ILjava/lang/Object;II)V" } : Jvm.MethodName)).before a0 Z = true := hw _ (List.mem_of_getElem? (i := 125) rfl)
theorem w126 {Z : State} {a0 : Array Value} (hw : ∀ d ∈ tables_1, d.before a0 Z = true) : (Jvm.Cond.initialized "java/lang/System").before a0 Z = true := hw _ (List.mem_of_getElem? (i := 126) rfl)
theorem w127 {Z : State} {a0 : Array Value} (hw : ∀ d ∈ tables_1, d.before a0 Z = true) : (Jvm.Cond.native ({ cls := "java/lang/System", name := "arraycopy", desc := "(Ljava/lang/Object;ILjava/lang/Object;II)V" } : Jvm.MethodName)).before a0 Z = true := hw _ (List.mem_of_getElem? (i := 127) rfl)
theorem w128 {Z : State} {a0 : Array Value} (hw : ∀ d ∈ tables_1, d.before a0 Z = true) : (Jvm.Cond.methodLink "java/lang/StringLatin1" (112 : Nat) ({ cls := "java/lang/String", name := "<init>", desc := "([BB)V" } : Jvm.MethodName)).before a0 Z = true := hw _ (List.mem_of_getElem? (i := 128) rfl)
theorem w129 {Z : State} {a0 : Array Value} (hw : ∀ d ∈ tables_1, d.before a0 Z = true) : (Jvm.Cond.instanceMethod ({ cls := "java/lang/String", name := "<init>", desc := "([BB)V" } : Jvm.MethodName)).before a0 Z = true := hw _ (List.mem_of_getElem? (i := 129) rfl)
theorem w130 {Z : State} {a0 : Array Value} (hw : ∀ d ∈ tables_1, d.before a0 Z = true) : (Jvm.Cond.code ({ cls := "java/lang/String", name := "<init>", desc := "([BB)V" } : Jvm.MethodName) jdk_42_method_151_code (3 : Nat) (Option.none : Option Jvm.ClassFile.FieldType)).before a0 Z = true := hw _ (List.mem_of_getElem? (i := 130) rfl)
theorem w131 {Z : State} {a0 : Array Value} (hw : ∀ d ∈ tables_1, d.before a0 Z = true) : (Jvm.Cond.methodLink "com/example/kourier/kourier/rabbitmq/Route" (29 : Nat) ({ cls := "com/example/kourier/kourier/rabbitmq/Route", name := "<init>", desc := "(Ljava/lang/String;Ljava/lang/String;)V" } : Jvm.MethodName)).before a0 Z = true := hw _ (List.mem_of_getElem? (i := 131) rfl)
theorem w132 {Z : State} {a0 : Array Value} (hw : ∀ d ∈ tables_1, d.before a0 Z = true) : (Jvm.Cond.instanceMethod ({ cls := "com/example/kourier/kourier/rabbitmq/Route", name := "<init>", desc := "(Ljava/lang/String;Ljava/lang/String;)V" } : Jvm.MethodName)).before a0 Z = true := hw _ (List.mem_of_getElem? (i := 132) rfl)
theorem w133 {Z : State} {a0 : Array Value} (hw : ∀ d ∈ tables_1, d.before a0 Z = true) : (Jvm.Cond.code ({ cls := "com/example/kourier/kourier/rabbitmq/Route", name := "<init>", desc := "(Ljava/lang/String;Ljava/lang/String;)V" } : Jvm.MethodName) prog_16_method_1_code (3 : Nat) (Option.none : Option Jvm.ClassFile.FieldType)).before a0 Z = true := hw _ (List.mem_of_getElem? (i := 133) rfl)
theorem w134 {Z : State} {a0 : Array Value} (hw : ∀ d ∈ tables_1, d.before a0 Z = true) : (Jvm.Cond.methodLink "com/example/kourier/kourier/rabbitmq/Route" (1 : Nat) ({ cls := "java/lang/Record", name := "<init>", desc := "()V" } : Jvm.MethodName)).before a0 Z = true := hw _ (List.mem_of_getElem? (i := 134) rfl)
theorem w135 {Z : State} {a0 : Array Value} (hw : ∀ d ∈ tables_1, d.before a0 Z = true) : (Jvm.Cond.instanceMethod ({ cls := "java/lang/Record", name := "<init>", desc := "()V" } : Jvm.MethodName)).before a0 Z = true := hw _ (List.mem_of_getElem? (i := 135) rfl)
theorem w137 {Z : State} {a0 : Array Value} (hw : ∀ d ∈ tables_1, d.before a0 Z = true) : (Jvm.Cond.initialized "java/lang/Record").before a0 Z = true := hw _ (List.mem_of_getElem? (i := 137) rfl)
theorem w138 {Z : State} {a0 : Array Value} (hw : ∀ d ∈ tables_1, d.before a0 Z = true) : (Jvm.Cond.code ({ cls := "java/lang/Record", name := "<init>", desc := "()V" } : Jvm.MethodName) jdk_30_method_1_code (1 : Nat) (Option.none : Option Jvm.ClassFile.FieldType)).before a0 Z = true := hw _ (List.mem_of_getElem? (i := 138) rfl)
theorem w139 {Z : State} {a0 : Array Value} (hw : ∀ d ∈ tables_1, d.before a0 Z = true) : (Jvm.Cond.methodLink "java/lang/Record" (1 : Nat) ({ cls := "java/lang/Object", name := "<init>", desc := "()V" } : Jvm.MethodName)).before a0 Z = true := hw _ (List.mem_of_getElem? (i := 139) rfl)
theorem w140 {Z : State} {a0 : Array Value} (hw : ∀ d ∈ tables_1, d.before a0 Z = true) : (Jvm.Cond.fieldLink "com/example/kourier/kourier/rabbitmq/Route" (7 : Nat) "com/example/kourier/kourier/rabbitmq/Route" "exchange" "Ljava/lang/String;").before a0 Z = true := hw _ (List.mem_of_getElem? (i := 140) rfl)
theorem w141 {Z : State} {a0 : Array Value} (hw : ∀ d ∈ tables_1, d.before a0 Z = true) : (Jvm.Cond.laysFinal "com/example/kourier/kourier/rabbitmq/Route" "com/example/kourier/kourier/rabbitmq/Route" "exchange" "Ljava/lang/String;").before a0 Z = true := hw _ (List.mem_of_getElem? (i := 141) rfl)
theorem w142 {Z : State} {a0 : Array Value} (hw : ∀ d ∈ tables_1, d.before a0 Z = true) : (Jvm.Cond.fieldLink "com/example/kourier/kourier/rabbitmq/Route" (13 : Nat) "com/example/kourier/kourier/rabbitmq/Route" "routingKey" "Ljava/lang/String;").before a0 Z = true := hw _ (List.mem_of_getElem? (i := 142) rfl)
theorem w143 {Z : State} {a0 : Array Value} (hw : ∀ d ∈ tables_1, d.before a0 Z = true) : (Jvm.Cond.laysFinal "com/example/kourier/kourier/rabbitmq/Route" "com/example/kourier/kourier/rabbitmq/Route" "routingKey" "Ljava/lang/String;").before a0 Z = true := hw _ (List.mem_of_getElem? (i := 143) rfl)
theorem w144 {Z : State} {a0 : Array Value} (hw : ∀ d ∈ tables_1, d.before a0 Z = true) : (Jvm.Cond.methodLink "com/example/kourier/kourier/rabbitmq/RouteParsePinLaw" (24 : Nat) ({ cls := "com/example/kourier/kourier/rabbitmq/Route", name := "exchange", desc := "()Ljava/lang/String;" } : Jvm.MethodName)).before a0 Z = true := hw _ (List.mem_of_getElem? (i := 144) rfl)
theorem w145 {Z : State} {a0 : Array Value} (hw : ∀ d ∈ tables_1, d.before a0 Z = true) : (Jvm.Cond.declares ({ cls := "com/example/kourier/kourier/rabbitmq/Route", name := "exchange", desc := "()Ljava/lang/String;" } : Jvm.MethodName)).before a0 Z = true := hw _ (List.mem_of_getElem? (i := 145) rfl)
theorem w146 {Z : State} {a0 : Array Value} (hw : ∀ d ∈ tables_1, d.before a0 Z = true) : (Jvm.Cond.instanceMethod ({ cls := "com/example/kourier/kourier/rabbitmq/Route", name := "exchange", desc := "()Ljava/lang/String;" } : Jvm.MethodName)).before a0 Z = true := hw _ (List.mem_of_getElem? (i := 146) rfl)
theorem w147 {Z : State} {a0 : Array Value} (hw : ∀ d ∈ tables_1, d.before a0 Z = true) : (Jvm.Cond.selects "com/example/kourier/kourier/rabbitmq/Route" ({ cls := "com/example/kourier/kourier/rabbitmq/Route", name := "exchange", desc := "()Ljava/lang/String;" } : Jvm.MethodName) ({ cls := "com/example/kourier/kourier/rabbitmq/Route", name := "exchange", desc := "()Ljava/lang/String;" } : Jvm.MethodName)).before a0 Z = true := hw _ (List.mem_of_getElem? (i := 147) rfl)
theorem w148 {Z : State} {a0 : Array Value} (hw : ∀ d ∈ tables_1, d.before a0 Z = true) : (Jvm.Cond.code ({ cls := "com/example/kourier/kourier/rabbitmq/Route", name := "exchange", desc := "()Ljava/lang/String;" } : Jvm.MethodName) prog_16_method_6_code (1 : Nat) (Option.some (Jvm.ClassFile.FieldType.object "java/lang/String"))).before a0 Z = true := hw _ (List.mem_of_getElem? (i := 148) rfl)
theorem w149 {Z : State} {a0 : Array Value} (hw : ∀ d ∈ tables_1, d.before a0 Z = true) : (Jvm.Cond.methodLink "com/example/kourier/kourier/rabbitmq/RouteParsePinLaw" (28 : Nat) ({ cls := "com/example/kourier/kourier/rabbitmq/Route", name := "routingKey", desc := "()Ljava/lang/String;" } : Jvm.MethodName)).before a0 Z = true := hw _ (List.mem_of_getElem? (i := 149) rfl)
theorem w150 {Z : State} {a0 : Array Value} (hw : ∀ d ∈ tables_1, d.before a0 Z = true) : (Jvm.Cond.declares ({ cls := "com/example/kourier/kourier/rabbitmq/Route", name := "routingKey", desc := "()Ljava/lang/String;" } : Jvm.MethodName)).before a0 Z = true := hw _ (List.mem_of_getElem? (i := 150) rfl)
theorem w151 {Z : State} {a0 : Array Value} (hw : ∀ d ∈ tables_1, d.before a0 Z = true) : (Jvm.Cond.instanceMethod ({ cls := "com/example/kourier/kourier/rabbitmq/Route", name := "routingKey", desc := "()Ljava/lang/String;" } : Jvm.MethodName)).before a0 Z = true := hw _ (List.mem_of_getElem? (i := 151) rfl)
theorem w152 {Z : State} {a0 : Array Value} (hw : ∀ d ∈ tables_1, d.before a0 Z = true) : (Jvm.Cond.selects "com/example/kourier/kourier/rabbitmq/Route" ({ cls := "com/example/kourier/kourier/rabbitmq/Route", name := "routingKey", desc := "()Ljava/lang/String;" } : Jvm.MethodName) ({ cls := "com/example/kourier/kourier/rabbitmq/Route", name := "routingKey", desc := "()Ljava/lang/String;" } : Jvm.MethodName)).before a0 Z = true := hw _ (List.mem_of_getElem? (i := 152) rfl)
theorem w153 {Z : State} {a0 : Array Value} (hw : ∀ d ∈ tables_1, d.before a0 Z = true) : (Jvm.Cond.code ({ cls := "com/example/kourier/kourier/rabbitmq/Route", name := "routingKey", desc := "()Ljava/lang/String;" } : Jvm.MethodName) prog_16_method_7_code (1 : Nat) (Option.some (Jvm.ClassFile.FieldType.object "java/lang/String"))).before a0 Z = true := hw _ (List.mem_of_getElem? (i := 153) rfl)
theorem w154 {Z : State} {a0 : Array Value} (hw : ∀ d ∈ tables_1, d.before a0 Z = true) : (Jvm.Cond.methodLink "com/example/kourier/kourier/rabbitmq/RouteParsePinLaw" (31 : Nat) ({ cls := "java/lang/String", name := "length", desc := "()I" } : Jvm.MethodName)).before a0 Z = true := hw _ (List.mem_of_getElem? (i := 154) rfl)
theorem w155 {Z : State} {a0 : Array Value} (hw : ∀ d ∈ tables_1, d.before a0 Z = true) : (Jvm.Cond.methodLink "com/example/kourier/kourier/rabbitmq/RouteParsePinLaw" (37 : Nat) ({ cls := "com/example/kourier/kourier/rabbitmq/RouteParsePinLaw", name := "at", desc := "(Ljava/lang/String;Ljava/lang/String;IIIC)Z" } : Jvm.MethodName)).before a0 Z = true := hw _ (List.mem_of_getElem? (i := 155) rfl)
theorem w156 {Z : State} {a0 : Array Value} (hw : ∀ d ∈ tables_1, d.before a0 Z = true) : (Jvm.Cond.static ({ cls := "com/example/kourier/kourier/rabbitmq/RouteParsePinLaw", name := "at", desc := "(Ljava/lang/String;Ljava/lang/String;IIIC)Z" } : Jvm.MethodName)).before a0 Z = true := hw _ (List.mem_of_getElem? (i := 156) rfl)
theorem w157 {Z : State} {a0 : Array Value} (hw : ∀ d ∈ tables_1, d.before a0 Z = true) : (Jvm.Cond.code ({ cls := "com/example/kourier/kourier/rabbitmq/RouteParsePinLaw", name := "at", desc := "(Ljava/lang/String;Ljava/lang/String;IIIC)Z" } : Jvm.MethodName) method_3_code (6 : Nat) (Option.some Jvm.ClassFile.FieldType.boolean)).before a0 Z = true := hw _ (List.mem_of_getElem? (i := 157) rfl)
theorem w158 {Z : State} {a0 : Array Value} (hw : ∀ d ∈ tables_1, d.before a0 Z = true) : (Jvm.Cond.methodLink "com/example/kourier/kourier/rabbitmq/RouteParsePinLaw" (41 : Nat) ({ cls := "java/lang/String", name := "charAt", desc := "(I)C" } : Jvm.MethodName)).before a0 Z = true := hw _ (List.mem_of_getElem? (i := 158) rfl)
theorem w159 {Z : State} {a0 : Array Value} (hw : ∀ d ∈ tables_1, d.before a0 Z = true) : (Jvm.Cond.declares ({ cls := "java/lang/String", name := "charAt", desc := "(I)C" } : Jvm.MethodName)).before a0 Z = true := hw _ (List.mem_of_getElem? (i := 159) rfl)
theorem w160 {Z : State} {a0 : Array Value} (hw : ∀ d ∈ tables_1, d.before a0 Z = true) : (Jvm.Cond.instanceMethod ({ cls := "java/lang/String", name := "charAt", desc := "(I)C" } : Jvm.MethodName)).before a0 Z = true := hw _ (List.mem_of_getElem? (i := 160) rfl)
theorem w161 {Z : State} {a0 : Array Value} (hw : ∀ d ∈ tables_1, d.before a0 Z = true) : (Jvm.Cond.selects "java/lang/String" ({ cls := "java/lang/String", name := "charAt", desc := "(I)C" } : Jvm.MethodName) ({ cls := "java/lang/String", name := "charAt", desc := "(I)C" } : Jvm.MethodName)).before a0 Z = true := hw _ (List.mem_of_getElem? (i := 161) rfl)
theorem w162 {Z : State} {a0 : Array Value} (hw : ∀ d ∈ tables_1, d.before a0 Z = true) : (Jvm.Cond.code ({ cls := "java/lang/String", name := "charAt", desc := "(I)C" } : Jvm.MethodName) jdk_42_method_56_code (2 : Nat) (Option.some Jvm.ClassFile.FieldType.char)).before a0 Z = true := hw _ (List.mem_of_getElem? (i := 162) rfl)
theorem w163 {Z : State} {a0 : Array Value} (hw : ∀ d ∈ tables_1, d.before a0 Z = true) : (Jvm.Cond.methodLink "java/lang/String" (495 : Nat) ({ cls := "java/lang/StringLatin1", name := "charAt", desc := "([BI)C" } : Jvm.MethodName)).before a0 Z = true := hw _ (List.mem_of_getElem? (i := 163) rfl)
theorem w164 {Z : State} {a0 : Array Value} (hw : ∀ d ∈ tables_1, d.before a0 Z = true) : (Jvm.Cond.static ({ cls := "java/lang/StringLatin1", name := "charAt", desc := "([BI)C" } : Jvm.MethodName)).before a0 Z = true := hw _ (List.mem_of_getElem? (i := 164) rfl)
theorem w165 {Z : State} {a0 : Array Value} (hw : ∀ d ∈ tables_1, d.before a0 Z = true) : (Jvm.Cond.code ({ cls := "java/lang/StringLatin1", name := "charAt", desc := "([BI)C" } : Jvm.MethodName) jdk_43_method_2_code (2 : Nat) (Option.some Jvm.ClassFile.FieldType.char)).before a0 Z = true := hw _ (List.mem_of_getElem? (i := 165) rfl)
theorem w166 {Z : State} {a0 : Array Value} (hw : ∀ d ∈ tables_1, d.before a0 Z = true) : (Jvm.Cond.methodLink "java/lang/StringLatin1" (9 : Nat) ({ cls := "java/lang/String", name := "checkIndex", desc := "(II)V" } : Jvm.MethodName)).before a0 Z = true := hw _ (List.mem_of_getElem? (i := 166) rfl)
theorem w167 {Z : State} {a0 : Array Value} (hw : ∀ d ∈ tables_1, d.before a0 Z = true) : (Jvm.Cond.static ({ cls := "java/lang/String", name := "checkIndex", desc := "(II)V" } : Jvm.MethodName)).before a0 Z = true := hw _ (List.mem_of_getElem? (i := 167) rfl)
theorem w168 {Z : State} {a0 : Array Value} (hw : ∀ d ∈ tables_1, d.before a0 Z = true) : (Jvm.Cond.code ({ cls := "java/lang/String", name := "checkIndex", desc := "(II)V" } : Jvm.MethodName) jdk_42_method_155_code (2 : Nat) (Option.none : Option Jvm.ClassFile.FieldType)).before a0 Z = true := hw _ (List.mem_of_getElem? (i := 168) rfl)
theorem w169 {Z : State} {a0 : Array Value} (hw : ∀ d ∈ tables_1, d.before a0 Z = true) : (Jvm.Cond.methodLink "java/lang/String" (1059 : Nat) ({ cls := "jdk/internal/util/Preconditions", name := "checkIndex", desc := "(IILjava/util/function/BiFunction;)I" } : Jvm.MethodName)).before a0 Z = true := hw _ (List.mem_of_getElem? (i := 169) rfl)
theorem w170 {Z : State} {a0 : Array Value} (hw : ∀ d ∈ tables_1, d.before a0 Z = true) : (Jvm.Cond.static ({ cls := "jdk/internal/util/Preconditions", name := "checkIndex", desc := "(IILjava/util/function/BiFunction;)I" } : Jvm.MethodName)).before a0 Z = true := hw _ (List.mem_of_getElem? (i := 170) rfl)
theorem w171 {Z : State} {a0 : Array Value} (hw : ∀ d ∈ tables_1, d.before a0 Z = true) : (Jvm.Cond.code ({ cls := "jdk/internal/util/Preconditions", name := "checkIndex", desc := "(IILjava/util/function/BiFunction;)I" } : Jvm.MethodName) jdk_41_method_11_code (3 : Nat) (Option.some Jvm.ClassFile.FieldType.int)).before a0 Z = true := hw _ (List.mem_of_getElem? (i := 171) rfl)
theorem d_jdk_52_21_0 : D jdk_52_method_21_code 0 (.iconst 0) 1 1 := And.intro (by decide +kernel) rfl
theorem d_jdk_52_21_1 : D jdk_52_method_21_code 1 (.istore 5) 2 3 := And.intro (by decide +kernel) rfl
theorem d_jdk_52_21_3 : D jdk_52_method_21_code 3 (.iload 5) 2 5 := And.intro (by decide +kernel) rfl
theorem d_jdk_52_21_5 : D jdk_52_method_21_code 5 (.iload 4) 2 7 := And.intro (by decide +kernel) rfl
theorem d_jdk_52_21_7 : D jdk_52_method_21_code 7 (.if_icmp .ge 37) 3 10 := And.intro (by decide +kernel) rfl
theorem d_jdk_52_21_44 : D jdk_52_method_21_code 44 (.iload 4) 2 46 := And.intro (by decide +kernel) rfl
theorem d_jdk_52_21_46 : D jdk_52_method_21_code 46 (.ireturn) 1 47 := And.intro (by decide +kernel) rfl
theorem d_jdk_52_21_10 : D jdk_52_method_21_code 10 (.aload_n 0) 1 11 := And.intro (by decide +kernel) rfl
theorem d_jdk_52_21_11 : D jdk_52_method_21_code 11 (.iload_n 1) 1 12 := And.intro (by decide +kernel) rfl
theorem d_jdk_52_21_12 : D jdk_52_method_21_code 12 (.caload) 1 13 := And.intro (by decide +kernel) rfl
theorem d_jdk_52_21_13 : D jdk_52_method_21_code 13 (.istore 6) 2 15 := And.intro (by decide +kernel) rfl
theorem d_jdk_52_21_15 : D jdk_52_method_21_code 15 (.iload 6) 2 17 := And.intro (by decide +kernel) rfl
theorem d_jdk_52_21_17 : D jdk_52_method_21_code 17 (.sipush 255) 3 20 := And.intro (by decide +kernel) rfl
theorem d_jdk_52_21_20 : D jdk_52_method_21_code 20 (.if_icmp .le 6) 3 23 := And.intro (by decide +kernel) rfl
theorem d_jdk_52_21_26 : D jdk_52_method_21_code 26 (.aload_n 2) 1 27 := And.intro (by decide +kernel) rfl
theorem d_jdk_52_21_27 : D jdk_52_method_21_code 27 (.iload_n 3) 1 28 := And.intro (by decide +kernel) rfl
theorem d_jdk_52_21_28 : D jdk_52_method_21_code 28 (.iload 6) 2 30 := And.intro (by decide +kernel) rfl
theorem d_jdk_52_21_30 : D jdk_52_method_21_code 30 (.i2b) 1 31 := And.intro (by decide +kernel) rfl
theorem d_jdk_52_21_31 : D jdk_52_method_21_code 31 (.bastore) 1 32 := And.intro (by decide +kernel) rfl
theorem d_jdk_52_21_32 : D jdk_52_method_21_code 32 (.iinc 1 1) 3 35 := And.intro (by decide +kernel) rfl
theorem d_jdk_52_21_35 : D jdk_52_method_21_code 35 (.iinc 3 1) 3 38 := And.intro (by decide +kernel) rfl
theorem d_jdk_52_21_38 : D jdk_52_method_21_code 38 (.iinc 5 1) 3 41 := And.intro (by decide +kernel) rfl
theorem d_jdk_52_21_41 : D jdk_52_method_21_code 41 (.goto (-38)) 3 44 := And.intro (by decide +kernel) rfl
theorem pn0 : plainName "java/lang/StringUTF16" = true := by first | (simp [plainName, overriddenIn]; done) | decide +kernel
theorem d_jdk_52_16_0 : D jdk_52_method_16_code 0 (.iload_n 2) 1 1 := And.intro (by decide +kernel) rfl
theorem d_jdk_52_16_1 : D jdk_52_method_16_code 1 (.newarray .byte) 2 3 := And.intro (by decide +kernel) rfl
theorem d_jdk_52_16_3 : D jdk_52_method_16_code 3 (.astore_n 3) 1 4 := And.intro (by decide +kernel) rfl
theorem d_jdk_52_16_4 : D jdk_52_method_16_code 4 (.aload_n 0) 1 5 := And.intro (by decide +kernel) rfl
theorem d_jdk_52_16_5 : D jdk_52_method_16_code 5 (.iload_n 1) 1 6 := And.intro (by decide +kernel) rfl
theorem d_jdk_52_16_6 : D jdk_52_method_16_code 6 (.aload_n 3) 1 7 := And.intro (by decide +kernel) rfl
theorem d_jdk_52_16_7 : D jdk_52_method_16_code 7 (.iconst 0) 1 8 := And.intro (by decide +kernel) rfl
theorem d_jdk_52_16_8 : D jdk_52_method_16_code 8 (.iload_n 2) 1 9 := And.intro (by decide +kernel) rfl
theorem d_jdk_52_16_9 : D jdk_52_method_16_code 9 (.invokestatic 115) 3 12 := And.intro (by decide +kernel) rfl
theorem pd0 : parseMethodDescriptor "([CI[BII)I" = some ⟨[(.array .char), .int, (.array .byte), .int, .int], some .int⟩ := by decide +kernel
theorem d_jdk_52_16_12 : D jdk_52_method_16_code 12 (.istore 4) 2 14 := And.intro (by decide +kernel) rfl
theorem d_jdk_52_16_14 : D jdk_52_method_16_code 14 (.iload 4) 2 16 := And.intro (by decide +kernel) rfl
theorem d_jdk_52_16_16 : D jdk_52_method_16_code 16 (.iload_n 2) 1 17 := And.intro (by decide +kernel) rfl
theorem d_jdk_52_16_17 : D jdk_52_method_16_code 17 (.if_icmp .eq 40) 3 20 := And.intro (by decide +kernel) rfl
theorem d_jdk_52_16_57 : D jdk_52_method_16_code 57 (.aload_n 3) 1 58 := And.intro (by decide +kernel) rfl
theorem d_jdk_52_16_58 : D jdk_52_method_16_code 58 (.areturn) 1 59 := And.intro (by decide +kernel) rfl
theorem d_jdk_52_15_0 : D jdk_52_method_15_code 0 (.iload_n 1) 1 1 := And.intro (by decide +kernel) rfl
theorem d_jdk_52_15_1 : D jdk_52_method_15_code 1 (.aload_n 0) 1 2 := And.intro (by decide +kernel) rfl
theorem d_jdk_52_15_2 : D jdk_52_method_15_code 2 (.arraylength) 1 3 := And.intro (by decide +kernel) rfl
theorem d_jdk_52_15_3 : D jdk_52_method_15_code 3 (.isub) 1 4 := And.intro (by decide +kernel) rfl
theorem d_jdk_52_15_4 : D jdk_52_method_15_code 4 (.bipush 31) 2 6 := And.intro (by decide +kernel) rfl
theorem d_jdk_52_15_6 : D jdk_52_method_15_code 6 (.iushr) 1 7 := And.intro (by decide +kernel) rfl
theorem d_jdk_52_15_7 : D jdk_52_method_15_code 7 (.i2b) 1 8 := And.intro (by decide +kernel) rfl
theorem d_jdk_52_15_8 : D jdk_52_method_15_code 8 (.ireturn) 1 9 := And.intro (by decide +kernel) rfl
theorem d_jdk_42_149_0 : D jdk_42_method_149_code 0 (.aload_n 0) 1 1 := And.intro (by decide +kernel) rfl
theorem d_jdk_42_149_1 : D jdk_42_method_149_code 1 (.invokespecial 1) 3 4 := And.intro (by decide +kernel) rfl
theorem d_jdk_42_149_4 : D jdk_42_method_149_code 4 (.iload_n 3) 1 5 := And.intro (by decide +kernel) rfl
theorem d_jdk_42_149_5 : D jdk_42_method_149_code 5 (.ifCond .ne 22) 3 8 := And.intro (by decide +kernel) rfl
theorem d_jdk_42_149_27 : D jdk_42_method_149_code 27 (.getstatic 38) 3 30 := And.intro (by decide +kernel) rfl
theorem d_jdk_42_149_30 : D jdk_42_method_149_code 30 (.ifCond .eq 28) 3 33 := And.intro (by decide +kernel) rfl
theorem d_jdk_42_149_33 : D jdk_42_method_149_code 33 (.aload_n 1) 1 34 := And.intro (by decide +kernel) rfl
theorem d_jdk_42_149_34 : D jdk_42_method_149_code 34 (.iload_n 2) 1 35 := And.intro (by decide +kernel) rfl
theorem d_jdk_42_149_35 : D jdk_42_method_149_code 35 (.iload_n 3) 1 36 := And.intro (by decide +kernel) rfl
theorem d_jdk_42_149_36 : D jdk_42_method_149_code 36 (.invokestatic 177) 3 39 := And.intro (by decide +kernel) rfl
theorem pd1 : parseMethodDescriptor "([CII)[B" = some ⟨[(.array .char), .int, .int], some (.array .byte)⟩ := by decide +kernel
theorem d_jdk_42_149_39 : D jdk_42_method_149_code 39 (.astore 5) 2 41 := And.intro (by decide +kernel) rfl
theorem d_jdk_42_149_41 : D jdk_42_method_149_code 41 (.aload_n 0) 1 42 := And.intro (by decide +kernel) rfl
theorem d_jdk_42_149_42 : D jdk_42_method_149_code 42 (.aload 5) 2 44 := And.intro (by decide +kernel) rfl
theorem d_jdk_42_149_44 : D jdk_42_method_149_code 44 (.iload_n 3) 1 45 := And.intro (by decide +kernel) rfl
theorem d_jdk_42_149_45 : D jdk_42_method_149_code 45 (.invokestatic 47) 3 48 := And.intro (by decide +kernel) rfl
theorem pd2 : parseMethodDescriptor "([BI)B" = some ⟨[(.array .byte), .int], some .byte⟩ := by decide +kernel
theorem d_jdk_42_149_48 : D jdk_42_method_149_code 48 (.putfield 15) 3 51 := And.intro (by decide +kernel) rfl
theorem d_jdk_42_149_51 : D jdk_42_method_149_code 51 (.aload_n 0) 1 52 := And.intro (by decide +kernel) rfl
theorem d_jdk_42_149_52 : D jdk_42_method_149_code 52 (.aload 5) 2 54 := And.intro (by decide +kernel) rfl
theorem d_jdk_42_149_54 : D jdk_42_method_149_code 54 (.putfield 9) 3 57 := And.intro (by decide +kernel) rfl
theorem d_jdk_42_149_57 : D jdk_42_method_149_code 57 (.return_) 1 58 := And.intro (by decide +kernel) rfl
theorem pn1 : plainName "java/lang/String" = true := by first | (simp [plainName, overriddenIn]; done) | decide +kernel
theorem d_jdk_42_3_0 : D jdk_42_method_3_code 0 (.aload_n 0) 1 1 := And.intro (by decide +kernel) rfl
theorem d_jdk_42_3_1 : D jdk_42_method_3_code 1 (.aload_n 1) 1 2 := And.intro (by decide +kernel) rfl
theorem d_jdk_42_3_2 : D jdk_42_method_3_code 2 (.iconst 0) 1 3 := And.intro (by decide +kernel) rfl
theorem d_jdk_42_3_3 : D jdk_42_method_3_code 3 (.aload_n 1) 1 4 := And.intro (by decide +kernel) rfl
theorem d_jdk_42_3_4 : D jdk_42_method_3_code 4 (.arraylength) 1 5 := And.intro (by decide +kernel) rfl
theorem d_jdk_42_3_5 : D jdk_42_method_3_code 5 (.aconst_null) 1 6 := And.intro (by decide +kernel) rfl
theorem d_jdk_42_3_6 : D jdk_42_method_3_code 6 (.invokespecial 27) 3 9 := And.intro (by decide +kernel) rfl
theorem pd3 : parseMethodDescriptor "([CIILjava/lang/Void;)V" = some ⟨[(.array .char), .int, .int, (.object "java/lang/Void")], none⟩ := by decide +kernel
theorem d_jdk_42_3_9 : D jdk_42_method_3_code 9 (.return_) 1 10 := And.intro (by decide +kernel) rfl
theorem d_jdk_42_149_8 : D jdk_42_method_149_code 8 (.aload_n 0) 1 9 := And.intro (by decide +kernel) rfl
theorem d_jdk_42_149_9 : D jdk_42_method_149_code 9 (.ldc 7) 2 11 := And.intro (by decide +kernel) rfl
theorem d_jdk_42_149_11 : D jdk_42_method_149_code 11 (.getfield 9) 3 14 := And.intro (by decide +kernel) rfl
theorem d_jdk_42_149_14 : D jdk_42_method_149_code 14 (.putfield 9) 3 17 := And.intro (by decide +kernel) rfl
theorem d_jdk_42_149_17 : D jdk_42_method_149_code 17 (.aload_n 0) 1 18 := And.intro (by decide +kernel) rfl
theorem d_jdk_42_149_18 : D jdk_42_method_149_code 18 (.ldc 7) 2 20 := And.intro (by decide +kernel) rfl
theorem d_jdk_42_149_20 : D jdk_42_method_149_code 20 (.getfield 15) 3 23 := And.intro (by decide +kernel) rfl
theorem d_jdk_42_149_23 : D jdk_42_method_149_code 23 (.putfield 15) 3 26 := And.intro (by decide +kernel) rfl
theorem d_jdk_42_149_26 : D jdk_42_method_149_code 26 (.return_) 1 27 := And.intro (by decide +kernel) rfl
theorem d_jdk_29_65_0 : D jdk_29_method_65_code 0 (.iload_n 0) 1 1 := And.intro (by decide +kernel) rfl
theorem d_jdk_29_65_1 : D jdk_29_method_65_code 1 (.iload_n 1) 1 2 := And.intro (by decide +kernel) rfl
theorem d_jdk_29_65_2 : D jdk_29_method_65_code 2 (.if_icmp .lt 7) 3 5 := And.intro (by decide +kernel) rfl
theorem d_jdk_29_65_5 : D jdk_29_method_65_code 5 (.iload_n 0) 1 6 := And.intro (by decide +kernel) rfl
theorem d_jdk_29_65_6 : D jdk_29_method_65_code 6 (.goto 4) 3 9 := And.intro (by decide +kernel) rfl
theorem d_jdk_29_65_10 : D jdk_29_method_65_code 10 (.ireturn) 1 11 := And.intro (by decide +kernel) rfl
theorem pf0 : plainFor (⟨"java/lang/Math", "max", "(II)I"⟩ : MethodName) = true := by decide +kernel
theorem d_jdk_29_69_0 : D jdk_29_method_69_code 0 (.iload_n 0) 1 1 := And.intro (by decide +kernel) rfl
theorem d_jdk_29_69_1 : D jdk_29_method_69_code 1 (.iload_n 1) 1 2 := And.intro (by decide +kernel) rfl
theorem d_jdk_29_69_2 : D jdk_29_method_69_code 2 (.if_icmp .gt 7) 3 5 := And.intro (by decide +kernel) rfl
theorem d_jdk_29_69_9 : D jdk_29_method_69_code 9 (.iload_n 1) 1 10 := And.intro (by decide +kernel) rfl
theorem d_jdk_29_69_10 : D jdk_29_method_69_code 10 (.ireturn) 1 11 := And.intro (by decide +kernel) rfl
theorem d_jdk_29_69_5 : D jdk_29_method_69_code 5 (.iload_n 0) 1 6 := And.intro (by decide +kernel) rfl
theorem d_jdk_29_69_6 : D jdk_29_method_69_code 6 (.goto 4) 3 9 := And.intro (by decide +kernel) rfl
theorem pf1 : plainFor (⟨"java/lang/Math", "min", "(II)I"⟩ : MethodName) = true := by decide +kernel
theorem d_jdk_42_154_0 : D jdk_42_method_154_code 0 (.getstatic 38) 3 3 := And.intro (by decide +kernel) rfl
theorem d_jdk_42_154_3 : D jdk_42_method_154_code 3 (.ifCond .eq 14) 3 6 := And.intro (by decide +kernel) rfl
theorem d_jdk_42_154_6 : D jdk_42_method_154_code 6 (.aload_n 0) 1 7 := And.intro (by decide +kernel) rfl
theorem d_jdk_42_154_7 : D jdk_42_method_154_code 7 (.getfield 15) 3 10 := And.intro (by decide +kernel) rfl
theorem d_jdk_42_154_10 : D jdk_42_method_154_code 10 (.ifCond .ne 7) 3 13 := And.intro (by decide +kernel) rfl
theorem d_jdk_42_154_13 : D jdk_42_method_154_code 13 (.iconst 1) 1 14 := And.intro (by decide +kernel) rfl
theorem d_jdk_42_154_14 : D jdk_42_method_154_code 14 (.goto 4) 3 17 := And.intro (by decide +kernel) rfl
theorem d_jdk_42_154_18 : D jdk_42_method_154_code 18 (.ireturn) 1 19 := And.intro (by decide +kernel) rfl
theorem d_jdk_42_152_0 : D jdk_42_method_152_code 0 (.getstatic 38) 3 3 := And.intro (by decide +kernel) rfl
theorem d_jdk_42_152_3 : D jdk_42_method_152_code 3 (.ifCond .eq 10) 3 6 := And.intro (by decide +kernel) rfl
theorem d_jdk_42_152_6 : D jdk_42_method_152_code 6 (.aload_n 0) 1 7 := And.intro (by decide +kernel) rfl
theorem d_jdk_42_152_7 : D jdk_42_method_152_code 7 (.getfield 15) 3 10 := And.intro (by decide +kernel) rfl
theorem d_jdk_42_152_10 : D jdk_42_method_152_code 10 (.goto 4) 3 13 := And.intro (by decide +kernel) rfl
theorem d_jdk_42_152_14 : D jdk_42_method_152_code 14 (.ireturn) 1 15 := And.intro (by decide +kernel) rfl
theorem d_jdk_42_54_0 : D jdk_42_method_54_code 0 (.aload_n 0) 1 1 := And.intro (by decide +kernel) rfl
theorem d_jdk_42_54_1 : D jdk_42_method_54_code 1 (.getfield 9) 3 4 := And.intro (by decide +kernel) rfl
theorem d_jdk_42_54_4 : D jdk_42_method_54_code 4 (.arraylength) 1 5 := And.intro (by decide +kernel) rfl
theorem d_jdk_42_54_5 : D jdk_42_method_54_code 5 (.aload_n 0) 1 6 := And.intro (by decide +kernel) rfl
theorem d_jdk_42_54_6 : D jdk_42_method_54_code 6 (.invokevirtual 335) 3 9 := And.intro (by decide +kernel) rfl
theorem pd4 : parseMethodDescriptor "()B" = some ⟨[], some .byte⟩ := by decide +kernel
theorem d_jdk_42_54_9 : D jdk_42_method_54_code 9 (.ishr) 1 10 := And.intro (by decide +kernel) rfl
theorem d_jdk_42_54_10 : D jdk_42_method_54_code 10 (.ireturn) 1 11 := And.intro (by decide +kernel) rfl
theorem d_jdk_43_4_0 : D jdk_43_method_4_code 0 (.iload_n 0) 1 1 := And.intro (by decide +kernel) rfl
theorem d_jdk_43_4_1 : D jdk_43_method_4_code 1 (.ifCond .lt 14) 3 4 := And.intro (by decide +kernel) rfl
theorem d_jdk_43_4_4 : D jdk_43_method_4_code 4 (.iload_n 0) 1 5 := And.intro (by decide +kernel) rfl
theorem d_jdk_43_4_5 : D jdk_43_method_4_code 5 (.sipush 255) 3 8 := And.intro (by decide +kernel) rfl
theorem d_jdk_43_4_8 : D jdk_43_method_4_code 8 (.if_icmp .gt 7) 3 11 := And.intro (by decide +kernel) rfl
theorem d_jdk_43_4_11 : D jdk_43_method_4_code 11 (.iconst 1) 1 12 := And.intro (by decide +kernel) rfl
theorem d_jdk_43_4_12 : D jdk_43_method_4_code 12 (.goto 4) 3 15 := And.intro (by decide +kernel) rfl
theorem d_jdk_43_4_16 : D jdk_43_method_4_code 16 (.ireturn) 1 17 := And.intro (by decide +kernel) rfl
theorem pn2 : plainName "java/lang/StringLatin1" = true := by first | (simp [plainName, overriddenIn]; done) | decide +kernel
theorem d_jdk_43_23_0 : D jdk_43_method_23_code 0 (.iload_n 1) 1 1 := And.intro (by decide +kernel) rfl
theorem d_jdk_43_23_1 : D jdk_43_method_23_code 1 (.i2b) 1 2 := And.intro (by decide +kernel) rfl
theorem d_jdk_43_23_2 : D jdk_43_method_23_code 2 (.istore 4) 2 4 := And.intro (by decide +kernel) rfl
theorem d_jdk_43_23_4 : D jdk_43_method_23_code 4 (.iload_n 2) 1 5 := And.intro (by decide +kernel) rfl
theorem d_jdk_43_23_5 : D jdk_43_method_23_code 5 (.istore 5) 2 7 := And.intro (by decide +kernel) rfl
theorem d_jdk_43_23_7 : D jdk_43_method_23_code 7 (.iload 5) 2 9 := And.intro (by decide +kernel) rfl
theorem d_jdk_43_23_9 : D jdk_43_method_23_code 9 (.iload_n 3) 1 10 := And.intro (by decide +kernel) rfl
theorem d_jdk_43_23_10 : D jdk_43_method_23_code 10 (.if_icmp .ge 21) 3 13 := And.intro (by decide +kernel) rfl
theorem d_jdk_43_23_13 : D jdk_43_method_23_code 13 (.aload_n 0) 1 14 := And.intro (by decide +kernel) rfl
theorem d_jdk_43_23_14 : D jdk_43_method_23_code 14 (.iload 5) 2 16 := And.intro (by decide +kernel) rfl
theorem d_jdk_43_23_16 : D jdk_43_method_23_code 16 (.baload) 1 17 := And.intro (by decide +kernel) rfl
theorem d_jdk_43_23_17 : D jdk_43_method_23_code 17 (.iload 4) 2 19 := And.intro (by decide +kernel) rfl
theorem d_jdk_43_23_19 : D jdk_43_method_23_code 19 (.if_icmp .ne 6) 3 22 := And.intro (by decide +kernel) rfl
theorem d_jdk_43_23_22 : D jdk_43_method_23_code 22 (.iload 5) 2 24 := And.intro (by decide +kernel) rfl
theorem d_jdk_43_23_24 : D jdk_43_method_23_code 24 (.ireturn) 1 25 := And.intro (by decide +kernel) rfl
theorem d_jdk_43_23_25 : D jdk_43_method_23_code 25 (.iinc 5 1) 3 28 := And.intro (by decide +kernel) rfl
theorem d_jdk_43_23_28 : D jdk_43_method_23_code 28 (.goto (-21)) 3 31 := And.intro (by decide +kernel) rfl
theorem d_jdk_43_22_0 : D jdk_43_method_22_code 0 (.iload_n 1) 1 1 := And.intro (by decide +kernel) rfl
theorem d_jdk_43_22_1 : D jdk_43_method_22_code 1 (.invokestatic 88) 3 4 := And.intro (by decide +kernel) rfl
theorem pd5 : parseMethodDescriptor "(I)Z" = some ⟨[.int], some .boolean⟩ := by decide +kernel
theorem d_jdk_43_22_4 : D jdk_43_method_22_code 4 (.ifCond .ne 5) 3 7 := And.intro (by decide +kernel) rfl
theorem d_jdk_43_22_9 : D jdk_43_method_22_code 9 (.iload_n 2) 1 10 := And.intro (by decide +kernel) rfl
theorem d_jdk_43_22_10 : D jdk_43_method_22_code 10 (.iconst 0) 1 11 := And.intro (by decide +kernel) rfl
theorem d_jdk_43_22_11 : D jdk_43_method_22_code 11 (.invokestatic 92) 3 14 := And.intro (by decide +kernel) rfl
theorem pd6 : parseMethodDescriptor "(II)I" = some ⟨[.int, .int], some .int⟩ := by decide +kernel
theorem d_jdk_43_22_14 : D jdk_43_method_22_code 14 (.istore_n 2) 1 15 := And.intro (by decide +kernel) rfl
theorem d_jdk_43_22_15 : D jdk_43_method_22_code 15 (.iload_n 3) 1 16 := And.intro (by decide +kernel) rfl
theorem d_jdk_43_22_16 : D jdk_43_method_22_code 16 (.aload_n 0) 1 17 := And.intro (by decide +kernel) rfl
theorem d_jdk_43_22_17 : D jdk_43_method_22_code 17 (.arraylength) 1 18 := And.intro (by decide +kernel) rfl
theorem d_jdk_43_22_18 : D jdk_43_method_22_code 18 (.invokestatic 38) 3 21 := And.intro (by decide +kernel) rfl
theorem d_jdk_43_22_21 : D jdk_43_method_22_code 21 (.istore_n 3) 1 22 := And.intro (by decide +kernel) rfl
theorem d_jdk_43_22_22 : D jdk_43_method_22_code 22 (.iload_n 2) 1 23 := And.intro (by decide +kernel) rfl
theorem d_jdk_43_22_23 : D jdk_43_method_22_code 23 (.iload_n 3) 1 24 := And.intro (by decide +kernel) rfl
theorem d_jdk_43_22_24 : D jdk_43_method_22_code 24 (.if_icmp .lt 5) 3 27 := And.intro (by decide +kernel) rfl
theorem d_jdk_43_22_29 : D jdk_43_method_22_code 29 (.aload_n 0) 1 30 := And.intro (by decide +kernel) rfl
theorem d_jdk_43_22_30 : D jdk_43_method_22_code 30 (.iload_n 1) 1 31 := And.intro (by decide +kernel) rfl
theorem d_jdk_43_22_31 : D jdk_43_method_22_code 31 (.iload_n 2) 1 32 := And.intro (by decide +kernel) rfl
theorem d_jdk_43_22_32 : D jdk_43_method_22_code 32 (.iload_n 3) 1 33 := And.intro (by decide +kernel) rfl
theorem d_jdk_43_22_33 : D jdk_43_method_22_code 33 (.invokestatic 95) 3 36 := And.intro (by decide +kernel) rfl
theorem pd7 : parseMethodDescriptor "([BIII)I" = some ⟨[(.array .byte), .int, .int, .int], some .int⟩ := by decide +kernel
theorem d_jdk_43_22_36 : D jdk_43_method_22_code 36 (.ireturn) 1 37 := And.intro (by decide +kernel) rfl
theorem d_jdk_42_80_0 : D jdk_42_method_80_code 0 (.aload_n 0) 1 1 := And.intro (by decide +kernel) rfl
theorem d_jdk_42_80_1 : D jdk_42_method_80_code 1 (.invokevirtual 492) 3 4 := And.intro (by decide +kernel) rfl
theorem pd8 : parseMethodDescriptor "()Z" = some ⟨[], some .boolean⟩ := by decide +kernel
theorem d_jdk_42_80_4 : D jdk_42_method_80_code 4 (.ifCond .eq 19) 3 7 := And.intro (by decide +kernel) rfl
theorem d_jdk_42_80_7 : D jdk_42_method_80_code 7 (.aload_n 0) 1 8 := And.intro (by decide +kernel) rfl
theorem d_jdk_42_80_8 : D jdk_42_method_80_code 8 (.getfield 9) 3 11 := And.intro (by decide +kernel) rfl
theorem d_jdk_42_80_11 : D jdk_42_method_80_code 11 (.iload_n 1) 1 12 := And.intro (by decide +kernel) rfl
theorem d_jdk_42_80_12 : D jdk_42_method_80_code 12 (.iload_n 2) 1 13 := And.intro (by decide +kernel) rfl
theorem d_jdk_42_80_13 : D jdk_42_method_80_code 13 (.aload_n 0) 1 14 := And.intro (by decide +kernel) rfl
theorem d_jdk_42_80_14 : D jdk_42_method_80_code 14 (.invokevirtual 505) 3 17 := And.intro (by decide +kernel) rfl
theorem pd9 : parseMethodDescriptor "()I" = some ⟨[], some .int⟩ := by decide +kernel
theorem d_jdk_42_80_17 : D jdk_42_method_80_code 17 (.invokestatic 637) 3 20 := And.intro (by decide +kernel) rfl
theorem d_jdk_42_80_20 : D jdk_42_method_80_code 20 (.goto 16) 3 23 := And.intro (by decide +kernel) rfl
theorem d_jdk_42_80_36 : D jdk_42_method_80_code 36 (.ireturn) 1 37 := And.intro (by decide +kernel) rfl
theorem d_jdk_42_79_0 : D jdk_42_method_79_code 0 (.aload_n 0) 1 1 := And.intro (by decide +kernel) rfl
theorem d_jdk_42_79_1 : D jdk_42_method_79_code 1 (.iload_n 1) 1 2 := And.intro (by decide +kernel) rfl
theorem d_jdk_42_79_2 : D jdk_42_method_79_code 2 (.iconst 0) 1 3 := And.intro (by decide +kernel) rfl
theorem d_jdk_42_79_3 : D jdk_42_method_79_code 3 (.invokevirtual 633) 3 6 := And.intro (by decide +kernel) rfl
theorem d_jdk_42_79_6 : D jdk_42_method_79_code 6 (.ireturn) 1 7 := And.intro (by decide +kernel) rfl
theorem d_jdk_43_23_31 : D jdk_43_method_23_code 31 (.iconst (-1)) 1 32 := And.intro (by decide +kernel) rfl
theorem d_jdk_43_23_32 : D jdk_43_method_23_code 32 (.ireturn) 1 33 := And.intro (by decide +kernel) rfl
theorem d_jdk_43_22_27 : D jdk_43_method_22_code 27 (.iconst (-1)) 1 28 := And.intro (by decide +kernel) rfl
theorem d_jdk_43_22_28 : D jdk_43_method_22_code 28 (.ireturn) 1 29 := And.intro (by decide +kernel) rfl
theorem d_jdk_42_151_0 : D jdk_42_method_151_code 0 (.aload_n 0) 1 1 := And.intro (by decide +kernel) rfl
theorem d_jdk_42_151_1 : D jdk_42_method_151_code 1 (.invokespecial 1) 3 4 := And.intro (by decide +kernel) rfl
theorem d_jdk_42_151_4 : D jdk_42_method_151_code 4 (.aload_n 0) 1 5 := And.intro (by decide +kernel) rfl
theorem d_jdk_42_151_5 : D jdk_42_method_151_code 5 (.aload_n 1) 1 6 := And.intro (by decide +kernel) rfl
theorem d_jdk_42_151_6 : D jdk_42_method_151_code 6 (.putfield 9) 3 9 := And.intro (by decide +kernel) rfl
theorem d_jdk_42_151_9 : D jdk_42_method_151_code 9 (.aload_n 0) 1 10 := And.intro (by decide +kernel) rfl
theorem d_jdk_42_151_10 : D jdk_42_method_151_code 10 (.iload_n 2) 1 11 := And.intro (by decide +kernel) rfl
theorem d_jdk_42_151_11 : D jdk_42_method_151_code 11 (.putfield 15) 3 14 := And.intro (by decide +kernel) rfl
theorem d_jdk_42_151_14 : D jdk_42_method_151_code 14 (.return_) 1 15 := And.intro (by decide +kernel) rfl
theorem d_jdk_65_131_0 : D jdk_65_method_131_code 0 (.iload_n 1) 1 1 := And.intro (by decide +kernel) rfl
theorem d_jdk_65_131_1 : D jdk_65_method_131_code 1 (.iload_n 0) 1 2 := And.intro (by decide +kernel) rfl
theorem d_jdk_65_131_2 : D jdk_65_method_131_code 2 (.if_icmp .ge 35) 3 5 := And.intro (by decide +kernel) rfl
theorem d_jdk_65_131_37 : D jdk_65_method_131_code 37 (.return_) 1 38 := And.intro (by decide +kernel) rfl
theorem pn3 : plainName "java/util/Arrays" = true := by first | (simp [plainName, overriddenIn]; done) | decide +kernel
theorem d_jdk_65_133_0 : D jdk_65_method_133_code 0 (.iload_n 1) 1 1 := And.intro (by decide +kernel) rfl
theorem d_jdk_65_133_1 : D jdk_65_method_133_code 1 (.iload_n 2) 1 2 := And.intro (by decide +kernel) rfl
theorem d_jdk_65_133_2 : D jdk_65_method_133_code 2 (.invokestatic 343) 3 5 := And.intro (by decide +kernel) rfl
theorem pd10 : parseMethodDescriptor "(II)V" = some ⟨[.int, .int], none⟩ := by decide +kernel
theorem d_jdk_65_133_5 : D jdk_65_method_133_code 5 (.iload_n 2) 1 6 := And.intro (by decide +kernel) rfl
theorem d_jdk_65_133_6 : D jdk_65_method_133_code 6 (.iload_n 1) 1 7 := And.intro (by decide +kernel) rfl
theorem d_jdk_65_133_7 : D jdk_65_method_133_code 7 (.isub) 1 8 := And.intro (by decide +kernel) rfl
theorem d_jdk_65_133_8 : D jdk_65_method_133_code 8 (.istore_n 3) 1 9 := And.intro (by decide +kernel) rfl
theorem d_jdk_65_133_9 : D jdk_65_method_133_code 9 (.iload_n 3) 1 10 := And.intro (by decide +kernel) rfl
theorem d_jdk_65_133_10 : D jdk_65_method_133_code 10 (.newarray .byte) 2 12 := And.intro (by decide +kernel) rfl
theorem d_jdk_65_133_12 : D jdk_65_method_133_code 12 (.astore 4) 2 14 := And.intro (by decide +kernel) rfl
theorem d_jdk_65_133_14 : D jdk_65_method_133_code 14 (.aload_n 0) 1 15 := And.intro (by decide +kernel) rfl
theorem d_jdk_65_133_15 : D jdk_65_method_133_code 15 (.iload_n 1) 1 16 := And.intro (by decide +kernel) rfl
theorem d_jdk_65_133_16 : D jdk_65_method_133_code 16 (.aload 4) 2 18 := And.intro (by decide +kernel) rfl
theorem d_jdk_65_133_18 : D jdk_65_method_133_code 18 (.iconst 0) 1 19 := And.intro (by decide +kernel) rfl
theorem d_jdk_65_133_19 : D jdk_65_method_133_code 19 (.aload_n 0) 1 20 := And.intro (by decide +kernel) rfl
theorem d_jdk_65_133_20 : D jdk_65_method_133_code 20 (.arraylength) 1 21 := And.intro (by decide +kernel) rfl
theorem d_jdk_65_133_21 : D jdk_65_method_133_code 21 (.iload_n 1) 1 22 := And.intro (by decide +kernel) rfl
theorem d_jdk_65_133_22 : D jdk_65_method_133_code 22 (.isub) 1 23 := And.intro (by decide +kernel) rfl
theorem d_jdk_65_133_23 : D jdk_65_method_133_code 23 (.iload_n 3) 1 24 := And.intro (by decide +kernel) rfl
theorem d_jdk_65_133_24 : D jdk_65_method_133_code 24 (.invokestatic 304) 3 27 := And.intro (by decide +kernel) rfl
theorem d_jdk_65_133_27 : D jdk_65_method_133_code 27 (.invokestatic 150) 3 30 := And.intro (by decide +kernel) rfl
theorem d_jdk_65_133_30 : D jdk_65_method_133_code 30 (.aload 4) 2 32 := And.intro (by decide +kernel) rfl
theorem d_jdk_65_133_32 : D jdk_65_method_133_code 32 (.areturn) 1 33 := And.intro (by decide +kernel) rfl
theorem d_jdk_65_132_0 : D jdk_65_method_132_code 0 (.iload_n 1) 1 1 := And.intro (by decide +kernel) rfl
theorem d_jdk_65_132_1 : D jdk_65_method_132_code 1 (.ifCond .ne 9) 3 4 := And.intro (by decide +kernel) rfl
theorem d_jdk_65_132_10 : D jdk_65_method_132_code 10 (.aload_n 0) 1 11 := And.intro (by decide +kernel) rfl
theorem d_jdk_65_132_11 : D jdk_65_method_132_code 11 (.iload_n 1) 1 12 := And.intro (by decide +kernel) rfl
theorem d_jdk_65_132_12 : D jdk_65_method_132_code 12 (.iload_n 2) 1 13 := And.intro (by decide +kernel) rfl
theorem d_jdk_65_132_13 : D jdk_65_method_132_code 13 (.invokestatic 339) 3 16 := And.intro (by decide +kernel) rfl
theorem pd11 : parseMethodDescriptor "([BII)[B" = some ⟨[(.array .byte), .int, .int], some (.array .byte)⟩ := by decide +kernel
theorem d_jdk_65_132_16 : D jdk_65_method_132_code 16 (.areturn) 1 17 := And.intro (by decide +kernel) rfl
theorem d_jdk_65_132_4 : D jdk_65_method_132_code 4 (.iload_n 2) 1 5 := And.intro (by decide +kernel) rfl
theorem d_jdk_65_132_5 : D jdk_65_method_132_code 5 (.aload_n 0) 1 6 := And.intro (by decide +kernel) rfl
theorem d_jdk_65_132_6 : D jdk_65_method_132_code 6 (.arraylength) 1 7 := And.intro (by decide +kernel) rfl
theorem d_jdk_65_132_7 : D jdk_65_method_132_code 7 (.if_icmp .eq 10) 3 10 := And.intro (by decide +kernel) rfl
theorem d_jdk_43_47_0 : D jdk_43_method_47_code 0 (.iload_n 2) 1 1 := And.intro (by decide +kernel) rfl
theorem d_jdk_43_47_1 : D jdk_43_method_47_code 1 (.ifCond .ne 6) 3 4 := And.intro (by decide +kernel) rfl
theorem d_jdk_43_47_7 : D jdk_43_method_47_code 7 (.new 1) 3 10 := And.intro (by decide +kernel) rfl
theorem d_jdk_43_47_10 : D jdk_43_method_47_code 10 (.dup) 1 11 := And.intro (by decide +kernel) rfl
theorem d_jdk_43_47_11 : D jdk_43_method_47_code 11 (.aload_n 0) 1 12 := And.intro (by decide +kernel) rfl
theorem d_jdk_43_47_12 : D jdk_43_method_47_code 12 (.iload_n 1) 1 13 := And.intro (by decide +kernel) rfl
theorem d_jdk_43_47_13 : D jdk_43_method_47_code 13 (.iload_n 1) 1 14 := And.intro (by decide +kernel) rfl
theorem d_jdk_43_47_14 : D jdk_43_method_47_code 14 (.iload_n 2) 1 15 := And.intro (by decide +kernel) rfl
theorem d_jdk_43_47_15 : D jdk_43_method_47_code 15 (.iadd) 1 16 := And.intro (by decide +kernel) rfl
theorem d_jdk_43_47_16 : D jdk_43_method_47_code 16 (.invokestatic 232) 3 19 := And.intro (by decide +kernel) rfl
theorem d_jdk_43_47_19 : D jdk_43_method_47_code 19 (.iconst 0) 1 20 := And.intro (by decide +kernel) rfl
theorem d_jdk_43_47_20 : D jdk_43_method_47_code 20 (.invokespecial 112) 3 23 := And.intro (by decide +kernel) rfl
theorem pd12 : parseMethodDescriptor "([BB)V" = some ⟨[(.array .byte), .byte], none⟩ := by decide +kernel
theorem d_jdk_43_47_23 : D jdk_43_method_47_code 23 (.areturn) 1 24 := And.intro (by decide +kernel) rfl
theorem d_jdk_43_47_4 : D jdk_43_method_47_code 4 (.ldc 151) 2 6 := And.intro (by decide +kernel) rfl
theorem d_jdk_43_47_6 : D jdk_43_method_47_code 6 (.areturn) 1 7 := And.intro (by decide +kernel) rfl
theorem d_jdk_41_12_0 : D jdk_41_method_12_code 0 (.iload_n 0) 1 1 := And.intro (by decide +kernel) rfl
theorem d_jdk_41_12_1 : D jdk_41_method_12_code 1 (.ifCond .lt 13) 3 4 := And.intro (by decide +kernel) rfl
theorem d_jdk_41_12_4 : D jdk_41_method_12_code 4 (.iload_n 0) 1 5 := And.intro (by decide +kernel) rfl
theorem d_jdk_41_12_5 : D jdk_41_method_12_code 5 (.iload_n 1) 1 6 := And.intro (by decide +kernel) rfl
theorem d_jdk_41_12_6 : D jdk_41_method_12_code 6 (.if_icmp .gt 8) 3 9 := And.intro (by decide +kernel) rfl
theorem d_jdk_41_12_9 : D jdk_41_method_12_code 9 (.iload_n 1) 1 10 := And.intro (by decide +kernel) rfl
theorem d_jdk_41_12_10 : D jdk_41_method_12_code 10 (.iload_n 2) 1 11 := And.intro (by decide +kernel) rfl
theorem d_jdk_41_12_11 : D jdk_41_method_12_code 11 (.if_icmp .le 11) 3 14 := And.intro (by decide +kernel) rfl
theorem d_jdk_41_12_22 : D jdk_41_method_12_code 22 (.iload_n 0) 1 23 := And.intro (by decide +kernel) rfl
theorem d_jdk_41_12_23 : D jdk_41_method_12_code 23 (.ireturn) 1 24 := And.intro (by decide +kernel) rfl
theorem pn4 : plainName "jdk/internal/util/Preconditions" = true := by first | (simp [plainName, overriddenIn]; done) | decide +kernel
theorem d_jdk_42_158_0 : D jdk_42_method_158_code 0 (.iload_n 0) 1 1 := And.intro (by decide +kernel) rfl
theorem d_jdk_42_158_1 : D jdk_42_method_158_code 1 (.iload_n 1) 1 2 := And.intro (by decide +kernel) rfl
theorem d_jdk_42_158_2 : D jdk_42_method_158_code 2 (.iload_n 2) 1 3 := And.intro (by decide +kernel) rfl
theorem d_jdk_42_158_3 : D jdk_42_method_158_code 3 (.getstatic 1053) 3 6 := And.intro (by decide +kernel) rfl
theorem d_jdk_42_158_6 : D jdk_42_method_158_code 6 (.invokestatic 1062) 3 9 := And.intro (by decide +kernel) rfl
theorem pd13 : parseMethodDescriptor "(IIILjava/util/function/BiFunction;)I" = some ⟨[.int, .int, .int, (.object "java/util/function/BiFunction")], some .int⟩ := by decide +kernel
theorem d_jdk_42_158_9 : D jdk_42_method_158_code 9 (.pop) 1 10 := And.intro (by decide +kernel) rfl
theorem d_jdk_42_158_10 : D jdk_42_method_158_code 10 (.return_) 1 11 := And.intro (by decide +kernel) rfl
theorem d_jdk_42_92_0 : D jdk_42_method_92_code 0 (.aload_n 0) 1 1 := And.intro (by decide +kernel) rfl
theorem d_jdk_42_92_1 : D jdk_42_method_92_code 1 (.invokevirtual 505) 3 4 := And.intro (by decide +kernel) rfl
theorem d_jdk_42_92_4 : D jdk_42_method_92_code 4 (.istore_n 3) 1 5 := And.intro (by decide +kernel) rfl
theorem d_jdk_42_92_5 : D jdk_42_method_92_code 5 (.iload_n 1) 1 6 := And.intro (by decide +kernel) rfl
theorem d_jdk_42_92_6 : D jdk_42_method_92_code 6 (.iload_n 2) 1 7 := And.intro (by decide +kernel) rfl
theorem d_jdk_42_92_7 : D jdk_42_method_92_code 7 (.iload_n 3) 1 8 := And.intro (by decide +kernel) rfl
theorem d_jdk_42_92_8 : D jdk_42_method_92_code 8 (.invokestatic 521) 3 11 := And.intro (by decide +kernel) rfl
theorem pd14 : parseMethodDescriptor "(III)V" = some ⟨[.int, .int, .int], none⟩ := by decide +kernel
theorem d_jdk_42_92_11 : D jdk_42_method_92_code 11 (.iload_n 1) 1 12 := And.intro (by decide +kernel) rfl
theorem d_jdk_42_92_12 : D jdk_42_method_92_code 12 (.ifCond .ne 10) 3 15 := And.intro (by decide +kernel) rfl
theorem d_jdk_42_92_22 : D jdk_42_method_92_code 22 (.iload_n 2) 1 23 := And.intro (by decide +kernel) rfl
theorem d_jdk_42_92_23 : D jdk_42_method_92_code 23 (.iload_n 1) 1 24 := And.intro (by decide +kernel) rfl
theorem d_jdk_42_92_24 : D jdk_42_method_92_code 24 (.isub) 1 25 := And.intro (by decide +kernel) rfl
theorem d_jdk_42_92_25 : D jdk_42_method_92_code 25 (.istore 4) 2 27 := And.intro (by decide +kernel) rfl
theorem d_jdk_42_92_27 : D jdk_42_method_92_code 27 (.aload_n 0) 1 28 := And.intro (by decide +kernel) rfl
theorem d_jdk_42_92_28 : D jdk_42_method_92_code 28 (.invokevirtual 492) 3 31 := And.intro (by decide +kernel) rfl
theorem d_jdk_42_92_31 : D jdk_42_method_92_code 31 (.ifCond .eq 16) 3 34 := And.intro (by decide +kernel) rfl
theorem d_jdk_42_92_34 : D jdk_42_method_92_code 34 (.aload_n 0) 1 35 := And.intro (by decide +kernel) rfl
theorem d_jdk_42_92_35 : D jdk_42_method_92_code 35 (.getfield 9) 3 38 := And.intro (by decide +kernel) rfl
theorem d_jdk_42_92_38 : D jdk_42_method_92_code 38 (.iload_n 1) 1 39 := And.intro (by decide +kernel) rfl
theorem d_jdk_42_92_39 : D jdk_42_method_92_code 39 (.iload 4) 2 41 := And.intro (by decide +kernel) rfl
theorem d_jdk_42_92_41 : D jdk_42_method_92_code 41 (.invokestatic 685) 3 44 := And.intro (by decide +kernel) rfl
theorem pd15 : parseMethodDescriptor "([BII)Ljava/lang/String;" = some ⟨[(.array .byte), .int, .int], some (.object "java/lang/String")⟩ := by decide +kernel
theorem d_jdk_42_92_44 : D jdk_42_method_92_code 44 (.goto 13) 3 47 := And.intro (by decide +kernel) rfl
theorem d_jdk_42_92_57 : D jdk_42_method_92_code 57 (.areturn) 1 58 := And.intro (by decide +kernel) rfl
theorem d_jdk_42_92_15 : D jdk_42_method_92_code 15 (.iload_n 2) 1 16 := And.intro (by decide +kernel) rfl
theorem d_jdk_42_92_16 : D jdk_42_method_92_code 16 (.iload_n 3) 1 17 := And.intro (by decide +kernel) rfl
theorem d_jdk_42_92_17 : D jdk_42_method_92_code 17 (.if_icmp .ne 5) 3 20 := And.intro (by decide +kernel) rfl
theorem d_jdk_42_91_0 : D jdk_42_method_91_code 0 (.aload_n 0) 1 1 := And.intro (by decide +kernel) rfl
theorem d_jdk_42_91_1 : D jdk_42_method_91_code 1 (.iload_n 1) 1 2 := And.intro (by decide +kernel) rfl
theorem d_jdk_42_91_2 : D jdk_42_method_91_code 2 (.aload_n 0) 1 3 := And.intro (by decide +kernel) rfl
theorem d_jdk_42_91_3 : D jdk_42_method_91_code 3 (.invokevirtual 505) 3 6 := And.intro (by decide +kernel) rfl
theorem d_jdk_42_91_6 : D jdk_42_method_91_code 6 (.invokevirtual 681) 3 9 := And.intro (by decide +kernel) rfl
theorem pd16 : parseMethodDescriptor "(II)Ljava/lang/String;" = some ⟨[.int, .int], some (.object "java/lang/String")⟩ := by decide +kernel
theorem d_jdk_42_91_9 : D jdk_42_method_91_code 9 (.areturn) 1 10 := And.intro (by decide +kernel) rfl
theorem d_jdk_41_11_0 : D jdk_41_method_11_code 0 (.iload_n 0) 1 1 := And.intro (by decide +kernel) rfl
theorem d_jdk_41_11_1 : D jdk_41_method_11_code 1 (.ifCond .lt 8) 3 4 := And.intro (by decide +kernel) rfl
theorem d_jdk_41_11_4 : D jdk_41_method_11_code 4 (.iload_n 0) 1 5 := And.intro (by decide +kernel) rfl
theorem d_jdk_41_11_5 : D jdk_41_method_11_code 5 (.iload_n 1) 1 6 := And.intro (by decide +kernel) rfl
theorem d_jdk_41_11_6 : D jdk_41_method_11_code 6 (.if_icmp .lt 10) 3 9 := And.intro (by decide +kernel) rfl
theorem d_jdk_41_11_16 : D jdk_41_method_11_code 16 (.iload_n 0) 1 17 := And.intro (by decide +kernel) rfl
theorem d_jdk_41_11_17 : D jdk_41_method_11_code 17 (.ireturn) 1 18 := And.intro (by decide +kernel) rfl
theorem d_jdk_42_155_0 : D jdk_42_method_155_code 0 (.iload_n 0) 1 1 := And.intro (by decide +kernel) rfl
theorem d_jdk_42_155_1 : D jdk_42_method_155_code 1 (.iload_n 1) 1 2 := And.intro (by decide +kernel) rfl
theorem d_jdk_42_155_2 : D jdk_42_method_155_code 2 (.getstatic 1053) 3 5 := And.intro (by decide +kernel) rfl
theorem d_jdk_42_155_5 : D jdk_42_method_155_code 5 (.invokestatic 1059) 3 8 := And.intro (by decide +kernel) rfl
theorem pd17 : parseMethodDescriptor "(IILjava/util/function/BiFunction;)I" = some ⟨[.int, .int, (.object "java/util/function/BiFunction")], some .int⟩ := by decide +kernel
theorem d_jdk_42_155_8 : D jdk_42_method_155_code 8 (.pop) 1 9 := And.intro (by decide +kernel) rfl
theorem d_jdk_42_155_9 : D jdk_42_method_155_code 9 (.return_) 1 10 := And.intro (by decide +kernel) rfl
theorem d_jdk_43_2_0 : D jdk_43_method_2_code 0 (.iload_n 1) 1 1 := And.intro (by decide +kernel) rfl
theorem d_jdk_43_2_1 : D jdk_43_method_2_code 1 (.aload_n 0) 1 2 := And.intro (by decide +kernel) rfl
theorem d_jdk_43_2_2 : D jdk_43_method_2_code 2 (.arraylength) 1 3 := And.intro (by decide +kernel) rfl
theorem d_jdk_43_2_3 : D jdk_43_method_2_code 3 (.invokestatic 9) 3 6 := And.intro (by decide +kernel) rfl
theorem d_jdk_43_2_6 : D jdk_43_method_2_code 6 (.aload_n 0) 1 7 := And.intro (by decide +kernel) rfl
theorem d_jdk_43_2_7 : D jdk_43_method_2_code 7 (.iload_n 1) 1 8 := And.intro (by decide +kernel) rfl
theorem d_jdk_43_2_8 : D jdk_43_method_2_code 8 (.baload) 1 9 := And.intro (by decide +kernel) rfl
theorem d_jdk_43_2_9 : D jdk_43_method_2_code 9 (.sipush 255) 3 12 := And.intro (by decide +kernel) rfl
theorem d_jdk_43_2_12 : D jdk_43_method_2_code 12 (.iand) 1 13 := And.intro (by decide +kernel) rfl
theorem d_jdk_43_2_13 : D jdk_43_method_2_code 13 (.i2c) 1 14 := And.intro (by decide +kernel) rfl
theorem d_jdk_43_2_14 : D jdk_43_method_2_code 14 (.ireturn) 1 15 := And.intro (by decide +kernel) rfl
theorem d_jdk_42_56_0 : D jdk_42_method_56_code 0 (.aload_n 0) 1 1 := And.intro (by decide +kernel) rfl
theorem d_jdk_42_56_1 : D jdk_42_method_56_code 1 (.invokevirtual 492) 3 4 := And.intro (by decide +kernel) rfl
theorem d_jdk_42_56_4 : D jdk_42_method_56_code 4 (.ifCond .eq 12) 3 7 := And.intro (by decide +kernel) rfl
theorem d_jdk_42_56_7 : D jdk_42_method_56_code 7 (.aload_n 0) 1 8 := And.intro (by decide +kernel) rfl
theorem d_jdk_42_56_8 : D jdk_42_method_56_code 8 (.getfield 9) 3 11 := And.intro (by decide +kernel) rfl
theorem d_jdk_42_56_11 : D jdk_42_method_56_code 11 (.iload_n 1) 1 12 := And.intro (by decide +kernel) rfl
theorem d_jdk_42_56_12 : D jdk_42_method_56_code 12 (.invokestatic 495) 3 15 := And.intro (by decide +kernel) rfl
theorem pd18 : parseMethodDescriptor "([BI)C" = some ⟨[(.array .byte), .int], some .char⟩ := by decide +kernel
theorem d_jdk_42_56_15 : D jdk_42_method_56_code 15 (.ireturn) 1 16 := And.intro (by decide +kernel) rfl
theorem d_method_4_0 : D method_4_code 0 (.iload_n 0) 1 1 := And.intro (by decide +kernel) rfl
theorem d_method_4_1 : D method_4_code 1 (.bipush 8) 2 3 := And.intro (by decide +kernel) rfl
theorem d_method_4_3 : D method_4_code 3 (.iushr) 1 4 := And.intro (by decide +kernel) rfl
theorem d_method_4_4 : D method_4_code 4 (.iconst 3) 1 5 := And.intro (by decide +kernel) rfl
theorem d_method_4_5 : D method_4_code 5 (.iand) 1 6 := And.intro (by decide +kernel) rfl
theorem d_method_4_6 : D method_4_code 6 (.ifCond .ne 6) 3 9 := And.intro (by decide +kernel) rfl
theorem d_method_4_12 : D method_4_code 12 (.iload_n 0) 1 13 := And.intro (by decide +kernel) rfl
theorem d_method_4_13 : D method_4_code 13 (.sipush 255) 3 16 := And.intro (by decide +kernel) rfl
theorem d_method_4_16 : D method_4_code 16 (.iand) 1 17 := And.intro (by decide +kernel) rfl
theorem d_method_4_17 : D method_4_code 17 (.i2c) 1 18 := And.intro (by decide +kernel) rfl
theorem d_method_4_18 : D method_4_code 18 (.ireturn) 1 19 := And.intro (by decide +kernel) rfl
theorem d_method_4_9 : D method_4_code 9 (.bipush 47) 2 11 := And.intro (by decide +kernel) rfl
theorem d_method_4_11 : D method_4_code 11 (.ireturn) 1 12 := And.intro (by decide +kernel) rfl
theorem pn5 : plainName "com/example/kourier/kourier/rabbitmq/RouteParsePinLaw" = true := by first | (simp [plainName, overriddenIn]; done) | decide +kernel
theorem d_method_5_0 : D method_5_code 0 (.iload_n 0) 1 1 := And.intro (by decide +kernel) rfl
theorem d_method_5_1 : D method_5_code 1 (.ifCond .ne 14) 3 4 := And.intro (by decide +kernel) rfl
theorem d_method_5_4 : D method_5_code 4 (.new 32) 3 7 := And.intro (by decide +kernel) rfl
theorem d_method_5_7 : D method_5_code 7 (.dup) 1 8 := And.intro (by decide +kernel) rfl
theorem d_method_5_8 : D method_5_code 8 (.iconst 0) 1 9 := And.intro (by decide +kernel) rfl
theorem d_method_5_9 : D method_5_code 9 (.newarray .char) 2 11 := And.intro (by decide +kernel) rfl
theorem d_method_5_11 : D method_5_code 11 (.invokespecial 44) 3 14 := And.intro (by decide +kernel) rfl
theorem pd19 : parseMethodDescriptor "([C)V" = some ⟨[(.array .char)], none⟩ := by decide +kernel
theorem d_method_5_14 : D method_5_code 14 (.areturn) 1 15 := And.intro (by decide +kernel) rfl
theorem d_method_5_15 : D method_5_code 15 (.iload_n 0) 1 16 := And.intro (by decide +kernel) rfl
theorem d_method_5_16 : D method_5_code 16 (.iconst 1) 1 17 := And.intro (by decide +kernel) rfl
theorem d_method_5_17 : D method_5_code 17 (.if_icmp .ne 18) 3 20 := And.intro (by decide +kernel) rfl
theorem d_method_5_20 : D method_5_code 20 (.new 32) 3 23 := And.intro (by decide +kernel) rfl
theorem d_method_5_23 : D method_5_code 23 (.dup) 1 24 := And.intro (by decide +kernel) rfl
theorem d_method_5_24 : D method_5_code 24 (.iconst 1) 1 25 := And.intro (by decide +kernel) rfl
theorem d_method_5_25 : D method_5_code 25 (.newarray .char) 2 27 := And.intro (by decide +kernel) rfl
theorem d_method_5_27 : D method_5_code 27 (.dup) 1 28 := And.intro (by decide +kernel) rfl
theorem d_method_5_28 : D method_5_code 28 (.iconst 0) 1 29 := And.intro (by decide +kernel) rfl
theorem d_method_5_29 : D method_5_code 29 (.iload_n 1) 1 30 := And.intro (by decide +kernel) rfl
theorem d_method_5_30 : D method_5_code 30 (.castore) 1 31 := And.intro (by decide +kernel) rfl
theorem d_method_5_31 : D method_5_code 31 (.invokespecial 44) 3 34 := And.intro (by decide +kernel) rfl
theorem d_method_5_34 : D method_5_code 34 (.areturn) 1 35 := And.intro (by decide +kernel) rfl
theorem d_method_5_35 : D method_5_code 35 (.iload_n 0) 1 36 := And.intro (by decide +kernel) rfl
theorem d_method_5_36 : D method_5_code 36 (.iconst 2) 1 37 := And.intro (by decide +kernel) rfl
theorem d_method_5_37 : D method_5_code 37 (.if_icmp .ne 22) 3 40 := And.intro (by decide +kernel) rfl
theorem d_method_5_40 : D method_5_code 40 (.new 32) 3 43 := And.intro (by decide +kernel) rfl
theorem d_method_5_43 : D method_5_code 43 (.dup) 1 44 := And.intro (by decide +kernel) rfl
theorem d_method_5_44 : D method_5_code 44 (.iconst 2) 1 45 := And.intro (by decide +kernel) rfl
theorem d_method_5_45 : D method_5_code 45 (.newarray .char) 2 47 := And.intro (by decide +kernel) rfl
theorem d_method_5_47 : D method_5_code 47 (.dup) 1 48 := And.intro (by decide +kernel) rfl
theorem d_method_5_48 : D method_5_code 48 (.iconst 0) 1 49 := And.intro (by decide +kernel) rfl
theorem d_method_5_49 : D method_5_code 49 (.iload_n 1) 1 50 := And.intro (by decide +kernel) rfl
theorem d_method_5_50 : D method_5_code 50 (.castore) 1 51 := And.intro (by decide +kernel) rfl
theorem d_method_5_51 : D method_5_code 51 (.dup) 1 52 := And.intro (by decide +kernel) rfl
theorem d_method_5_52 : D method_5_code 52 (.iconst 1) 1 53 := And.intro (by decide +kernel) rfl
theorem d_method_5_53 : D method_5_code 53 (.iload_n 2) 1 54 := And.intro (by decide +kernel) rfl
theorem d_method_5_54 : D method_5_code 54 (.castore) 1 55 := And.intro (by decide +kernel) rfl
theorem d_method_5_55 : D method_5_code 55 (.invokespecial 44) 3 58 := And.intro (by decide +kernel) rfl
theorem d_method_5_58 : D method_5_code 58 (.areturn) 1 59 := And.intro (by decide +kernel) rfl
theorem d_method_5_59 : D method_5_code 59 (.iload_n 0) 1 60 := And.intro (by decide +kernel) rfl
theorem d_method_5_60 : D method_5_code 60 (.iconst 3) 1 61 := And.intro (by decide +kernel) rfl
theorem d_method_5_61 : D method_5_code 61 (.if_icmp .ne 26) 3 64 := And.intro (by decide +kernel) rfl
theorem d_method_5_64 : D method_5_code 64 (.new 32) 3 67 := And.intro (by decide +kernel) rfl
theorem d_method_5_67 : D method_5_code 67 (.dup) 1 68 := And.intro (by decide +kernel) rfl
theorem d_method_5_68 : D method_5_code 68 (.iconst 3) 1 69 := And.intro (by decide +kernel) rfl
theorem d_method_5_69 : D method_5_code 69 (.newarray .char) 2 71 := And.intro (by decide +kernel) rfl
theorem d_method_5_71 : D method_5_code 71 (.dup) 1 72 := And.intro (by decide +kernel) rfl
theorem d_method_5_72 : D method_5_code 72 (.iconst 0) 1 73 := And.intro (by decide +kernel) rfl
theorem d_method_5_73 : D method_5_code 73 (.iload_n 1) 1 74 := And.intro (by decide +kernel) rfl
theorem d_method_5_74 : D method_5_code 74 (.castore) 1 75 := And.intro (by decide +kernel) rfl
theorem d_method_5_75 : D method_5_code 75 (.dup) 1 76 := And.intro (by decide +kernel) rfl
theorem d_method_5_76 : D method_5_code 76 (.iconst 1) 1 77 := And.intro (by decide +kernel) rfl
theorem d_method_5_77 : D method_5_code 77 (.iload_n 2) 1 78 := And.intro (by decide +kernel) rfl
theorem d_method_5_78 : D method_5_code 78 (.castore) 1 79 := And.intro (by decide +kernel) rfl
theorem d_method_5_79 : D method_5_code 79 (.dup) 1 80 := And.intro (by decide +kernel) rfl
theorem d_method_5_80 : D method_5_code 80 (.iconst 2) 1 81 := And.intro (by decide +kernel) rfl
theorem d_method_5_81 : D method_5_code 81 (.iload_n 3) 1 82 := And.intro (by decide +kernel) rfl
theorem d_method_5_82 : D method_5_code 82 (.castore) 1 83 := And.intro (by decide +kernel) rfl
theorem d_method_5_83 : D method_5_code 83 (.invokespecial 44) 3 86 := And.intro (by decide +kernel) rfl
theorem d_method_5_86 : D method_5_code 86 (.areturn) 1 87 := And.intro (by decide +kernel) rfl
theorem d_method_5_87 : D method_5_code 87 (.new 32) 3 90 := And.intro (by decide +kernel) rfl
theorem d_method_5_90 : D method_5_code 90 (.dup) 1 91 := And.intro (by decide +kernel) rfl
theorem d_method_5_91 : D method_5_code 91 (.iconst 4) 1 92 := And.intro (by decide +kernel) rfl
theorem d_method_5_92 : D method_5_code 92 (.newarray .char) 2 94 := And.intro (by decide +kernel) rfl
theorem d_method_5_94 : D method_5_code 94 (.dup) 1 95 := And.intro (by decide +kernel) rfl
theorem d_method_5_95 : D method_5_code 95 (.iconst 0) 1 96 := And.intro (by decide +kernel) rfl
theorem d_method_5_96 : D method_5_code 96 (.iload_n 1) 1 97 := And.intro (by decide +kernel) rfl
theorem d_method_5_97 : D method_5_code 97 (.castore) 1 98 := And.intro (by decide +kernel) rfl
theorem d_method_5_98 : D method_5_code 98 (.dup) 1 99 := And.intro (by decide +kernel) rfl
theorem d_method_5_99 : D method_5_code 99 (.iconst 1) 1 100 := And.intro (by decide +kernel) rfl
theorem d_method_5_100 : D method_5_code 100 (.iload_n 2) 1 101 := And.intro (by decide +kernel) rfl
theorem d_method_5_101 : D method_5_code 101 (.castore) 1 102 := And.intro (by decide +kernel) rfl
theorem d_method_5_102 : D method_5_code 102 (.dup) 1 103 := And.intro (by decide +kernel) rfl
theorem d_method_5_103 : D method_5_code 103 (.iconst 2) 1 104 := And.intro (by decide +kernel) rfl
theorem d_method_5_104 : D method_5_code 104 (.iload_n 3) 1 105 := And.intro (by decide +kernel) rfl
theorem d_method_5_105 : D method_5_code 105 (.castore) 1 106 := And.intro (by decide +kernel) rfl
theorem d_method_5_106 : D method_5_code 106 (.dup) 1 107 := And.intro (by decide +kernel) rfl
theorem d_method_5_107 : D method_5_code 107 (.iconst 3) 1 108 := And.intro (by decide +kernel) rfl
theorem d_method_5_108 : D method_5_code 108 (.iload 4) 2 110 := And.intro (by decide +kernel) rfl
theorem d_method_5_110 : D method_5_code 110 (.castore) 1 111 := And.intro (by decide +kernel) rfl
theorem d_method_5_111 : D method_5_code 111 (.invokespecial 44) 3 114 := And.intro (by decide +kernel) rfl
theorem d_method_5_114 : D method_5_code 114 (.areturn) 1 115 := And.intro (by decide +kernel) rfl
theorem d_jdk_30_1_0 : D jdk_30_method_1_code 0 (.aload_n 0) 1 1 := And.intro (by decide +kernel) rfl
theorem d_jdk_30_1_1 : D jdk_30_method_1_code 1 (.invokespecial 1) 3 4 := And.intro (by decide +kernel) rfl
theorem d_jdk_30_1_4 : D jdk_30_method_1_code 4 (.return_) 1 5 := And.intro (by decide +kernel) rfl
theorem pn6 : plainName "java/lang/Record" = true := by first | (simp [plainName, overriddenIn]; done) | decide +kernel
theorem d_prog_16_1_0 : D prog_16_method_1_code 0 (.aload_n 0) 1 1 := And.intro (by decide +kernel) rfl
theorem d_prog_16_1_1 : D prog_16_method_1_code 1 (.invokespecial 1) 3 4 := And.intro (by decide +kernel) rfl
theorem pd20 : parseMethodDescriptor "()V" = some ⟨[], none⟩ := by decide +kernel
theorem d_prog_16_1_4 : D prog_16_method_1_code 4 (.aload_n 0) 1 5 := And.intro (by decide +kernel) rfl
theorem d_prog_16_1_5 : D prog_16_method_1_code 5 (.aload_n 1) 1 6 := And.intro (by decide +kernel) rfl
theorem d_prog_16_1_6 : D prog_16_method_1_code 6 (.putfield 7) 3 9 := And.intro (by decide +kernel) rfl
theorem d_prog_16_1_9 : D prog_16_method_1_code 9 (.aload_n 0) 1 10 := And.intro (by decide +kernel) rfl
theorem d_prog_16_1_10 : D prog_16_method_1_code 10 (.aload_n 2) 1 11 := And.intro (by decide +kernel) rfl
theorem d_prog_16_1_11 : D prog_16_method_1_code 11 (.putfield 13) 3 14 := And.intro (by decide +kernel) rfl
theorem d_prog_16_1_14 : D prog_16_method_1_code 14 (.return_) 1 15 := And.intro (by decide +kernel) rfl
theorem pn7 : plainName "com/example/kourier/kourier/rabbitmq/Route" = true := by first | (simp [plainName, overriddenIn]; done) | decide +kernel
theorem d_prog_16_6_0 : D prog_16_method_6_code 0 (.aload_n 0) 1 1 := And.intro (by decide +kernel) rfl
theorem d_prog_16_6_1 : D prog_16_method_6_code 1 (.getfield 7) 3 4 := And.intro (by decide +kernel) rfl
theorem d_prog_16_6_4 : D prog_16_method_6_code 4 (.areturn) 1 5 := And.intro (by decide +kernel) rfl
theorem d_prog_16_7_0 : D prog_16_method_7_code 0 (.aload_n 0) 1 1 := And.intro (by decide +kernel) rfl
theorem d_prog_16_7_1 : D prog_16_method_7_code 1 (.getfield 13) 3 4 := And.intro (by decide +kernel) rfl
theorem d_prog_16_7_4 : D prog_16_method_7_code 4 (.areturn) 1 5 := And.intro (by decide +kernel) rfl
theorem d_prog_16_2_0 : D prog_16_method_2_code 0 (.aload_n 0) 1 1 := And.intro (by decide +kernel) rfl
theorem d_prog_16_2_1 : D prog_16_method_2_code 1 (.bipush 47) 2 3 := And.intro (by decide +kernel) rfl
theorem d_prog_16_2_3 : D prog_16_method_2_code 3 (.invokevirtual 16) 3 6 := And.intro (by decide +kernel) rfl
theorem pd21 : parseMethodDescriptor "(I)I" = some ⟨[.int], some .int⟩ := by decide +kernel
theorem d_prog_16_2_6 : D prog_16_method_2_code 6 (.istore_n 1) 1 7 := And.intro (by decide +kernel) rfl
theorem d_prog_16_2_7 : D prog_16_method_2_code 7 (.iload_n 1) 1 8 := And.intro (by decide +kernel) rfl
theorem d_prog_16_2_8 : D prog_16_method_2_code 8 (.ifCond .ge 5) 3 11 := And.intro (by decide +kernel) rfl
theorem d_prog_16_2_13 : D prog_16_method_2_code 13 (.new 8) 3 16 := And.intro (by decide +kernel) rfl
theorem d_prog_16_2_16 : D prog_16_method_2_code 16 (.dup) 1 17 := And.intro (by decide +kernel) rfl
theorem d_prog_16_2_17 : D prog_16_method_2_code 17 (.aload_n 0) 1 18 := And.intro (by decide +kernel) rfl
theorem d_prog_16_2_18 : D prog_16_method_2_code 18 (.iconst 0) 1 19 := And.intro (by decide +kernel) rfl
theorem d_prog_16_2_19 : D prog_16_method_2_code 19 (.iload_n 1) 1 20 := And.intro (by decide +kernel) rfl
theorem d_prog_16_2_20 : D prog_16_method_2_code 20 (.invokevirtual 22) 3 23 := And.intro (by decide +kernel) rfl
theorem d_prog_16_2_23 : D prog_16_method_2_code 23 (.aload_n 0) 1 24 := And.intro (by decide +kernel) rfl
theorem d_prog_16_2_24 : D prog_16_method_2_code 24 (.iload_n 1) 1 25 := And.intro (by decide +kernel) rfl
theorem d_prog_16_2_25 : D prog_16_method_2_code 25 (.iconst 1) 1 26 := And.intro (by decide +kernel) rfl
theorem d_prog_16_2_26 : D prog_16_method_2_code 26 (.iadd) 1 27 := And.intro (by decide +kernel) rfl
theorem d_prog_16_2_27 : D prog_16_method_2_code 27 (.invokevirtual 26) 3 30 := And.intro (by decide +kernel) rfl
theorem pd22 : parseMethodDescriptor "(I)Ljava/lang/String;" = some ⟨[.int], some (.object "java/lang/String")⟩ := by decide +kernel
theorem d_prog_16_2_30 : D prog_16_method_2_code 30 (.invokespecial 29) 3 33 := And.intro (by decide +kernel) rfl
theorem pd23 : parseMethodDescriptor "(Ljava/lang/String;Ljava/lang/String;)V" = some ⟨[(.object "java/lang/String"), (.object "java/lang/String")], none⟩ := by decide +kernel
theorem d_prog_16_2_33 : D prog_16_method_2_code 33 (.areturn) 1 34 := And.intro (by decide +kernel) rfl
theorem d_prog_16_2_11 : D prog_16_method_2_code 11 (.aconst_null) 1 12 := And.intro (by decide +kernel) rfl
theorem d_prog_16_2_12 : D prog_16_method_2_code 12 (.areturn) 1 13 := And.intro (by decide +kernel) rfl
theorem d_method_3_0 : D method_3_code 0 (.iload 4) 2 2 := And.intro (by decide +kernel) rfl
theorem d_method_3_2 : D method_3_code 2 (.iload_n 3) 1 3 := And.intro (by decide +kernel) rfl
theorem d_method_3_3 : D method_3_code 3 (.if_icmp .ge 9) 3 6 := And.intro (by decide +kernel) rfl
theorem d_method_3_12 : D method_3_code 12 (.iconst 1) 1 13 := And.intro (by decide +kernel) rfl
theorem d_method_3_13 : D method_3_code 13 (.ireturn) 1 14 := And.intro (by decide +kernel) rfl
theorem d_method_3_6 : D method_3_code 6 (.iload 4) 2 8 := And.intro (by decide +kernel) rfl
theorem d_method_3_8 : D method_3_code 8 (.iload_n 2) 1 9 := And.intro (by decide +kernel) rfl
theorem d_method_3_9 : D method_3_code 9 (.if_icmp .ne 5) 3 12 := And.intro (by decide +kernel) rfl
theorem d_method_3_14 : D method_3_code 14 (.iload 4) 2 16 := And.intro (by decide +kernel) rfl
theorem d_method_3_16 : D method_3_code 16 (.iload_n 2) 1 17 := And.intro (by decide +kernel) rfl
theorem d_method_3_17 : D method_3_code 17 (.if_icmp .ge 20) 3 20 := And.intro (by decide +kernel) rfl
theorem d_method_3_20 : D method_3_code 20 (.aload_n 0) 1 21 := And.intro (by decide +kernel) rfl
theorem d_method_3_21 : D method_3_code 21 (.iload 4) 2 23 := And.intro (by decide +kernel) rfl
theorem d_method_3_23 : D method_3_code 23 (.invokevirtual 41) 3 26 := And.intro (by decide +kernel) rfl
theorem pd24 : parseMethodDescriptor "(I)C" = some ⟨[.int], some .char⟩ := by decide +kernel
theorem d_method_3_26 : D method_3_code 26 (.iload 5) 2 28 := And.intro (by decide +kernel) rfl
theorem d_method_3_28 : D method_3_code 28 (.if_icmp .ne 7) 3 31 := And.intro (by decide +kernel) rfl
theorem d_method_3_31 : D method_3_code 31 (.iconst 1) 1 32 := And.intro (by decide +kernel) rfl
theorem d_method_3_32 : D method_3_code 32 (.goto 4) 3 35 := And.intro (by decide +kernel) rfl
theorem d_method_3_36 : D method_3_code 36 (.ireturn) 1 37 := And.intro (by decide +kernel) rfl
theorem d_method_3_37 : D method_3_code 37 (.aload_n 1) 1 38 := And.intro (by decide +kernel) rfl
theorem d_method_3_38 : D method_3_code 38 (.iload 4) 2 40 := And.intro (by decide +kernel) rfl
theorem d_method_3_40 : D method_3_code 40 (.iload_n 2) 1 41 := And.intro (by decide +kernel) rfl
theorem d_method_3_41 : D method_3_code 41 (.isub) 1 42 := And.intro (by decide +kernel) rfl
theorem d_method_3_42 : D method_3_code 42 (.iconst 1) 1 43 := And.intro (by decide +kernel) rfl
theorem d_method_3_43 : D method_3_code 43 (.isub) 1 44 := And.intro (by decide +kernel) rfl
theorem d_method_3_44 : D method_3_code 44 (.invokevirtual 41) 3 47 := And.intro (by decide +kernel) rfl
theorem d_method_3_47 : D method_3_code 47 (.iload 5) 2 49 := And.intro (by decide +kernel) rfl
theorem d_method_3_49 : D method_3_code 49 (.if_icmp .ne 7) 3 52 := And.intro (by decide +kernel) rfl
theorem d_method_3_52 : D method_3_code 52 (.iconst 1) 1 53 := And.intro (by decide +kernel) rfl
theorem d_method_3_53 : D method_3_code 53 (.goto 4) 3 56 := And.intro (by decide +kernel) rfl
theorem d_method_3_57 : D method_3_code 57 (.ireturn) 1 58 := And.intro (by decide +kernel) rfl
theorem d_code_0 : D code 0 (.iload 4) 2 2 := And.intro at_0 rfl
theorem d_code_2 : D code 2 (.ldc 7) 2 4 := And.intro at_2 rfl
theorem d_code_4 : D code 4 (.iand) 1 5 := And.intro at_4 rfl
theorem d_code_5 : D code 5 (.iconst 5) 1 6 := And.intro at_5 rfl
theorem d_code_6 : D code 6 (.irem) 1 7 := And.intro at_6 rfl
theorem d_code_7 : D code 7 (.istore 5) 2 9 := And.intro at_7 rfl
theorem d_code_9 : D code 9 (.iload_n 0) 1 10 := And.intro at_9 rfl
theorem d_code_10 : D code 10 (.invokestatic 8) 3 13 := And.intro at_10 rfl
theorem d_code_13 : D code 13 (.istore 6) 2 15 := And.intro at_13 rfl
theorem d_code_15 : D code 15 (.iload_n 1) 1 16 := And.intro at_15 rfl
theorem d_code_16 : D code 16 (.invokestatic 8) 3 19 := And.intro at_16 rfl
theorem d_code_19 : D code 19 (.istore 7) 2 21 := And.intro at_19 rfl
theorem d_code_21 : D code 21 (.iload_n 2) 1 22 := And.intro at_21 rfl
theorem d_code_22 : D code 22 (.invokestatic 8) 3 25 := And.intro at_22 rfl
theorem d_code_25 : D code 25 (.istore 8) 2 27 := And.intro at_25 rfl
theorem d_code_27 : D code 27 (.iload_n 3) 1 28 := And.intro at_27 rfl
theorem d_code_28 : D code 28 (.invokestatic 8) 3 31 := And.intro at_28 rfl
theorem d_code_31 : D code 31 (.istore 9) 2 33 := And.intro at_31 rfl
theorem d_code_33 : D code 33 (.iload 5) 2 35 := And.intro at_33 rfl
theorem d_code_35 : D code 35 (.iload 6) 2 37 := And.intro at_35 rfl
theorem d_code_37 : D code 37 (.iload 7) 2 39 := And.intro at_37 rfl
theorem d_code_39 : D code 39 (.iload 8) 2 41 := And.intro at_39 rfl
theorem d_code_41 : D code 41 (.iload 9) 2 43 := And.intro at_41 rfl
theorem d_code_43 : D code 43 (.invokestatic 14) 3 46 := And.intro at_43 rfl
theorem pd25 : parseMethodDescriptor "(ICCCC)Ljava/lang/String;" = some ⟨[.int, .char, .char, .char, .char], some (.object "java/lang/String")⟩ := by decide +kernel
theorem d_code_46 : D code 46 (.astore 10) 2 48 := And.intro at_46 rfl
theorem d_code_48 : D code 48 (.aload 10) 2 50 := And.intro at_48 rfl
theorem d_code_50 : D code 50 (.invokestatic 18) 3 53 := And.intro at_50 rfl
theorem pd26 : parseMethodDescriptor "(Ljava/lang/String;)Lcom/example/kourier/kourier/rabbitmq/Route;" = some ⟨[(.object "java/lang/String")], some (.object "com/example/kourier/kourier/rabbitmq/Route")⟩ := by decide +kernel
theorem d_code_53 : D code 53 (.astore 11) 2 55 := And.intro at_53 rfl
theorem d_code_55 : D code 55 (.iconst (-1)) 1 56 := And.intro at_55 rfl
theorem d_code_56 : D code 56 (.istore 12) 2 58 := And.intro at_56 rfl
theorem d_code_58 : D code 58 (.iload 5) 2 60 := And.intro at_58 rfl
theorem d_code_60 : D code 60 (.ifCond .le 16) 3 63 := And.intro at_60 rfl
theorem d_code_76 : D code 76 (.iload 5) 2 78 := And.intro at_76 rfl
theorem d_code_78 : D code 78 (.iconst 1) 1 79 := And.intro at_78 rfl
theorem d_code_79 : D code 79 (.if_icmp .le 16) 3 82 := And.intro at_79 rfl
theorem d_code_95 : D code 95 (.iload 5) 2 97 := And.intro at_95 rfl
theorem d_code_97 : D code 97 (.iconst 2) 1 98 := And.intro at_97 rfl
theorem d_code_98 : D code 98 (.if_icmp .le 16) 3 101 := And.intro at_98 rfl
theorem d_code_114 : D code 114 (.iload 5) 2 116 := And.intro at_114 rfl
theorem d_code_116 : D code 116 (.iconst 3) 1 117 := And.intro at_116 rfl
theorem d_code_117 : D code 117 (.if_icmp .le 13) 3 120 := And.intro at_117 rfl
theorem d_code_130 : D code 130 (.iload 12) 2 132 := And.intro at_130 rfl
theorem d_code_132 : D code 132 (.ifCond .ge 14) 3 135 := And.intro at_132 rfl
theorem d_code_135 : D code 135 (.aload 11) 2 137 := And.intro at_135 rfl
theorem d_code_137 : D code 137 (.ifnonnull 7) 3 140 := And.intro at_137 rfl
theorem d_code_140 : D code 140 (.iconst 1) 1 141 := And.intro at_140 rfl
theorem d_code_141 : D code 141 (.goto 4) 3 144 := And.intro at_141 rfl
theorem d_code_145 : D code 145 (.ireturn) 1 146 := And.intro at_145 rfl
theorem d_code_63 : D code 63 (.iload 6) 2 65 := And.intro at_63 rfl
theorem d_code_65 : D code 65 (.bipush 47) 2 67 := And.intro at_65 rfl
theorem d_code_67 : D code 67 (.if_icmp .ne 9) 3 70 := And.intro at_67 rfl
theorem d_code_70 : D code 70 (.iconst 0) 1 71 := And.intro at_70 rfl
theorem d_code_71 : D code 71 (.istore 12) 2 73 := And.intro at_71 rfl
theorem d_code_73 : D code 73 (.goto 57) 3 76 := And.intro at_73 rfl
theorem d_code_146 : D code 146 (.aload 11) 2 148 := And.intro at_146 rfl
theorem d_code_148 : D code 148 (.ifnonnull 5) 3 151 := And.intro at_148 rfl
theorem d_code_153 : D code 153 (.aload 11) 2 155 := And.intro at_153 rfl
theorem d_code_155 : D code 155 (.invokevirtual 24) 3 158 := And.intro at_155 rfl
theorem pd27 : parseMethodDescriptor "()Ljava/lang/String;" = some ⟨[], some (.object "java/lang/String")⟩ := by decide +kernel
theorem d_code_158 : D code 158 (.astore 13) 2 160 := And.intro at_158 rfl
theorem d_code_160 : D code 160 (.aload 11) 2 162 := And.intro at_160 rfl
theorem d_code_162 : D code 162 (.invokevirtual 28) 3 165 := And.intro at_162 rfl
theorem d_code_165 : D code 165 (.astore 14) 2 167 := And.intro at_165 rfl
theorem d_code_167 : D code 167 (.aload 13) 2 169 := And.intro at_167 rfl
theorem d_code_169 : D code 169 (.ifnull 8) 3 172 := And.intro at_169 rfl
theorem d_code_172 : D code 172 (.aload 14) 2 174 := And.intro at_172 rfl
theorem d_code_174 : D code 174 (.ifnonnull 5) 3 177 := And.intro at_174 rfl
theorem d_code_179 : D code 179 (.aload 13) 2 181 := And.intro at_179 rfl
theorem d_code_181 : D code 181 (.invokevirtual 31) 3 184 := And.intro at_181 rfl
theorem d_code_184 : D code 184 (.iload 12) 2 186 := And.intro at_184 rfl
theorem d_code_186 : D code 186 (.if_icmp .ne 18) 3 189 := And.intro at_186 rfl
theorem d_code_189 : D code 189 (.aload 14) 2 191 := And.intro at_189 rfl
theorem d_code_191 : D code 191 (.invokevirtual 31) 3 194 := And.intro at_191 rfl
theorem d_code_194 : D code 194 (.iload 5) 2 196 := And.intro at_194 rfl
theorem d_code_196 : D code 196 (.iload 12) 2 198 := And.intro at_196 rfl
theorem d_code_198 : D code 198 (.isub) 1 199 := And.intro at_198 rfl
theorem d_code_199 : D code 199 (.iconst 1) 1 200 := And.intro at_199 rfl
theorem d_code_200 : D code 200 (.isub) 1 201 := And.intro at_200 rfl
theorem d_code_201 : D code 201 (.if_icmp .eq 5) 3 204 := And.intro at_201 rfl
theorem d_code_206 : D code 206 (.aload 13) 2 208 := And.intro at_206 rfl
theorem d_code_208 : D code 208 (.aload 14) 2 210 := And.intro at_208 rfl
theorem d_code_210 : D code 210 (.iload 12) 2 212 := And.intro at_210 rfl
theorem d_code_212 : D code 212 (.iload 5) 2 214 := And.intro at_212 rfl
theorem d_code_214 : D code 214 (.iconst 0) 1 215 := And.intro at_214 rfl
theorem d_code_215 : D code 215 (.iload 6) 2 217 := And.intro at_215 rfl
theorem d_code_217 : D code 217 (.invokestatic 37) 3 220 := And.intro at_217 rfl
theorem pd28 : parseMethodDescriptor "(Ljava/lang/String;Ljava/lang/String;IIIC)Z" = some ⟨[(.object "java/lang/String"), (.object "java/lang/String"), .int, .int, .int, .char], some .boolean⟩ := by decide +kernel
theorem d_code_220 : D code 220 (.ifCond .eq 58) 3 223 := And.intro at_220 rfl
theorem d_code_223 : D code 223 (.aload 13) 2 225 := And.intro at_223 rfl
theorem d_code_225 : D code 225 (.aload 14) 2 227 := And.intro at_225 rfl
theorem d_code_227 : D code 227 (.iload 12) 2 229 := And.intro at_227 rfl
theorem d_code_229 : D code 229 (.iload 5) 2 231 := And.intro at_229 rfl
theorem d_code_231 : D code 231 (.iconst 1) 1 232 := And.intro at_231 rfl
theorem d_code_232 : D code 232 (.iload 7) 2 234 := And.intro at_232 rfl
theorem d_code_234 : D code 234 (.invokestatic 37) 3 237 := And.intro at_234 rfl
theorem d_code_237 : D code 237 (.ifCond .eq 41) 3 240 := And.intro at_237 rfl
theorem d_code_240 : D code 240 (.aload 13) 2 242 := And.intro at_240 rfl
theorem d_code_242 : D code 242 (.aload 14) 2 244 := And.intro at_242 rfl
theorem d_code_244 : D code 244 (.iload 12) 2 246 := And.intro at_244 rfl
theorem d_code_246 : D code 246 (.iload 5) 2 248 := And.intro at_246 rfl
theorem d_code_248 : D code 248 (.iconst 2) 1 249 := And.intro at_248 rfl
theorem d_code_249 : D code 249 (.iload 8) 2 251 := And.intro at_249 rfl
theorem d_code_251 : D code 251 (.invokestatic 37) 3 254 := And.intro at_251 rfl
theorem d_code_254 : D code 254 (.ifCond .eq 24) 3 257 := And.intro at_254 rfl
theorem d_code_257 : D code 257 (.aload 13) 2 259 := And.intro at_257 rfl
theorem d_code_259 : D code 259 (.aload 14) 2 261 := And.intro at_259 rfl
theorem d_code_261 : D code 261 (.iload 12) 2 263 := And.intro at_261 rfl
theorem d_code_263 : D code 263 (.iload 5) 2 265 := And.intro at_263 rfl
theorem d_code_265 : D code 265 (.iconst 3) 1 266 := And.intro at_265 rfl
theorem d_code_266 : D code 266 (.iload 9) 2 268 := And.intro at_266 rfl
theorem d_code_268 : D code 268 (.invokestatic 37) 3 271 := And.intro at_268 rfl
theorem d_code_271 : D code 271 (.ifCond .eq 7) 3 274 := And.intro at_271 rfl
theorem d_code_274 : D code 274 (.iconst 1) 1 275 := And.intro at_274 rfl
theorem d_code_275 : D code 275 (.goto 4) 3 278 := And.intro at_275 rfl
theorem d_code_279 : D code 279 (.ireturn) 1 280 := And.intro at_279 rfl
theorem d_code_82 : D code 82 (.iload 7) 2 84 := And.intro at_82 rfl
theorem d_code_84 : D code 84 (.bipush 47) 2 86 := And.intro at_84 rfl
theorem d_code_86 : D code 86 (.if_icmp .ne 9) 3 89 := And.intro at_86 rfl
theorem d_code_89 : D code 89 (.iconst 1) 1 90 := And.intro at_89 rfl
theorem d_code_90 : D code 90 (.istore 12) 2 92 := And.intro at_90 rfl
theorem d_code_92 : D code 92 (.goto 38) 3 95 := And.intro at_92 rfl
theorem d_code_101 : D code 101 (.iload 8) 2 103 := And.intro at_101 rfl
theorem d_code_103 : D code 103 (.bipush 47) 2 105 := And.intro at_103 rfl
theorem d_code_105 : D code 105 (.if_icmp .ne 9) 3 108 := And.intro at_105 rfl
theorem d_code_108 : D code 108 (.iconst 2) 1 109 := And.intro at_108 rfl
theorem d_code_109 : D code 109 (.istore 12) 2 111 := And.intro at_109 rfl
theorem d_code_111 : D code 111 (.goto 19) 3 114 := And.intro at_111 rfl
theorem d_code_120 : D code 120 (.iload 9) 2 122 := And.intro at_120 rfl
theorem d_code_122 : D code 122 (.bipush 47) 2 124 := And.intro at_122 rfl
theorem d_code_124 : D code 124 (.if_icmp .ne 6) 3 127 := And.intro at_124 rfl
theorem d_code_127 : D code 127 (.iconst 3) 1 128 := And.intro at_127 rfl
theorem d_code_128 : D code 128 (.istore 12) 2 130 := And.intro at_128 rfl
theorem own_EW {Z : State} {a0 : Array Value} (hw : ∀ d ∈ tables_1, d.before a0 Z = true) : EW Z a0 own_EL := (EW.cons (w22 hw) (by decide) (EW.cons (w105 hw) (by decide) EW.nil))
theorem wS {Z : State} {a0 : Array Value} (hw : ∀ d ∈ tables_1, d.before a0 Z = true) : ∀ a ∈ Bundle.stringAtoms, a.before a0 Z = true := fun a ha => hw a ((by decide +kernel : ∀ a ∈ Bundle.stringAtoms, a ∈ tables_1) a ha)
set_option maxRecDepth 65536 in
set_option maxHeartbeats 40000000 in
theorem ct_cmp5 (l : Launch) (Z : State) (a0 : Array Value) (hw : ∀ d ∈ tables_1, d.before a0 Z = true) (n0 : Nat) (h0 : Heap) (a b : Addr) (cs : List Int32) (vs : List Value) (A0 : Av Z h0 a .char (cs.map Value.int)) (B0 : Av Z h0 b .byte vs) (hlen : vs.length = cs.length) (hR : ∀ c ∈ cs, Rg c 256) : Ct l Z a0 own_EL false (⟨"java/lang/StringUTF16", "compress", "([CI[BII)I"⟩ : MethodName) jdk_52_method_21_code 7 (Option.some Jvm.ClassFile.FieldType.int) ({ frames := 0, cells := 0, slots := 0, locals := 0 } : Room) #[(.ref a), (.int (0 : Int32)), (.ref b), (.int (0 : Int32)), (.int (Int32.ofNat cs.length))] h0 [b] n0 (fun v h so => v = some (.int (Int32.ofNat cs.length)) ∧ Keep h0 h [b] ∧ Av Z h b .byte ((cs.map i2b).map Value.int)) := by
  refine Ct.body (plainFor_of_name pn0) ?_
  intro p e s m below meth c T W
  refine WP.cast (g' := (mkF m 0 #[.val (.ref a), .val (.int (0 : Int32)), .val (.ref b), .val (.int (0 : Int32)), .val (.int (Int32.ofNat cs.length)), .unset, .unset] [])) (by simp [entryFrame, mkF, argsToLocals, cat_i, cat_l, cat_r, cat_n]) ?_
  have hN : cs.length < 2147483648 := by have := A0.len; simpa using this
  have hab : a ≠ b := ne_av A0 B0 (by decide)
  refine k_iconst W d_jdk_52_21_0 (z := (0 : Int32)) rfl ?_
  refine k_istore W d_jdk_52_21_1 (L' := #[.val (.ref a), .val (.int (0 : Int32)), .val (.ref b), .val (.int (0 : Int32)), .val (.int (Int32.ofNat cs.length)), .val (.int (0 : Int32)), .unset]) rfl ?_
  have loop : ∀ (k i : Nat) (T : State) (h : Heap) (s6 : Slot), i + k = cs.length → (s6 = .unset ∨ ∃ w, s6 = .val w ∧ w.category = 1) → WS p l e ({ frames := 0, cells := 0, slots := 0, locals := 0 } : Room) s m #[(.ref a), (.int (0 : Int32)), (.ref b), (.int (0 : Int32)), (.int (Int32.ofNat cs.length))] below meth c Z a0 own_EL false n0 (⟨"java/lang/StringUTF16", "compress", "([CI[BII)I"⟩ : MethodName) jdk_52_method_21_code 7 (Option.some Jvm.ClassFile.FieldType.int) T h [b] 0 0 → Keep h0 h [b] → Av Z h b .byte (((cs.take i).map i2b).map Value.int ++ vs.drop i) → WP p e below (Fne s n0 Z own_EL false ({ frames := 0, cells := 0, slots := 0, locals := 0 } : Room) (fun v h so => v = some (.int (Int32.ofNat cs.length)) ∧ Keep h0 h [b] ∧ Av Z h b .byte ((cs.map i2b).map Value.int))) T (mkF m 3 #[.val (.ref a), .val (.int (Int32.ofNat i)), .val (.ref b), .val (.int (Int32.ofNat i)), .val (.int (Int32.ofNat cs.length)), .val (.int (Int32.ofNat i)), s6] []) := by
    intro k
    induction k with
    | zero =>
      intro i T h s6 hi h6 W KB AB
      obtain rfl : i = cs.length := by omega
      refine k_iload W d_jdk_52_21_3 rfl ?_
      refine k_iload W d_jdk_52_21_5 rfl ?_
      refine k_icY W 44 d_jdk_52_21_7 (by decide) (show ¬ (Int32.ofNat cs.length) < (Int32.ofNat cs.length) from (of_ge (Nat.le_refl _) hN)) ?_
      refine k_iload W d_jdk_52_21_44 rfl ?_
      exact k_ireturn W d_jdk_52_21_46 rfl [] (fun x hx => nomatch hx) (Nat.le_of_ble_eq_true rfl) (Nat.le_of_ble_eq_true rfl) ⟨rfl, KB, by rw [List.take_length, List.drop_eq_nil_of_le (by omega), List.append_nil] at AB; exact AB⟩
    | succ k ih =>
      intro i T h s6 hi h6 W KB AB
      have hlt : i < cs.length := by omega
      obtain ⟨ci, hci⟩ : ∃ c, cs[i]? = some c := ⟨_, List.getElem?_eq_getElem hlt⟩
      have hRi : Rg ci 256 := hR _ (List.mem_of_getElem? hci)
      refine k_iload W d_jdk_52_21_3 rfl ?_
      refine k_iload W d_jdk_52_21_5 rfl ?_
      refine k_icN W d_jdk_52_21_7 (show ¬ (¬ (Int32.ofNat i) < (Int32.ofNat cs.length)) from (fun q => q (of_lt hlt hN))) ?_
      refine k_aloadN W d_jdk_52_21_10 rfl rfl ?_
      refine k_iloadN W d_jdk_52_21_11 rfl ?_
      refine k_caload W (v := (.int ci)) i d_jdk_52_21_12 (A0.keep KB (nin1 hab)) (ix_of (by omega)) (by simp [hci]) ?_
      refine k_istore W d_jdk_52_21_13 (L' := #[.val (.ref a), .val (.int (Int32.ofNat i)), .val (.ref b), .val (.int (Int32.ofNat i)), .val (.int (Int32.ofNat cs.length)), .val (.int (Int32.ofNat i)), .val (.int ci)]) (XS.store1 rfl h6 rfl) ?_
      refine k_iload W d_jdk_52_21_15 rfl ?_
      refine k_sipush W d_jdk_52_21_17 (z := (255 : Int32)) rfl ?_
      refine k_icY W 26 d_jdk_52_21_20 (by decide) (show ¬ (255 : Int32) < ci from (Rg.le255 hRi)) ?_
      refine k_aloadN W d_jdk_52_21_26 rfl rfl ?_
      refine k_iloadN W d_jdk_52_21_27 rfl ?_
      refine k_iload W d_jdk_52_21_28 rfl ?_
      refine k_i2b W d_jdk_52_21_30 (z := (i2b ci)) rfl ?_
      refine k_bastore W (z := (i2b ci)) i d_jdk_52_21_31 (List.mem_of_getElem? (i := 0) rfl) AB (ix_of (by omega)) (by simp; omega) (nar_i2b _) (fits_i2b _) fun T h1 W Wr1 A1 => ?_
      have K1 : Keep h h1 [b] := Keep.of_wr Wr1
      refine k_iinc W d_jdk_52_21_32 rfl (z := (Int32.ofNat (i + 1))) (of_succ i) (L' := #[.val (.ref a), .val (.int (Int32.ofNat (i + 1))), .val (.ref b), .val (.int (Int32.ofNat i)), .val (.int (Int32.ofNat cs.length)), .val (.int (Int32.ofNat i)), .val (.int ci)]) rfl ?_
      refine k_iinc W d_jdk_52_21_35 rfl (z := (Int32.ofNat (i + 1))) (of_succ i) (L' := #[.val (.ref a), .val (.int (Int32.ofNat (i + 1))), .val (.ref b), .val (.int (Int32.ofNat (i + 1))), .val (.int (Int32.ofNat cs.length)), .val (.int (Int32.ofNat i)), .val (.int ci)]) rfl ?_
      refine k_iinc W d_jdk_52_21_38 rfl (z := (Int32.ofNat (i + 1))) (of_succ i) (L' := #[.val (.ref a), .val (.int (Int32.ofNat (i + 1))), .val (.ref b), .val (.int (Int32.ofNat (i + 1))), .val (.int (Int32.ofNat cs.length)), .val (.int (Int32.ofNat (i + 1))), .val (.int ci)]) rfl ?_
      refine k_goto W 3 d_jdk_52_21_41 (by decide) ?_
      refine ih (i + 1) T h1 _ (by omega) (Or.inr ⟨_, rfl, rfl⟩) W (KB.trans K1 (fun x hx => Or.inl hx)) ?_
      have hh := A1
      rw [cmp_step hci hlen] at hh; exact hh
  exact loop cs.length 0 T h0 .unset (by omega) (Or.inl rfl) W (Keep.refl _ _) (by simpa using B0)
set_option maxRecDepth 65536 in
set_option maxHeartbeats 40000000 in
theorem ct_cmp3 (l : Launch) (Z : State) (a0 : Array Value) (hw : ∀ d ∈ tables_1, d.before a0 Z = true) (n0 : Nat) (h0 : Heap) (a : Addr) (cs : List Int32) (N : Nat) (A0 : Av Z h0 a .char (cs.map Value.int)) (hR : ∀ c ∈ cs, Rg c 256) (hN : cs.length ≤ N) (hN2 : N ≤ 67108864) : Ct l Z a0 own_EL false (⟨"java/lang/StringUTF16", "compress", "([CII)[B"⟩ : MethodName) jdk_52_method_16_code 6 (Option.some (Jvm.ClassFile.FieldType.array Jvm.ClassFile.FieldType.byte)) ({ frames := 1, cells := 1, slots := N, locals := 18 } : Room) #[(.ref a), (.int (0 : Int32)), (.int (Int32.ofNat cs.length))] h0 [] n0 (fun v h so => ∃ b, v = some (.ref b) ∧ h0.size ≤ b ∧ Keep h0 h [] ∧ Av Z h b .byte ((cs.map i2b).map Value.int)) := by
  refine Ct.body (plainFor_of_name pn0) ?_
  intro p e s m below meth c T W
  refine WP.cast (g' := (mkF m 0 #[.val (.ref a), .val (.int (0 : Int32)), .val (.int (Int32.ofNat cs.length)), .unset, .unset, .unset] [])) (by simp [entryFrame, mkF, argsToLocals, cat_i, cat_l, cat_r, cat_n]) ?_
  refine k_iloadN W d_jdk_52_16_0 rfl ?_
  refine k_newarr W cs.length 1 (0 + cs.length) d_jdk_52_16_1 (w23 hw) (ix_of (by omega)) (by omega) ⟨rfl, Nat.le_of_ble_eq_true rfl⟩ ⟨rfl, (by show 0 + cs.length ≤ N; omega)⟩ fun T h2 a3 g3 W E3 A3 => ?_
  have K3 : Keep h0 h2 [] := keep_ext E3 []
  have A3 : Av Z h2 a3 .byte (List.replicate cs.length (defaultValue .byte)) := A3
  refine k_astoreN W d_jdk_52_16_3 rfl (L' := #[.val (.ref a), .val (.int (0 : Int32)), .val (.int (Int32.ofNat cs.length)), .val (.ref a3), .unset, .unset]) rfl ?_
  refine k_aloadN W d_jdk_52_16_4 rfl rfl ?_
  refine k_iloadN W d_jdk_52_16_5 rfl ?_
  refine k_aloadN W d_jdk_52_16_6 rfl rfl ?_
  refine k_iconst W d_jdk_52_16_7 (z := (0 : Int32)) rfl ?_
  refine k_iloadN W d_jdk_52_16_8 rfl ?_
  have f4 := (A0.keep K3 nin0)
  refine k_callS W 0 1 ((0 + cs.length) + 0) (argsL := [(.ref a), (.int (0 : Int32)), (.ref a3), (.int (0 : Int32)), (.int (Int32.ofNat cs.length))]) (rest := []) d_jdk_52_16_9 (w78 hw) (w79 hw) (by decide) (lenOf pd0 rfl) (ct_cmp5 l Z a0 hw n0 h2 a a3 cs (List.replicate cs.length (defaultValue .byte)) f4 A3 (by simp) hR) (w80 hw) (w76 hw) (fun x hx => hx) rfl (Nat.le_of_eq rfl) (Nat.le_of_ble_eq_true rfl) (Nat.le_of_ble_eq_true rfl) ⟨rfl, Nat.le_of_ble_eq_true rfl⟩ ⟨rfl, (by show 0 + cs.length ≤ N; omega)⟩ rfl (fun _ _ q => nomatch q.1) fun T h5 v so W hQ => ?_
  obtain ⟨hv, K5, B5⟩ := hQ
  obtain rfl := Option.some.inj hv
  refine k_istore W d_jdk_52_16_12 (L' := #[.val (.ref a), .val (.int (0 : Int32)), .val (.int (Int32.ofNat cs.length)), .val (.ref a3), .val (.int (Int32.ofNat cs.length)), .unset]) rfl ?_
  refine k_iload W d_jdk_52_16_14 rfl ?_
  refine k_iloadN W d_jdk_52_16_16 rfl ?_
  refine k_icY W 57 d_jdk_52_16_17 (by decide) (show (Int32.ofNat cs.length) = (Int32.ofNat cs.length) from rfl) ?_
  refine k_aloadN W d_jdk_52_16_57 rfl rfl ?_
  have KK6 : Keep h0 h2 [] := (Keep.refl h0 []).trans K3 all0
  have KK7 : Keep h0 h5 [] := KK6.trans K5 (allS (Or.inr (Nat.le_of_eq g3.symm)) all0)
  exact k_areturn W d_jdk_52_16_58 rfl rfl rfl [] (fun x hx => nomatch hx) (Nat.le_of_ble_eq_true rfl) (by show 0 + cs.length + 0 ≤ N; omega) ⟨_, rfl, (Nat.le_of_eq g3.symm), KK7, B5⟩
set_option maxRecDepth 65536 in
set_option maxHeartbeats 40000000 in
theorem ct_cfal (l : Launch) (Z : State) (a0 : Array Value) (hw : ∀ d ∈ tables_1, d.before a0 Z = true) (n0 : Nat) (h0 : Heap) (b : Addr) (vs : List Value) (B0 : Av Z h0 b .byte vs) : Ct l Z a0 own_EL false (⟨"java/lang/StringUTF16", "coderFromArrayLen", "([BI)B"⟩ : MethodName) jdk_52_method_15_code 2 (Option.some Jvm.ClassFile.FieldType.byte) ({ frames := 0, cells := 0, slots := 0, locals := 0 } : Room) #[(.ref b), (.int (Int32.ofNat vs.length))] h0 [] n0 (fun v h so => v = some (.int (0 : Int32)) ∧ h0 = h ∧ so = []) := by
  refine Ct.body (plainFor_of_name pn0) ?_
  intro p e s m below meth c T W
  refine WP.cast (g' := (mkF m 0 #[.val (.ref b), .val (.int (Int32.ofNat vs.length))] [])) (by simp [entryFrame, mkF, argsToLocals, cat_i, cat_l, cat_r, cat_n]) ?_
  refine k_iloadN W d_jdk_52_15_0 rfl ?_
  refine k_aloadN W d_jdk_52_15_1 rfl rfl ?_
  refine k_arraylength W (z := (Int32.ofNat vs.length)) d_jdk_52_15_2 B0 rfl ?_
  refine k_isub W d_jdk_52_15_3 (z := ((Int32.ofNat vs.length) - (Int32.ofNat vs.length))) rfl ?_
  refine k_bipush W d_jdk_52_15_4 (z := (31 : Int32)) rfl ?_
  obtain ⟨v8, ev8⟩ : ∃ z : Int32, z = (XT.ushr ((Int32.ofNat vs.length) - (Int32.ofNat vs.length)) (31 : Int32)) := ⟨_, rfl⟩
  refine k_iushr W d_jdk_52_15_6 ev8.symm ?_
  refine k_i2b W d_jdk_52_15_7 (z := (i2b v8)) rfl ?_
  exact k_retN W (t := .byte) (z' := (0 : Int32)) d_jdk_52_15_8 rfl (by simp) (by subst_vars; rw [Int32.sub_self]; decide) [] (fun x hx => nomatch hx) (Nat.le_of_ble_eq_true rfl) (Nat.le_of_ble_eq_true rfl) ⟨rfl, rfl, rfl⟩
set_option maxRecDepth 65536 in
set_option maxHeartbeats 40000000 in
theorem ct_sinit4 (l : Launch) (Z : State) (a0 : Array Value) (hw : ∀ d ∈ tables_1, d.before a0 Z = true) (n0 : Nat) (h0 : Heap) (x a : Addr) (cs : List Int32) (N : Nat) (zc : Int32) (v0 c0 : Value) (E0 : Exa Z h0 x "java/lang/String") (V0 : Fld Z h0 x "java/lang/String" "value" "[B" v0) (C0 : Fld Z h0 x "java/lang/String" "coder" "B" c0) (A0 : Av Z h0 a .char (cs.map Value.int)) (P0 : Sta Z h0 "java/lang/String" "COMPACT_STRINGS" "Z" (.int zc)) (hzc : zc ≠ 0) (hR : ∀ c ∈ cs, Rg c 256) (hp : 0 < cs.length) (hN : cs.length ≤ N) (hN2 : N ≤ 67108864) : Ct l Z a0 own_EL false (⟨"java/lang/String", "<init>", "([CIILjava/lang/Void;)V"⟩ : MethodName) jdk_42_method_149_code 6 (Option.none : Option Jvm.ClassFile.FieldType) ({ frames := 2, cells := 1, slots := N, locals := 35 } : Room) #[(.ref x), (.ref a), (.int (0 : Int32)), (.int (Int32.ofNat cs.length)), .null] h0 [x] n0 (fun v h so => v = none ∧ ∃ b, h0.size ≤ b ∧ Keep h0 h [x] ∧ St Z h x b (cs.map i2b)) := by
  refine Ct.body (plainFor_of_name pn1) ?_
  intro p e s m below meth c T W
  refine WP.cast (g' := (mkF m 0 #[.val (.ref x), .val (.ref a), .val (.int (0 : Int32)), .val (.int (Int32.ofNat cs.length)), .val .null, .unset] [])) (by simp [entryFrame, mkF, argsToLocals, cat_i, cat_l, cat_r, cat_n]) ?_
  have hL : cs.length < 2147483648 := by omega
  have hnz : ¬ Int32.ofNat cs.length = 0 := of_ne0 hp hL
  refine k_aloadN W d_jdk_42_149_0 rfl rfl ?_
  refine k_initO W 0 d_jdk_42_149_1 (w19 hw) (w20 hw) (w21 hw) rfl (Nat.le_of_eq rfl) (Nat.le_of_ble_eq_true rfl) (Nat.le_of_ble_eq_true rfl) fun T W => ?_
  refine k_iloadN W d_jdk_42_149_4 rfl ?_
  refine k_ifY W 27 d_jdk_42_149_5 (by decide) (show ¬ (Int32.ofNat cs.length) = 0 from hnz) ?_
  refine k_getS W d_jdk_42_149_27 (w49 hw) Via.refl P0 fun T W => ?_
  refine k_ifN W d_jdk_42_149_30 (show ¬ (zc = 0) from hzc) ?_
  refine k_aloadN W d_jdk_42_149_33 rfl rfl ?_
  refine k_iloadN W d_jdk_42_149_34 rfl ?_
  refine k_iloadN W d_jdk_42_149_35 rfl ?_
  refine k_callS W 0 1 (0 + N) (argsL := [(.ref a), (.int (0 : Int32)), (.int (Int32.ofNat cs.length))]) (rest := []) d_jdk_42_149_36 (w74 hw) (w75 hw) (by decide) (lenOf pd1 rfl) (ct_cmp3 l Z a0 hw n0 h0 a cs N A0 hR hN hN2) (w77 hw) (w76 hw) (fun x hx => nomatch hx) rfl (Nat.le_of_eq rfl) (Nat.le_of_ble_eq_true rfl) (Nat.le_of_ble_eq_true rfl) ⟨rfl, Nat.le_of_ble_eq_true rfl⟩ ⟨rfl, (by show 0 + N ≤ N; omega)⟩ rfl (fun _ _ ⟨_, q, _⟩ => nomatch q) fun T h9 v so W hQ => ?_
  obtain ⟨b9, hv, g9, K9, B9⟩ := hQ
  obtain rfl := Option.some.inj hv
  refine k_astore W d_jdk_42_149_39 rfl (L' := #[.val (.ref x), .val (.ref a), .val (.int (0 : Int32)), .val (.int (Int32.ofNat cs.length)), .val .null, .val (.ref b9)]) rfl ?_
  refine k_aloadN W d_jdk_42_149_41 rfl rfl ?_
  refine k_aload W d_jdk_42_149_42 rfl rfl ?_
  refine k_iloadN W d_jdk_42_149_44 rfl ?_
  have hvl : ((cs.map i2b).map Value.int).length = cs.length := by simp
  have hqc := ct_cfal l Z a0 hw n0 h9 b9 ((cs.map i2b).map Value.int) B9
  rw [hvl] at hqc
  refine k_callS W 1 1 ((0 + N) + 0) (argsL := [(.ref b9), (.int (Int32.ofNat cs.length))]) (rest := [(.ref x)]) d_jdk_42_149_45 (w81 hw) (w82 hw) (by decide) (lenOf pd2 rfl) hqc (w83 hw) (w76 hw) (fun x hx => nomatch hx) rfl (Nat.le_of_eq rfl) (Nat.le_of_ble_eq_true rfl) (Nat.le_of_ble_eq_true rfl) ⟨rfl, Nat.le_of_ble_eq_true rfl⟩ ⟨rfl, (by show 0 + N ≤ N; omega)⟩ rfl (fun _ _ q => nomatch q.1) fun T h10 v so W hQ => ?_
  obtain ⟨hv, rfl, -⟩ := hQ
  obtain rfl := Option.some.inj hv
  have f11 := (C0.keep K9 nin0)
  have f12 := (E0.keep K9)
  refine k_putF W d_jdk_42_149_48 (w29 hw) Via.refl (v' := (.int (0 : Int32))) (List.mem_of_getElem? (i := 0) rfl) f11 f12 (Or.inr ⟨(w25 hw), rfl, rfl⟩) (w9 hw) (ty := .byte) (by decide) (by decide) (by decide) fun T h13 W Wr13 => ?_
  have K13 : Keep h9 h13 [x] := Keep.of_wr Wr13
  refine k_aloadN W d_jdk_42_149_51 rfl rfl ?_
  refine k_aload W d_jdk_42_149_52 rfl rfl ?_
  have f14 := ((V0.keep K9 nin0).other Wr13 (Or.inr (slot_ne (Or.inr (w24 hw)) (Or.inr (w25 hw)) (by decide) (t := (.array .byte)) (t' := .byte) (by decide) (by decide))))
  have f15 := (f12.keep K13)
  refine k_putF W d_jdk_42_149_54 (w28 hw) Via.refl (v' := (.ref b9)) (List.mem_of_getElem? (i := 0) rfl) f14 f15 (Or.inr ⟨(w24 hw), rfl, rfl⟩) (w9 hw) (ty := (.array .byte)) (by decide) rfl rfl fun T h16 W Wr16 => ?_
  have K16 : Keep h13 h16 [x] := Keep.of_wr Wr16
  have KK17 : Keep h0 h9 [x] := (Keep.refl h0 [x]).trans K9 all0
  have KK18 : Keep h0 h13 [x] := KK17.trans K13 (allS (Or.inl (List.mem_of_getElem? (i := 0) rfl)) all0)
  have KK19 : Keep h0 h16 [x] := KK18.trans K16 (allS (Or.inl (List.mem_of_getElem? (i := 0) rfl)) all0)
  have f20 := (f15.keep K16)
  have f21 := ((Fld.same Wr13 f11).other Wr16 (Or.inr (slot_ne (Or.inr (w25 hw)) (Or.inr (w24 hw)) (by decide) (t := .byte) (t' := (.array .byte)) (by decide) (by decide))))
  have ne22 : b9 ≠ x := (Ne.symm (Nat.ne_of_lt (Nat.lt_of_lt_of_le E0.lt g9)))
  have f23 := ((B9.keep K13 (ninS ne22 nin0)).keep K16 (ninS ne22 nin0))
  exact k_ret W d_jdk_42_149_57 rfl [] (fun x hx => nomatch hx) (Nat.le_of_ble_eq_true rfl) (by show 0 + N ≤ N; omega) ⟨rfl, _, g9, KK19, f20, f21, (Fld.same Wr16 f14), f23⟩
set_option maxRecDepth 65536 in
set_option maxHeartbeats 40000000 in
theorem ct_sinit (l : Launch) (Z : State) (a0 : Array Value) (hw : ∀ d ∈ tables_1, d.before a0 Z = true) (n0 : Nat) (h0 : Heap) (x a : Addr) (cs : List Int32) (N : Nat) (zc : Int32) (v0 c0 : Value) (E0 : Exa Z h0 x "java/lang/String") (V0 : Fld Z h0 x "java/lang/String" "value" "[B" v0) (C0 : Fld Z h0 x "java/lang/String" "coder" "B" c0) (A0 : Av Z h0 a .char (cs.map Value.int)) (P0 : Sta Z h0 "java/lang/String" "COMPACT_STRINGS" "Z" (.int zc)) (hzc : zc ≠ 0) (hR : ∀ c ∈ cs, Rg c 256) (hp : 0 < cs.length) (hN : cs.length ≤ N) (hN2 : N ≤ 67108864) : Ct l Z a0 own_EL false (⟨"java/lang/String", "<init>", "([C)V"⟩ : MethodName) jdk_42_method_3_code 2 (Option.none : Option Jvm.ClassFile.FieldType) ({ frames := 3, cells := 1, slots := N, locals := 52 } : Room) #[(.ref x), (.ref a)] h0 [x] n0 (fun v h so => v = none ∧ ∃ b, h0.size ≤ b ∧ Keep h0 h [x] ∧ St Z h x b (cs.map i2b)) := by
  refine Ct.body (plainFor_of_name pn1) ?_
  intro p e s m below meth c T W
  refine WP.cast (g' := (mkF m 0 #[.val (.ref x), .val (.ref a)] [])) (by simp [entryFrame, mkF, argsToLocals, cat_i, cat_l, cat_r, cat_n]) ?_
  refine k_aloadN W d_jdk_42_3_0 rfl rfl ?_
  refine k_aloadN W d_jdk_42_3_1 rfl rfl ?_
  refine k_iconst W d_jdk_42_3_2 (z := (0 : Int32)) rfl ?_
  refine k_aloadN W d_jdk_42_3_3 rfl rfl ?_
  refine k_arraylength W (z := (Int32.ofNat cs.length)) d_jdk_42_3_4 A0 (by first | (rw [List.length_map]; done) | (rw [List.length_map]; rfl)) ?_
  refine k_aconst W d_jdk_42_3_5 ?_
  refine k_callI0 W 0 1 (0 + N) (argsL := [(.ref a), (.int (0 : Int32)), (.int (Int32.ofNat cs.length)), .null]) (rest := []) (a := x) d_jdk_42_3_6 rfl rfl (w15 hw) (w16 hw) (by decide) (lenOf pd3 rfl) (ct_sinit4 l Z a0 hw n0 h0 x a cs N zc v0 c0 E0 V0 C0 A0 P0 hzc hR hp hN hN2) (w18 hw) (w10 hw) (fun x hx => hx) rfl (Nat.le_of_eq rfl) (Nat.le_of_ble_eq_true rfl) (Nat.le_of_ble_eq_true rfl) ⟨rfl, Nat.le_of_ble_eq_true rfl⟩ ⟨rfl, (by show 0 + N ≤ N; omega)⟩ rfl (fun _ _ _ q => nomatch q.1) fun T h24 so W hQ => ?_
  have hq24 := hQ.2
  exact k_ret W d_jdk_42_3_9 rfl [] (fun x hx => nomatch hx) (Nat.le_of_ble_eq_true rfl) (by show 0 + N ≤ N; omega) ⟨rfl, hq24⟩
set_option maxRecDepth 65536 in
set_option maxHeartbeats 40000000 in
theorem ct_sinitE4 (l : Launch) (Z : State) (a0 : Array Value) (hw : ∀ d ∈ tables_1, d.before a0 Z = true) (n0 : Nat) (h0 : Heap) (x a : Addr) (sfx : List Addr) (v0 c0 : Value) (E0 : Exa Z h0 x "java/lang/String") (V0 : Fld Z h0 x "java/lang/String" "value" "[B" v0) (C0 : Fld Z h0 x "java/lang/String" "coder" "B" c0) : Ct l Z a0 own_EL false (⟨"java/lang/String", "<init>", "([CIILjava/lang/Void;)V"⟩ : MethodName) jdk_42_method_149_code 6 (Option.none : Option Jvm.ClassFile.FieldType) ({ frames := 1, cells := 4, slots := 8, locals := 12 } : Room) #[(.ref x), (.ref a), (.int (0 : Int32)), (.int (0 : Int32)), .null] h0 (x :: sfx) n0 (fun v h so => v = none ∧ ∃ b, Keep h0 h [x] ∧ St Z h x b [] ∧ ∀ z ∈ x :: sfx, z ≠ b) := by
  refine Ct.body (plainFor_of_name pn1) ?_
  intro p e s m below meth c T W
  refine WP.cast (g' := (mkF m 0 #[.val (.ref x), .val (.ref a), .val (.int (0 : Int32)), .val (.int (0 : Int32)), .val .null, .unset] [])) (by simp [entryFrame, mkF, argsToLocals, cat_i, cat_l, cat_r, cat_n]) ?_
  refine k_aloadN W d_jdk_42_149_0 rfl rfl ?_
  refine k_initO W 0 d_jdk_42_149_1 (w19 hw) (w20 hw) (w21 hw) rfl (Nat.le_of_eq rfl) (Nat.le_of_ble_eq_true rfl) (Nat.le_of_ble_eq_true rfl) fun T W => ?_
  refine k_iloadN W d_jdk_42_149_4 rfl ?_
  refine k_ifN W d_jdk_42_149_5 (show ¬ (¬ (0 : Int32) = 0) by decide) ?_
  refine k_aloadN W d_jdk_42_149_8 rfl rfl ?_
  refine k_ldcS W [] 0 2 4 rfl d_jdk_42_149_9 (w22 hw) (wS hw) (by decide) ⟨by decide, by decide⟩ (by decide) ⟨by decide, by decide⟩ ⟨rfl, Nat.le_of_ble_eq_true rfl⟩ ⟨rfl, Nat.le_of_ble_eq_true rfl⟩ fun T h25 a25 b25 W E25 S25 N25 => ?_
  have K25 : Keep h0 h25 [] := keep_ext E25 []
  refine k_getF W d_jdk_42_149_11 (host := "") (Or.inl (w28 hw)) Via.refl S25.2.2.1 fun T W => ?_
  have f26 := (V0.keep K25 nin0)
  have f27 := (E0.keep K25)
  refine k_putF W d_jdk_42_149_14 (w28 hw) Via.refl (v' := (.ref b25)) (List.mem_of_getElem? (i := 0) rfl) f26 f27 (Or.inr ⟨(w24 hw), rfl, rfl⟩) (w9 hw) (ty := (.array .byte)) (by decide) rfl rfl fun T h28 W Wr28 => ?_
  have K28 : Keep h25 h28 [x] := Keep.of_wr Wr28
  refine k_aloadN W d_jdk_42_149_17 rfl rfl ?_
  refine k_ldcS W [] 0 4 8 rfl d_jdk_42_149_18 (w22 hw) (wS hw) (by decide) ⟨by decide, by decide⟩ (by decide) ⟨by decide, by decide⟩ ⟨rfl, Nat.le_of_ble_eq_true rfl⟩ ⟨rfl, Nat.le_of_ble_eq_true rfl⟩ fun T h29 a29 b29 W E29 S29 N29 => ?_
  have K29 : Keep h28 h29 [] := keep_ext E29 []
  refine k_getF W d_jdk_42_149_20 (host := "") (Or.inl (w29 hw)) Via.refl S29.2.1 fun T W => ?_
  have f30 := (((C0.keep K25 nin0).other Wr28 (Or.inr (slot_ne (Or.inr (w25 hw)) (Or.inr (w24 hw)) (by decide) (t := .byte) (t' := (.array .byte)) (by decide) (by decide)))).keep K29 nin0)
  have f31 := ((f27.keep K28).keep K29)
  refine k_putF W d_jdk_42_149_23 (w29 hw) Via.refl (v' := (.int (0 : Int32))) (List.mem_of_getElem? (i := 0) rfl) f30 f31 (Or.inr ⟨(w25 hw), rfl, rfl⟩) (w9 hw) (ty := .byte) (by decide) (by decide) (by decide) fun T h32 W Wr32 => ?_
  have K32 : Keep h29 h32 [x] := Keep.of_wr Wr32
  have KK33 : Keep h0 h25 [x] := (Keep.refl h0 [x]).trans K25 all0
  have KK34 : Keep h0 h28 [x] := KK33.trans K28 (allS (Or.inl (List.mem_of_getElem? (i := 0) rfl)) all0)
  have KK35 : Keep h0 h29 [x] := KK34.trans K29 all0
  have KK36 : Keep h0 h32 [x] := KK35.trans K32 (allS (Or.inl (List.mem_of_getElem? (i := 0) rfl)) all0)
  have f37 := (f31.keep K32)
  have f38 := (((Fld.same Wr28 f26).keep K29 nin0).other Wr32 (Or.inr (slot_ne (Or.inr (w24 hw)) (Or.inr (w25 hw)) (by decide) (t := (.array .byte)) (t' := .byte) (by decide) (by decide))))
  have ne39 : a25 ≠ x := (Ne.symm (N25 _ (List.mem_of_getElem? (i := 0) rfl)).1)
  have ne40 : b25 ≠ x := (Ne.symm (N25 _ (List.mem_of_getElem? (i := 0) rfl)).2)
  have f41 := (((S25.keep K28 (ninS ne39 nin0) (ninS ne40 nin0)).keep K29 nin0 nin0).keep K32 (ninS ne39 nin0) (ninS ne40 nin0))
  exact k_ret W d_jdk_42_149_26 rfl [] (fun x hx => nomatch hx) (Nat.le_of_ble_eq_true rfl) (Nat.le_of_ble_eq_true rfl) ⟨rfl, b25, KK36, ⟨f37, (Fld.same Wr32 f30), f38, f41.2.2.2⟩, fun z hz => (N25 z hz).2⟩
set_option maxRecDepth 65536 in
set_option maxHeartbeats 40000000 in
theorem ct_sinitE (l : Launch) (Z : State) (a0 : Array Value) (hw : ∀ d ∈ tables_1, d.before a0 Z = true) (n0 : Nat) (h0 : Heap) (x a : Addr) (sfx : List Addr) (v0 c0 : Value) (E0 : Exa Z h0 x "java/lang/String") (V0 : Fld Z h0 x "java/lang/String" "value" "[B" v0) (C0 : Fld Z h0 x "java/lang/String" "coder" "B" c0) (A0 : Av Z h0 a .char []) : Ct l Z a0 own_EL false (⟨"java/lang/String", "<init>", "([C)V"⟩ : MethodName) jdk_42_method_3_code 2 (Option.none : Option Jvm.ClassFile.FieldType) ({ frames := 2, cells := 4, slots := 8, locals := 29 } : Room) #[(.ref x), (.ref a)] h0 (x :: sfx) n0 (fun v h so => v = none ∧ ∃ b, Keep h0 h [x] ∧ St Z h x b [] ∧ ∀ z ∈ x :: sfx, z ≠ b) := by
  refine Ct.body (plainFor_of_name pn1) ?_
  intro p e s m below meth c T W
  refine WP.cast (g' := (mkF m 0 #[.val (.ref x), .val (.ref a)] [])) (by simp [entryFrame, mkF, argsToLocals, cat_i, cat_l, cat_r, cat_n]) ?_
  refine k_aloadN W d_jdk_42_3_0 rfl rfl ?_
  refine k_aloadN W d_jdk_42_3_1 rfl rfl ?_
  refine k_iconst W d_jdk_42_3_2 (z := (0 : Int32)) rfl ?_
  refine k_aloadN W d_jdk_42_3_3 rfl rfl ?_
  refine k_arraylength W (z := (0 : Int32)) d_jdk_42_3_4 A0 rfl ?_
  refine k_aconst W d_jdk_42_3_5 ?_
  refine k_callI0 W 0 4 8 (argsL := [(.ref a), (.int (0 : Int32)), (.int (0 : Int32)), .null]) (rest := []) (a := x) d_jdk_42_3_6 rfl rfl (w15 hw) (w16 hw) (by decide) (lenOf pd3 rfl) (ct_sinitE4 l Z a0 hw n0 h0 x a sfx v0 c0 E0 V0 C0) (w18 hw) (w10 hw) (fun x hx => hx) rfl (Nat.le_of_eq rfl) (Nat.le_of_ble_eq_true rfl) (Nat.le_of_ble_eq_true rfl) ⟨rfl, Nat.le_of_ble_eq_true rfl⟩ ⟨rfl, Nat.le_of_ble_eq_true rfl⟩ rfl (fun _ _ _ q => nomatch q.1) fun T h42 so W hQ => ?_
  have hq42 := hQ.2
  exact k_ret W d_jdk_42_3_9 rfl [] (fun x hx => nomatch hx) (Nat.le_of_ble_eq_true rfl) (Nat.le_of_ble_eq_true rfl) ⟨rfl, hq42⟩
set_option maxRecDepth 65536 in
set_option maxHeartbeats 40000000 in
theorem ct_max0 (l : Launch) (Z : State) (a0 : Array Value) (hw : ∀ d ∈ tables_1, d.before a0 Z = true) (n0 : Nat) (h0 : Heap) : Ct l Z a0 own_EL false (⟨"java/lang/Math", "max", "(II)I"⟩ : MethodName) jdk_29_method_65_code 2 (Option.some Jvm.ClassFile.FieldType.int) ({ frames := 0, cells := 0, slots := 0, locals := 0 } : Room) #[(.int (0 : Int32)), (.int (0 : Int32))] h0 [] n0 (fun v h so => v = some (.int (0 : Int32)) ∧ h0 = h ∧ so = []) := by
  refine Ct.body pf0 ?_
  intro p e s m below meth c T W
  refine WP.cast (g' := (mkF m 0 #[.val (.int (0 : Int32)), .val (.int (0 : Int32))] [])) (by simp [entryFrame, mkF, argsToLocals, cat_i, cat_l, cat_r, cat_n]) ?_
  refine k_iloadN W d_jdk_29_65_0 rfl ?_
  refine k_iloadN W d_jdk_29_65_1 rfl ?_
  refine k_icN W d_jdk_29_65_2 (show ¬ ((0 : Int32) < (0 : Int32)) by decide) ?_
  refine k_iloadN W d_jdk_29_65_5 rfl ?_
  refine k_goto W 10 d_jdk_29_65_6 (by decide) ?_
  exact k_ireturn W d_jdk_29_65_10 rfl [] (fun x hx => nomatch hx) (Nat.le_of_ble_eq_true rfl) (Nat.le_of_ble_eq_true rfl) ⟨rfl, rfl, rfl⟩
set_option maxRecDepth 65536 in
set_option maxHeartbeats 40000000 in
theorem ct_minR (l : Launch) (Z : State) (a0 : Array Value) (hw : ∀ d ∈ tables_1, d.before a0 Z = true) (n0 : Nat) (h0 : Heap) (p0 p1 : Int32) (hm : ¬ p0 < p1) : Ct l Z a0 own_EL false (⟨"java/lang/Math", "min", "(II)I"⟩ : MethodName) jdk_29_method_69_code 2 (Option.some Jvm.ClassFile.FieldType.int) ({ frames := 0, cells := 0, slots := 0, locals := 0 } : Room) #[(.int p0), (.int p1)] h0 [] n0 (fun v h so => v = some (.int p1) ∧ h0 = h ∧ so = []) := by
  refine Ct.body pf1 ?_
  intro p e s m below meth c T W
  refine WP.cast (g' := (mkF m 0 #[.val (.int p0), .val (.int p1)] [])) (by simp [entryFrame, mkF, argsToLocals, cat_i, cat_l, cat_r, cat_n]) ?_
  refine k_iloadN W d_jdk_29_69_0 rfl ?_
  refine k_iloadN W d_jdk_29_69_1 rfl ?_
  refine k_ic W 9 d_jdk_29_69_2 (by decide) (fun (hc43 : p1 < p0) => ?_) (fun (hc43 : ¬ (p1 < p0)) => ?_)
  · -- pc 9
    refine k_iloadN W d_jdk_29_69_9 rfl ?_
    exact k_ireturn W d_jdk_29_69_10 rfl [] (fun x hx => nomatch hx) (Nat.le_of_ble_eq_true rfl) (Nat.le_of_ble_eq_true rfl) ⟨rfl, rfl, rfl⟩
  · -- pc 5
    refine k_iloadN W d_jdk_29_69_5 rfl ?_
    refine k_goto W 10 d_jdk_29_69_6 (by decide) ?_
    exact k_ireturn W d_jdk_29_69_10 rfl [] (fun x hx => nomatch hx) (Nat.le_of_ble_eq_true rfl) (Nat.le_of_ble_eq_true rfl) ⟨by rw [lt_as hm hc43], rfl, rfl⟩
set_option maxRecDepth 65536 in
set_option maxHeartbeats 40000000 in
theorem ct_isL1 (l : Launch) (Z : State) (a0 : Array Value) (hw : ∀ d ∈ tables_1, d.before a0 Z = true) (n0 : Nat) (h0 : Heap) (x b : Addr) (bs : List Int32) (zc : Int32) (S0 : St Z h0 x b bs) (P0 : Sta Z h0 "java/lang/String" "COMPACT_STRINGS" "Z" (.int zc)) (hzc : zc ≠ 0) : Ct l Z a0 own_EL false (⟨"java/lang/String", "isLatin1", "()Z"⟩ : MethodName) jdk_42_method_154_code 1 (Option.some Jvm.ClassFile.FieldType.boolean) ({ frames := 0, cells := 0, slots := 0, locals := 0 } : Room) #[(.ref x)] h0 [] n0 (fun v h so => v = some (.int (1 : Int32)) ∧ h0 = h ∧ so = []) := by
  refine Ct.body (plainFor_of_name pn1) ?_
  intro p e s m below meth c T W
  refine WP.cast (g' := (mkF m 0 #[.val (.ref x)] [])) (by simp [entryFrame, mkF, argsToLocals, cat_i, cat_l, cat_r, cat_n]) ?_
  refine k_getS W d_jdk_42_154_0 (w49 hw) Via.refl P0 fun T W => ?_
  refine k_ifN W d_jdk_42_154_3 (show ¬ (zc = 0) from hzc) ?_
  refine k_aloadN W d_jdk_42_154_6 rfl rfl ?_
  refine k_getF W d_jdk_42_154_7 (host := "") (Or.inl (w29 hw)) Via.refl S0.2.1 fun T W => ?_
  refine k_ifN W d_jdk_42_154_10 (show ¬ (¬ (0 : Int32) = 0) by decide) ?_
  refine k_iconst W d_jdk_42_154_13 (z := (1 : Int32)) rfl ?_
  refine k_goto W 18 d_jdk_42_154_14 (by decide) ?_
  exact k_retN W (t := .boolean) (z' := (1 : Int32)) d_jdk_42_154_18 rfl (by simp) (by decide) [] (fun x hx => nomatch hx) (Nat.le_of_ble_eq_true rfl) (Nat.le_of_ble_eq_true rfl) ⟨rfl, rfl, rfl⟩
set_option maxRecDepth 65536 in
set_option maxHeartbeats 40000000 in
theorem ct_coder (l : Launch) (Z : State) (a0 : Array Value) (hw : ∀ d ∈ tables_1, d.before a0 Z = true) (n0 : Nat) (h0 : Heap) (x b : Addr) (bs : List Int32) (zc : Int32) (S0 : St Z h0 x b bs) (P0 : Sta Z h0 "java/lang/String" "COMPACT_STRINGS" "Z" (.int zc)) (hzc : zc ≠ 0) : Ct l Z a0 own_EL false (⟨"java/lang/String", "coder", "()B"⟩ : MethodName) jdk_42_method_152_code 1 (Option.some Jvm.ClassFile.FieldType.byte) ({ frames := 0, cells := 0, slots := 0, locals := 0 } : Room) #[(.ref x)] h0 [] n0 (fun v h so => v = some (.int (0 : Int32)) ∧ h0 = h ∧ so = []) := by
  refine Ct.body (plainFor_of_name pn1) ?_
  intro p e s m below meth c T W
  refine WP.cast (g' := (mkF m 0 #[.val (.ref x)] [])) (by simp [entryFrame, mkF, argsToLocals, cat_i, cat_l, cat_r, cat_n]) ?_
  refine k_getS W d_jdk_42_152_0 (w49 hw) Via.refl P0 fun T W => ?_
  refine k_ifN W d_jdk_42_152_3 (show ¬ (zc = 0) from hzc) ?_
  refine k_aloadN W d_jdk_42_152_6 rfl rfl ?_
  refine k_getF W d_jdk_42_152_7 (host := "") (Or.inl (w29 hw)) Via.refl S0.2.1 fun T W => ?_
  refine k_goto W 14 d_jdk_42_152_10 (by decide) ?_
  exact k_retN W (t := .byte) (z' := (0 : Int32)) d_jdk_42_152_14 rfl (by simp) (by decide) [] (fun x hx => nomatch hx) (Nat.le_of_ble_eq_true rfl) (Nat.le_of_ble_eq_true rfl) ⟨rfl, rfl, rfl⟩
set_option maxRecDepth 65536 in
set_option maxHeartbeats 40000000 in
theorem ct_len (l : Launch) (Z : State) (a0 : Array Value) (hw : ∀ d ∈ tables_1, d.before a0 Z = true) (n0 : Nat) (h0 : Heap) (x b : Addr) (bs : List Int32) (zc : Int32) (S0 : St Z h0 x b bs) (P0 : Sta Z h0 "java/lang/String" "COMPACT_STRINGS" "Z" (.int zc)) (hzc : zc ≠ 0) : Ct l Z a0 own_EL false (⟨"java/lang/String", "length", "()I"⟩ : MethodName) jdk_42_method_54_code 1 (Option.some Jvm.ClassFile.FieldType.int) ({ frames := 1, cells := 0, slots := 0, locals := 13 } : Room) #[(.ref x)] h0 [] n0 (fun v h so => v = some (.int (Int32.ofNat bs.length)) ∧ h0 = h ∧ so = []) := by
  refine Ct.body (plainFor_of_name pn1) ?_
  intro p e s m below meth c T W
  refine WP.cast (g' := (mkF m 0 #[.val (.ref x)] [])) (by simp [entryFrame, mkF, argsToLocals, cat_i, cat_l, cat_r, cat_n]) ?_
  refine k_aloadN W d_jdk_42_54_0 rfl rfl ?_
  refine k_getF W d_jdk_42_54_1 (host := "") (Or.inl (w28 hw)) Via.refl S0.2.2.1 fun T W => ?_
  refine k_arraylength W (z := (Int32.ofNat bs.length)) d_jdk_42_54_4 S0.2.2.2 (by first | (rw [List.length_map]; done) | (rw [List.length_map]; rfl)) ?_
  refine k_aloadN W d_jdk_42_54_5 rfl rfl ?_
  refine k_callV W 1 0 0 (argsL := []) (rest := [(.int (Int32.ofNat bs.length))]) (a := x) (C := "java/lang/String") (z0 := (⟨"java/lang/String", "coder", "()B"⟩ : MethodName)) (z := (⟨"java/lang/String", "coder", "()B"⟩ : MethodName)) d_jdk_42_54_6 (w55 hw) (w56 hw) (nfSel (w58 hw)) (w58 hw) (w57 hw) (by decide) (lenOf pd4 rfl) S0.1 (ct_coder l Z a0 hw n0 h0 x b bs zc S0 P0 hzc) (w59 hw) (w10 hw) (fun x hx => hx) rfl (Nat.le_of_eq rfl) (Nat.le_of_ble_eq_true rfl) (Nat.le_of_ble_eq_true rfl) ⟨rfl, Nat.le_of_ble_eq_true rfl⟩ ⟨rfl, Nat.le_of_ble_eq_true rfl⟩ rfl (fun _ _ q => nomatch q.1) fun T h44 v so W hQ => ?_
  obtain ⟨hv, rfl, -⟩ := hQ
  obtain rfl := Option.some.inj hv
  refine k_ishr W d_jdk_42_54_9 (z := (Int32.ofNat bs.length)) (shr0 _) ?_
  exact k_ireturn W d_jdk_42_54_10 rfl [] (fun x hx => nomatch hx) (Nat.le_of_ble_eq_true rfl) (Nat.le_of_ble_eq_true rfl) ⟨rfl, rfl, rfl⟩
set_option maxRecDepth 65536 in
set_option maxHeartbeats 40000000 in
theorem ct_cenc (l : Launch) (Z : State) (a0 : Array Value) (hw : ∀ d ∈ tables_1, d.before a0 Z = true) (n0 : Nat) (h0 : Heap) : Ct l Z a0 own_EL false (⟨"java/lang/StringLatin1", "canEncode", "(I)Z"⟩ : MethodName) jdk_43_method_4_code 1 (Option.some Jvm.ClassFile.FieldType.boolean) ({ frames := 0, cells := 0, slots := 0, locals := 0 } : Room) #[(.int (47 : Int32))] h0 [] n0 (fun v h so => v = some (.int (1 : Int32)) ∧ h0 = h ∧ so = []) := by
  refine Ct.body (plainFor_of_name pn2) ?_
  intro p e s m below meth c T W
  refine WP.cast (g' := (mkF m 0 #[.val (.int (47 : Int32))] [])) (by simp [entryFrame, mkF, argsToLocals, cat_i, cat_l, cat_r, cat_n]) ?_
  refine k_iloadN W d_jdk_43_4_0 rfl ?_
  refine k_ifN W d_jdk_43_4_1 (show ¬ ((47 : Int32) < 0) by decide) ?_
  refine k_iloadN W d_jdk_43_4_4 rfl ?_
  refine k_sipush W d_jdk_43_4_5 (z := (255 : Int32)) rfl ?_
  refine k_icN W d_jdk_43_4_8 (show ¬ ((255 : Int32) < (47 : Int32)) by decide) ?_
  refine k_iconst W d_jdk_43_4_11 (z := (1 : Int32)) rfl ?_
  refine k_goto W 16 d_jdk_43_4_12 (by decide) ?_
  exact k_retN W (t := .boolean) (z' := (1 : Int32)) d_jdk_43_4_16 rfl (by simp) (by decide) [] (fun x hx => nomatch hx) (Nat.le_of_ble_eq_true rfl) (Nat.le_of_ble_eq_true rfl) ⟨rfl, rfl, rfl⟩
set_option maxRecDepth 65536 in
set_option maxHeartbeats 40000000 in
theorem ct_idcY (l : Launch) (Z : State) (a0 : Array Value) (hw : ∀ d ∈ tables_1, d.before a0 Z = true) (n0 : Nat) (h0 : Heap) (b : Addr) (bs : List Int32) (j : Nat) (hj : bs[j]? = some (47 : Int32)) (hn : ∀ z ∈ bs.take j, z ≠ (47 : Int32)) (B0 : Av Z h0 b .byte (bs.map Value.int)) : Ct l Z a0 own_EL false (⟨"java/lang/StringLatin1", "indexOfChar", "([BIII)I"⟩ : MethodName) jdk_43_method_23_code 6 (Option.some Jvm.ClassFile.FieldType.int) ({ frames := 0, cells := 0, slots := 0, locals := 0 } : Room) #[(.ref b), (.int (47 : Int32)), (.int (0 : Int32)), (.int (Int32.ofNat bs.length))] h0 [] n0 (fun v h so => v = some (.int (Int32.ofNat j)) ∧ h0 = h ∧ so = []) := by
  refine Ct.body (plainFor_of_name pn2) ?_
  intro p e s m below meth c T W
  refine WP.cast (g' := (mkF m 0 #[.val (.ref b), .val (.int (47 : Int32)), .val (.int (0 : Int32)), .val (.int (Int32.ofNat bs.length)), .unset, .unset] [])) (by simp [entryFrame, mkF, argsToLocals, cat_i, cat_l, cat_r, cat_n]) ?_
  have hL : bs.length < 2147483648 := by have := B0.len; simpa using this
  have hjl : j < bs.length := (List.getElem?_eq_some_iff.mp hj).1
  refine k_iloadN W d_jdk_43_23_0 rfl ?_
  refine k_i2b W d_jdk_43_23_1 (z := (47 : Int32)) (by decide) ?_
  refine k_istore W d_jdk_43_23_2 (L' := #[.val (.ref b), .val (.int (47 : Int32)), .val (.int (0 : Int32)), .val (.int (Int32.ofNat bs.length)), .val (.int (47 : Int32)), .unset]) rfl ?_
  refine k_iloadN W d_jdk_43_23_4 rfl ?_
  refine k_istore W d_jdk_43_23_5 (L' := #[.val (.ref b), .val (.int (47 : Int32)), .val (.int (0 : Int32)), .val (.int (Int32.ofNat bs.length)), .val (.int (47 : Int32)), .val (.int (0 : Int32))]) rfl ?_
  have loop : ∀ (k i : Nat) (T : State), i + k = j → WS p l e ({ frames := 0, cells := 0, slots := 0, locals := 0 } : Room) s m #[(.ref b), (.int (47 : Int32)), (.int (0 : Int32)), (.int (Int32.ofNat bs.length))] below meth c Z a0 own_EL false n0 (⟨"java/lang/StringLatin1", "indexOfChar", "([BIII)I"⟩ : MethodName) jdk_43_method_23_code 6 (Option.some Jvm.ClassFile.FieldType.int) T h0 [] 0 0 → WP p e below (Fne s n0 Z own_EL false ({ frames := 0, cells := 0, slots := 0, locals := 0 } : Room) (fun v h so => v = some (.int (Int32.ofNat j)) ∧ h0 = h ∧ so = [])) T (mkF m 7 #[.val (.ref b), .val (.int (47 : Int32)), .val (.int (0 : Int32)), .val (.int (Int32.ofNat bs.length)), .val (.int (47 : Int32)), .val (.int (Int32.ofNat i))] []) := by
    intro k
    induction k with
    | zero =>
      intro i T hi W
      obtain rfl : i = j := by omega
      refine k_iload W d_jdk_43_23_7 rfl ?_
      refine k_iloadN W d_jdk_43_23_9 rfl ?_
      refine k_icN W d_jdk_43_23_10 (show ¬ (¬ (Int32.ofNat i) < (Int32.ofNat bs.length)) from (fun q => q (of_lt hjl hL))) ?_
      refine k_aloadN W d_jdk_43_23_13 rfl rfl ?_
      refine k_iload W d_jdk_43_23_14 rfl ?_
      refine k_baload W (v := (.int (47 : Int32))) i d_jdk_43_23_16 B0 (ix_of (by omega)) (by simp [hj]) ?_
      refine k_iload W d_jdk_43_23_17 rfl ?_
      refine k_icN W d_jdk_43_23_19 (show ¬ (¬ (47 : Int32) = (47 : Int32)) by decide) ?_
      refine k_iload W d_jdk_43_23_22 rfl ?_
      exact k_ireturn W d_jdk_43_23_24 rfl [] (fun x hx => nomatch hx) (Nat.le_of_ble_eq_true rfl) (Nat.le_of_ble_eq_true rfl) ⟨rfl, rfl, rfl⟩
    | succ k ih =>
      intro i T hi W
      have h1 : i < bs.length := by omega
      obtain ⟨bi, hbi⟩ : ∃ c, bs[i]? = some c := ⟨_, List.getElem?_eq_getElem h1⟩
      have hne : bi ≠ (47 : Int32) := hn _ (List.mem_of_getElem? (i := i) (by rw [List.getElem?_take_of_lt (by omega)]; exact hbi))
      refine k_iload W d_jdk_43_23_7 rfl ?_
      refine k_iloadN W d_jdk_43_23_9 rfl ?_
      refine k_icN W d_jdk_43_23_10 (show ¬ (¬ (Int32.ofNat i) < (Int32.ofNat bs.length)) from (fun q => q (of_lt h1 hL))) ?_
      refine k_aloadN W d_jdk_43_23_13 rfl rfl ?_
      refine k_iload W d_jdk_43_23_14 rfl ?_
      refine k_baload W (v := (.int bi)) i d_jdk_43_23_16 B0 (ix_of (by omega)) (by simp [hbi]) ?_
      refine k_iload W d_jdk_43_23_17 rfl ?_
      refine k_icY W 25 d_jdk_43_23_19 (by decide) (show ¬ bi = (47 : Int32) from hne) ?_
      refine k_iinc W d_jdk_43_23_25 rfl (z := (Int32.ofNat (i + 1))) (of_succ i) (L' := #[.val (.ref b), .val (.int (47 : Int32)), .val (.int (0 : Int32)), .val (.int (Int32.ofNat bs.length)), .val (.int (47 : Int32)), .val (.int (Int32.ofNat (i + 1)))]) rfl ?_
      refine k_goto W 7 d_jdk_43_23_28 (by decide) ?_
      exact ih (i + 1) T (by omega) W
  exact loop j 0 T (by omega) W
set_option maxRecDepth 65536 in
set_option maxHeartbeats 40000000 in
theorem ct_lidxY (l : Launch) (Z : State) (a0 : Array Value) (hw : ∀ d ∈ tables_1, d.before a0 Z = true) (n0 : Nat) (h0 : Heap) (b : Addr) (bs : List Int32) (j : Nat) (hj : bs[j]? = some (47 : Int32)) (hn : ∀ z ∈ bs.take j, z ≠ (47 : Int32)) (B0 : Av Z h0 b .byte (bs.map Value.int)) : Ct l Z a0 own_EL false (⟨"java/lang/StringLatin1", "indexOf", "([BIII)I"⟩ : MethodName) jdk_43_method_22_code 4 (Option.some Jvm.ClassFile.FieldType.int) ({ frames := 1, cells := 0, slots := 0, locals := 17 } : Room) #[(.ref b), (.int (47 : Int32)), (.int (0 : Int32)), (.int (Int32.ofNat bs.length))] h0 [] n0 (fun v h so => v = some (.int (Int32.ofNat j)) ∧ h0 = h ∧ so = []) := by
  refine Ct.body (plainFor_of_name pn2) ?_
  intro p e s m below meth c T W
  refine WP.cast (g' := (mkF m 0 #[.val (.ref b), .val (.int (47 : Int32)), .val (.int (0 : Int32)), .val (.int (Int32.ofNat bs.length))] [])) (by simp [entryFrame, mkF, argsToLocals, cat_i, cat_l, cat_r, cat_n]) ?_
  have hL : bs.length < 2147483648 := by have := B0.len; simpa using this
  have hjl : j < bs.length := (List.getElem?_eq_some_iff.mp hj).1
  refine k_iloadN W d_jdk_43_22_0 rfl ?_
  refine k_callS W 0 0 0 (argsL := [(.int (47 : Int32))]) (rest := []) d_jdk_43_22_1 (w64 hw) (w65 hw) (by decide) (lenOf pd5 rfl) (ct_cenc l Z a0 hw n0 h0) (w66 hw) (w62 hw) (fun x hx => hx) rfl (Nat.le_of_eq rfl) (Nat.le_of_ble_eq_true rfl) (Nat.le_of_ble_eq_true rfl) ⟨rfl, Nat.le_of_ble_eq_true rfl⟩ ⟨rfl, Nat.le_of_ble_eq_true rfl⟩ rfl (fun _ _ q => nomatch q.1) fun T h45 v so W hQ => ?_
  obtain ⟨hv, rfl, -⟩ := hQ
  obtain rfl := Option.some.inj hv
  refine k_ifY W 9 d_jdk_43_22_4 (by decide) (show ¬ (1 : Int32) = 0 by decide) ?_
  refine k_iloadN W d_jdk_43_22_9 rfl ?_
  refine k_iconst W d_jdk_43_22_10 (z := (0 : Int32)) rfl ?_
  refine k_callS W 0 0 0 (argsL := [(.int (0 : Int32)), (.int (0 : Int32))]) (rest := []) d_jdk_43_22_11 (w67 hw) (w68 hw) (by decide) (lenOf pd6 rfl) (ct_max0 l Z a0 hw n0 h0) (w70 hw) (w69 hw) (fun x hx => hx) rfl (Nat.le_of_eq rfl) (Nat.le_of_ble_eq_true rfl) (Nat.le_of_ble_eq_true rfl) ⟨rfl, Nat.le_of_ble_eq_true rfl⟩ ⟨rfl, Nat.le_of_ble_eq_true rfl⟩ rfl (fun _ _ q => nomatch q.1) fun T h46 v so W hQ => ?_
  obtain ⟨hv, rfl, -⟩ := hQ
  obtain rfl := Option.some.inj hv
  refine k_istoreN W d_jdk_43_22_14 (L' := #[.val (.ref b), .val (.int (47 : Int32)), .val (.int (0 : Int32)), .val (.int (Int32.ofNat bs.length))]) rfl ?_
  refine k_iloadN W d_jdk_43_22_15 rfl ?_
  refine k_aloadN W d_jdk_43_22_16 rfl rfl ?_
  refine k_arraylength W (z := (Int32.ofNat bs.length)) d_jdk_43_22_17 B0 (by first | (rw [List.length_map]; done) | (rw [List.length_map]; rfl)) ?_
  refine k_callS W 0 0 0 (argsL := [(.int (Int32.ofNat bs.length)), (.int (Int32.ofNat bs.length))]) (rest := []) d_jdk_43_22_18 (w71 hw) (w72 hw) (by decide) (lenOf pd6 rfl) (ct_minR l Z a0 hw n0 h0 (Int32.ofNat bs.length) (Int32.ofNat bs.length) Int32.lt_irrefl) (w73 hw) (w69 hw) (fun x hx => hx) rfl (Nat.le_of_eq rfl) (Nat.le_of_ble_eq_true rfl) (Nat.le_of_ble_eq_true rfl) ⟨rfl, Nat.le_of_ble_eq_true rfl⟩ ⟨rfl, Nat.le_of_ble_eq_true rfl⟩ rfl (fun _ _ q => nomatch q.1) fun T h47 v so W hQ => ?_
  obtain ⟨hv, rfl, -⟩ := hQ
  obtain rfl := Option.some.inj hv
  refine k_istoreN W d_jdk_43_22_21 (L' := #[.val (.ref b), .val (.int (47 : Int32)), .val (.int (0 : Int32)), .val (.int (Int32.ofNat bs.length))]) rfl ?_
  refine k_iloadN W d_jdk_43_22_22 rfl ?_
  refine k_iloadN W d_jdk_43_22_23 rfl ?_
  refine k_icY W 29 d_jdk_43_22_24 (by decide) (show (0 : Int32) < (Int32.ofNat bs.length) from (of_lt (i := 0) (by omega) hL)) ?_
  refine k_aloadN W d_jdk_43_22_29 rfl rfl ?_
  refine k_iloadN W d_jdk_43_22_30 rfl ?_
  refine k_iloadN W d_jdk_43_22_31 rfl ?_
  refine k_iloadN W d_jdk_43_22_32 rfl ?_
  refine k_callS W 0 0 0 (argsL := [(.ref b), (.int (47 : Int32)), (.int (0 : Int32)), (.int (Int32.ofNat bs.length))]) (rest := []) d_jdk_43_22_33 (w84 hw) (w85 hw) (by decide) (lenOf pd7 rfl) (ct_idcY l Z a0 hw n0 h0 b bs j hj hn B0) (w86 hw) (w62 hw) (fun x hx => hx) rfl (Nat.le_of_eq rfl) (Nat.le_of_ble_eq_true rfl) (Nat.le_of_ble_eq_true rfl) ⟨rfl, Nat.le_of_ble_eq_true rfl⟩ ⟨rfl, Nat.le_of_ble_eq_true rfl⟩ rfl (fun _ _ q => nomatch q.1) fun T h48 v so W hQ => ?_
  obtain ⟨hv, rfl, -⟩ := hQ
  obtain rfl := Option.some.inj hv
  exact k_ireturn W d_jdk_43_22_36 rfl [] (fun x hx => nomatch hx) (Nat.le_of_ble_eq_true rfl) (Nat.le_of_ble_eq_true rfl) ⟨rfl, rfl, rfl⟩
set_option maxRecDepth 65536 in
set_option maxHeartbeats 40000000 in
theorem ct_sidx2Y (l : Launch) (Z : State) (a0 : Array Value) (hw : ∀ d ∈ tables_1, d.before a0 Z = true) (n0 : Nat) (h0 : Heap) (x b : Addr) (bs : List Int32) (zc : Int32) (j : Nat) (hj : bs[j]? = some (47 : Int32)) (hn : ∀ z ∈ bs.take j, z ≠ (47 : Int32)) (S0 : St Z h0 x b bs) (P0 : Sta Z h0 "java/lang/String" "COMPACT_STRINGS" "Z" (.int zc)) (hzc : zc ≠ 0) : Ct l Z a0 own_EL false (⟨"java/lang/String", "indexOf", "(II)I"⟩ : MethodName) jdk_42_method_80_code 3 (Option.some Jvm.ClassFile.FieldType.int) ({ frames := 2, cells := 0, slots := 0, locals := 32 } : Room) #[(.ref x), (.int (47 : Int32)), (.int (0 : Int32))] h0 [] n0 (fun v h so => v = some (.int (Int32.ofNat j)) ∧ h0 = h ∧ so = []) := by
  refine Ct.body (plainFor_of_name pn1) ?_
  intro p e s m below meth c T W
  refine WP.cast (g' := (mkF m 0 #[.val (.ref x), .val (.int (47 : Int32)), .val (.int (0 : Int32))] [])) (by simp [entryFrame, mkF, argsToLocals, cat_i, cat_l, cat_r, cat_n]) ?_
  refine k_aloadN W d_jdk_42_80_0 rfl rfl ?_
  refine k_callV W 0 0 0 (argsL := []) (rest := []) (a := x) (C := "java/lang/String") (z0 := (⟨"java/lang/String", "isLatin1", "()Z"⟩ : MethodName)) (z := (⟨"java/lang/String", "isLatin1", "()Z"⟩ : MethodName)) d_jdk_42_80_1 (w44 hw) (w45 hw) (nfSel (w47 hw)) (w47 hw) (w46 hw) (by decide) (lenOf pd8 rfl) S0.1 (ct_isL1 l Z a0 hw n0 h0 x b bs zc S0 P0 hzc) (w48 hw) (w10 hw) (fun x hx => hx) rfl (Nat.le_of_eq rfl) (Nat.le_of_ble_eq_true rfl) (Nat.le_of_ble_eq_true rfl) ⟨rfl, Nat.le_of_ble_eq_true rfl⟩ ⟨rfl, Nat.le_of_ble_eq_true rfl⟩ rfl (fun _ _ q => nomatch q.1) fun T h49 v so W hQ => ?_
  obtain ⟨hv, rfl, -⟩ := hQ
  obtain rfl := Option.some.inj hv
  refine k_ifN W d_jdk_42_80_4 (show ¬ ((1 : Int32) = 0) by decide) ?_
  refine k_aloadN W d_jdk_42_80_7 rfl rfl ?_
  refine k_getF W d_jdk_42_80_8 (host := "") (Or.inl (w28 hw)) Via.refl S0.2.2.1 fun T W => ?_
  refine k_iloadN W d_jdk_42_80_11 rfl ?_
  refine k_iloadN W d_jdk_42_80_12 rfl ?_
  refine k_aloadN W d_jdk_42_80_13 rfl rfl ?_
  refine k_callV W 3 0 0 (argsL := []) (rest := [(.int (0 : Int32)), (.int (47 : Int32)), (.ref b)]) (a := x) (C := "java/lang/String") (z0 := (⟨"java/lang/String", "length", "()I"⟩ : MethodName)) (z := (⟨"java/lang/String", "length", "()I"⟩ : MethodName)) d_jdk_42_80_14 (w50 hw) (w51 hw) (nfSel (w53 hw)) (w53 hw) (w52 hw) (by decide) (lenOf pd9 rfl) S0.1 (ct_len l Z a0 hw n0 h0 x b bs zc S0 P0 hzc) (w54 hw) (w10 hw) (fun x hx => hx) rfl (Nat.le_of_eq rfl) (Nat.le_of_ble_eq_true rfl) (Nat.le_of_ble_eq_true rfl) ⟨rfl, Nat.le_of_ble_eq_true rfl⟩ ⟨rfl, Nat.le_of_ble_eq_true rfl⟩ rfl (fun _ _ q => nomatch q.1) fun T h50 v so W hQ => ?_
  obtain ⟨hv, rfl, -⟩ := hQ
  obtain rfl := Option.some.inj hv
  refine k_callS W 0 0 0 (argsL := [(.ref b), (.int (47 : Int32)), (.int (0 : Int32)), (.int (Int32.ofNat bs.length))]) (rest := []) d_jdk_42_80_17 (w60 hw) (w61 hw) (by decide) (lenOf pd7 rfl) (ct_lidxY l Z a0 hw n0 h0 b bs j hj hn S0.2.2.2) (w63 hw) (w62 hw) (fun x hx => hx) rfl (Nat.le_of_eq rfl) (Nat.le_of_ble_eq_true rfl) (Nat.le_of_ble_eq_true rfl) ⟨rfl, Nat.le_of_ble_eq_true rfl⟩ ⟨rfl, Nat.le_of_ble_eq_true rfl⟩ rfl (fun _ _ q => nomatch q.1) fun T h51 v so W hQ => ?_
  obtain ⟨hv, rfl, -⟩ := hQ
  obtain rfl := Option.some.inj hv
  refine k_goto W 36 d_jdk_42_80_20 (by decide) ?_
  exact k_ireturn W d_jdk_42_80_36 rfl [] (fun x hx => nomatch hx) (Nat.le_of_ble_eq_true rfl) (Nat.le_of_ble_eq_true rfl) ⟨rfl, rfl, rfl⟩
set_option maxRecDepth 65536 in
set_option maxHeartbeats 40000000 in
theorem ct_sidxY (l : Launch) (Z : State) (a0 : Array Value) (hw : ∀ d ∈ tables_1, d.before a0 Z = true) (n0 : Nat) (h0 : Heap) (x b : Addr) (bs : List Int32) (zc : Int32) (j : Nat) (hj : bs[j]? = some (47 : Int32)) (hn : ∀ z ∈ bs.take j, z ≠ (47 : Int32)) (S0 : St Z h0 x b bs) (P0 : Sta Z h0 "java/lang/String" "COMPACT_STRINGS" "Z" (.int zc)) (hzc : zc ≠ 0) : Ct l Z a0 own_EL false (⟨"java/lang/String", "indexOf", "(I)I"⟩ : MethodName) jdk_42_method_79_code 2 (Option.some Jvm.ClassFile.FieldType.int) ({ frames := 3, cells := 0, slots := 0, locals := 46 } : Room) #[(.ref x), (.int (47 : Int32))] h0 [] n0 (fun v h so => v = some (.int (Int32.ofNat j)) ∧ h0 = h ∧ so = []) := by
  refine Ct.body (plainFor_of_name pn1) ?_
  intro p e s m below meth c T W
  refine WP.cast (g' := (mkF m 0 #[.val (.ref x), .val (.int (47 : Int32))] [])) (by simp [entryFrame, mkF, argsToLocals, cat_i, cat_l, cat_r, cat_n]) ?_
  refine k_aloadN W d_jdk_42_79_0 rfl rfl ?_
  refine k_iloadN W d_jdk_42_79_1 rfl ?_
  refine k_iconst W d_jdk_42_79_2 (z := (0 : Int32)) rfl ?_
  refine k_callV W 0 0 0 (argsL := [(.int (47 : Int32)), (.int (0 : Int32))]) (rest := []) (a := x) (C := "java/lang/String") (z0 := (⟨"java/lang/String", "indexOf", "(II)I"⟩ : MethodName)) (z := (⟨"java/lang/String", "indexOf", "(II)I"⟩ : MethodName)) d_jdk_42_79_3 (w39 hw) (w40 hw) (nfSel (w42 hw)) (w42 hw) (w41 hw) (by decide) (lenOf pd6 rfl) S0.1 (ct_sidx2Y l Z a0 hw n0 h0 x b bs zc j hj hn S0 P0 hzc) (w43 hw) (w10 hw) (fun x hx => hx) rfl (Nat.le_of_eq rfl) (Nat.le_of_ble_eq_true rfl) (Nat.le_of_ble_eq_true rfl) ⟨rfl, Nat.le_of_ble_eq_true rfl⟩ ⟨rfl, Nat.le_of_ble_eq_true rfl⟩ rfl (fun _ _ q => nomatch q.1) fun T h52 v so W hQ => ?_
  obtain ⟨hv, rfl, -⟩ := hQ
  obtain rfl := Option.some.inj hv
  exact k_ireturn W d_jdk_42_79_6 rfl [] (fun x hx => nomatch hx) (Nat.le_of_ble_eq_true rfl) (Nat.le_of_ble_eq_true rfl) ⟨rfl, rfl, rfl⟩
set_option maxRecDepth 65536 in
set_option maxHeartbeats 40000000 in
theorem ct_idcN (l : Launch) (Z : State) (a0 : Array Value) (hw : ∀ d ∈ tables_1, d.before a0 Z = true) (n0 : Nat) (h0 : Heap) (b : Addr) (bs : List Int32) (hn : ∀ z ∈ bs, z ≠ (47 : Int32)) (B0 : Av Z h0 b .byte (bs.map Value.int)) : Ct l Z a0 own_EL false (⟨"java/lang/StringLatin1", "indexOfChar", "([BIII)I"⟩ : MethodName) jdk_43_method_23_code 6 (Option.some Jvm.ClassFile.FieldType.int) ({ frames := 0, cells := 0, slots := 0, locals := 0 } : Room) #[(.ref b), (.int (47 : Int32)), (.int (0 : Int32)), (.int (Int32.ofNat bs.length))] h0 [] n0 (fun v h so => v = some (.int (-1 : Int32)) ∧ h0 = h ∧ so = []) := by
  refine Ct.body (plainFor_of_name pn2) ?_
  intro p e s m below meth c T W
  refine WP.cast (g' := (mkF m 0 #[.val (.ref b), .val (.int (47 : Int32)), .val (.int (0 : Int32)), .val (.int (Int32.ofNat bs.length)), .unset, .unset] [])) (by simp [entryFrame, mkF, argsToLocals, cat_i, cat_l, cat_r, cat_n]) ?_
  have hL : bs.length < 2147483648 := by have := B0.len; simpa using this
  refine k_iloadN W d_jdk_43_23_0 rfl ?_
  refine k_i2b W d_jdk_43_23_1 (z := (47 : Int32)) (by decide) ?_
  refine k_istore W d_jdk_43_23_2 (L' := #[.val (.ref b), .val (.int (47 : Int32)), .val (.int (0 : Int32)), .val (.int (Int32.ofNat bs.length)), .val (.int (47 : Int32)), .unset]) rfl ?_
  refine k_iloadN W d_jdk_43_23_4 rfl ?_
  refine k_istore W d_jdk_43_23_5 (L' := #[.val (.ref b), .val (.int (47 : Int32)), .val (.int (0 : Int32)), .val (.int (Int32.ofNat bs.length)), .val (.int (47 : Int32)), .val (.int (0 : Int32))]) rfl ?_
  have loop : ∀ (k i : Nat) (T : State), i + k = bs.length → WS p l e ({ frames := 0, cells := 0, slots := 0, locals := 0 } : Room) s m #[(.ref b), (.int (47 : Int32)), (.int (0 : Int32)), (.int (Int32.ofNat bs.length))] below meth c Z a0 own_EL false n0 (⟨"java/lang/StringLatin1", "indexOfChar", "([BIII)I"⟩ : MethodName) jdk_43_method_23_code 6 (Option.some Jvm.ClassFile.FieldType.int) T h0 [] 0 0 → WP p e below (Fne s n0 Z own_EL false ({ frames := 0, cells := 0, slots := 0, locals := 0 } : Room) (fun v h so => v = some (.int (-1 : Int32)) ∧ h0 = h ∧ so = [])) T (mkF m 7 #[.val (.ref b), .val (.int (47 : Int32)), .val (.int (0 : Int32)), .val (.int (Int32.ofNat bs.length)), .val (.int (47 : Int32)), .val (.int (Int32.ofNat i))] []) := by
    intro k
    induction k with
    | zero =>
      intro i T hi W
      obtain rfl : i = bs.length := by omega
      refine k_iload W d_jdk_43_23_7 rfl ?_
      refine k_iloadN W d_jdk_43_23_9 rfl ?_
      refine k_icY W 31 d_jdk_43_23_10 (by decide) (show ¬ (Int32.ofNat bs.length) < (Int32.ofNat bs.length) from (of_ge (Nat.le_refl _) hL)) ?_
      refine k_iconst W d_jdk_43_23_31 (z := (-1 : Int32)) rfl ?_
      exact k_ireturn W d_jdk_43_23_32 rfl [] (fun x hx => nomatch hx) (Nat.le_of_ble_eq_true rfl) (Nat.le_of_ble_eq_true rfl) ⟨rfl, rfl, rfl⟩
    | succ k ih =>
      intro i T hi W
      have h1 : i < bs.length := by omega
      obtain ⟨bi, hbi⟩ : ∃ c, bs[i]? = some c := ⟨_, List.getElem?_eq_getElem h1⟩
      have hne : bi ≠ (47 : Int32) := hn _ (List.mem_of_getElem? hbi)
      refine k_iload W d_jdk_43_23_7 rfl ?_
      refine k_iloadN W d_jdk_43_23_9 rfl ?_
      refine k_icN W d_jdk_43_23_10 (show ¬ (¬ (Int32.ofNat i) < (Int32.ofNat bs.length)) from (fun q => q (of_lt h1 hL))) ?_
      refine k_aloadN W d_jdk_43_23_13 rfl rfl ?_
      refine k_iload W d_jdk_43_23_14 rfl ?_
      refine k_baload W (v := (.int bi)) i d_jdk_43_23_16 B0 (ix_of (by omega)) (by simp [hbi]) ?_
      refine k_iload W d_jdk_43_23_17 rfl ?_
      refine k_icY W 25 d_jdk_43_23_19 (by decide) (show ¬ bi = (47 : Int32) from hne) ?_
      refine k_iinc W d_jdk_43_23_25 rfl (z := (Int32.ofNat (i + 1))) (of_succ i) (L' := #[.val (.ref b), .val (.int (47 : Int32)), .val (.int (0 : Int32)), .val (.int (Int32.ofNat bs.length)), .val (.int (47 : Int32)), .val (.int (Int32.ofNat (i + 1)))]) rfl ?_
      refine k_goto W 7 d_jdk_43_23_28 (by decide) ?_
      exact ih (i + 1) T (by omega) W
  exact loop bs.length 0 T (by omega) W
set_option maxRecDepth 65536 in
set_option maxHeartbeats 40000000 in
theorem ct_lidxN (l : Launch) (Z : State) (a0 : Array Value) (hw : ∀ d ∈ tables_1, d.before a0 Z = true) (n0 : Nat) (h0 : Heap) (b : Addr) (bs : List Int32) (hn : ∀ z ∈ bs, z ≠ (47 : Int32)) (B0 : Av Z h0 b .byte (bs.map Value.int)) : Ct l Z a0 own_EL false (⟨"java/lang/StringLatin1", "indexOf", "([BIII)I"⟩ : MethodName) jdk_43_method_22_code 4 (Option.some Jvm.ClassFile.FieldType.int) ({ frames := 1, cells := 0, slots := 0, locals := 17 } : Room) #[(.ref b), (.int (47 : Int32)), (.int (0 : Int32)), (.int (Int32.ofNat bs.length))] h0 [] n0 (fun v h so => v = some (.int (-1 : Int32)) ∧ h0 = h ∧ so = []) := by
  refine Ct.body (plainFor_of_name pn2) ?_
  intro p e s m below meth c T W
  refine WP.cast (g' := (mkF m 0 #[.val (.ref b), .val (.int (47 : Int32)), .val (.int (0 : Int32)), .val (.int (Int32.ofNat bs.length))] [])) (by simp [entryFrame, mkF, argsToLocals, cat_i, cat_l, cat_r, cat_n]) ?_
  have hL : bs.length < 2147483648 := by have := B0.len; simpa using this
  refine k_iloadN W d_jdk_43_22_0 rfl ?_
  refine k_callS W 0 0 0 (argsL := [(.int (47 : Int32))]) (rest := []) d_jdk_43_22_1 (w64 hw) (w65 hw) (by decide) (lenOf pd5 rfl) (ct_cenc l Z a0 hw n0 h0) (w66 hw) (w62 hw) (fun x hx => hx) rfl (Nat.le_of_eq rfl) (Nat.le_of_ble_eq_true rfl) (Nat.le_of_ble_eq_true rfl) ⟨rfl, Nat.le_of_ble_eq_true rfl⟩ ⟨rfl, Nat.le_of_ble_eq_true rfl⟩ rfl (fun _ _ q => nomatch q.1) fun T h53 v so W hQ => ?_
  obtain ⟨hv, rfl, -⟩ := hQ
  obtain rfl := Option.some.inj hv
  refine k_ifY W 9 d_jdk_43_22_4 (by decide) (show ¬ (1 : Int32) = 0 by decide) ?_
  refine k_iloadN W d_jdk_43_22_9 rfl ?_
  refine k_iconst W d_jdk_43_22_10 (z := (0 : Int32)) rfl ?_
  refine k_callS W 0 0 0 (argsL := [(.int (0 : Int32)), (.int (0 : Int32))]) (rest := []) d_jdk_43_22_11 (w67 hw) (w68 hw) (by decide) (lenOf pd6 rfl) (ct_max0 l Z a0 hw n0 h0) (w70 hw) (w69 hw) (fun x hx => hx) rfl (Nat.le_of_eq rfl) (Nat.le_of_ble_eq_true rfl) (Nat.le_of_ble_eq_true rfl) ⟨rfl, Nat.le_of_ble_eq_true rfl⟩ ⟨rfl, Nat.le_of_ble_eq_true rfl⟩ rfl (fun _ _ q => nomatch q.1) fun T h54 v so W hQ => ?_
  obtain ⟨hv, rfl, -⟩ := hQ
  obtain rfl := Option.some.inj hv
  refine k_istoreN W d_jdk_43_22_14 (L' := #[.val (.ref b), .val (.int (47 : Int32)), .val (.int (0 : Int32)), .val (.int (Int32.ofNat bs.length))]) rfl ?_
  refine k_iloadN W d_jdk_43_22_15 rfl ?_
  refine k_aloadN W d_jdk_43_22_16 rfl rfl ?_
  refine k_arraylength W (z := (Int32.ofNat bs.length)) d_jdk_43_22_17 B0 (by first | (rw [List.length_map]; done) | (rw [List.length_map]; rfl)) ?_
  refine k_callS W 0 0 0 (argsL := [(.int (Int32.ofNat bs.length)), (.int (Int32.ofNat bs.length))]) (rest := []) d_jdk_43_22_18 (w71 hw) (w72 hw) (by decide) (lenOf pd6 rfl) (ct_minR l Z a0 hw n0 h0 (Int32.ofNat bs.length) (Int32.ofNat bs.length) Int32.lt_irrefl) (w73 hw) (w69 hw) (fun x hx => hx) rfl (Nat.le_of_eq rfl) (Nat.le_of_ble_eq_true rfl) (Nat.le_of_ble_eq_true rfl) ⟨rfl, Nat.le_of_ble_eq_true rfl⟩ ⟨rfl, Nat.le_of_ble_eq_true rfl⟩ rfl (fun _ _ q => nomatch q.1) fun T h55 v so W hQ => ?_
  obtain ⟨hv, rfl, -⟩ := hQ
  obtain rfl := Option.some.inj hv
  refine k_istoreN W d_jdk_43_22_21 (L' := #[.val (.ref b), .val (.int (47 : Int32)), .val (.int (0 : Int32)), .val (.int (Int32.ofNat bs.length))]) rfl ?_
  refine k_iloadN W d_jdk_43_22_22 rfl ?_
  refine k_iloadN W d_jdk_43_22_23 rfl ?_
  refine k_ic W 29 d_jdk_43_22_24 (by decide) (fun (hc56 : (0 : Int32) < (Int32.ofNat bs.length)) => ?_) (fun (hc56 : ¬ ((0 : Int32) < (Int32.ofNat bs.length))) => ?_)
  · -- pc 29
    refine k_aloadN W d_jdk_43_22_29 rfl rfl ?_
    refine k_iloadN W d_jdk_43_22_30 rfl ?_
    refine k_iloadN W d_jdk_43_22_31 rfl ?_
    refine k_iloadN W d_jdk_43_22_32 rfl ?_
    refine k_callS W 0 0 0 (argsL := [(.ref b), (.int (47 : Int32)), (.int (0 : Int32)), (.int (Int32.ofNat bs.length))]) (rest := []) d_jdk_43_22_33 (w84 hw) (w85 hw) (by decide) (lenOf pd7 rfl) (ct_idcN l Z a0 hw n0 h0 b bs hn B0) (w86 hw) (w62 hw) (fun x hx => hx) rfl (Nat.le_of_eq rfl) (Nat.le_of_ble_eq_true rfl) (Nat.le_of_ble_eq_true rfl) ⟨rfl, Nat.le_of_ble_eq_true rfl⟩ ⟨rfl, Nat.le_of_ble_eq_true rfl⟩ rfl (fun _ _ q => nomatch q.1) fun T h57 v so W hQ => ?_
    obtain ⟨hv, rfl, -⟩ := hQ
    obtain rfl := Option.some.inj hv
    exact k_ireturn W d_jdk_43_22_36 rfl [] (fun x hx => nomatch hx) (Nat.le_of_ble_eq_true rfl) (Nat.le_of_ble_eq_true rfl) ⟨rfl, rfl, rfl⟩
  · -- pc 27
    refine k_iconst W d_jdk_43_22_27 (z := (-1 : Int32)) rfl ?_
    exact k_ireturn W d_jdk_43_22_28 rfl [] (fun x hx => nomatch hx) (Nat.le_of_ble_eq_true rfl) (Nat.le_of_ble_eq_true rfl) ⟨rfl, rfl, rfl⟩
set_option maxRecDepth 65536 in
set_option maxHeartbeats 40000000 in
theorem ct_sidx2N (l : Launch) (Z : State) (a0 : Array Value) (hw : ∀ d ∈ tables_1, d.before a0 Z = true) (n0 : Nat) (h0 : Heap) (x b : Addr) (bs : List Int32) (zc : Int32) (hn : ∀ z ∈ bs, z ≠ (47 : Int32)) (S0 : St Z h0 x b bs) (P0 : Sta Z h0 "java/lang/String" "COMPACT_STRINGS" "Z" (.int zc)) (hzc : zc ≠ 0) : Ct l Z a0 own_EL false (⟨"java/lang/String", "indexOf", "(II)I"⟩ : MethodName) jdk_42_method_80_code 3 (Option.some Jvm.ClassFile.FieldType.int) ({ frames := 2, cells := 0, slots := 0, locals := 32 } : Room) #[(.ref x), (.int (47 : Int32)), (.int (0 : Int32))] h0 [] n0 (fun v h so => v = some (.int (-1 : Int32)) ∧ h0 = h ∧ so = []) := by
  refine Ct.body (plainFor_of_name pn1) ?_
  intro p e s m below meth c T W
  refine WP.cast (g' := (mkF m 0 #[.val (.ref x), .val (.int (47 : Int32)), .val (.int (0 : Int32))] [])) (by simp [entryFrame, mkF, argsToLocals, cat_i, cat_l, cat_r, cat_n]) ?_
  refine k_aloadN W d_jdk_42_80_0 rfl rfl ?_
  refine k_callV W 0 0 0 (argsL := []) (rest := []) (a := x) (C := "java/lang/String") (z0 := (⟨"java/lang/String", "isLatin1", "()Z"⟩ : MethodName)) (z := (⟨"java/lang/String", "isLatin1", "()Z"⟩ : MethodName)) d_jdk_42_80_1 (w44 hw) (w45 hw) (nfSel (w47 hw)) (w47 hw) (w46 hw) (by decide) (lenOf pd8 rfl) S0.1 (ct_isL1 l Z a0 hw n0 h0 x b bs zc S0 P0 hzc) (w48 hw) (w10 hw) (fun x hx => hx) rfl (Nat.le_of_eq rfl) (Nat.le_of_ble_eq_true rfl) (Nat.le_of_ble_eq_true rfl) ⟨rfl, Nat.le_of_ble_eq_true rfl⟩ ⟨rfl, Nat.le_of_ble_eq_true rfl⟩ rfl (fun _ _ q => nomatch q.1) fun T h58 v so W hQ => ?_
  obtain ⟨hv, rfl, -⟩ := hQ
  obtain rfl := Option.some.inj hv
  refine k_ifN W d_jdk_42_80_4 (show ¬ ((1 : Int32) = 0) by decide) ?_
  refine k_aloadN W d_jdk_42_80_7 rfl rfl ?_
  refine k_getF W d_jdk_42_80_8 (host := "") (Or.inl (w28 hw)) Via.refl S0.2.2.1 fun T W => ?_
  refine k_iloadN W d_jdk_42_80_11 rfl ?_
  refine k_iloadN W d_jdk_42_80_12 rfl ?_
  refine k_aloadN W d_jdk_42_80_13 rfl rfl ?_
  refine k_callV W 3 0 0 (argsL := []) (rest := [(.int (0 : Int32)), (.int (47 : Int32)), (.ref b)]) (a := x) (C := "java/lang/String") (z0 := (⟨"java/lang/String", "length", "()I"⟩ : MethodName)) (z := (⟨"java/lang/String", "length", "()I"⟩ : MethodName)) d_jdk_42_80_14 (w50 hw) (w51 hw) (nfSel (w53 hw)) (w53 hw) (w52 hw) (by decide) (lenOf pd9 rfl) S0.1 (ct_len l Z a0 hw n0 h0 x b bs zc S0 P0 hzc) (w54 hw) (w10 hw) (fun x hx => hx) rfl (Nat.le_of_eq rfl) (Nat.le_of_ble_eq_true rfl) (Nat.le_of_ble_eq_true rfl) ⟨rfl, Nat.le_of_ble_eq_true rfl⟩ ⟨rfl, Nat.le_of_ble_eq_true rfl⟩ rfl (fun _ _ q => nomatch q.1) fun T h59 v so W hQ => ?_
  obtain ⟨hv, rfl, -⟩ := hQ
  obtain rfl := Option.some.inj hv
  refine k_callS W 0 0 0 (argsL := [(.ref b), (.int (47 : Int32)), (.int (0 : Int32)), (.int (Int32.ofNat bs.length))]) (rest := []) d_jdk_42_80_17 (w60 hw) (w61 hw) (by decide) (lenOf pd7 rfl) (ct_lidxN l Z a0 hw n0 h0 b bs hn S0.2.2.2) (w63 hw) (w62 hw) (fun x hx => hx) rfl (Nat.le_of_eq rfl) (Nat.le_of_ble_eq_true rfl) (Nat.le_of_ble_eq_true rfl) ⟨rfl, Nat.le_of_ble_eq_true rfl⟩ ⟨rfl, Nat.le_of_ble_eq_true rfl⟩ rfl (fun _ _ q => nomatch q.1) fun T h60 v so W hQ => ?_
  obtain ⟨hv, rfl, -⟩ := hQ
  obtain rfl := Option.some.inj hv
  refine k_goto W 36 d_jdk_42_80_20 (by decide) ?_
  exact k_ireturn W d_jdk_42_80_36 rfl [] (fun x hx => nomatch hx) (Nat.le_of_ble_eq_true rfl) (Nat.le_of_ble_eq_true rfl) ⟨rfl, rfl, rfl⟩
set_option maxRecDepth 65536 in
set_option maxHeartbeats 40000000 in
theorem ct_sidxN (l : Launch) (Z : State) (a0 : Array Value) (hw : ∀ d ∈ tables_1, d.before a0 Z = true) (n0 : Nat) (h0 : Heap) (x b : Addr) (bs : List Int32) (zc : Int32) (hn : ∀ z ∈ bs, z ≠ (47 : Int32)) (S0 : St Z h0 x b bs) (P0 : Sta Z h0 "java/lang/String" "COMPACT_STRINGS" "Z" (.int zc)) (hzc : zc ≠ 0) : Ct l Z a0 own_EL false (⟨"java/lang/String", "indexOf", "(I)I"⟩ : MethodName) jdk_42_method_79_code 2 (Option.some Jvm.ClassFile.FieldType.int) ({ frames := 3, cells := 0, slots := 0, locals := 46 } : Room) #[(.ref x), (.int (47 : Int32))] h0 [] n0 (fun v h so => v = some (.int (-1 : Int32)) ∧ h0 = h ∧ so = []) := by
  refine Ct.body (plainFor_of_name pn1) ?_
  intro p e s m below meth c T W
  refine WP.cast (g' := (mkF m 0 #[.val (.ref x), .val (.int (47 : Int32))] [])) (by simp [entryFrame, mkF, argsToLocals, cat_i, cat_l, cat_r, cat_n]) ?_
  refine k_aloadN W d_jdk_42_79_0 rfl rfl ?_
  refine k_iloadN W d_jdk_42_79_1 rfl ?_
  refine k_iconst W d_jdk_42_79_2 (z := (0 : Int32)) rfl ?_
  refine k_callV W 0 0 0 (argsL := [(.int (47 : Int32)), (.int (0 : Int32))]) (rest := []) (a := x) (C := "java/lang/String") (z0 := (⟨"java/lang/String", "indexOf", "(II)I"⟩ : MethodName)) (z := (⟨"java/lang/String", "indexOf", "(II)I"⟩ : MethodName)) d_jdk_42_79_3 (w39 hw) (w40 hw) (nfSel (w42 hw)) (w42 hw) (w41 hw) (by decide) (lenOf pd6 rfl) S0.1 (ct_sidx2N l Z a0 hw n0 h0 x b bs zc hn S0 P0 hzc) (w43 hw) (w10 hw) (fun x hx => hx) rfl (Nat.le_of_eq rfl) (Nat.le_of_ble_eq_true rfl) (Nat.le_of_ble_eq_true rfl) ⟨rfl, Nat.le_of_ble_eq_true rfl⟩ ⟨rfl, Nat.le_of_ble_eq_true rfl⟩ rfl (fun _ _ q => nomatch q.1) fun T h61 v so W hQ => ?_
  obtain ⟨hv, rfl, -⟩ := hQ
  obtain rfl := Option.some.inj hv
  exact k_ireturn W d_jdk_42_79_6 rfl [] (fun x hx => nomatch hx) (Nat.le_of_ble_eq_true rfl) (Nat.le_of_ble_eq_true rfl) ⟨rfl, rfl, rfl⟩
set_option maxRecDepth 65536 in
set_option maxHeartbeats 40000000 in
theorem ct_sbb (l : Launch) (Z : State) (a0 : Array Value) (hw : ∀ d ∈ tables_1, d.before a0 Z = true) (n0 : Nat) (h0 : Heap) (x b : Addr) (bs : List Int32) (v0 c0 : Value) (E0 : Exa Z h0 x "java/lang/String") (V0 : Fld Z h0 x "java/lang/String" "value" "[B" v0) (C0 : Fld Z h0 x "java/lang/String" "coder" "B" c0) (B0 : Av Z h0 b .byte (bs.map Value.int)) : Ct l Z a0 own_EL false (⟨"java/lang/String", "<init>", "([BB)V"⟩ : MethodName) jdk_42_method_151_code 3 (Option.none : Option Jvm.ClassFile.FieldType) ({ frames := 1, cells := 0, slots := 0, locals := 12 } : Room) #[(.ref x), (.ref b), (.int (0 : Int32))] h0 [x] n0 (fun v h so => v = none ∧ Keep h0 h [x] ∧ St Z h x b bs) := by
  refine Ct.body (plainFor_of_name pn1) ?_
  intro p e s m below meth c T W
  refine WP.cast (g' := (mkF m 0 #[.val (.ref x), .val (.ref b), .val (.int (0 : Int32))] [])) (by simp [entryFrame, mkF, argsToLocals, cat_i, cat_l, cat_r, cat_n]) ?_
  refine k_aloadN W d_jdk_42_151_0 rfl rfl ?_
  refine k_initO W 0 d_jdk_42_151_1 (w19 hw) (w20 hw) (w21 hw) rfl (Nat.le_of_eq rfl) (Nat.le_of_ble_eq_true rfl) (Nat.le_of_ble_eq_true rfl) fun T W => ?_
  refine k_aloadN W d_jdk_42_151_4 rfl rfl ?_
  refine k_aloadN W d_jdk_42_151_5 rfl rfl ?_
  refine k_putF W d_jdk_42_151_6 (w28 hw) Via.refl (v' := (.ref b)) (List.mem_of_getElem? (i := 0) rfl) V0 E0 (Or.inr ⟨(w24 hw), rfl, rfl⟩) (w9 hw) (ty := (.array .byte)) (by decide) rfl rfl fun T h62 W Wr62 => ?_
  have K62 : Keep h0 h62 [x] := Keep.of_wr Wr62
  refine k_aloadN W d_jdk_42_151_9 rfl rfl ?_
  refine k_iloadN W d_jdk_42_151_10 rfl ?_
  have f63 := (C0.other Wr62 (Or.inr (slot_ne (Or.inr (w25 hw)) (Or.inr (w24 hw)) (by decide) (t := .byte) (t' := (.array .byte)) (by decide) (by decide))))
  have f64 := (E0.keep K62)
  refine k_putF W d_jdk_42_151_11 (w29 hw) Via.refl (v' := (.int (0 : Int32))) (List.mem_of_getElem? (i := 0) rfl) f63 f64 (Or.inr ⟨(w25 hw), rfl, rfl⟩) (w9 hw) (ty := .byte) (by decide) (by decide) (by decide) fun T h65 W Wr65 => ?_
  have K65 : Keep h62 h65 [x] := Keep.of_wr Wr65
  have KK66 : Keep h0 h62 [x] := (Keep.refl h0 [x]).trans K62 (allS (Or.inl (List.mem_of_getElem? (i := 0) rfl)) all0)
  have KK67 : Keep h0 h65 [x] := KK66.trans K65 (allS (Or.inl (List.mem_of_getElem? (i := 0) rfl)) all0)
  have f68 := (f64.keep K65)
  have f69 := ((Fld.same Wr62 V0).other Wr65 (Or.inr (slot_ne (Or.inr (w24 hw)) (Or.inr (w25 hw)) (by decide) (t := (.array .byte)) (t' := .byte) (by decide) (by decide))))
  have ne70 : b ≠ x := (Ne.symm (ne_exav E0 (w9 hw) B0))
  have f71 := ((B0.keep K62 (ninS ne70 nin0)).keep K65 (ninS ne70 nin0))
  exact k_ret W d_jdk_42_151_14 rfl [] (fun x hx => nomatch hx) (Nat.le_of_ble_eq_true rfl) (Nat.le_of_ble_eq_true rfl) ⟨rfl, KK67, f68, (Fld.same Wr65 f63), f69, f71⟩
set_option maxRecDepth 65536 in
set_option maxHeartbeats 40000000 in
theorem ct_ckl (l : Launch) (Z : State) (a0 : Array Value) (hw : ∀ d ∈ tables_1, d.before a0 Z = true) (n0 : Nat) (h0 : Heap) (i e_ : Nat) (hie : i ≤ e_) (he : e_ < 2147483648) : Ct l Z a0 own_EL false (⟨"java/util/Arrays", "checkLength", "(II)V"⟩ : MethodName) jdk_65_method_131_code 2 (Option.none : Option Jvm.ClassFile.FieldType) ({ frames := 0, cells := 0, slots := 0, locals := 0 } : Room) #[(.int (Int32.ofNat i)), (.int (Int32.ofNat e_))] h0 [] n0 (fun v h so => v = none ∧ h0 = h ∧ so = []) := by
  refine Ct.body (plainFor_of_name pn3) ?_
  intro p e s m below meth c T W
  refine WP.cast (g' := (mkF m 0 #[.val (.int (Int32.ofNat i)), .val (.int (Int32.ofNat e_))] [])) (by simp [entryFrame, mkF, argsToLocals, cat_i, cat_l, cat_r, cat_n]) ?_
  refine k_iloadN W d_jdk_65_131_0 rfl ?_
  refine k_iloadN W d_jdk_65_131_1 rfl ?_
  refine k_icY W 37 d_jdk_65_131_2 (by decide) (show ¬ (Int32.ofNat e_) < (Int32.ofNat i) from (of_ge hie he)) ?_
  exact k_ret W d_jdk_65_131_37 rfl [] (fun x hx => nomatch hx) (Nat.le_of_ble_eq_true rfl) (Nat.le_of_ble_eq_true rfl) ⟨rfl, rfl, rfl⟩
set_option maxRecDepth 65536 in
set_option maxHeartbeats 40000000 in
theorem ct_corb (l : Launch) (Z : State) (a0 : Array Value) (hw : ∀ d ∈ tables_1, d.before a0 Z = true) (n0 : Nat) (h0 : Heap) (b : Addr) (bs : List Int32) (i e_ N : Nat) (hie : i ≤ e_) (hel : e_ ≤ bs.length) (hN : e_ - i ≤ N) (hN2 : N ≤ 67108864) (B0 : Av Z h0 b .byte (bs.map Value.int)) : Ct l Z a0 own_EL false (⟨"java/util/Arrays", "copyOfRangeByte", "([BII)[B"⟩ : MethodName) jdk_65_method_133_code 5 (Option.some (Jvm.ClassFile.FieldType.array Jvm.ClassFile.FieldType.byte)) ({ frames := 1, cells := 1, slots := N, locals := 18 } : Room) #[(.ref b), (.int (Int32.ofNat i)), (.int (Int32.ofNat e_))] h0 [] n0 (fun v h so => ∃ x, v = some (.ref x) ∧ h0.size ≤ x ∧ Keep h0 h [] ∧ Av Z h x .byte (((bs.drop i).take (e_ - i)).map Value.int)) := by
  refine Ct.body (plainFor_of_name pn3) ?_
  intro p e s m below meth c T W
  refine WP.cast (g' := (mkF m 0 #[.val (.ref b), .val (.int (Int32.ofNat i)), .val (.int (Int32.ofNat e_)), .unset, .unset] [])) (by simp [entryFrame, mkF, argsToLocals, cat_i, cat_l, cat_r, cat_n]) ?_
  have hL : bs.length < 2147483648 := by have := B0.len; simpa using this
  refine k_iloadN W d_jdk_65_133_0 rfl ?_
  refine k_iloadN W d_jdk_65_133_1 rfl ?_
  refine k_callS0 W 0 0 0 (argsL := [(.int (Int32.ofNat i)), (.int (Int32.ofNat e_))]) (rest := []) d_jdk_65_133_2 (w120 hw) (w121 hw) (by decide) (lenOf pd10 rfl) (ct_ckl l Z a0 hw n0 h0 i e_ hie (by omega)) (w122 hw) (w115 hw) (fun x hx => hx) rfl (Nat.le_of_eq rfl) (Nat.le_of_ble_eq_true rfl) (Nat.le_of_ble_eq_true rfl) ⟨rfl, Nat.le_of_ble_eq_true rfl⟩ ⟨rfl, (by show _ ≤ N; omega)⟩ rfl (fun _ _ _ q => nomatch q.1) fun T h72 so W hQ => ?_
  obtain ⟨-, rfl, -⟩ := hQ
  refine k_iloadN W d_jdk_65_133_5 rfl ?_
  refine k_iloadN W d_jdk_65_133_6 rfl ?_
  refine k_isub W d_jdk_65_133_7 (z := (Int32.ofNat (e_ - i))) (of_subn hie) ?_
  refine k_istoreN W d_jdk_65_133_8 (L' := #[.val (.ref b), .val (.int (Int32.ofNat i)), .val (.int (Int32.ofNat e_)), .val (.int (Int32.ofNat (e_ - i))), .unset]) rfl ?_
  refine k_iloadN W d_jdk_65_133_9 rfl ?_
  refine k_newarr W (e_ - i) 1 (0 + (e_ - i)) d_jdk_65_133_10 (w23 hw) (ix_of (by omega)) (by omega) ⟨rfl, Nat.le_of_ble_eq_true rfl⟩ ⟨rfl, (by show 0 + (e_ - i) ≤ N; omega)⟩ fun T h73 a74 g74 W E74 A74 => ?_
  have K74 : Keep h0 h73 [] := keep_ext E74 []
  have A74 : Av Z h73 a74 .byte (List.replicate (e_ - i) (defaultValue .byte)) := A74
  refine k_astore W d_jdk_65_133_12 rfl (L' := #[.val (.ref b), .val (.int (Int32.ofNat i)), .val (.int (Int32.ofNat e_)), .val (.int (Int32.ofNat (e_ - i))), .val (.ref a74)]) rfl ?_
  refine k_aloadN W d_jdk_65_133_14 rfl rfl ?_
  refine k_iloadN W d_jdk_65_133_15 rfl ?_
  refine k_aload W d_jdk_65_133_16 rfl rfl ?_
  refine k_iconst W d_jdk_65_133_18 (z := (0 : Int32)) rfl ?_
  refine k_aloadN W d_jdk_65_133_19 rfl rfl ?_
  have f75 := (B0.keep K74 nin0)
  refine k_arraylength W (z := (Int32.ofNat bs.length)) d_jdk_65_133_20 f75 (by first | (rw [List.length_map]; done) | (rw [List.length_map]; rfl)) ?_
  refine k_iloadN W d_jdk_65_133_21 rfl ?_
  refine k_isub W d_jdk_65_133_22 (z := (Int32.ofNat (bs.length - i))) (of_subn (by omega)) ?_
  refine k_iloadN W d_jdk_65_133_23 rfl ?_
  refine k_callS W 4 1 ((0 + (e_ - i)) + 0) (argsL := [(.int (Int32.ofNat (bs.length - i))), (.int (Int32.ofNat (e_ - i)))]) (rest := [(.int (0 : Int32)), (.ref a74), (.int (Int32.ofNat i)), (.ref b)]) d_jdk_65_133_24 (w123 hw) (w72 hw) (by decide) (lenOf pd6 rfl) (ct_minR l Z a0 hw n0 h73 (Int32.ofNat (bs.length - i)) (Int32.ofNat (e_ - i)) (of_ge (by omega) (by omega))) (w73 hw) (w69 hw) (fun x hx => nomatch hx) rfl (Nat.le_of_eq rfl) (Nat.le_of_ble_eq_true rfl) (Nat.le_of_ble_eq_true rfl) ⟨rfl, Nat.le_of_ble_eq_true rfl⟩ ⟨rfl, (by show 0 + (e_ - i) ≤ N; omega)⟩ rfl (fun _ _ q => nomatch q.1) fun T h76 v so W hQ => ?_
  obtain ⟨hv, rfl, -⟩ := hQ
  obtain rfl := Option.some.inj hv
  refine k_acopy W 0 i 0 (e_ - i) d_jdk_65_133_27 (w124 hw) (w127 hw) (w125 hw) (w126 hw) f75 A74 rfl (List.mem_of_getElem? (i := 0) rfl) (ix_of (by omega)) (by decide) (ix_of (by omega)) (by rw [List.length_map]; omega) (by rw [List.length_replicate]; omega) rfl (Nat.le_of_eq rfl) (Nat.le_of_ble_eq_true rfl) (Nat.le_of_ble_eq_true rfl) fun T h77 W K77 A77 => ?_
  have A77 : Av Z h77 a74 .byte (List.map Value.int ((bs.drop i).take (e_ - i))) := (acp0 (List.length_replicate ..) ▸ A77)
  refine k_aload W d_jdk_65_133_30 rfl rfl ?_
  have KK78 : Keep h0 h73 [] := (Keep.refl h0 []).trans K74 all0
  have KK79 : Keep h0 h77 [] := KK78.trans K77 (allS (Or.inr (Nat.le_of_eq g74.symm)) all0)
  exact k_areturn W d_jdk_65_133_32 rfl rfl rfl [] (fun x hx => nomatch hx) (Nat.le_of_ble_eq_true rfl) (by show 0 + (e_ - i) + 0 ≤ N; omega) ⟨_, rfl, (Nat.le_of_eq g74.symm), KK79, A77⟩
set_option maxRecDepth 65536 in
set_option maxHeartbeats 40000000 in
theorem ct_cor (l : Launch) (Z : State) (a0 : Array Value) (hw : ∀ d ∈ tables_1, d.before a0 Z = true) (n0 : Nat) (h0 : Heap) (b : Addr) (bs : List Int32) (i e_ N : Nat) (hie : i ≤ e_) (hel : e_ ≤ bs.length) (hN : e_ - i ≤ N) (hN2 : N ≤ 67108864) (hnf : i ≠ 0 ∨ e_ ≠ bs.length) (B0 : Av Z h0 b .byte (bs.map Value.int)) : Ct l Z a0 own_EL false (⟨"java/util/Arrays", "copyOfRange", "([BII)[B"⟩ : MethodName) jdk_65_method_132_code 3 (Option.some (Jvm.ClassFile.FieldType.array Jvm.ClassFile.FieldType.byte)) ({ frames := 2, cells := 1, slots := N, locals := 34 } : Room) #[(.ref b), (.int (Int32.ofNat i)), (.int (Int32.ofNat e_))] h0 [] n0 (fun v h so => ∃ x, v = some (.ref x) ∧ h0.size ≤ x ∧ Keep h0 h [] ∧ Av Z h x .byte (((bs.drop i).take (e_ - i)).map Value.int)) := by
  refine Ct.body (plainFor_of_name pn3) ?_
  intro p e s m below meth c T W
  refine WP.cast (g' := (mkF m 0 #[.val (.ref b), .val (.int (Int32.ofNat i)), .val (.int (Int32.ofNat e_))] [])) (by simp [entryFrame, mkF, argsToLocals, cat_i, cat_l, cat_r, cat_n]) ?_
  have hL : bs.length < 2147483648 := by have := B0.len; simpa using this
  refine k_iloadN W d_jdk_65_132_0 rfl ?_
  refine k_if W 10 d_jdk_65_132_1 (by decide) (fun (hc80 : ¬ (Int32.ofNat i) = 0) => ?_) (fun (hc80 : ¬ (¬ (Int32.ofNat i) = 0)) => ?_)
  · -- pc 10
    refine k_aloadN W d_jdk_65_132_10 rfl rfl ?_
    refine k_iloadN W d_jdk_65_132_11 rfl ?_
    refine k_iloadN W d_jdk_65_132_12 rfl ?_
    refine k_callS W 0 1 (0 + N) (argsL := [(.ref b), (.int (Int32.ofNat i)), (.int (Int32.ofNat e_))]) (rest := []) d_jdk_65_132_13 (w117 hw) (w118 hw) (by decide) (lenOf pd11 rfl) (ct_corb l Z a0 hw n0 h0 b bs i e_ N hie hel hN hN2 B0) (w119 hw) (w115 hw) (fun x hx => hx) rfl (Nat.le_of_eq rfl) (Nat.le_of_ble_eq_true rfl) (Nat.le_of_ble_eq_true rfl) ⟨rfl, Nat.le_of_ble_eq_true rfl⟩ ⟨rfl, (by show 0 + N ≤ N; omega)⟩ rfl (fun _ _ ⟨_, q, _⟩ => nomatch q) fun T h81 v so W hQ => ?_
    obtain ⟨x81, hv, g81, K81, A81⟩ := hQ
    obtain rfl := Option.some.inj hv
    exact k_areturn W d_jdk_65_132_16 rfl rfl rfl [] (fun x hx => nomatch hx) (Nat.le_of_ble_eq_true rfl) (by show 0 + N ≤ N; omega) ⟨_, rfl, g81, K81, A81⟩
  · -- pc 4
    refine k_iloadN W d_jdk_65_132_4 rfl ?_
    refine k_aloadN W d_jdk_65_132_5 rfl rfl ?_
    refine k_arraylength W (z := (Int32.ofNat bs.length)) d_jdk_65_132_6 B0 (by first | (rw [List.length_map]; done) | (rw [List.length_map]; rfl)) ?_
    refine k_icN W d_jdk_65_132_7 (show ¬ ((Int32.ofNat e_) = (Int32.ofNat bs.length)) from (subne (by omega) (by omega) hL hnf hc80)) ?_
    refine k_aloadN W d_jdk_65_132_10 rfl rfl ?_
    refine k_iloadN W d_jdk_65_132_11 rfl ?_
    refine k_iloadN W d_jdk_65_132_12 rfl ?_
    refine k_callS W 0 1 (0 + N) (argsL := [(.ref b), (.int (Int32.ofNat i)), (.int (Int32.ofNat e_))]) (rest := []) d_jdk_65_132_13 (w117 hw) (w118 hw) (by decide) (lenOf pd11 rfl) (ct_corb l Z a0 hw n0 h0 b bs i e_ N hie hel hN hN2 B0) (w119 hw) (w115 hw) (fun x hx => hx) rfl (Nat.le_of_eq rfl) (Nat.le_of_ble_eq_true rfl) (Nat.le_of_ble_eq_true rfl) ⟨rfl, Nat.le_of_ble_eq_true rfl⟩ ⟨rfl, (by show 0 + N ≤ N; omega)⟩ rfl (fun _ _ ⟨_, q, _⟩ => nomatch q) fun T h82 v so W hQ => ?_
    obtain ⟨x82, hv, g82, K82, A82⟩ := hQ
    obtain rfl := Option.some.inj hv
    exact k_areturn W d_jdk_65_132_16 rfl rfl rfl [] (fun x hx => nomatch hx) (Nat.le_of_ble_eq_true rfl) (by show 0 + N ≤ N; omega) ⟨_, rfl, g82, K82, A82⟩
set_option maxRecDepth 65536 in
set_option maxHeartbeats 40000000 in
theorem ct_lnew (l : Launch) (Z : State) (a0 : Array Value) (hw : ∀ d ∈ tables_1, d.before a0 Z = true) (n0 : Nat) (h0 : Heap) (b : Addr) (bs : List Int32) (i n N : Nat) (hil : i + n ≤ bs.length) (hN : n ≤ N) (hN2 : N ≤ 67108864) (hnf : i ≠ 0 ∨ i + n ≠ bs.length) (B0 : Av Z h0 b .byte (bs.map Value.int)) : Ct l Z a0 own_EL false (⟨"java/lang/StringLatin1", "newString", "([BII)Ljava/lang/String;"⟩ : MethodName) jdk_43_method_47_code 3 (Option.some (Jvm.ClassFile.FieldType.object "java/lang/String")) ({ frames := 3, cells := 2, slots := 4 + N, locals := 50 } : Room) #[(.ref b), (.int (Int32.ofNat i)), (.int (Int32.ofNat n))] h0 [] n0 (fun v h so => ∃ x b', v = some (.ref x) ∧ Keep h0 h [] ∧ St Z h x b' ((bs.drop i).take n)) := by
  refine Ct.body (plainFor_of_name pn2) ?_
  intro p e s m below meth c T W
  refine WP.cast (g' := (mkF m 0 #[.val (.ref b), .val (.int (Int32.ofNat i)), .val (.int (Int32.ofNat n))] [])) (by simp [entryFrame, mkF, argsToLocals, cat_i, cat_l, cat_r, cat_n]) ?_
  have hL : bs.length < 2147483648 := by have := B0.len; simpa using this
  refine k_iloadN W d_jdk_43_47_0 rfl ?_
  refine k_if W 7 d_jdk_43_47_1 (by decide) (fun (hc83 : ¬ (Int32.ofNat n) = 0) => ?_) (fun (hc83 : ¬ (¬ (Int32.ofNat n) = 0)) => ?_)
  · -- pc 7
    refine k_new W 1 4 d_jdk_43_47_7 (w112 hw) (w9 hw) (w10 hw) ⟨rfl, (by show _ ≤ 2; omega)⟩ ⟨rfl, (by show _ ≤ 4 + N; omega)⟩ fun T h84 a85 g85 W E85 X85 D85 => ?_
    have K85 : Keep h0 h84 [] := keep_ext E85 []
    refine k_dup W d_jdk_43_47_10 rfl ?_
    refine k_aloadN W d_jdk_43_47_11 rfl rfl ?_
    refine k_iloadN W d_jdk_43_47_12 rfl ?_
    refine k_iloadN W d_jdk_43_47_13 rfl ?_
    refine k_iloadN W d_jdk_43_47_14 rfl ?_
    refine k_iadd W d_jdk_43_47_15 (z := (Int32.ofNat (i + n))) (of_addn i n) ?_
    have f87 := (B0.keep K85 nin0)
    refine k_callS W 2 2 (4 + N) (argsL := [(.ref b), (.int (Int32.ofNat i)), (.int (Int32.ofNat (i + n)))]) (rest := [(.ref a85), (.ref a85)]) d_jdk_43_47_16 (w113 hw) (w114 hw) (by decide) (lenOf pd11 rfl) (ct_cor l Z a0 hw n0 h84 b bs i (i + n) N (by omega) hil (by omega) hN2 hnf f87) (w116 hw) (w115 hw) (fun x hx => nomatch hx) rfl (Nat.le_of_eq rfl) (Nat.le_of_ble_eq_true rfl) (Nat.le_of_ble_eq_true rfl) ⟨rfl, (by show _ ≤ 2; omega)⟩ ⟨rfl, (by show 4 + N ≤ 4 + N; omega)⟩ rfl (fun _ _ ⟨_, q, _⟩ => nomatch q) fun T h86 v so W hQ => ?_
    obtain ⟨x86, hv, g86, K86, A86⟩ := hQ
    obtain rfl := Option.some.inj hv
    rw [Nat.add_sub_cancel_left] at A86
    refine k_iconst W d_jdk_43_47_19 (z := (0 : Int32)) rfl ?_
    have f88 := ((D85 (Or.inr (w24 hw)) (ty := (.array .byte)) (by decide)).keep K86 nin0)
    have f89 := ((D85 (Or.inr (w25 hw)) (ty := .byte) (by decide)).keep K86 nin0)
    have f91 := (X85.keep K86)
    refine k_callI0 W 1 2 ((4 + N) + 0) (argsL := [(.ref x86), (.int (0 : Int32))]) (rest := [(.ref a85)]) (a := a85) d_jdk_43_47_20 rfl rfl (w128 hw) (w129 hw) (by decide) (lenOf pd12 rfl) (ct_sbb l Z a0 hw n0 h86 a85 x86 ((bs.drop i).take n) .null (.int (0 : Int32)) f91 f88 f89 A86) (w130 hw) (w10 hw) (fun x hx => hx) rfl (Nat.le_of_eq rfl) (Nat.le_of_ble_eq_true rfl) (Nat.le_of_ble_eq_true rfl) ⟨rfl, (by show _ ≤ 2; omega)⟩ ⟨rfl, (by show 4 + N ≤ 4 + N; omega)⟩ rfl (fun _ _ _ q => nomatch q.1) fun T h90 so W hQ => ?_
    obtain ⟨-, K90, S90⟩ := hQ
    have KK92 : Keep h0 h84 [] := (Keep.refl h0 []).trans K85 all0
    have KK93 : Keep h0 h86 [] := KK92.trans K86 all0
    have KK94 : Keep h0 h90 [] := KK93.trans K90 (allS (Or.inr (Nat.le_of_eq g85.symm)) all0)
    exact k_areturn W d_jdk_43_47_23 rfl rfl rfl [] (fun x hx => nomatch hx) (by show _ ≤ 2; omega) (by show _ ≤ 4 + N; omega) ⟨_, _, rfl, KK94, S90⟩
  · -- pc 4
    refine k_ldcS W [] 0 2 4 rfl d_jdk_43_47_4 (w105 hw) (wS hw) (by decide) ⟨by decide, by decide⟩ (by decide) ⟨by decide, by decide⟩ ⟨rfl, (by show _ ≤ 2; omega)⟩ ⟨rfl, (by show _ ≤ 4 + N; omega)⟩ fun T h95 a95 b95 W E95 S95 N95 => ?_
    have K95 : Keep h0 h95 [] := keep_ext E95 []
    have KK96 : Keep h0 h95 [] := (Keep.refl h0 []).trans K95 all0
    exact k_areturn W d_jdk_43_47_6 rfl rfl rfl [] (fun x hx => nomatch hx) (by show _ ≤ 2; omega) (by show _ ≤ 4 + N; omega) ⟨_, _, rfl, KK96, by rw [of_inj (by omega) (by decide) (Classical.not_not.mp hc83)]; exact S95⟩
set_option maxRecDepth 65536 in
set_option maxHeartbeats 40000000 in
theorem ct_pcft (l : Launch) (Z : State) (a0 : Array Value) (hw : ∀ d ∈ tables_1, d.before a0 Z = true) (n0 : Nat) (h0 : Heap) (i e_ n : Nat) (sio : Value) (hsio : sio.isRef = true) (hi : i ≤ e_) (he : e_ ≤ n) (hn : n < 2147483648) : Ct l Z a0 own_EL false (⟨"jdk/internal/util/Preconditions", "checkFromToIndex", "(IIILjava/util/function/BiFunction;)I"⟩ : MethodName) jdk_41_method_12_code 4 (Option.some Jvm.ClassFile.FieldType.int) ({ frames := 0, cells := 0, slots := 0, locals := 0 } : Room) #[(.int (Int32.ofNat i)), (.int (Int32.ofNat e_)), (.int (Int32.ofNat n)), sio] h0 [] n0 (fun v h so => v = some (.int (Int32.ofNat i)) ∧ h0 = h ∧ so = []) := by
  refine Ct.body (plainFor_of_name pn4) ?_
  intro p e s m below meth c T W
  refine WP.cast (g' := (mkF m 0 #[.val (.int (Int32.ofNat i)), .val (.int (Int32.ofNat e_)), .val (.int (Int32.ofNat n)), .val sio] [])) (by simp [entryFrame, mkF, argsToLocals, cat_i, cat_l, cat_r, cat_n, cat_ref hsio]) ?_
  refine k_iloadN W d_jdk_41_12_0 rfl ?_
  refine k_ifN W d_jdk_41_12_1 (show ¬ ((Int32.ofNat i) < 0) from (ix_of (by omega)).1) ?_
  refine k_iloadN W d_jdk_41_12_4 rfl ?_
  refine k_iloadN W d_jdk_41_12_5 rfl ?_
  refine k_icN W d_jdk_41_12_6 (show ¬ ((Int32.ofNat e_) < (Int32.ofNat i)) from (of_ge hi (by omega))) ?_
  refine k_iloadN W d_jdk_41_12_9 rfl ?_
  refine k_iloadN W d_jdk_41_12_10 rfl ?_
  refine k_icY W 22 d_jdk_41_12_11 (by decide) (show ¬ (Int32.ofNat n) < (Int32.ofNat e_) from (of_ge he hn)) ?_
  refine k_iloadN W d_jdk_41_12_22 rfl ?_
  exact k_ireturn W d_jdk_41_12_23 rfl [] (fun x hx => nomatch hx) (Nat.le_of_ble_eq_true rfl) (Nat.le_of_ble_eq_true rfl) ⟨rfl, rfl, rfl⟩
set_option maxRecDepth 65536 in
set_option maxHeartbeats 40000000 in
theorem ct_cbe (l : Launch) (Z : State) (a0 : Array Value) (hw : ∀ d ∈ tables_1, d.before a0 Z = true) (n0 : Nat) (h0 : Heap) (i e_ n : Nat) (sio : Value) (hi : i ≤ e_) (he : e_ ≤ n) (hn : n < 2147483648) (G0 : Sta Z h0 "jdk/internal/util/Preconditions" "SIOOBE_FORMATTER" "Ljava/util/function/BiFunction;" sio) (hsio : sio.isRef = true) : Ct l Z a0 own_EL false (⟨"java/lang/String", "checkBoundsBeginEnd", "(III)V"⟩ : MethodName) jdk_42_method_158_code 3 (Option.none : Option Jvm.ClassFile.FieldType) ({ frames := 1, cells := 0, slots := 0, locals := 15 } : Room) #[(.int (Int32.ofNat i)), (.int (Int32.ofNat e_)), (.int (Int32.ofNat n))] h0 [] n0 (fun v h so => v = none ∧ h0 = h ∧ so = []) := by
  refine Ct.body (plainFor_of_name pn1) ?_
  intro p e s m below meth c T W
  refine WP.cast (g' := (mkF m 0 #[.val (.int (Int32.ofNat i)), .val (.int (Int32.ofNat e_)), .val (.int (Int32.ofNat n))] [])) (by simp [entryFrame, mkF, argsToLocals, cat_i, cat_l, cat_r, cat_n]) ?_
  refine k_iloadN W d_jdk_42_158_0 rfl ?_
  refine k_iloadN W d_jdk_42_158_1 rfl ?_
  refine k_iloadN W d_jdk_42_158_2 rfl ?_
  refine k_getS W d_jdk_42_158_3 (w97 hw) Via.refl G0 fun T W => ?_
  refine k_callS W 0 0 0 (argsL := [(.int (Int32.ofNat i)), (.int (Int32.ofNat e_)), (.int (Int32.ofNat n)), sio]) (rest := []) d_jdk_42_158_6 (w99 hw) (w100 hw) (by decide) (lenOf pd13 rfl) (ct_pcft l Z a0 hw n0 h0 i e_ n sio hsio hi he hn) (w101 hw) (w98 hw) (fun x hx => hx) rfl (Nat.le_of_eq rfl) (Nat.le_of_ble_eq_true rfl) (Nat.le_of_ble_eq_true rfl) ⟨rfl, Nat.le_of_ble_eq_true rfl⟩ ⟨rfl, Nat.le_of_ble_eq_true rfl⟩ rfl (fun _ _ q => nomatch q.1) fun T h97 v so W hQ => ?_
  obtain ⟨hv, rfl, -⟩ := hQ
  obtain rfl := Option.some.inj hv
  refine k_pop W d_jdk_42_158_9 rfl ?_
  exact k_ret W d_jdk_42_158_10 rfl [] (fun x hx => nomatch hx) (Nat.le_of_ble_eq_true rfl) (Nat.le_of_ble_eq_true rfl) ⟨rfl, rfl, rfl⟩
set_option maxRecDepth 65536 in
set_option maxHeartbeats 40000000 in
theorem ct_sub2 (l : Launch) (Z : State) (a0 : Array Value) (hw : ∀ d ∈ tables_1, d.before a0 Z = true) (n0 : Nat) (h0 : Heap) (x b : Addr) (bs : List Int32) (zc : Int32) (i e_ N : Nat) (sio : Value) (hie : i ≤ e_) (hel : e_ ≤ bs.length) (hN : e_ - i ≤ N) (hN2 : N ≤ 67108864) (hnf : i ≠ 0 ∨ e_ ≠ bs.length) (S0 : St Z h0 x b bs) (P0 : Sta Z h0 "java/lang/String" "COMPACT_STRINGS" "Z" (.int zc)) (hzc : zc ≠ 0) (G0 : Sta Z h0 "jdk/internal/util/Preconditions" "SIOOBE_FORMATTER" "Ljava/util/function/BiFunction;" sio) (hsio : sio.isRef = true) : Ct l Z a0 own_EL false (⟨"java/lang/String", "substring", "(II)Ljava/lang/String;"⟩ : MethodName) jdk_42_method_92_code 5 (Option.some (Jvm.ClassFile.FieldType.object "java/lang/String")) ({ frames := 4, cells := 2, slots := 4 + N, locals := 64 } : Room) #[(.ref x), (.int (Int32.ofNat i)), (.int (Int32.ofNat e_))] h0 [] n0 (fun v h so => ∃ x b', v = some (.ref x) ∧ Keep h0 h [] ∧ St Z h x b' ((bs.drop i).take (e_ - i))) := by
  refine Ct.body (plainFor_of_name pn1) ?_
  intro p e s m below meth c T W
  refine WP.cast (g' := (mkF m 0 #[.val (.ref x), .val (.int (Int32.ofNat i)), .val (.int (Int32.ofNat e_)), .unset, .unset] [])) (by simp [entryFrame, mkF, argsToLocals, cat_i, cat_l, cat_r, cat_n]) ?_
  have hL : bs.length < 2147483648 := by have := S0.2.2.2.len; simpa using this
  refine k_aloadN W d_jdk_42_92_0 rfl rfl ?_
  refine k_callV W 0 0 0 (argsL := []) (rest := []) (a := x) (C := "java/lang/String") (z0 := (⟨"java/lang/String", "length", "()I"⟩ : MethodName)) (z := (⟨"java/lang/String", "length", "()I"⟩ : MethodName)) d_jdk_42_92_1 (w50 hw) (w51 hw) (nfSel (w53 hw)) (w53 hw) (w52 hw) (by decide) (lenOf pd9 rfl) S0.1 (ct_len l Z a0 hw n0 h0 x b bs zc S0 P0 hzc) (w54 hw) (w10 hw) (fun x hx => hx) rfl (Nat.le_of_eq rfl) (Nat.le_of_ble_eq_true rfl) (Nat.le_of_ble_eq_true rfl) ⟨rfl, Nat.le_of_ble_eq_true rfl⟩ ⟨rfl, Nat.le_of_ble_eq_true rfl⟩ rfl (fun _ _ q => nomatch q.1) fun T h98 v so W hQ => ?_
  obtain ⟨hv, rfl, -⟩ := hQ
  obtain rfl := Option.some.inj hv
  refine k_istoreN W d_jdk_42_92_4 (L' := #[.val (.ref x), .val (.int (Int32.ofNat i)), .val (.int (Int32.ofNat e_)), .val (.int (Int32.ofNat bs.length)), .unset]) rfl ?_
  refine k_iloadN W d_jdk_42_92_5 rfl ?_
  refine k_iloadN W d_jdk_42_92_6 rfl ?_
  refine k_iloadN W d_jdk_42_92_7 rfl ?_
  refine k_callS0 W 0 0 0 (argsL := [(.int (Int32.ofNat i)), (.int (Int32.ofNat e_)), (.int (Int32.ofNat bs.length))]) (rest := []) d_jdk_42_92_8 (w94 hw) (w95 hw) (by decide) (lenOf pd14 rfl) (ct_cbe l Z a0 hw n0 h0 i e_ bs.length sio hie hel hL G0 hsio) (w96 hw) (w10 hw) (fun x hx => hx) rfl (Nat.le_of_eq rfl) (Nat.le_of_ble_eq_true rfl) (Nat.le_of_ble_eq_true rfl) ⟨rfl, Nat.le_of_ble_eq_true rfl⟩ ⟨rfl, Nat.le_of_ble_eq_true rfl⟩ rfl (fun _ _ _ q => nomatch q.1) fun T h99 so W hQ => ?_
  obtain ⟨-, rfl, -⟩ := hQ
  refine k_iloadN W d_jdk_42_92_11 rfl ?_
  refine k_if W 22 d_jdk_42_92_12 (by decide) (fun (hc100 : ¬ (Int32.ofNat i) = 0) => ?_) (fun (hc100 : ¬ (¬ (Int32.ofNat i) = 0)) => ?_)
  · -- pc 22
    refine k_iloadN W d_jdk_42_92_22 rfl ?_
    refine k_iloadN W d_jdk_42_92_23 rfl ?_
    refine k_isub W d_jdk_42_92_24 (z := (Int32.ofNat (e_ - i))) (of_subn hie) ?_
    refine k_istore W d_jdk_42_92_25 (L' := #[.val (.ref x), .val (.int (Int32.ofNat i)), .val (.int (Int32.ofNat e_)), .val (.int (Int32.ofNat bs.length)), .val (.int (Int32.ofNat (e_ - i)))]) rfl ?_
    refine k_aloadN W d_jdk_42_92_27 rfl rfl ?_
    refine k_callV W 0 0 0 (argsL := []) (rest := []) (a := x) (C := "java/lang/String") (z0 := (⟨"java/lang/String", "isLatin1", "()Z"⟩ : MethodName)) (z := (⟨"java/lang/String", "isLatin1", "()Z"⟩ : MethodName)) d_jdk_42_92_28 (w44 hw) (w45 hw) (nfSel (w47 hw)) (w47 hw) (w46 hw) (by decide) (lenOf pd8 rfl) S0.1 (ct_isL1 l Z a0 hw n0 h0 x b bs zc S0 P0 hzc) (w48 hw) (w10 hw) (fun x hx => hx) rfl (Nat.le_of_eq rfl) (Nat.le_of_ble_eq_true rfl) (Nat.le_of_ble_eq_true rfl) ⟨rfl, Nat.le_of_ble_eq_true rfl⟩ ⟨rfl, Nat.le_of_ble_eq_true rfl⟩ rfl (fun _ _ q => nomatch q.1) fun T h101 v so W hQ => ?_
    obtain ⟨hv, rfl, -⟩ := hQ
    obtain rfl := Option.some.inj hv
    refine k_ifN W d_jdk_42_92_31 (show ¬ ((1 : Int32) = 0) by decide) ?_
    refine k_aloadN W d_jdk_42_92_34 rfl rfl ?_
    refine k_getF W d_jdk_42_92_35 (host := "") (Or.inl (w28 hw)) Via.refl S0.2.2.1 fun T W => ?_
    refine k_iloadN W d_jdk_42_92_38 rfl ?_
    refine k_iload W d_jdk_42_92_39 rfl ?_
    refine k_callS W 0 2 (0 + (4 + N)) (argsL := [(.ref b), (.int (Int32.ofNat i)), (.int (Int32.ofNat (e_ - i)))]) (rest := []) d_jdk_42_92_41 (w102 hw) (w103 hw) (by decide) (lenOf pd15 rfl) (ct_lnew l Z a0 hw n0 h0 b bs i (e_ - i) N (by omega) hN hN2 (by omega) S0.2.2.2) (w104 hw) (w62 hw) (fun x hx => hx) rfl (Nat.le_of_eq rfl) (Nat.le_of_ble_eq_true rfl) (Nat.le_of_ble_eq_true rfl) ⟨rfl, Nat.le_of_ble_eq_true rfl⟩ ⟨rfl, (by show 0 + (4 + N) ≤ 4 + N; omega)⟩ rfl (fun _ _ ⟨_, _, q, _⟩ => nomatch q) fun T h102 v so W hQ => ?_
    obtain ⟨x102, b102, hv, K102, S102⟩ := hQ
    obtain rfl := Option.some.inj hv
    refine k_goto W 57 d_jdk_42_92_44 (by decide) ?_
    exact k_areturn W d_jdk_42_92_57 rfl rfl rfl [] (fun x hx => nomatch hx) (Nat.le_of_ble_eq_true rfl) (by show 0 + (4 + N) ≤ 4 + N; omega) ⟨_, _, rfl, K102, S102⟩
  · -- pc 15
    refine k_iloadN W d_jdk_42_92_15 rfl ?_
    refine k_iloadN W d_jdk_42_92_16 rfl ?_
    refine k_icY W 22 d_jdk_42_92_17 (by decide) (show ¬ (Int32.ofNat e_) = (Int32.ofNat bs.length) from (subne (by omega) (by omega) hL hnf hc100)) ?_
    refine k_iloadN W d_jdk_42_92_22 rfl ?_
    refine k_iloadN W d_jdk_42_92_23 rfl ?_
    refine k_isub W d_jdk_42_92_24 (z := (Int32.ofNat (e_ - i))) (of_subn hie) ?_
    refine k_istore W d_jdk_42_92_25 (L' := #[.val (.ref x), .val (.int (Int32.ofNat i)), .val (.int (Int32.ofNat e_)), .val (.int (Int32.ofNat bs.length)), .val (.int (Int32.ofNat (e_ - i)))]) rfl ?_
    refine k_aloadN W d_jdk_42_92_27 rfl rfl ?_
    refine k_callV W 0 0 0 (argsL := []) (rest := []) (a := x) (C := "java/lang/String") (z0 := (⟨"java/lang/String", "isLatin1", "()Z"⟩ : MethodName)) (z := (⟨"java/lang/String", "isLatin1", "()Z"⟩ : MethodName)) d_jdk_42_92_28 (w44 hw) (w45 hw) (nfSel (w47 hw)) (w47 hw) (w46 hw) (by decide) (lenOf pd8 rfl) S0.1 (ct_isL1 l Z a0 hw n0 h0 x b bs zc S0 P0 hzc) (w48 hw) (w10 hw) (fun x hx => hx) rfl (Nat.le_of_eq rfl) (Nat.le_of_ble_eq_true rfl) (Nat.le_of_ble_eq_true rfl) ⟨rfl, Nat.le_of_ble_eq_true rfl⟩ ⟨rfl, Nat.le_of_ble_eq_true rfl⟩ rfl (fun _ _ q => nomatch q.1) fun T h103 v so W hQ => ?_
    obtain ⟨hv, rfl, -⟩ := hQ
    obtain rfl := Option.some.inj hv
    refine k_ifN W d_jdk_42_92_31 (show ¬ ((1 : Int32) = 0) by decide) ?_
    refine k_aloadN W d_jdk_42_92_34 rfl rfl ?_
    refine k_getF W d_jdk_42_92_35 (host := "") (Or.inl (w28 hw)) Via.refl S0.2.2.1 fun T W => ?_
    refine k_iloadN W d_jdk_42_92_38 rfl ?_
    refine k_iload W d_jdk_42_92_39 rfl ?_
    refine k_callS W 0 2 (0 + (4 + N)) (argsL := [(.ref b), (.int (Int32.ofNat i)), (.int (Int32.ofNat (e_ - i)))]) (rest := []) d_jdk_42_92_41 (w102 hw) (w103 hw) (by decide) (lenOf pd15 rfl) (ct_lnew l Z a0 hw n0 h0 b bs i (e_ - i) N (by omega) hN hN2 (by omega) S0.2.2.2) (w104 hw) (w62 hw) (fun x hx => hx) rfl (Nat.le_of_eq rfl) (Nat.le_of_ble_eq_true rfl) (Nat.le_of_ble_eq_true rfl) ⟨rfl, Nat.le_of_ble_eq_true rfl⟩ ⟨rfl, (by show 0 + (4 + N) ≤ 4 + N; omega)⟩ rfl (fun _ _ ⟨_, _, q, _⟩ => nomatch q) fun T h104 v so W hQ => ?_
    obtain ⟨x104, b104, hv, K104, S104⟩ := hQ
    obtain rfl := Option.some.inj hv
    refine k_goto W 57 d_jdk_42_92_44 (by decide) ?_
    exact k_areturn W d_jdk_42_92_57 rfl rfl rfl [] (fun x hx => nomatch hx) (Nat.le_of_ble_eq_true rfl) (by show 0 + (4 + N) ≤ 4 + N; omega) ⟨_, _, rfl, K104, S104⟩
set_option maxRecDepth 65536 in
set_option maxHeartbeats 40000000 in
theorem ct_sub1 (l : Launch) (Z : State) (a0 : Array Value) (hw : ∀ d ∈ tables_1, d.before a0 Z = true) (n0 : Nat) (h0 : Heap) (x b : Addr) (bs : List Int32) (zc : Int32) (i N : Nat) (sio : Value) (hil : i ≤ bs.length) (hN : bs.length - i ≤ N) (hN2 : N ≤ 67108864) (hnf : i ≠ 0) (S0 : St Z h0 x b bs) (P0 : Sta Z h0 "java/lang/String" "COMPACT_STRINGS" "Z" (.int zc)) (hzc : zc ≠ 0) (G0 : Sta Z h0 "jdk/internal/util/Preconditions" "SIOOBE_FORMATTER" "Ljava/util/function/BiFunction;" sio) (hsio : sio.isRef = true) : Ct l Z a0 own_EL false (⟨"java/lang/String", "substring", "(I)Ljava/lang/String;"⟩ : MethodName) jdk_42_method_91_code 2 (Option.some (Jvm.ClassFile.FieldType.object "java/lang/String")) ({ frames := 5, cells := 2, slots := 4 + N, locals := 80 } : Room) #[(.ref x), (.int (Int32.ofNat i))] h0 [] n0 (fun v h so => ∃ x b', v = some (.ref x) ∧ Keep h0 h [] ∧ St Z h x b' (bs.drop i)) := by
  refine Ct.body (plainFor_of_name pn1) ?_
  intro p e s m below meth c T W
  refine WP.cast (g' := (mkF m 0 #[.val (.ref x), .val (.int (Int32.ofNat i))] [])) (by simp [entryFrame, mkF, argsToLocals, cat_i, cat_l, cat_r, cat_n]) ?_
  have hL : bs.length < 2147483648 := by have := S0.2.2.2.len; simpa using this
  refine k_aloadN W d_jdk_42_91_0 rfl rfl ?_
  refine k_iloadN W d_jdk_42_91_1 rfl ?_
  refine k_aloadN W d_jdk_42_91_2 rfl rfl ?_
  refine k_callV W 2 0 0 (argsL := []) (rest := [(.int (Int32.ofNat i)), (.ref x)]) (a := x) (C := "java/lang/String") (z0 := (⟨"java/lang/String", "length", "()I"⟩ : MethodName)) (z := (⟨"java/lang/String", "length", "()I"⟩ : MethodName)) d_jdk_42_91_3 (w50 hw) (w51 hw) (nfSel (w53 hw)) (w53 hw) (w52 hw) (by decide) (lenOf pd9 rfl) S0.1 (ct_len l Z a0 hw n0 h0 x b bs zc S0 P0 hzc) (w54 hw) (w10 hw) (fun x hx => hx) rfl (Nat.le_of_eq rfl) (Nat.le_of_ble_eq_true rfl) (Nat.le_of_ble_eq_true rfl) ⟨rfl, Nat.le_of_ble_eq_true rfl⟩ ⟨rfl, Nat.le_of_ble_eq_true rfl⟩ rfl (fun _ _ q => nomatch q.1) fun T h105 v so W hQ => ?_
  obtain ⟨hv, rfl, -⟩ := hQ
  obtain rfl := Option.some.inj hv
  refine k_callV W 0 2 (0 + (4 + N)) (argsL := [(.int (Int32.ofNat i)), (.int (Int32.ofNat bs.length))]) (rest := []) (a := x) (C := "java/lang/String") (z0 := (⟨"java/lang/String", "substring", "(II)Ljava/lang/String;"⟩ : MethodName)) (z := (⟨"java/lang/String", "substring", "(II)Ljava/lang/String;"⟩ : MethodName)) d_jdk_42_91_6 (w111 hw) (w90 hw) (nfSel (w92 hw)) (w92 hw) (w91 hw) (by decide) (lenOf pd16 rfl) S0.1 (ct_sub2 l Z a0 hw n0 h0 x b bs zc i bs.length N sio hil (Nat.le_refl _) hN hN2 (Or.inl hnf) S0 P0 hzc G0 hsio) (w93 hw) (w10 hw) (fun x hx => hx) rfl (Nat.le_of_eq rfl) (Nat.le_of_ble_eq_true rfl) (Nat.le_of_ble_eq_true rfl) ⟨rfl, Nat.le_of_ble_eq_true rfl⟩ ⟨rfl, (by show 0 + (4 + N) ≤ 4 + N; omega)⟩ rfl (fun _ _ ⟨_, _, q, _⟩ => nomatch q) fun T h106 v so W hQ => ?_
  obtain ⟨x106, b106, hv, K106, S106⟩ := hQ
  obtain rfl := Option.some.inj hv
  have S106 : St Z h106 x106 b106 (bs.drop i) := (take_dropL bs i ▸ S106)
  have KK107 : Keep h0 h106 [] := (Keep.refl h0 []).trans K106 all0
  exact k_areturn W d_jdk_42_91_9 rfl rfl rfl [] (fun x hx => nomatch hx) (Nat.le_of_ble_eq_true rfl) (by show 0 + (4 + N) ≤ 4 + N; omega) ⟨_, _, rfl, KK107, S106⟩
set_option maxRecDepth 65536 in
set_option maxHeartbeats 40000000 in
theorem ct_pchk (l : Launch) (Z : State) (a0 : Array Value) (hw : ∀ d ∈ tables_1, d.before a0 Z = true) (n0 : Nat) (h0 : Heap) (i n : Nat) (sio : Value) (hsio : sio.isRef = true) (hi : i < n) (hn : n < 2147483648) : Ct l Z a0 own_EL false (⟨"jdk/internal/util/Preconditions", "checkIndex", "(IILjava/util/function/BiFunction;)I"⟩ : MethodName) jdk_41_method_11_code 3 (Option.some Jvm.ClassFile.FieldType.int) ({ frames := 0, cells := 0, slots := 0, locals := 0 } : Room) #[(.int (Int32.ofNat i)), (.int (Int32.ofNat n)), sio] h0 [] n0 (fun v h so => v = some (.int (Int32.ofNat i)) ∧ h0 = h ∧ so = []) := by
  refine Ct.body (plainFor_of_name pn4) ?_
  intro p e s m below meth c T W
  refine WP.cast (g' := (mkF m 0 #[.val (.int (Int32.ofNat i)), .val (.int (Int32.ofNat n)), .val sio] [])) (by simp [entryFrame, mkF, argsToLocals, cat_i, cat_l, cat_r, cat_n, cat_ref hsio]) ?_
  refine k_iloadN W d_jdk_41_11_0 rfl ?_
  refine k_ifN W d_jdk_41_11_1 (show ¬ ((Int32.ofNat i) < 0) from (ix_of (Nat.lt_trans hi hn)).1) ?_
  refine k_iloadN W d_jdk_41_11_4 rfl ?_
  refine k_iloadN W d_jdk_41_11_5 rfl ?_
  refine k_icY W 16 d_jdk_41_11_6 (by decide) (show (Int32.ofNat i) < (Int32.ofNat n) from (of_lt hi hn)) ?_
  refine k_iloadN W d_jdk_41_11_16 rfl ?_
  exact k_ireturn W d_jdk_41_11_17 rfl [] (fun x hx => nomatch hx) (Nat.le_of_ble_eq_true rfl) (Nat.le_of_ble_eq_true rfl) ⟨rfl, rfl, rfl⟩
set_option maxRecDepth 65536 in
set_option maxHeartbeats 40000000 in
theorem ct_schk (l : Launch) (Z : State) (a0 : Array Value) (hw : ∀ d ∈ tables_1, d.before a0 Z = true) (n0 : Nat) (h0 : Heap) (i n : Nat) (sio : Value) (hi : i < n) (hn : n < 2147483648) (G0 : Sta Z h0 "jdk/internal/util/Preconditions" "SIOOBE_FORMATTER" "Ljava/util/function/BiFunction;" sio) (hsio : sio.isRef = true) : Ct l Z a0 own_EL false (⟨"java/lang/String", "checkIndex", "(II)V"⟩ : MethodName) jdk_42_method_155_code 2 (Option.none : Option Jvm.ClassFile.FieldType) ({ frames := 1, cells := 0, slots := 0, locals := 14 } : Room) #[(.int (Int32.ofNat i)), (.int (Int32.ofNat n))] h0 [] n0 (fun v h so => v = none ∧ h0 = h ∧ so = []) := by
  refine Ct.body (plainFor_of_name pn1) ?_
  intro p e s m below meth c T W
  refine WP.cast (g' := (mkF m 0 #[.val (.int (Int32.ofNat i)), .val (.int (Int32.ofNat n))] [])) (by simp [entryFrame, mkF, argsToLocals, cat_i, cat_l, cat_r, cat_n]) ?_
  refine k_iloadN W d_jdk_42_155_0 rfl ?_
  refine k_iloadN W d_jdk_42_155_1 rfl ?_
  refine k_getS W d_jdk_42_155_2 (w97 hw) Via.refl G0 fun T W => ?_
  refine k_callS W 0 0 0 (argsL := [(.int (Int32.ofNat i)), (.int (Int32.ofNat n)), sio]) (rest := []) d_jdk_42_155_5 (w169 hw) (w170 hw) (by decide) (lenOf pd17 rfl) (ct_pchk l Z a0 hw n0 h0 i n sio hsio hi hn) (w171 hw) (w98 hw) (fun x hx => hx) rfl (Nat.le_of_eq rfl) (Nat.le_of_ble_eq_true rfl) (Nat.le_of_ble_eq_true rfl) ⟨rfl, Nat.le_of_ble_eq_true rfl⟩ ⟨rfl, Nat.le_of_ble_eq_true rfl⟩ rfl (fun _ _ q => nomatch q.1) fun T h108 v so W hQ => ?_
  obtain ⟨hv, rfl, -⟩ := hQ
  obtain rfl := Option.some.inj hv
  refine k_pop W d_jdk_42_155_8 rfl ?_
  exact k_ret W d_jdk_42_155_9 rfl [] (fun x hx => nomatch hx) (Nat.le_of_ble_eq_true rfl) (Nat.le_of_ble_eq_true rfl) ⟨rfl, rfl, rfl⟩
set_option maxRecDepth 65536 in
set_option maxHeartbeats 40000000 in
theorem ct_lchar (l : Launch) (Z : State) (a0 : Array Value) (hw : ∀ d ∈ tables_1, d.before a0 Z = true) (n0 : Nat) (h0 : Heap) (b : Addr) (bs : List Int32) (i : Nat) (bi ci : Int32) (sio : Value) (hi : bs[i]? = some bi) (hci : bi &&& 255 = ci) (B0 : Av Z h0 b .byte (bs.map Value.int)) (G0 : Sta Z h0 "jdk/internal/util/Preconditions" "SIOOBE_FORMATTER" "Ljava/util/function/BiFunction;" sio) (hsio : sio.isRef = true) : Ct l Z a0 own_EL false (⟨"java/lang/StringLatin1", "charAt", "([BI)C"⟩ : MethodName) jdk_43_method_2_code 2 (Option.some Jvm.ClassFile.FieldType.char) ({ frames := 2, cells := 0, slots := 0, locals := 27 } : Room) #[(.ref b), (.int (Int32.ofNat i))] h0 [] n0 (fun v h so => v = some (.int ci) ∧ h0 = h ∧ so = []) := by
  refine Ct.body (plainFor_of_name pn2) ?_
  intro p e s m below meth c T W
  refine WP.cast (g' := (mkF m 0 #[.val (.ref b), .val (.int (Int32.ofNat i))] [])) (by simp [entryFrame, mkF, argsToLocals, cat_i, cat_l, cat_r, cat_n]) ?_
  have hlt : i < bs.length := (List.getElem?_eq_some_iff.mp hi).1
  have hL : bs.length < 2147483648 := by have := B0.len; simpa using this
  refine k_iloadN W d_jdk_43_2_0 rfl ?_
  refine k_aloadN W d_jdk_43_2_1 rfl rfl ?_
  refine k_arraylength W (z := (Int32.ofNat bs.length)) d_jdk_43_2_2 B0 (by first | (rw [List.length_map]; done) | (rw [List.length_map]; rfl)) ?_
  refine k_callS0 W 0 0 0 (argsL := [(.int (Int32.ofNat i)), (.int (Int32.ofNat bs.length))]) (rest := []) d_jdk_43_2_3 (w166 hw) (w167 hw) (by decide) (lenOf pd10 rfl) (ct_schk l Z a0 hw n0 h0 i bs.length sio hlt hL G0 hsio) (w168 hw) (w10 hw) (fun x hx => hx) rfl (Nat.le_of_eq rfl) (Nat.le_of_ble_eq_true rfl) (Nat.le_of_ble_eq_true rfl) ⟨rfl, Nat.le_of_ble_eq_true rfl⟩ ⟨rfl, Nat.le_of_ble_eq_true rfl⟩ rfl (fun _ _ _ q => nomatch q.1) fun T h109 so W hQ => ?_
  obtain ⟨-, rfl, -⟩ := hQ
  refine k_aloadN W d_jdk_43_2_6 rfl rfl ?_
  refine k_iloadN W d_jdk_43_2_7 rfl ?_
  refine k_baload W (v := (.int bi)) i d_jdk_43_2_8 B0 (ix_of (Nat.lt_trans hlt hL)) (by simp [hi]) ?_
  refine k_sipush W d_jdk_43_2_9 (z := (255 : Int32)) rfl ?_
  refine k_iand W d_jdk_43_2_12 (z := (bi &&& (255 : Int32))) rfl ?_
  refine k_i2c W d_jdk_43_2_13 (z := (bi &&& (255 : Int32))) (Rg.c (Rg.mono (Rg.and (n := 256) bi (255 : Int32) (by decide)) (by decide))) ?_
  exact k_retN W (t := .char) (z' := (bi &&& (255 : Int32))) d_jdk_43_2_14 rfl (by simp) (Rg.nar (Rg.mono (Rg.and (n := 256) bi (255 : Int32) (by decide)) (by decide))) [] (fun x hx => nomatch hx) (Nat.le_of_ble_eq_true rfl) (Nat.le_of_ble_eq_true rfl) ⟨by rw [hci], rfl, rfl⟩
set_option maxRecDepth 65536 in
set_option maxHeartbeats 40000000 in
theorem ct_char (l : Launch) (Z : State) (a0 : Array Value) (hw : ∀ d ∈ tables_1, d.before a0 Z = true) (n0 : Nat) (h0 : Heap) (x b : Addr) (bs : List Int32) (zc : Int32) (i : Nat) (bi ci : Int32) (sio : Value) (hi : bs[i]? = some bi) (hci : bi &&& 255 = ci) (S0 : St Z h0 x b bs) (P0 : Sta Z h0 "java/lang/String" "COMPACT_STRINGS" "Z" (.int zc)) (hzc : zc ≠ 0) (G0 : Sta Z h0 "jdk/internal/util/Preconditions" "SIOOBE_FORMATTER" "Ljava/util/function/BiFunction;" sio) (hsio : sio.isRef = true) : Ct l Z a0 own_EL false (⟨"java/lang/String", "charAt", "(I)C"⟩ : MethodName) jdk_42_method_56_code 2 (Option.some Jvm.ClassFile.FieldType.char) ({ frames := 3, cells := 0, slots := 0, locals := 40 } : Room) #[(.ref x), (.int (Int32.ofNat i))] h0 [] n0 (fun v h so => v = some (.int ci) ∧ h0 = h ∧ so = []) := by
  refine Ct.body (plainFor_of_name pn1) ?_
  intro p e s m below meth c T W
  refine WP.cast (g' := (mkF m 0 #[.val (.ref x), .val (.int (Int32.ofNat i))] [])) (by simp [entryFrame, mkF, argsToLocals, cat_i, cat_l, cat_r, cat_n]) ?_
  have hcr : Rg ci 65536 := by rw [← hci]; exact Rg.and _ _ (by decide)
  refine k_aloadN W d_jdk_42_56_0 rfl rfl ?_
  refine k_callV W 0 0 0 (argsL := []) (rest := []) (a := x) (C := "java/lang/String") (z0 := (⟨"java/lang/String", "isLatin1", "()Z"⟩ : MethodName)) (z := (⟨"java/lang/String", "isLatin1", "()Z"⟩ : MethodName)) d_jdk_42_56_1 (w44 hw) (w45 hw) (nfSel (w47 hw)) (w47 hw) (w46 hw) (by decide) (lenOf pd8 rfl) S0.1 (ct_isL1 l Z a0 hw n0 h0 x b bs zc S0 P0 hzc) (w48 hw) (w10 hw) (fun x hx => hx) rfl (Nat.le_of_eq rfl) (Nat.le_of_ble_eq_true rfl) (Nat.le_of_ble_eq_true rfl) ⟨rfl, Nat.le_of_ble_eq_true rfl⟩ ⟨rfl, Nat.le_of_ble_eq_true rfl⟩ rfl (fun _ _ q => nomatch q.1) fun T h110 v so W hQ => ?_
  obtain ⟨hv, rfl, -⟩ := hQ
  obtain rfl := Option.some.inj hv
  refine k_ifN W d_jdk_42_56_4 (show ¬ ((1 : Int32) = 0) by decide) ?_
  refine k_aloadN W d_jdk_42_56_7 rfl rfl ?_
  refine k_getF W d_jdk_42_56_8 (host := "") (Or.inl (w28 hw)) Via.refl S0.2.2.1 fun T W => ?_
  refine k_iloadN W d_jdk_42_56_11 rfl ?_
  refine k_callS W 0 0 0 (argsL := [(.ref b), (.int (Int32.ofNat i))]) (rest := []) d_jdk_42_56_12 (w163 hw) (w164 hw) (by decide) (lenOf pd18 rfl) (ct_lchar l Z a0 hw n0 h0 b bs i bi ci sio hi hci S0.2.2.2 G0 hsio) (w165 hw) (w62 hw) (fun x hx => hx) rfl (Nat.le_of_eq rfl) (Nat.le_of_ble_eq_true rfl) (Nat.le_of_ble_eq_true rfl) ⟨rfl, Nat.le_of_ble_eq_true rfl⟩ ⟨rfl, Nat.le_of_ble_eq_true rfl⟩ rfl (fun _ _ q => nomatch q.1) fun T h111 v so W hQ => ?_
  obtain ⟨hv, rfl, -⟩ := hQ
  obtain rfl := Option.some.inj hv
  exact k_retN W (t := .char) (z' := ci) d_jdk_42_56_15 rfl (by simp) (Rg.nar hcr) [] (fun x hx => nomatch hx) (Nat.le_of_ble_eq_true rfl) (Nat.le_of_ble_eq_true rfl) ⟨rfl, rfl, rfl⟩
theorem own_47 {c : Int32} (h : c = 47) : i2b c = 47 := by subst h; decide
theorem own_n47 {c : Int32} (q : Rg c 256) (h : ¬ c = 47) : i2b c ≠ 47 := fun u => h (i2b_inj q (by decide) (u.trans (by decide : (47 : Int32) = i2b 47)))
theorem own_rg5 {z : Int32} (q : Rg z 5) : z = 0 ∨ z = 1 ∨ z = 2 ∨ z = 3 ∨ z = 4 := by
  have h1 := q.1; have h2 := q.2
  have : z.toInt = 0 ∨ z.toInt = 1 ∨ z.toInt = 2 ∨ z.toInt = 3 ∨ z.toInt = 4 := by omega
  rcases this with h | h | h | h | h
  · exact Or.inl (Int32.toInt_inj.mp (h.trans (by decide)))
  · exact Or.inr (Or.inl (Int32.toInt_inj.mp (h.trans (by decide))))
  · exact Or.inr (Or.inr (Or.inl (Int32.toInt_inj.mp (h.trans (by decide)))))
  · exact Or.inr (Or.inr (Or.inr (Or.inl (Int32.toInt_inj.mp (h.trans (by decide))))))
  · exact Or.inr (Or.inr (Or.inr (Or.inr (Int32.toInt_inj.mp (h.trans (by decide))))))
set_option maxRecDepth 65536 in
set_option maxHeartbeats 40000000 in
theorem ct_draw (l : Launch) (Z : State) (a0 : Array Value) (hw : ∀ d ∈ tables_1, d.before a0 Z = true) (n0 : Nat) (h0 : Heap) (p0 : Int32) : Ct l Z a0 own_EL false (⟨"com/example/kourier/kourier/rabbitmq/RouteParsePinLaw", "draw", "(I)C"⟩ : MethodName) method_4_code 1 (Option.some Jvm.ClassFile.FieldType.char) ({ frames := 0, cells := 0, slots := 0, locals := 0 } : Room) #[(.int p0)] h0 [] n0 (fun v h so => ∃ c, v = some (.int c) ∧ Rg c 256 ∧ h0 = h) := by
  refine Ct.body (plainFor_of_name pn5) ?_
  intro p e s m below meth c T W
  refine WP.cast (g' := (mkF m 0 #[.val (.int p0)] [])) (by simp [entryFrame, mkF, argsToLocals, cat_i, cat_l, cat_r, cat_n]) ?_
  refine k_iloadN W d_method_4_0 rfl ?_
  refine k_bipush W d_method_4_1 (z := (8 : Int32)) rfl ?_
  refine k_iushr W d_method_4_3 (z := (XT.ushr p0 (8 : Int32))) rfl ?_
  refine k_iconst W d_method_4_4 (z := (3 : Int32)) rfl ?_
  refine k_iand W d_method_4_5 (z := ((XT.ushr p0 (8 : Int32)) &&& (3 : Int32))) rfl ?_
  refine k_if W 12 d_method_4_6 (by decide) (fun (hc112 : ¬ ((XT.ushr p0 (8 : Int32)) &&& (3 : Int32)) = 0) => ?_) (fun (hc112 : ¬ (¬ ((XT.ushr p0 (8 : Int32)) &&& (3 : Int32)) = 0)) => ?_)
  · -- pc 12
    refine k_iloadN W d_method_4_12 rfl ?_
    refine k_sipush W d_method_4_13 (z := (255 : Int32)) rfl ?_
    refine k_iand W d_method_4_16 (z := (p0 &&& (255 : Int32))) rfl ?_
    refine k_i2c W d_method_4_17 (z := (p0 &&& (255 : Int32))) (Rg.c (Rg.mono (Rg.and (n := 256) p0 (255 : Int32) (by decide)) (by decide))) ?_
    exact k_retN W (t := .char) (z' := (p0 &&& (255 : Int32))) d_method_4_18 rfl (by simp) (Rg.nar (Rg.mono (Rg.and (n := 256) p0 (255 : Int32) (by decide)) (by decide))) [] (fun x hx => nomatch hx) (Nat.le_of_ble_eq_true rfl) (Nat.le_of_ble_eq_true rfl) ⟨_, rfl, (Rg.and (n := 256) p0 (255 : Int32) (by decide)), rfl⟩
  · -- pc 9
    refine k_bipush W d_method_4_9 (z := (47 : Int32)) rfl ?_
    exact k_retN W (t := .char) (z' := (47 : Int32)) d_method_4_11 rfl (by simp) (by decide) [] (fun x hx => nomatch hx) (Nat.le_of_ble_eq_true rfl) (Nat.le_of_ble_eq_true rfl) ⟨_, rfl, (by decide), rfl⟩
set_option maxRecDepth 65536 in
set_option maxHeartbeats 40000000 in
theorem ct_mk0 (l : Launch) (Z : State) (a0 : Array Value) (hw : ∀ d ∈ tables_1, d.before a0 Z = true) (n0 : Nat) (h0 : Heap) (c0 c1 c2 c3 zc : Int32) (r0 : Rg c0 256) (r1 : Rg c1 256) (r2 : Rg c2 256) (r3 : Rg c3 256) (P0 : Sta Z h0 "java/lang/String" "COMPACT_STRINGS" "Z" (.int zc)) (hzc : zc ≠ 0) : Ct l Z a0 own_EL false (⟨"com/example/kourier/kourier/rabbitmq/RouteParsePinLaw", "make", "(ICCCC)Ljava/lang/String;"⟩ : MethodName) method_5_code 5 (Option.some (Jvm.ClassFile.FieldType.object "java/lang/String")) ({ frames := 3, cells := 6, slots := 12, locals := 43 } : Room) #[(.int (0 : Int32)), (.int c0), (.int c1), (.int c2), (.int c3)] h0 [] n0 (fun v h so => ∃ x b, v = some (.ref x) ∧ h0.size ≤ x ∧ Keep h0 h [] ∧ St Z h x b []) := by
  refine Ct.body (plainFor_of_name pn5) ?_
  intro p e s m below meth c T W
  refine WP.cast (g' := (mkF m 0 #[.val (.int (0 : Int32)), .val (.int c0), .val (.int c1), .val (.int c2), .val (.int c3)] [])) (by simp [entryFrame, mkF, argsToLocals, cat_i, cat_l, cat_r, cat_n]) ?_
  refine k_iloadN W d_method_5_0 rfl ?_
  refine k_ifN W d_method_5_1 (show ¬ (¬ (0 : Int32) = 0) by decide) ?_
  refine k_new W 1 4 d_method_5_4 (w8 hw) (w9 hw) (w10 hw) ⟨rfl, Nat.le_of_ble_eq_true rfl⟩ ⟨rfl, Nat.le_of_ble_eq_true rfl⟩ fun T h113 a114 g114 W E114 X114 D114 => ?_
  have K114 : Keep h0 h113 [] := keep_ext E114 []
  refine k_dup W d_method_5_7 rfl ?_
  refine k_iconst W d_method_5_8 (z := (0 : Int32)) rfl ?_
  refine k_newarr W 0 2 4 d_method_5_9 (w11 hw) (by decide) (by decide) ⟨rfl, Nat.le_of_ble_eq_true rfl⟩ ⟨rfl, Nat.le_of_ble_eq_true rfl⟩ fun T h115 a116 g116 W E116 A116 => ?_
  have K116 : Keep h113 h115 [] := keep_ext E116 []
  have A116 : Av Z h115 a116 .char [] := A116
  have f117 := (X114.keep K116)
  have f118 := ((D114 (Or.inr (w24 hw)) (ty := (.array .byte)) (by decide)).keep K116 nin0)
  have f119 := ((D114 (Or.inr (w25 hw)) (ty := .byte) (by decide)).keep K116 nin0)
  have f120 := (Sta.keep (Sta.keep P0 K114 ns0) K116 ns0)
  refine k_callI0 W 1 6 12 (argsL := [(.ref a116)]) (rest := [(.ref a114)]) (a := a114) d_method_5_11 rfl rfl (w12 hw) (w13 hw) (by decide) (lenOf pd19 rfl) (ct_sinitE l Z a0 hw n0 h115 a114 a116 [a116] .null (.int (0 : Int32)) f117 f118 f119 A116) (w14 hw) (w10 hw) (fun x hx => by simp only [List.mem_cons, List.not_mem_nil, or_false] at hx; rcases hx with rfl | rfl; all_goals first | exact (List.mem_of_getElem? (i := 1) rfl) | exact (List.mem_of_getElem? (i := 0) rfl)) rfl (Nat.le_of_eq rfl) (Nat.le_of_ble_eq_true rfl) (Nat.le_of_ble_eq_true rfl) ⟨rfl, Nat.le_of_ble_eq_true rfl⟩ ⟨rfl, Nat.le_of_ble_eq_true rfl⟩ rfl (fun _ _ _ q => nomatch q.1) fun T h122 so W hQ => ?_
  obtain ⟨-, b122, K122, S122, N122⟩ := hQ
  have KK123 : Keep h0 h113 [] := (Keep.refl h0 []).trans K114 all0
  have KK124 : Keep h0 h115 [] := KK123.trans K116 all0
  have KK125 : Keep h0 h122 [] := KK124.trans K122 (allS (Or.inr (Nat.le_of_eq g114.symm)) all0)
  exact k_areturn W d_method_5_14 rfl rfl rfl [] (fun x hx => nomatch hx) (Nat.le_of_ble_eq_true rfl) (Nat.le_of_ble_eq_true rfl) ⟨_, _, rfl, (Nat.le_of_eq g114.symm), KK125, S122⟩
set_option maxRecDepth 65536 in
set_option maxHeartbeats 40000000 in
theorem ct_mk1 (l : Launch) (Z : State) (a0 : Array Value) (hw : ∀ d ∈ tables_1, d.before a0 Z = true) (n0 : Nat) (h0 : Heap) (c0 c1 c2 c3 zc : Int32) (r0 : Rg c0 256) (r1 : Rg c1 256) (r2 : Rg c2 256) (r3 : Rg c3 256) (P0 : Sta Z h0 "java/lang/String" "COMPACT_STRINGS" "Z" (.int zc)) (hzc : zc ≠ 0) : Ct l Z a0 own_EL false (⟨"com/example/kourier/kourier/rabbitmq/RouteParsePinLaw", "make", "(ICCCC)Ljava/lang/String;"⟩ : MethodName) method_5_code 5 (Option.some (Jvm.ClassFile.FieldType.object "java/lang/String")) ({ frames := 4, cells := 3, slots := 6, locals := 66 } : Room) #[(.int (1 : Int32)), (.int c0), (.int c1), (.int c2), (.int c3)] h0 [] n0 (fun v h so => ∃ x b, v = some (.ref x) ∧ h0.size ≤ x ∧ Keep h0 h [] ∧ St Z h x b [(i2b c0)]) := by
  refine Ct.body (plainFor_of_name pn5) ?_
  intro p e s m below meth c T W
  refine WP.cast (g' := (mkF m 0 #[.val (.int (1 : Int32)), .val (.int c0), .val (.int c1), .val (.int c2), .val (.int c3)] [])) (by simp [entryFrame, mkF, argsToLocals, cat_i, cat_l, cat_r, cat_n]) ?_
  refine k_iloadN W d_method_5_0 rfl ?_
  refine k_ifY W 15 d_method_5_1 (by decide) (show ¬ (1 : Int32) = 0 by decide) ?_
  refine k_iloadN W d_method_5_15 rfl ?_
  refine k_iconst W d_method_5_16 (z := (1 : Int32)) rfl ?_
  refine k_icN W d_method_5_17 (show ¬ (¬ (1 : Int32) = (1 : Int32)) by decide) ?_
  refine k_new W 1 4 d_method_5_20 (w8 hw) (w9 hw) (w10 hw) ⟨rfl, Nat.le_of_ble_eq_true rfl⟩ ⟨rfl, Nat.le_of_ble_eq_true rfl⟩ fun T h126 a127 g127 W E127 X127 D127 => ?_
  have K127 : Keep h0 h126 [] := keep_ext E127 []
  refine k_dup W d_method_5_23 rfl ?_
  refine k_iconst W d_method_5_24 (z := (1 : Int32)) rfl ?_
  refine k_newarr W 1 2 5 d_method_5_25 (w11 hw) (by decide) (by decide) ⟨rfl, Nat.le_of_ble_eq_true rfl⟩ ⟨rfl, Nat.le_of_ble_eq_true rfl⟩ fun T h128 a129 g129 W E129 A129 => ?_
  have K129 : Keep h126 h128 [] := keep_ext E129 []
  have A129 : Av Z h128 a129 .char [(.int (0 : Int32))] := A129
  refine k_dup W d_method_5_27 rfl ?_
  refine k_iconst W d_method_5_28 (z := (0 : Int32)) rfl ?_
  refine k_iloadN W d_method_5_29 rfl ?_
  refine k_castore W (z := c0) 0 d_method_5_30 (List.mem_of_getElem? (i := 0) rfl) A129 (by decide) (Nat.le_of_ble_eq_true rfl) (Rg.nar (Rg.mono r0 (by decide))) (Rg.fits (Rg.mono r0 (by decide))) fun T h130 W Wr130 A130 => ?_
  have K130 : Keep h128 h130 [a129] := Keep.of_wr Wr130
  have A130 : Av Z h130 a129 .char [(.int c0)] := A130
  have f131 := ((X127.keep K129).keep K130)
  have ne132 : a127 ≠ a129 := (Nat.ne_of_lt (Nat.lt_of_lt_of_le X127.lt (Nat.le_of_eq g129.symm)))
  have f133 := (((D127 (Or.inr (w24 hw)) (ty := (.array .byte)) (by decide)).keep K129 nin0).keep K130 (ninS ne132 nin0))
  have f134 := (((D127 (Or.inr (w25 hw)) (ty := .byte) (by decide)).keep K129 nin0).keep K130 (ninS ne132 nin0))
  have f135 := (Sta.keep (Sta.keep (Sta.keep P0 K127 ns0) K129 ns0) K130 (nsS (Av.plain A129) ns0))
  refine k_callI0 W 1 3 6 (argsL := [(.ref a129)]) (rest := [(.ref a127)]) (a := a127) d_method_5_31 rfl rfl (w12 hw) (w13 hw) (by decide) (lenOf pd19 rfl) (ct_sinit l Z a0 hw n0 h130 a127 a129 [c0] 1 zc .null (.int (0 : Int32)) f131 f133 f134 A130 f135 hzc (rgS r0 (fun _ q => nomatch q)) (Nat.le_of_ble_eq_true rfl) (Nat.le_of_ble_eq_true rfl) (by decide)) (w14 hw) (w10 hw) (fun x hx => by simp only [List.mem_cons, List.not_mem_nil, or_false] at hx; rcases hx with rfl; all_goals first | exact (List.mem_of_getElem? (i := 1) rfl)) rfl (Nat.le_of_eq rfl) (Nat.le_of_ble_eq_true rfl) (Nat.le_of_ble_eq_true rfl) ⟨rfl, Nat.le_of_ble_eq_true rfl⟩ ⟨rfl, Nat.le_of_ble_eq_true rfl⟩ rfl (fun _ _ _ q => nomatch q.1) fun T h136 so W hQ => ?_
  obtain ⟨-, b136, g136, K136, S136⟩ := hQ
  have S136 : St Z h136 a127 b136 [(i2b c0)] := S136
  have KK137 : Keep h0 h126 [] := (Keep.refl h0 []).trans K127 all0
  have KK138 : Keep h0 h128 [] := KK137.trans K129 all0
  have KK139 : Keep h0 h130 [] := KK138.trans K130 (allS (Or.inr (Nat.le_trans E127.1 (Nat.le_of_eq g129.symm))) all0)
  have KK140 : Keep h0 h136 [] := KK139.trans K136 (allS (Or.inr (Nat.le_of_eq g127.symm)) all0)
  exact k_areturn W d_method_5_34 rfl rfl rfl [] (fun x hx => nomatch hx) (Nat.le_of_ble_eq_true rfl) (Nat.le_of_ble_eq_true rfl) ⟨_, _, rfl, (Nat.le_of_eq g127.symm), KK140, S136⟩
set_option maxRecDepth 65536 in
set_option maxHeartbeats 40000000 in
theorem ct_mk2 (l : Launch) (Z : State) (a0 : Array Value) (hw : ∀ d ∈ tables_1, d.before a0 Z = true) (n0 : Nat) (h0 : Heap) (c0 c1 c2 c3 zc : Int32) (r0 : Rg c0 256) (r1 : Rg c1 256) (r2 : Rg c2 256) (r3 : Rg c3 256) (P0 : Sta Z h0 "java/lang/String" "COMPACT_STRINGS" "Z" (.int zc)) (hzc : zc ≠ 0) : Ct l Z a0 own_EL false (⟨"com/example/kourier/kourier/rabbitmq/RouteParsePinLaw", "make", "(ICCCC)Ljava/lang/String;"⟩ : MethodName) method_5_code 5 (Option.some (Jvm.ClassFile.FieldType.object "java/lang/String")) ({ frames := 4, cells := 3, slots := 8, locals := 66 } : Room) #[(.int (2 : Int32)), (.int c0), (.int c1), (.int c2), (.int c3)] h0 [] n0 (fun v h so => ∃ x b, v = some (.ref x) ∧ h0.size ≤ x ∧ Keep h0 h [] ∧ St Z h x b [(i2b c0), (i2b c1)]) := by
  refine Ct.body (plainFor_of_name pn5) ?_
  intro p e s m below meth c T W
  refine WP.cast (g' := (mkF m 0 #[.val (.int (2 : Int32)), .val (.int c0), .val (.int c1), .val (.int c2), .val (.int c3)] [])) (by simp [entryFrame, mkF, argsToLocals, cat_i, cat_l, cat_r, cat_n]) ?_
  refine k_iloadN W d_method_5_0 rfl ?_
  refine k_ifY W 15 d_method_5_1 (by decide) (show ¬ (2 : Int32) = 0 by decide) ?_
  refine k_iloadN W d_method_5_15 rfl ?_
  refine k_iconst W d_method_5_16 (z := (1 : Int32)) rfl ?_
  refine k_icY W 35 d_method_5_17 (by decide) (show ¬ (2 : Int32) = (1 : Int32) by decide) ?_
  refine k_iloadN W d_method_5_35 rfl ?_
  refine k_iconst W d_method_5_36 (z := (2 : Int32)) rfl ?_
  refine k_icN W d_method_5_37 (show ¬ (¬ (2 : Int32) = (2 : Int32)) by decide) ?_
  refine k_new W 1 4 d_method_5_40 (w8 hw) (w9 hw) (w10 hw) ⟨rfl, Nat.le_of_ble_eq_true rfl⟩ ⟨rfl, Nat.le_of_ble_eq_true rfl⟩ fun T h141 a142 g142 W E142 X142 D142 => ?_
  have K142 : Keep h0 h141 [] := keep_ext E142 []
  refine k_dup W d_method_5_43 rfl ?_
  refine k_iconst W d_method_5_44 (z := (2 : Int32)) rfl ?_
  refine k_newarr W 2 2 6 d_method_5_45 (w11 hw) (by decide) (by decide) ⟨rfl, Nat.le_of_ble_eq_true rfl⟩ ⟨rfl, Nat.le_of_ble_eq_true rfl⟩ fun T h143 a144 g144 W E144 A144 => ?_
  have K144 : Keep h141 h143 [] := keep_ext E144 []
  have A144 : Av Z h143 a144 .char [(.int (0 : Int32)), (.int (0 : Int32))] := A144
  refine k_dup W d_method_5_47 rfl ?_
  refine k_iconst W d_method_5_48 (z := (0 : Int32)) rfl ?_
  refine k_iloadN W d_method_5_49 rfl ?_
  refine k_castore W (z := c0) 0 d_method_5_50 (List.mem_of_getElem? (i := 0) rfl) A144 (by decide) (Nat.le_of_ble_eq_true rfl) (Rg.nar (Rg.mono r0 (by decide))) (Rg.fits (Rg.mono r0 (by decide))) fun T h145 W Wr145 A145 => ?_
  have K145 : Keep h143 h145 [a144] := Keep.of_wr Wr145
  have A145 : Av Z h145 a144 .char [(.int c0), (.int (0 : Int32))] := A145
  refine k_dup W d_method_5_51 rfl ?_
  refine k_iconst W d_method_5_52 (z := (1 : Int32)) rfl ?_
  refine k_iloadN W d_method_5_53 rfl ?_
  refine k_castore W (z := c1) 1 d_method_5_54 (List.mem_of_getElem? (i := 0) rfl) A145 (by decide) (Nat.le_of_ble_eq_true rfl) (Rg.nar (Rg.mono r1 (by decide))) (Rg.fits (Rg.mono r1 (by decide))) fun T h146 W Wr146 A146 => ?_
  have K146 : Keep h145 h146 [a144] := Keep.of_wr Wr146
  have A146 : Av Z h146 a144 .char [(.int c0), (.int c1)] := A146
  have f147 := (((X142.keep K144).keep K145).keep K146)
  have ne148 : a142 ≠ a144 := (Nat.ne_of_lt (Nat.lt_of_lt_of_le X142.lt (Nat.le_of_eq g144.symm)))
  have f149 := ((((D142 (Or.inr (w24 hw)) (ty := (.array .byte)) (by decide)).keep K144 nin0).keep K145 (ninS ne148 nin0)).keep K146 (ninS ne148 nin0))
  have f150 := ((((D142 (Or.inr (w25 hw)) (ty := .byte) (by decide)).keep K144 nin0).keep K145 (ninS ne148 nin0)).keep K146 (ninS ne148 nin0))
  have f151 := (Sta.keep (Sta.keep (Sta.keep (Sta.keep P0 K142 ns0) K144 ns0) K145 (nsS (Av.plain A144) ns0)) K146 (nsS (Av.plain A145) ns0))
  refine k_callI0 W 1 3 8 (argsL := [(.ref a144)]) (rest := [(.ref a142)]) (a := a142) d_method_5_55 rfl rfl (w12 hw) (w13 hw) (by decide) (lenOf pd19 rfl) (ct_sinit l Z a0 hw n0 h146 a142 a144 [c0, c1] 2 zc .null (.int (0 : Int32)) f147 f149 f150 A146 f151 hzc (rgS r0 (rgS r1 (fun _ q => nomatch q))) (Nat.le_of_ble_eq_true rfl) (Nat.le_of_ble_eq_true rfl) (by decide)) (w14 hw) (w10 hw) (fun x hx => by simp only [List.mem_cons, List.not_mem_nil, or_false] at hx; rcases hx with rfl; all_goals first | exact (List.mem_of_getElem? (i := 1) rfl)) rfl (Nat.le_of_eq rfl) (Nat.le_of_ble_eq_true rfl) (Nat.le_of_ble_eq_true rfl) ⟨rfl, Nat.le_of_ble_eq_true rfl⟩ ⟨rfl, Nat.le_of_ble_eq_true rfl⟩ rfl (fun _ _ _ q => nomatch q.1) fun T h152 so W hQ => ?_
  obtain ⟨-, b152, g152, K152, S152⟩ := hQ
  have S152 : St Z h152 a142 b152 [(i2b c0), (i2b c1)] := S152
  have KK153 : Keep h0 h141 [] := (Keep.refl h0 []).trans K142 all0
  have KK154 : Keep h0 h143 [] := KK153.trans K144 all0
  have KK155 : Keep h0 h145 [] := KK154.trans K145 (allS (Or.inr (Nat.le_trans E142.1 (Nat.le_of_eq g144.symm))) all0)
  have KK156 : Keep h0 h146 [] := KK155.trans K146 (allS (Or.inr (Nat.le_trans E142.1 (Nat.le_of_eq g144.symm))) all0)
  have KK157 : Keep h0 h152 [] := KK156.trans K152 (allS (Or.inr (Nat.le_of_eq g142.symm)) all0)
  exact k_areturn W d_method_5_58 rfl rfl rfl [] (fun x hx => nomatch hx) (Nat.le_of_ble_eq_true rfl) (Nat.le_of_ble_eq_true rfl) ⟨_, _, rfl, (Nat.le_of_eq g142.symm), KK157, S152⟩
set_option maxRecDepth 65536 in
set_option maxHeartbeats 40000000 in
theorem ct_mk3 (l : Launch) (Z : State) (a0 : Array Value) (hw : ∀ d ∈ tables_1, d.before a0 Z = true) (n0 : Nat) (h0 : Heap) (c0 c1 c2 c3 zc : Int32) (r0 : Rg c0 256) (r1 : Rg c1 256) (r2 : Rg c2 256) (r3 : Rg c3 256) (P0 : Sta Z h0 "java/lang/String" "COMPACT_STRINGS" "Z" (.int zc)) (hzc : zc ≠ 0) : Ct l Z a0 own_EL false (⟨"com/example/kourier/kourier/rabbitmq/RouteParsePinLaw", "make", "(ICCCC)Ljava/lang/String;"⟩ : MethodName) method_5_code 5 (Option.some (Jvm.ClassFile.FieldType.object "java/lang/String")) ({ frames := 4, cells := 3, slots := 10, locals := 66 } : Room) #[(.int (3 : Int32)), (.int c0), (.int c1), (.int c2), (.int c3)] h0 [] n0 (fun v h so => ∃ x b, v = some (.ref x) ∧ h0.size ≤ x ∧ Keep h0 h [] ∧ St Z h x b [(i2b c0), (i2b c1), (i2b c2)]) := by
  refine Ct.body (plainFor_of_name pn5) ?_
  intro p e s m below meth c T W
  refine WP.cast (g' := (mkF m 0 #[.val (.int (3 : Int32)), .val (.int c0), .val (.int c1), .val (.int c2), .val (.int c3)] [])) (by simp [entryFrame, mkF, argsToLocals, cat_i, cat_l, cat_r, cat_n]) ?_
  refine k_iloadN W d_method_5_0 rfl ?_
  refine k_ifY W 15 d_method_5_1 (by decide) (show ¬ (3 : Int32) = 0 by decide) ?_
  refine k_iloadN W d_method_5_15 rfl ?_
  refine k_iconst W d_method_5_16 (z := (1 : Int32)) rfl ?_
  refine k_icY W 35 d_method_5_17 (by decide) (show ¬ (3 : Int32) = (1 : Int32) by decide) ?_
  refine k_iloadN W d_method_5_35 rfl ?_
  refine k_iconst W d_method_5_36 (z := (2 : Int32)) rfl ?_
  refine k_icY W 59 d_method_5_37 (by decide) (show ¬ (3 : Int32) = (2 : Int32) by decide) ?_
  refine k_iloadN W d_method_5_59 rfl ?_
  refine k_iconst W d_method_5_60 (z := (3 : Int32)) rfl ?_
  refine k_icN W d_method_5_61 (show ¬ (¬ (3 : Int32) = (3 : Int32)) by decide) ?_
  refine k_new W 1 4 d_method_5_64 (w8 hw) (w9 hw) (w10 hw) ⟨rfl, Nat.le_of_ble_eq_true rfl⟩ ⟨rfl, Nat.le_of_ble_eq_true rfl⟩ fun T h158 a159 g159 W E159 X159 D159 => ?_
  have K159 : Keep h0 h158 [] := keep_ext E159 []
  refine k_dup W d_method_5_67 rfl ?_
  refine k_iconst W d_method_5_68 (z := (3 : Int32)) rfl ?_
  refine k_newarr W 3 2 7 d_method_5_69 (w11 hw) (by decide) (by decide) ⟨rfl, Nat.le_of_ble_eq_true rfl⟩ ⟨rfl, Nat.le_of_ble_eq_true rfl⟩ fun T h160 a161 g161 W E161 A161 => ?_
  have K161 : Keep h158 h160 [] := keep_ext E161 []
  have A161 : Av Z h160 a161 .char [(.int (0 : Int32)), (.int (0 : Int32)), (.int (0 : Int32))] := A161
  refine k_dup W d_method_5_71 rfl ?_
  refine k_iconst W d_method_5_72 (z := (0 : Int32)) rfl ?_
  refine k_iloadN W d_method_5_73 rfl ?_
  refine k_castore W (z := c0) 0 d_method_5_74 (List.mem_of_getElem? (i := 0) rfl) A161 (by decide) (Nat.le_of_ble_eq_true rfl) (Rg.nar (Rg.mono r0 (by decide))) (Rg.fits (Rg.mono r0 (by decide))) fun T h162 W Wr162 A162 => ?_
  have K162 : Keep h160 h162 [a161] := Keep.of_wr Wr162
  have A162 : Av Z h162 a161 .char [(.int c0), (.int (0 : Int32)), (.int (0 : Int32))] := A162
  refine k_dup W d_method_5_75 rfl ?_
  refine k_iconst W d_method_5_76 (z := (1 : Int32)) rfl ?_
  refine k_iloadN W d_method_5_77 rfl ?_
  refine k_castore W (z := c1) 1 d_method_5_78 (List.mem_of_getElem? (i := 0) rfl) A162 (by decide) (Nat.le_of_ble_eq_true rfl) (Rg.nar (Rg.mono r1 (by decide))) (Rg.fits (Rg.mono r1 (by decide))) fun T h163 W Wr163 A163 => ?_
  have K163 : Keep h162 h163 [a161] := Keep.of_wr Wr163
  have A163 : Av Z h163 a161 .char [(.int c0), (.int c1), (.int (0 : Int32))] := A163
  refine k_dup W d_method_5_79 rfl ?_
  refine k_iconst W d_method_5_80 (z := (2 : Int32)) rfl ?_
  refine k_iloadN W d_method_5_81 rfl ?_
  refine k_castore W (z := c2) 2 d_method_5_82 (List.mem_of_getElem? (i := 0) rfl) A163 (by decide) (Nat.le_of_ble_eq_true rfl) (Rg.nar (Rg.mono r2 (by decide))) (Rg.fits (Rg.mono r2 (by decide))) fun T h164 W Wr164 A164 => ?_
  have K164 : Keep h163 h164 [a161] := Keep.of_wr Wr164
  have A164 : Av Z h164 a161 .char [(.int c0), (.int c1), (.int c2)] := A164
  have f165 := ((((X159.keep K161).keep K162).keep K163).keep K164)
  have ne166 : a159 ≠ a161 := (Nat.ne_of_lt (Nat.lt_of_lt_of_le X159.lt (Nat.le_of_eq g161.symm)))
  have f167 := (((((D159 (Or.inr (w24 hw)) (ty := (.array .byte)) (by decide)).keep K161 nin0).keep K162 (ninS ne166 nin0)).keep K163 (ninS ne166 nin0)).keep K164 (ninS ne166 nin0))
  have f168 := (((((D159 (Or.inr (w25 hw)) (ty := .byte) (by decide)).keep K161 nin0).keep K162 (ninS ne166 nin0)).keep K163 (ninS ne166 nin0)).keep K164 (ninS ne166 nin0))
  have f169 := (Sta.keep (Sta.keep (Sta.keep (Sta.keep (Sta.keep P0 K159 ns0) K161 ns0) K162 (nsS (Av.plain A161) ns0)) K163 (nsS (Av.plain A162) ns0)) K164 (nsS (Av.plain A163) ns0))
  refine k_callI0 W 1 3 10 (argsL := [(.ref a161)]) (rest := [(.ref a159)]) (a := a159) d_method_5_83 rfl rfl (w12 hw) (w13 hw) (by decide) (lenOf pd19 rfl) (ct_sinit l Z a0 hw n0 h164 a159 a161 [c0, c1, c2] 3 zc .null (.int (0 : Int32)) f165 f167 f168 A164 f169 hzc (rgS r0 (rgS r1 (rgS r2 (fun _ q => nomatch q)))) (Nat.le_of_ble_eq_true rfl) (Nat.le_of_ble_eq_true rfl) (by decide)) (w14 hw) (w10 hw) (fun x hx => by simp only [List.mem_cons, List.not_mem_nil, or_false] at hx; rcases hx with rfl; all_goals first | exact (List.mem_of_getElem? (i := 1) rfl)) rfl (Nat.le_of_eq rfl) (Nat.le_of_ble_eq_true rfl) (Nat.le_of_ble_eq_true rfl) ⟨rfl, Nat.le_of_ble_eq_true rfl⟩ ⟨rfl, Nat.le_of_ble_eq_true rfl⟩ rfl (fun _ _ _ q => nomatch q.1) fun T h170 so W hQ => ?_
  obtain ⟨-, b170, g170, K170, S170⟩ := hQ
  have S170 : St Z h170 a159 b170 [(i2b c0), (i2b c1), (i2b c2)] := S170
  have KK171 : Keep h0 h158 [] := (Keep.refl h0 []).trans K159 all0
  have KK172 : Keep h0 h160 [] := KK171.trans K161 all0
  have KK173 : Keep h0 h162 [] := KK172.trans K162 (allS (Or.inr (Nat.le_trans E159.1 (Nat.le_of_eq g161.symm))) all0)
  have KK174 : Keep h0 h163 [] := KK173.trans K163 (allS (Or.inr (Nat.le_trans E159.1 (Nat.le_of_eq g161.symm))) all0)
  have KK175 : Keep h0 h164 [] := KK174.trans K164 (allS (Or.inr (Nat.le_trans E159.1 (Nat.le_of_eq g161.symm))) all0)
  have KK176 : Keep h0 h170 [] := KK175.trans K170 (allS (Or.inr (Nat.le_of_eq g159.symm)) all0)
  exact k_areturn W d_method_5_86 rfl rfl rfl [] (fun x hx => nomatch hx) (Nat.le_of_ble_eq_true rfl) (Nat.le_of_ble_eq_true rfl) ⟨_, _, rfl, (Nat.le_of_eq g159.symm), KK176, S170⟩
set_option maxRecDepth 65536 in
set_option maxHeartbeats 40000000 in
theorem ct_mk4 (l : Launch) (Z : State) (a0 : Array Value) (hw : ∀ d ∈ tables_1, d.before a0 Z = true) (n0 : Nat) (h0 : Heap) (c0 c1 c2 c3 zc : Int32) (r0 : Rg c0 256) (r1 : Rg c1 256) (r2 : Rg c2 256) (r3 : Rg c3 256) (P0 : Sta Z h0 "java/lang/String" "COMPACT_STRINGS" "Z" (.int zc)) (hzc : zc ≠ 0) : Ct l Z a0 own_EL false (⟨"com/example/kourier/kourier/rabbitmq/RouteParsePinLaw", "make", "(ICCCC)Ljava/lang/String;"⟩ : MethodName) method_5_code 5 (Option.some (Jvm.ClassFile.FieldType.object "java/lang/String")) ({ frames := 4, cells := 3, slots := 12, locals := 66 } : Room) #[(.int (4 : Int32)), (.int c0), (.int c1), (.int c2), (.int c3)] h0 [] n0 (fun v h so => ∃ x b, v = some (.ref x) ∧ h0.size ≤ x ∧ Keep h0 h [] ∧ St Z h x b [(i2b c0), (i2b c1), (i2b c2), (i2b c3)]) := by
  refine Ct.body (plainFor_of_name pn5) ?_
  intro p e s m below meth c T W
  refine WP.cast (g' := (mkF m 0 #[.val (.int (4 : Int32)), .val (.int c0), .val (.int c1), .val (.int c2), .val (.int c3)] [])) (by simp [entryFrame, mkF, argsToLocals, cat_i, cat_l, cat_r, cat_n]) ?_
  refine k_iloadN W d_method_5_0 rfl ?_
  refine k_ifY W 15 d_method_5_1 (by decide) (show ¬ (4 : Int32) = 0 by decide) ?_
  refine k_iloadN W d_method_5_15 rfl ?_
  refine k_iconst W d_method_5_16 (z := (1 : Int32)) rfl ?_
  refine k_icY W 35 d_method_5_17 (by decide) (show ¬ (4 : Int32) = (1 : Int32) by decide) ?_
  refine k_iloadN W d_method_5_35 rfl ?_
  refine k_iconst W d_method_5_36 (z := (2 : Int32)) rfl ?_
  refine k_icY W 59 d_method_5_37 (by decide) (show ¬ (4 : Int32) = (2 : Int32) by decide) ?_
  refine k_iloadN W d_method_5_59 rfl ?_
  refine k_iconst W d_method_5_60 (z := (3 : Int32)) rfl ?_
  refine k_icY W 87 d_method_5_61 (by decide) (show ¬ (4 : Int32) = (3 : Int32) by decide) ?_
  refine k_new W 1 4 d_method_5_87 (w8 hw) (w9 hw) (w10 hw) ⟨rfl, Nat.le_of_ble_eq_true rfl⟩ ⟨rfl, Nat.le_of_ble_eq_true rfl⟩ fun T h177 a178 g178 W E178 X178 D178 => ?_
  have K178 : Keep h0 h177 [] := keep_ext E178 []
  refine k_dup W d_method_5_90 rfl ?_
  refine k_iconst W d_method_5_91 (z := (4 : Int32)) rfl ?_
  refine k_newarr W 4 2 8 d_method_5_92 (w11 hw) (by decide) (by decide) ⟨rfl, Nat.le_of_ble_eq_true rfl⟩ ⟨rfl, Nat.le_of_ble_eq_true rfl⟩ fun T h179 a180 g180 W E180 A180 => ?_
  have K180 : Keep h177 h179 [] := keep_ext E180 []
  have A180 : Av Z h179 a180 .char [(.int (0 : Int32)), (.int (0 : Int32)), (.int (0 : Int32)), (.int (0 : Int32))] := A180
  refine k_dup W d_method_5_94 rfl ?_
  refine k_iconst W d_method_5_95 (z := (0 : Int32)) rfl ?_
  refine k_iloadN W d_method_5_96 rfl ?_
  refine k_castore W (z := c0) 0 d_method_5_97 (List.mem_of_getElem? (i := 0) rfl) A180 (by decide) (Nat.le_of_ble_eq_true rfl) (Rg.nar (Rg.mono r0 (by decide))) (Rg.fits (Rg.mono r0 (by decide))) fun T h181 W Wr181 A181 => ?_
  have K181 : Keep h179 h181 [a180] := Keep.of_wr Wr181
  have A181 : Av Z h181 a180 .char [(.int c0), (.int (0 : Int32)), (.int (0 : Int32)), (.int (0 : Int32))] := A181
  refine k_dup W d_method_5_98 rfl ?_
  refine k_iconst W d_method_5_99 (z := (1 : Int32)) rfl ?_
  refine k_iloadN W d_method_5_100 rfl ?_
  refine k_castore W (z := c1) 1 d_method_5_101 (List.mem_of_getElem? (i := 0) rfl) A181 (by decide) (Nat.le_of_ble_eq_true rfl) (Rg.nar (Rg.mono r1 (by decide))) (Rg.fits (Rg.mono r1 (by decide))) fun T h182 W Wr182 A182 => ?_
  have K182 : Keep h181 h182 [a180] := Keep.of_wr Wr182
  have A182 : Av Z h182 a180 .char [(.int c0), (.int c1), (.int (0 : Int32)), (.int (0 : Int32))] := A182
  refine k_dup W d_method_5_102 rfl ?_
  refine k_iconst W d_method_5_103 (z := (2 : Int32)) rfl ?_
  refine k_iloadN W d_method_5_104 rfl ?_
  refine k_castore W (z := c2) 2 d_method_5_105 (List.mem_of_getElem? (i := 0) rfl) A182 (by decide) (Nat.le_of_ble_eq_true rfl) (Rg.nar (Rg.mono r2 (by decide))) (Rg.fits (Rg.mono r2 (by decide))) fun T h183 W Wr183 A183 => ?_
  have K183 : Keep h182 h183 [a180] := Keep.of_wr Wr183
  have A183 : Av Z h183 a180 .char [(.int c0), (.int c1), (.int c2), (.int (0 : Int32))] := A183
  refine k_dup W d_method_5_106 rfl ?_
  refine k_iconst W d_method_5_107 (z := (3 : Int32)) rfl ?_
  refine k_iload W d_method_5_108 rfl ?_
  refine k_castore W (z := c3) 3 d_method_5_110 (List.mem_of_getElem? (i := 0) rfl) A183 (by decide) (Nat.le_of_ble_eq_true rfl) (Rg.nar (Rg.mono r3 (by decide))) (Rg.fits (Rg.mono r3 (by decide))) fun T h184 W Wr184 A184 => ?_
  have K184 : Keep h183 h184 [a180] := Keep.of_wr Wr184
  have A184 : Av Z h184 a180 .char [(.int c0), (.int c1), (.int c2), (.int c3)] := A184
  have f185 := (((((X178.keep K180).keep K181).keep K182).keep K183).keep K184)
  have ne186 : a178 ≠ a180 := (Nat.ne_of_lt (Nat.lt_of_lt_of_le X178.lt (Nat.le_of_eq g180.symm)))
  have f187 := ((((((D178 (Or.inr (w24 hw)) (ty := (.array .byte)) (by decide)).keep K180 nin0).keep K181 (ninS ne186 nin0)).keep K182 (ninS ne186 nin0)).keep K183 (ninS ne186 nin0)).keep K184 (ninS ne186 nin0))
  have f188 := ((((((D178 (Or.inr (w25 hw)) (ty := .byte) (by decide)).keep K180 nin0).keep K181 (ninS ne186 nin0)).keep K182 (ninS ne186 nin0)).keep K183 (ninS ne186 nin0)).keep K184 (ninS ne186 nin0))
  have f189 := (Sta.keep (Sta.keep (Sta.keep (Sta.keep (Sta.keep (Sta.keep P0 K178 ns0) K180 ns0) K181 (nsS (Av.plain A180) ns0)) K182 (nsS (Av.plain A181) ns0)) K183 (nsS (Av.plain A182) ns0)) K184 (nsS (Av.plain A183) ns0))
  refine k_callI0 W 1 3 12 (argsL := [(.ref a180)]) (rest := [(.ref a178)]) (a := a178) d_method_5_111 rfl rfl (w12 hw) (w13 hw) (by decide) (lenOf pd19 rfl) (ct_sinit l Z a0 hw n0 h184 a178 a180 [c0, c1, c2, c3] 4 zc .null (.int (0 : Int32)) f185 f187 f188 A184 f189 hzc (rgS r0 (rgS r1 (rgS r2 (rgS r3 (fun _ q => nomatch q))))) (Nat.le_of_ble_eq_true rfl) (Nat.le_of_ble_eq_true rfl) (by decide)) (w14 hw) (w10 hw) (fun x hx => by simp only [List.mem_cons, List.not_mem_nil, or_false] at hx; rcases hx with rfl; all_goals first | exact (List.mem_of_getElem? (i := 1) rfl)) rfl (Nat.le_of_eq rfl) (Nat.le_of_ble_eq_true rfl) (Nat.le_of_ble_eq_true rfl) ⟨rfl, Nat.le_of_ble_eq_true rfl⟩ ⟨rfl, Nat.le_of_ble_eq_true rfl⟩ rfl (fun _ _ _ q => nomatch q.1) fun T h190 so W hQ => ?_
  obtain ⟨-, b190, g190, K190, S190⟩ := hQ
  have S190 : St Z h190 a178 b190 [(i2b c0), (i2b c1), (i2b c2), (i2b c3)] := S190
  have KK191 : Keep h0 h177 [] := (Keep.refl h0 []).trans K178 all0
  have KK192 : Keep h0 h179 [] := KK191.trans K180 all0
  have KK193 : Keep h0 h181 [] := KK192.trans K181 (allS (Or.inr (Nat.le_trans E178.1 (Nat.le_of_eq g180.symm))) all0)
  have KK194 : Keep h0 h182 [] := KK193.trans K182 (allS (Or.inr (Nat.le_trans E178.1 (Nat.le_of_eq g180.symm))) all0)
  have KK195 : Keep h0 h183 [] := KK194.trans K183 (allS (Or.inr (Nat.le_trans E178.1 (Nat.le_of_eq g180.symm))) all0)
  have KK196 : Keep h0 h184 [] := KK195.trans K184 (allS (Or.inr (Nat.le_trans E178.1 (Nat.le_of_eq g180.symm))) all0)
  have KK197 : Keep h0 h190 [] := KK196.trans K190 (allS (Or.inr (Nat.le_of_eq g178.symm)) all0)
  exact k_areturn W d_method_5_114 rfl rfl rfl [] (fun x hx => nomatch hx) (Nat.le_of_ble_eq_true rfl) (Nat.le_of_ble_eq_true rfl) ⟨_, _, rfl, (Nat.le_of_eq g178.symm), KK197, S190⟩
set_option maxRecDepth 65536 in
set_option maxHeartbeats 40000000 in
theorem ct_rec (l : Launch) (Z : State) (a0 : Array Value) (hw : ∀ d ∈ tables_1, d.before a0 Z = true) (n0 : Nat) (h0 : Heap) (x : Addr) : Ct l Z a0 own_EL false (⟨"java/lang/Record", "<init>", "()V"⟩ : MethodName) jdk_30_method_1_code 1 (Option.none : Option Jvm.ClassFile.FieldType) ({ frames := 1, cells := 0, slots := 0, locals := 12 } : Room) #[(.ref x)] h0 [] n0 (fun v h so => v = none ∧ h0 = h ∧ so = []) := by
  refine Ct.body (plainFor_of_name pn6) ?_
  intro p e s m below meth c T W
  refine WP.cast (g' := (mkF m 0 #[.val (.ref x)] [])) (by simp [entryFrame, mkF, argsToLocals, cat_i, cat_l, cat_r, cat_n]) ?_
  refine k_aloadN W d_jdk_30_1_0 rfl rfl ?_
  refine k_initO W 0 d_jdk_30_1_1 (w139 hw) (w20 hw) (w21 hw) rfl (Nat.le_of_eq rfl) (Nat.le_of_ble_eq_true rfl) (Nat.le_of_ble_eq_true rfl) fun T W => ?_
  exact k_ret W d_jdk_30_1_4 rfl [] (fun x hx => nomatch hx) (Nat.le_of_ble_eq_true rfl) (Nat.le_of_ble_eq_true rfl) ⟨rfl, rfl, rfl⟩
set_option maxRecDepth 65536 in
set_option maxHeartbeats 40000000 in
theorem ct_rinit (l : Launch) (Z : State) (a0 : Array Value) (hw : ∀ d ∈ tables_1, d.before a0 Z = true) (n0 : Nat) (h0 : Heap) (x q1 q2 : Addr) (E0 : Exa Z h0 x "com/example/kourier/kourier/rabbitmq/Route") (F0 : Fld Z h0 x "com/example/kourier/kourier/rabbitmq/Route" "exchange" "Ljava/lang/String;" .null) (F1 : Fld Z h0 x "com/example/kourier/kourier/rabbitmq/Route" "routingKey" "Ljava/lang/String;" .null) : Ct l Z a0 own_EL false (⟨"com/example/kourier/kourier/rabbitmq/Route", "<init>", "(Ljava/lang/String;Ljava/lang/String;)V"⟩ : MethodName) prog_16_method_1_code 3 (Option.none : Option Jvm.ClassFile.FieldType) ({ frames := 2, cells := 0, slots := 0, locals := 24 } : Room) #[(.ref x), (.ref q1), (.ref q2)] h0 [x] n0 (fun v h so => v = none ∧ Keep h0 h [x] ∧ Fld Z h x "com/example/kourier/kourier/rabbitmq/Route" "exchange" "Ljava/lang/String;" (.ref q1) ∧ Fld Z h x "com/example/kourier/kourier/rabbitmq/Route" "routingKey" "Ljava/lang/String;" (.ref q2)) := by
  refine Ct.body (plainFor_of_name pn7) ?_
  intro p e s m below meth c T W
  refine WP.cast (g' := (mkF m 0 #[.val (.ref x), .val (.ref q1), .val (.ref q2)] [])) (by simp [entryFrame, mkF, argsToLocals, cat_i, cat_l, cat_r, cat_n]) ?_
  refine k_aloadN W d_prog_16_1_0 rfl rfl ?_
  refine k_callI0 W 0 0 0 (argsL := []) (rest := []) (a := x) d_prog_16_1_1 rfl rfl (w134 hw) (w135 hw) (by decide) (lenOf pd20 rfl) (ct_rec l Z a0 hw n0 h0 x) (w138 hw) (w137 hw) (fun x hx => nomatch hx) rfl (Nat.le_of_eq rfl) (Nat.le_of_ble_eq_true rfl) (Nat.le_of_ble_eq_true rfl) ⟨rfl, Nat.le_of_ble_eq_true rfl⟩ ⟨rfl, Nat.le_of_ble_eq_true rfl⟩ rfl (fun _ _ _ q => nomatch q.1) fun T h198 so W hQ => ?_
  obtain ⟨-, rfl, -⟩ := hQ
  refine k_aloadN W d_prog_16_1_4 rfl rfl ?_
  refine k_aloadN W d_prog_16_1_5 rfl rfl ?_
  refine k_putF W d_prog_16_1_6 (w140 hw) Via.refl (v' := (.ref q1)) (List.mem_of_getElem? (i := 0) rfl) F0 E0 (Or.inr ⟨(w141 hw), rfl, rfl⟩) (w88 hw) (ty := (.object "java/lang/String")) (by decide) rfl rfl fun T h199 W Wr199 => ?_
  have K199 : Keep h0 h199 [x] := Keep.of_wr Wr199
  refine k_aloadN W d_prog_16_1_9 rfl rfl ?_
  refine k_aloadN W d_prog_16_1_10 rfl rfl ?_
  have f200 := (F1.other Wr199 (Or.inr (slot_ne (Or.inr (w143 hw)) (Or.inr (w141 hw)) (by decide) (t := (.object "java/lang/String")) (t' := (.object "java/lang/String")) (by decide) (by decide))))
  have f201 := (E0.keep K199)
  refine k_putF W d_prog_16_1_11 (w142 hw) Via.refl (v' := (.ref q2)) (List.mem_of_getElem? (i := 0) rfl) f200 f201 (Or.inr ⟨(w143 hw), rfl, rfl⟩) (w88 hw) (ty := (.object "java/lang/String")) (by decide) rfl rfl fun T h202 W Wr202 => ?_
  have K202 : Keep h199 h202 [x] := Keep.of_wr Wr202
  have KK203 : Keep h0 h199 [x] := (Keep.refl h0 [x]).trans K199 (allS (Or.inl (List.mem_of_getElem? (i := 0) rfl)) all0)
  have KK204 : Keep h0 h202 [x] := KK203.trans K202 (allS (Or.inl (List.mem_of_getElem? (i := 0) rfl)) all0)
  have f205 := ((Fld.same Wr199 F0).other Wr202 (Or.inr (slot_ne (Or.inr (w141 hw)) (Or.inr (w143 hw)) (by decide) (t := (.object "java/lang/String")) (t' := (.object "java/lang/String")) (by decide) (by decide))))
  exact k_ret W d_prog_16_1_14 rfl [] (fun x hx => nomatch hx) (Nat.le_of_ble_eq_true rfl) (Nat.le_of_ble_eq_true rfl) ⟨rfl, KK204, f205, (Fld.same Wr202 f200)⟩
set_option maxRecDepth 65536 in
set_option maxHeartbeats 40000000 in
theorem ct_exchange (l : Launch) (Z : State) (a0 : Array Value) (hw : ∀ d ∈ tables_1, d.before a0 Z = true) (n0 : Nat) (h0 : Heap) (x q : Addr) (F0 : Fld Z h0 x "com/example/kourier/kourier/rabbitmq/Route" "exchange" "Ljava/lang/String;" (.ref q)) : Ct l Z a0 own_EL false (⟨"com/example/kourier/kourier/rabbitmq/Route", "exchange", "()Ljava/lang/String;"⟩ : MethodName) prog_16_method_6_code 1 (Option.some (Jvm.ClassFile.FieldType.object "java/lang/String")) ({ frames := 0, cells := 0, slots := 0, locals := 0 } : Room) #[(.ref x)] h0 [] n0 (fun v h so => v = some (.ref q) ∧ h0 = h ∧ so = []) := by
  refine Ct.body (plainFor_of_name pn7) ?_
  intro p e s m below meth c T W
  refine WP.cast (g' := (mkF m 0 #[.val (.ref x)] [])) (by simp [entryFrame, mkF, argsToLocals, cat_i, cat_l, cat_r, cat_n]) ?_
  refine k_aloadN W d_prog_16_6_0 rfl rfl ?_
  refine k_getF W d_prog_16_6_1 (host := "") (Or.inl (w140 hw)) Via.refl F0 fun T W => ?_
  exact k_areturn W d_prog_16_6_4 rfl rfl rfl [] (fun x hx => nomatch hx) (Nat.le_of_ble_eq_true rfl) (Nat.le_of_ble_eq_true rfl) ⟨rfl, rfl, rfl⟩
set_option maxRecDepth 65536 in
set_option maxHeartbeats 40000000 in
theorem ct_routingKey (l : Launch) (Z : State) (a0 : Array Value) (hw : ∀ d ∈ tables_1, d.before a0 Z = true) (n0 : Nat) (h0 : Heap) (x q : Addr) (F0 : Fld Z h0 x "com/example/kourier/kourier/rabbitmq/Route" "routingKey" "Ljava/lang/String;" (.ref q)) : Ct l Z a0 own_EL false (⟨"com/example/kourier/kourier/rabbitmq/Route", "routingKey", "()Ljava/lang/String;"⟩ : MethodName) prog_16_method_7_code 1 (Option.some (Jvm.ClassFile.FieldType.object "java/lang/String")) ({ frames := 0, cells := 0, slots := 0, locals := 0 } : Room) #[(.ref x)] h0 [] n0 (fun v h so => v = some (.ref q) ∧ h0 = h ∧ so = []) := by
  refine Ct.body (plainFor_of_name pn7) ?_
  intro p e s m below meth c T W
  refine WP.cast (g' := (mkF m 0 #[.val (.ref x)] [])) (by simp [entryFrame, mkF, argsToLocals, cat_i, cat_l, cat_r, cat_n]) ?_
  refine k_aloadN W d_prog_16_7_0 rfl rfl ?_
  refine k_getF W d_prog_16_7_1 (host := "") (Or.inl (w142 hw)) Via.refl F0 fun T W => ?_
  exact k_areturn W d_prog_16_7_4 rfl rfl rfl [] (fun x hx => nomatch hx) (Nat.le_of_ble_eq_true rfl) (Nat.le_of_ble_eq_true rfl) ⟨rfl, rfl, rfl⟩
set_option maxRecDepth 65536 in
set_option maxHeartbeats 40000000 in
theorem ct_parseY (l : Launch) (Z : State) (a0 : Array Value) (hw : ∀ d ∈ tables_1, d.before a0 Z = true) (n0 : Nat) (h0 : Heap) (x b : Addr) (bs : List Int32) (zc : Int32) (sio : Value) (j : Nat) (hj : bs[j]? = some (47 : Int32)) (hn : ∀ z ∈ bs.take j, z ≠ (47 : Int32)) (h4 : bs.length ≤ 4) (S0 : St Z h0 x b bs) (P0 : Sta Z h0 "java/lang/String" "COMPACT_STRINGS" "Z" (.int zc)) (hzc : zc ≠ 0) (G0 : Sta Z h0 "jdk/internal/util/Preconditions" "SIOOBE_FORMATTER" "Ljava/util/function/BiFunction;" sio) (hsio : sio.isRef = true) : Ct l Z a0 own_EL false (⟨"com/example/kourier/kourier/rabbitmq/Route", "parse", "(Ljava/lang/String;)Lcom/example/kourier/kourier/rabbitmq/Route;"⟩ : MethodName) prog_16_method_2_code 2 (Option.some (Jvm.ClassFile.FieldType.object "com/example/kourier/kourier/rabbitmq/Route")) ({ frames := 6, cells := 5, slots := 18, locals := 96 } : Room) #[(.ref x)] h0 [] n0 (fun v h so => ∃ r x1 b1 x2 b2, v = some (.ref r) ∧ Keep h0 h [] ∧ Exa Z h r "com/example/kourier/kourier/rabbitmq/Route" ∧ Fld Z h r "com/example/kourier/kourier/rabbitmq/Route" "exchange" "Ljava/lang/String;" (.ref x1) ∧ Fld Z h r "com/example/kourier/kourier/rabbitmq/Route" "routingKey" "Ljava/lang/String;" (.ref x2) ∧ St Z h x1 b1 (bs.take j) ∧ St Z h x2 b2 (bs.drop (j + 1))) := by
  refine Ct.body (plainFor_of_name pn7) ?_
  intro p e s m below meth c T W
  refine WP.cast (g' := (mkF m 0 #[.val (.ref x), .unset] [])) (by simp [entryFrame, mkF, argsToLocals, cat_i, cat_l, cat_r, cat_n]) ?_
  have hjl : j < bs.length := (List.getElem?_eq_some_iff.mp hj).1
  refine k_aloadN W d_prog_16_2_0 rfl rfl ?_
  refine k_bipush W d_prog_16_2_1 (z := (47 : Int32)) rfl ?_
  refine k_callV W 0 0 0 (argsL := [(.int (47 : Int32))]) (rest := []) (a := x) (C := "java/lang/String") (z0 := (⟨"java/lang/String", "indexOf", "(I)I"⟩ : MethodName)) (z := (⟨"java/lang/String", "indexOf", "(I)I"⟩ : MethodName)) d_prog_16_2_3 (w34 hw) (w35 hw) (nfSel (w37 hw)) (w37 hw) (w36 hw) (by decide) (lenOf pd21 rfl) S0.1 (ct_sidxY l Z a0 hw n0 h0 x b bs zc j hj hn S0 P0 hzc) (w38 hw) (w10 hw) (fun x hx => hx) rfl (Nat.le_of_eq rfl) (Nat.le_of_ble_eq_true rfl) (Nat.le_of_ble_eq_true rfl) ⟨rfl, Nat.le_of_ble_eq_true rfl⟩ ⟨rfl, Nat.le_of_ble_eq_true rfl⟩ rfl (fun _ _ q => nomatch q.1) fun T h206 v so W hQ => ?_
  obtain ⟨hv, rfl, -⟩ := hQ
  obtain rfl := Option.some.inj hv
  refine k_istoreN W d_prog_16_2_6 (L' := #[.val (.ref x), .val (.int (Int32.ofNat j))]) rfl ?_
  refine k_iloadN W d_prog_16_2_7 rfl ?_
  refine k_ifY W 13 d_prog_16_2_8 (by decide) (show ¬ (Int32.ofNat j) < 0 from (ix_of (by omega)).1) ?_
  refine k_new W 1 2 d_prog_16_2_13 (w87 hw) (w88 hw) (w32 hw) ⟨rfl, Nat.le_of_ble_eq_true rfl⟩ ⟨rfl, Nat.le_of_ble_eq_true rfl⟩ fun T h207 a208 g208 W E208 X208 D208 => ?_
  have K208 : Keep h0 h207 [] := keep_ext E208 []
  refine k_dup W d_prog_16_2_16 rfl ?_
  refine k_aloadN W d_prog_16_2_17 rfl rfl ?_
  refine k_iconst W d_prog_16_2_18 (z := (0 : Int32)) rfl ?_
  refine k_iloadN W d_prog_16_2_19 rfl ?_
  have f209 := (S0.keep K208 nin0 nin0)
  have f211 := (Sta.keep G0 K208 ns0)
  have f212 := (Sta.keep P0 K208 ns0)
  refine k_callV W 2 3 10 (argsL := [(.int (0 : Int32)), (.int (Int32.ofNat j))]) (rest := [(.ref a208), (.ref a208)]) (a := x) (C := "java/lang/String") (z0 := (⟨"java/lang/String", "substring", "(II)Ljava/lang/String;"⟩ : MethodName)) (z := (⟨"java/lang/String", "substring", "(II)Ljava/lang/String;"⟩ : MethodName)) d_prog_16_2_20 (w89 hw) (w90 hw) (nfSel (w92 hw)) (w92 hw) (w91 hw) (by decide) (lenOf pd16 rfl) f209.1 (ct_sub2 l Z a0 hw n0 h207 x b bs zc 0 j 4 sio (Nat.zero_le _) (Nat.le_of_lt hjl) (by omega) (by decide) (Or.inr (by omega)) f209 f212 hzc f211 hsio) (w93 hw) (w10 hw) (fun x hx => nomatch hx) rfl (Nat.le_of_eq rfl) (Nat.le_of_ble_eq_true rfl) (Nat.le_of_ble_eq_true rfl) ⟨rfl, Nat.le_of_ble_eq_true rfl⟩ ⟨rfl, Nat.le_of_ble_eq_true rfl⟩ rfl (fun _ _ ⟨_, _, q, _⟩ => nomatch q) fun T h210 v so W hQ => ?_
  obtain ⟨x210, b210, hv, K210, S210⟩ := hQ
  obtain rfl := Option.some.inj hv
  have S210 : St Z h210 x210 b210 (bs.take j) := S210
  refine k_aloadN W d_prog_16_2_23 rfl rfl ?_
  refine k_iloadN W d_prog_16_2_24 rfl ?_
  refine k_iconst W d_prog_16_2_25 (z := (1 : Int32)) rfl ?_
  refine k_iadd W d_prog_16_2_26 (z := (Int32.ofNat (j + 1))) (of_addn j 1) ?_
  have f213 := (f209.keep K210 nin0 nin0)
  have f215 := (Sta.keep f211 K210 ns0)
  have f216 := (Sta.keep f212 K210 ns0)
  refine k_callV W 3 5 18 (argsL := [(.int (Int32.ofNat (j + 1)))]) (rest := [(.ref x210), (.ref a208), (.ref a208)]) (a := x) (C := "java/lang/String") (z0 := (⟨"java/lang/String", "substring", "(I)Ljava/lang/String;"⟩ : MethodName)) (z := (⟨"java/lang/String", "substring", "(I)Ljava/lang/String;"⟩ : MethodName)) d_prog_16_2_27 (w106 hw) (w107 hw) (nfSel (w109 hw)) (w109 hw) (w108 hw) (by decide) (lenOf pd22 rfl) f213.1 (ct_sub1 l Z a0 hw n0 h210 x b bs zc (j + 1) 4 sio (by omega) (by omega) (by decide) (by omega) f213 f216 hzc f215 hsio) (w110 hw) (w10 hw) (fun x hx => nomatch hx) rfl (Nat.le_of_eq rfl) (Nat.le_of_ble_eq_true rfl) (Nat.le_of_ble_eq_true rfl) ⟨rfl, Nat.le_of_ble_eq_true rfl⟩ ⟨rfl, Nat.le_of_ble_eq_true rfl⟩ rfl (fun _ _ ⟨_, _, q, _⟩ => nomatch q) fun T h214 v so W hQ => ?_
  obtain ⟨x214, b214, hv, K214, S214⟩ := hQ
  obtain rfl := Option.some.inj hv
  have S214 : St Z h214 x214 b214 (bs.drop (j + 1)) := S214
  have f218 := ((X208.keep K210).keep K214)
  have f219 := (((D208 (Or.inr (w141 hw)) (ty := (.object "java/lang/String")) (by decide)).keep K210 nin0).keep K214 nin0)
  have f220 := (((D208 (Or.inr (w143 hw)) (ty := (.object "java/lang/String")) (by decide)).keep K210 nin0).keep K214 nin0)
  refine k_callI0 W 1 5 18 (argsL := [(.ref x210), (.ref x214)]) (rest := [(.ref a208)]) (a := a208) d_prog_16_2_30 rfl rfl (w131 hw) (w132 hw) (by decide) (lenOf pd23 rfl) (ct_rinit l Z a0 hw n0 h214 a208 x210 x214 f218 f219 f220) (w133 hw) (w32 hw) (fun x hx => hx) rfl (Nat.le_of_eq rfl) (Nat.le_of_ble_eq_true rfl) (Nat.le_of_ble_eq_true rfl) ⟨rfl, Nat.le_of_ble_eq_true rfl⟩ ⟨rfl, Nat.le_of_ble_eq_true rfl⟩ rfl (fun _ _ _ q => nomatch q.1) fun T h217 so W hQ => ?_
  obtain ⟨-, K217, A217, B217⟩ := hQ
  have KK221 : Keep h0 h207 [] := (Keep.refl h0 []).trans K208 all0
  have KK222 : Keep h0 h210 [] := KK221.trans K210 all0
  have KK223 : Keep h0 h214 [] := KK222.trans K214 all0
  have KK224 : Keep h0 h217 [] := KK223.trans K217 (allS (Or.inr (Nat.le_of_eq g208.symm)) all0)
  have f225 := (f218.keep K217)
  have ne226 : x210 ≠ a208 := (ne_exa ((S210.1.keep K214).keep K217) f225 (by decide))
  have ne227 : b210 ≠ a208 := (Ne.symm (ne_exav (X208.keep K210) (w88 hw) S210.2.2.2))
  have f228 := ((S210.keep K214 nin0 nin0).keep K217 (ninS ne226 nin0) (ninS ne227 nin0))
  have ne229 : x214 ≠ a208 := (ne_exa (S214.1.keep K217) f225 (by decide))
  have ne230 : b214 ≠ a208 := (Ne.symm (ne_exav f218 (w88 hw) S214.2.2.2))
  have f231 := (S214.keep K217 (ninS ne229 nin0) (ninS ne230 nin0))
  exact k_areturn W d_prog_16_2_33 rfl rfl rfl [] (fun x hx => nomatch hx) (Nat.le_of_ble_eq_true rfl) (Nat.le_of_ble_eq_true rfl) ⟨_, _, _, _, _, rfl, KK224, f225, A217, B217, f228, f231⟩
set_option maxRecDepth 65536 in
set_option maxHeartbeats 40000000 in
theorem ct_parseN (l : Launch) (Z : State) (a0 : Array Value) (hw : ∀ d ∈ tables_1, d.before a0 Z = true) (n0 : Nat) (h0 : Heap) (x b : Addr) (bs : List Int32) (zc : Int32) (hn : ∀ z ∈ bs, z ≠ (47 : Int32)) (S0 : St Z h0 x b bs) (P0 : Sta Z h0 "java/lang/String" "COMPACT_STRINGS" "Z" (.int zc)) (hzc : zc ≠ 0) : Ct l Z a0 own_EL false (⟨"com/example/kourier/kourier/rabbitmq/Route", "parse", "(Ljava/lang/String;)Lcom/example/kourier/kourier/rabbitmq/Route;"⟩ : MethodName) prog_16_method_2_code 2 (Option.some (Jvm.ClassFile.FieldType.object "com/example/kourier/kourier/rabbitmq/Route")) ({ frames := 4, cells := 0, slots := 0, locals := 59 } : Room) #[(.ref x)] h0 [] n0 (fun v h so => v = some .null ∧ h0 = h ∧ so = []) := by
  refine Ct.body (plainFor_of_name pn7) ?_
  intro p e s m below meth c T W
  refine WP.cast (g' := (mkF m 0 #[.val (.ref x), .unset] [])) (by simp [entryFrame, mkF, argsToLocals, cat_i, cat_l, cat_r, cat_n]) ?_
  refine k_aloadN W d_prog_16_2_0 rfl rfl ?_
  refine k_bipush W d_prog_16_2_1 (z := (47 : Int32)) rfl ?_
  refine k_callV W 0 0 0 (argsL := [(.int (47 : Int32))]) (rest := []) (a := x) (C := "java/lang/String") (z0 := (⟨"java/lang/String", "indexOf", "(I)I"⟩ : MethodName)) (z := (⟨"java/lang/String", "indexOf", "(I)I"⟩ : MethodName)) d_prog_16_2_3 (w34 hw) (w35 hw) (nfSel (w37 hw)) (w37 hw) (w36 hw) (by decide) (lenOf pd21 rfl) S0.1 (ct_sidxN l Z a0 hw n0 h0 x b bs zc hn S0 P0 hzc) (w38 hw) (w10 hw) (fun x hx => hx) rfl (Nat.le_of_eq rfl) (Nat.le_of_ble_eq_true rfl) (Nat.le_of_ble_eq_true rfl) ⟨rfl, Nat.le_of_ble_eq_true rfl⟩ ⟨rfl, Nat.le_of_ble_eq_true rfl⟩ rfl (fun _ _ q => nomatch q.1) fun T h232 v so W hQ => ?_
  obtain ⟨hv, rfl, -⟩ := hQ
  obtain rfl := Option.some.inj hv
  refine k_istoreN W d_prog_16_2_6 (L' := #[.val (.ref x), .val (.int (-1 : Int32))]) rfl ?_
  refine k_iloadN W d_prog_16_2_7 rfl ?_
  refine k_ifN W d_prog_16_2_8 (show ¬ (¬ (-1 : Int32) < 0) by decide) ?_
  refine k_aconst W d_prog_16_2_11 ?_
  exact k_areturn W d_prog_16_2_12 rfl rfl rfl [] (fun x hx => nomatch hx) (Nat.le_of_ble_eq_true rfl) (Nat.le_of_ble_eq_true rfl) ⟨rfl, rfl, rfl⟩
set_option maxRecDepth 65536 in
set_option maxHeartbeats 40000000 in
theorem ct_atA (l : Launch) (Z : State) (a0 : Array Value) (hw : ∀ d ∈ tables_1, d.before a0 Z = true) (n0 : Nat) (h0 : Heap) (x y : Addr) (ii nn kk ch : Int32) (hq : ¬ kk < nn ∨ kk = ii) : Ct l Z a0 own_EL false (⟨"com/example/kourier/kourier/rabbitmq/RouteParsePinLaw", "at", "(Ljava/lang/String;Ljava/lang/String;IIIC)Z"⟩ : MethodName) method_3_code 6 (Option.some Jvm.ClassFile.FieldType.boolean) ({ frames := 0, cells := 0, slots := 0, locals := 0 } : Room) #[(.ref x), (.ref y), (.int ii), (.int nn), (.int kk), (.int ch)] h0 [] n0 (fun v h so => v = some (.int (1 : Int32)) ∧ h0 = h ∧ so = []) := by
  refine Ct.body (plainFor_of_name pn5) ?_
  intro p e s m below meth c T W
  refine WP.cast (g' := (mkF m 0 #[.val (.ref x), .val (.ref y), .val (.int ii), .val (.int nn), .val (.int kk), .val (.int ch)] [])) (by simp [entryFrame, mkF, argsToLocals, cat_i, cat_l, cat_r, cat_n]) ?_
  refine k_iload W d_method_3_0 rfl ?_
  refine k_iloadN W d_method_3_2 rfl ?_
  refine k_ic W 12 d_method_3_3 (by decide) (fun (hc233 : ¬ kk < nn) => ?_) (fun (hc233 : ¬ (¬ kk < nn)) => ?_)
  · --
    refine k_iconst W d_method_3_12 (z := (1 : Int32)) rfl ?_
    exact k_retN W (t := .boolean) (z' := (1 : Int32)) d_method_3_13 rfl (by simp) (by decide) [] (fun x hx => nomatch hx) (Nat.le_of_ble_eq_true rfl) (Nat.le_of_ble_eq_true rfl) ⟨rfl, rfl, rfl⟩
  · --
    have hki : kk = ii := hq.resolve_left hc233
    refine k_iload W d_method_3_6 rfl ?_
    refine k_iloadN W d_method_3_8 rfl ?_
    refine k_icN W d_method_3_9 (show ¬ (¬ kk = ii) from (fun q => q hki)) ?_
    refine k_iconst W d_method_3_12 (z := (1 : Int32)) rfl ?_
    exact k_retN W (t := .boolean) (z' := (1 : Int32)) d_method_3_13 rfl (by simp) (by decide) [] (fun x hx => nomatch hx) (Nat.le_of_ble_eq_true rfl) (Nat.le_of_ble_eq_true rfl) ⟨rfl, rfl, rfl⟩
set_option maxRecDepth 65536 in
set_option maxHeartbeats 40000000 in
theorem ct_atB (l : Launch) (Z : State) (a0 : Array Value) (hw : ∀ d ∈ tables_1, d.before a0 Z = true) (n0 : Nat) (h0 : Heap) (x y : Addr) (ii nn kk ch : Int32) (bx : Addr) (bs : List Int32) (zc : Int32) (sio : Value) (i : Nat) (hkn : kk < nn) (hki : ¬ kk = ii) (hlt : kk < ii) (hi : kk = Int32.ofNat i) (hb : bs[i]? = some (i2b ch)) (hr : Rg ch 256) (S0 : St Z h0 x bx bs) (P0 : Sta Z h0 "java/lang/String" "COMPACT_STRINGS" "Z" (.int zc)) (hzc : zc ≠ 0) (G0 : Sta Z h0 "jdk/internal/util/Preconditions" "SIOOBE_FORMATTER" "Ljava/util/function/BiFunction;" sio) (hsio : sio.isRef = true) : Ct l Z a0 own_EL false (⟨"com/example/kourier/kourier/rabbitmq/RouteParsePinLaw", "at", "(Ljava/lang/String;Ljava/lang/String;IIIC)Z"⟩ : MethodName) method_3_code 6 (Option.some Jvm.ClassFile.FieldType.boolean) ({ frames := 4, cells := 0, slots := 0, locals := 53 } : Room) #[(.ref x), (.ref y), (.int ii), (.int nn), (.int kk), (.int ch)] h0 [] n0 (fun v h so => v = some (.int (1 : Int32)) ∧ h0 = h ∧ so = []) := by
  refine Ct.body (plainFor_of_name pn5) ?_
  intro p e s m below meth c T W
  refine WP.cast (g' := (mkF m 0 #[.val (.ref x), .val (.ref y), .val (.int ii), .val (.int nn), .val (.int kk), .val (.int ch)] [])) (by simp [entryFrame, mkF, argsToLocals, cat_i, cat_l, cat_r, cat_n]) ?_
  refine k_iload W d_method_3_0 rfl ?_
  refine k_iloadN W d_method_3_2 rfl ?_
  refine k_icN W d_method_3_3 (show ¬ (¬ kk < nn) from (fun q => q hkn)) ?_
  refine k_iload W d_method_3_6 rfl ?_
  refine k_iloadN W d_method_3_8 rfl ?_
  refine k_icY W 14 d_method_3_9 (by decide) (show ¬ kk = ii from hki) ?_
  refine k_iload W d_method_3_14 rfl ?_
  refine k_iloadN W d_method_3_16 rfl ?_
  refine k_icN W d_method_3_17 (show ¬ (¬ kk < ii) from (fun q => q hlt)) ?_
  refine k_aloadN W d_method_3_20 rfl rfl ?_
  refine k_iload W d_method_3_21 rfl ?_
  refine WP.cast (g' := (mkF m 23 #[.val (.ref x), .val (.ref y), .val (.int ii), .val (.int nn), .val (.int kk), .val (.int ch)] [(.int (Int32.ofNat i)), (.ref x)])) (by rw [hi]) ?_
  refine k_callV W 0 0 0 (argsL := [(.int (Int32.ofNat i))]) (rest := []) (a := x) (C := "java/lang/String") (z0 := (⟨"java/lang/String", "charAt", "(I)C"⟩ : MethodName)) (z := (⟨"java/lang/String", "charAt", "(I)C"⟩ : MethodName)) d_method_3_23 (w158 hw) (w159 hw) (nfSel (w161 hw)) (w161 hw) (w160 hw) (by decide) (lenOf pd24 rfl) S0.1 (ct_char l Z a0 hw n0 h0 x bx bs zc i (i2b ch) ch sio hb (lo_i2b hr) S0 P0 hzc G0 hsio) (w162 hw) (w10 hw) (fun x hx => hx) rfl (Nat.le_of_eq rfl) (Nat.le_of_ble_eq_true rfl) (Nat.le_of_ble_eq_true rfl) ⟨rfl, Nat.le_of_ble_eq_true rfl⟩ ⟨rfl, Nat.le_of_ble_eq_true rfl⟩ rfl (fun _ _ q => nomatch q.1) fun T h234 v so W hQ => ?_
  obtain ⟨hv, rfl, -⟩ := hQ
  obtain rfl := Option.some.inj hv
  refine k_iload W d_method_3_26 rfl ?_
  refine k_icN W d_method_3_28 (show ¬ (¬ ch = ch) from (fun q => q rfl)) ?_
  refine k_iconst W d_method_3_31 (z := (1 : Int32)) rfl ?_
  refine k_goto W 36 d_method_3_32 (by decide) ?_
  exact k_retN W (t := .boolean) (z' := (1 : Int32)) d_method_3_36 rfl (by simp) (by decide) [] (fun x hx => nomatch hx) (Nat.le_of_ble_eq_true rfl) (Nat.le_of_ble_eq_true rfl) ⟨rfl, rfl, rfl⟩
set_option maxRecDepth 65536 in
set_option maxHeartbeats 40000000 in
theorem ct_atC (l : Launch) (Z : State) (a0 : Array Value) (hw : ∀ d ∈ tables_1, d.before a0 Z = true) (n0 : Nat) (h0 : Heap) (x y : Addr) (ii nn kk ch : Int32) (bx : Addr) (bs : List Int32) (zc : Int32) (sio : Value) (i : Nat) (hkn : kk < nn) (hki : ¬ kk = ii) (hlt : ¬ kk < ii) (hi : ((kk - ii) - (1 : Int32)) = Int32.ofNat i) (hb : bs[i]? = some (i2b ch)) (hr : Rg ch 256) (S0 : St Z h0 y bx bs) (P0 : Sta Z h0 "java/lang/String" "COMPACT_STRINGS" "Z" (.int zc)) (hzc : zc ≠ 0) (G0 : Sta Z h0 "jdk/internal/util/Preconditions" "SIOOBE_FORMATTER" "Ljava/util/function/BiFunction;" sio) (hsio : sio.isRef = true) : Ct l Z a0 own_EL false (⟨"com/example/kourier/kourier/rabbitmq/RouteParsePinLaw", "at", "(Ljava/lang/String;Ljava/lang/String;IIIC)Z"⟩ : MethodName) method_3_code 6 (Option.some Jvm.ClassFile.FieldType.boolean) ({ frames := 4, cells := 0, slots := 0, locals := 53 } : Room) #[(.ref x), (.ref y), (.int ii), (.int nn), (.int kk), (.int ch)] h0 [] n0 (fun v h so => v = some (.int (1 : Int32)) ∧ h0 = h ∧ so = []) := by
  refine Ct.body (plainFor_of_name pn5) ?_
  intro p e s m below meth c T W
  refine WP.cast (g' := (mkF m 0 #[.val (.ref x), .val (.ref y), .val (.int ii), .val (.int nn), .val (.int kk), .val (.int ch)] [])) (by simp [entryFrame, mkF, argsToLocals, cat_i, cat_l, cat_r, cat_n]) ?_
  refine k_iload W d_method_3_0 rfl ?_
  refine k_iloadN W d_method_3_2 rfl ?_
  refine k_icN W d_method_3_3 (show ¬ (¬ kk < nn) from (fun q => q hkn)) ?_
  refine k_iload W d_method_3_6 rfl ?_
  refine k_iloadN W d_method_3_8 rfl ?_
  refine k_icY W 14 d_method_3_9 (by decide) (show ¬ kk = ii from hki) ?_
  refine k_iload W d_method_3_14 rfl ?_
  refine k_iloadN W d_method_3_16 rfl ?_
  refine k_icY W 37 d_method_3_17 (by decide) (show ¬ kk < ii from hlt) ?_
  refine k_aloadN W d_method_3_37 rfl rfl ?_
  refine k_iload W d_method_3_38 rfl ?_
  refine k_iloadN W d_method_3_40 rfl ?_
  refine k_isub W d_method_3_41 (z := (kk - ii)) rfl ?_
  refine k_iconst W d_method_3_42 (z := (1 : Int32)) rfl ?_
  refine k_isub W d_method_3_43 (z := ((kk - ii) - (1 : Int32))) rfl ?_
  refine WP.cast (g' := (mkF m 44 #[.val (.ref x), .val (.ref y), .val (.int ii), .val (.int nn), .val (.int kk), .val (.int ch)] [(.int (Int32.ofNat i)), (.ref y)])) (by rw [hi]) ?_
  refine k_callV W 0 0 0 (argsL := [(.int (Int32.ofNat i))]) (rest := []) (a := y) (C := "java/lang/String") (z0 := (⟨"java/lang/String", "charAt", "(I)C"⟩ : MethodName)) (z := (⟨"java/lang/String", "charAt", "(I)C"⟩ : MethodName)) d_method_3_44 (w158 hw) (w159 hw) (nfSel (w161 hw)) (w161 hw) (w160 hw) (by decide) (lenOf pd24 rfl) S0.1 (ct_char l Z a0 hw n0 h0 y bx bs zc i (i2b ch) ch sio hb (lo_i2b hr) S0 P0 hzc G0 hsio) (w162 hw) (w10 hw) (fun x hx => hx) rfl (Nat.le_of_eq rfl) (Nat.le_of_ble_eq_true rfl) (Nat.le_of_ble_eq_true rfl) ⟨rfl, Nat.le_of_ble_eq_true rfl⟩ ⟨rfl, Nat.le_of_ble_eq_true rfl⟩ rfl (fun _ _ q => nomatch q.1) fun T h235 v so W hQ => ?_
  obtain ⟨hv, rfl, -⟩ := hQ
  obtain rfl := Option.some.inj hv
  refine k_iload W d_method_3_47 rfl ?_
  refine k_icN W d_method_3_49 (show ¬ (¬ ch = ch) from (fun q => q rfl)) ?_
  refine k_iconst W d_method_3_52 (z := (1 : Int32)) rfl ?_
  refine k_goto W 57 d_method_3_53 (by decide) ?_
  exact k_retN W (t := .boolean) (z' := (1 : Int32)) d_method_3_57 rfl (by simp) (by decide) [] (fun x hx => nomatch hx) (Nat.le_of_ble_eq_true rfl) (Nat.le_of_ble_eq_true rfl) ⟨rfl, rfl, rfl⟩
set_option maxRecDepth 65536 in
set_option maxHeartbeats 40000000 in
theorem rm0 (l : Launch) (Z : State) (a0 : Array Value) (hw : ∀ d ∈ tables_1, d.before a0 Z = true) (n0 : Nat) (h0 : Heap) (p0 p1 p2 p3 p4 zc : Int32) (sio : Value) (P0 : Sta Z h0 "java/lang/String" "COMPACT_STRINGS" "Z" (.int zc)) (hzc : zc ≠ 0) (G0 : Sta Z h0 "jdk/internal/util/Preconditions" "SIOOBE_FORMATTER" "Ljava/util/function/BiFunction;" sio) (hsio : sio.isRef = true) : Ct l Z a0 own_EL false x code maxLocals ret room_1 #[(.int p0), (.int p1), (.int p2), (.int p3), (.int p4)] h0 [] n0 (fun v h so => v = some (.int 1)) := by
  refine Ct.body (plainFor_of_name pn5) ?_
  intro p e s m below meth c T W
  refine WP.cast (g' := (mkF m 0 #[.val (.int p0), .val (.int p1), .val (.int p2), .val (.int p3), .val (.int p4), .unset, .unset, .unset, .unset, .unset, .unset, .unset, .unset, .unset, .unset] [])) (by simp [entryFrame, mkF, argsToLocals, cat_i, cat_l, cat_r, cat_n, maxLocals]) ?_
  refine k_iload W d_code_0 rfl ?_
  refine k_ldcI W d_code_2 (w0 hw) ?_
  refine k_iand W d_code_4 (z := (p4 &&& (2147483647 : Int32))) rfl ?_
  refine k_iconst W d_code_5 (z := (5 : Int32)) rfl ?_
  refine k_irem W d_code_6 (by decide) (z := ((p4 &&& (2147483647 : Int32)) % (5 : Int32))) rfl ?_
  suffices hJnz : ∀ (nz : Int32), Rg nz 5 → WP p e below (Fne s n0 Z own_EL false room_1 (fun v h so => v = some (.int 1))) T (mkF m 7 #[.val (.int p0), .val (.int p1), .val (.int p2), .val (.int p3), .val (.int p4), .unset, .unset, .unset, .unset, .unset, .unset, .unset, .unset, .unset, .unset] [(.int nz)]) from hJnz _ (show Rg ((p4 &&& (2147483647 : Int32)) % (5 : Int32)) 5 from (Rg.mono (Rg.mod (Rg.and (n := 2147483648) p4 (2147483647 : Int32) (by decide)) (by decide)) (by decide)))
  intro nz rnz
  refine k_istore W d_code_7 (L' := #[.val (.int p0), .val (.int p1), .val (.int p2), .val (.int p3), .val (.int p4), .val (.int nz), .unset, .unset, .unset, .unset, .unset, .unset, .unset, .unset, .unset]) rfl ?_
  refine k_iloadN W d_code_9 rfl ?_
  refine k_callS W 0 0 0 (argsL := [(.int p0)]) (rest := []) d_code_10 (w1 hw) (w2 hw) (by decide) (lenOf pd24 rfl) (ct_draw l Z a0 hw n0 h0 p0) (w4 hw) (w3 hw) (fun x hx => hx) rfl (Nat.le_of_eq rfl) (Nat.le_of_ble_eq_true rfl) (Nat.le_of_ble_eq_true rfl) ⟨rfl, Nat.le_of_ble_eq_true rfl⟩ ⟨rfl, Nat.le_of_ble_eq_true rfl⟩ rfl (fun _ _ ⟨_, q, _⟩ => nomatch q) fun T h236 v so W hQ => ?_
  obtain ⟨c236, hv, r236, rfl⟩ := hQ
  obtain rfl := Option.some.inj hv
  refine k_istore W d_code_13 (L' := #[.val (.int p0), .val (.int p1), .val (.int p2), .val (.int p3), .val (.int p4), .val (.int nz), .val (.int c236), .unset, .unset, .unset, .unset, .unset, .unset, .unset, .unset]) rfl ?_
  refine k_iloadN W d_code_15 rfl ?_
  refine k_callS W 0 0 0 (argsL := [(.int p1)]) (rest := []) d_code_16 (w1 hw) (w2 hw) (by decide) (lenOf pd24 rfl) (ct_draw l Z a0 hw n0 h0 p1) (w4 hw) (w3 hw) (fun x hx => hx) rfl (Nat.le_of_eq rfl) (Nat.le_of_ble_eq_true rfl) (Nat.le_of_ble_eq_true rfl) ⟨rfl, Nat.le_of_ble_eq_true rfl⟩ ⟨rfl, Nat.le_of_ble_eq_true rfl⟩ rfl (fun _ _ ⟨_, q, _⟩ => nomatch q) fun T h237 v so W hQ => ?_
  obtain ⟨c237, hv, r237, rfl⟩ := hQ
  obtain rfl := Option.some.inj hv
  refine k_istore W d_code_19 (L' := #[.val (.int p0), .val (.int p1), .val (.int p2), .val (.int p3), .val (.int p4), .val (.int nz), .val (.int c236), .val (.int c237), .unset, .unset, .unset, .unset, .unset, .unset, .unset]) rfl ?_
  refine k_iloadN W d_code_21 rfl ?_
  refine k_callS W 0 0 0 (argsL := [(.int p2)]) (rest := []) d_code_22 (w1 hw) (w2 hw) (by decide) (lenOf pd24 rfl) (ct_draw l Z a0 hw n0 h0 p2) (w4 hw) (w3 hw) (fun x hx => hx) rfl (Nat.le_of_eq rfl) (Nat.le_of_ble_eq_true rfl) (Nat.le_of_ble_eq_true rfl) ⟨rfl, Nat.le_of_ble_eq_true rfl⟩ ⟨rfl, Nat.le_of_ble_eq_true rfl⟩ rfl (fun _ _ ⟨_, q, _⟩ => nomatch q) fun T h238 v so W hQ => ?_
  obtain ⟨c238, hv, r238, rfl⟩ := hQ
  obtain rfl := Option.some.inj hv
  refine k_istore W d_code_25 (L' := #[.val (.int p0), .val (.int p1), .val (.int p2), .val (.int p3), .val (.int p4), .val (.int nz), .val (.int c236), .val (.int c237), .val (.int c238), .unset, .unset, .unset, .unset, .unset, .unset]) rfl ?_
  refine k_iloadN W d_code_27 rfl ?_
  refine k_callS W 0 0 0 (argsL := [(.int p3)]) (rest := []) d_code_28 (w1 hw) (w2 hw) (by decide) (lenOf pd24 rfl) (ct_draw l Z a0 hw n0 h0 p3) (w4 hw) (w3 hw) (fun x hx => hx) rfl (Nat.le_of_eq rfl) (Nat.le_of_ble_eq_true rfl) (Nat.le_of_ble_eq_true rfl) ⟨rfl, Nat.le_of_ble_eq_true rfl⟩ ⟨rfl, Nat.le_of_ble_eq_true rfl⟩ rfl (fun _ _ ⟨_, q, _⟩ => nomatch q) fun T h239 v so W hQ => ?_
  obtain ⟨c239, hv, r239, rfl⟩ := hQ
  obtain rfl := Option.some.inj hv
  refine k_istore W d_code_31 (L' := #[.val (.int p0), .val (.int p1), .val (.int p2), .val (.int p3), .val (.int p4), .val (.int nz), .val (.int c236), .val (.int c237), .val (.int c238), .val (.int c239), .unset, .unset, .unset, .unset, .unset]) rfl ?_
  rcases own_rg5 rnz with rfl | rfl | rfl | rfl | rfl
  · -- n = 0
    refine k_iload W d_code_33 rfl ?_
    refine k_iload W d_code_35 rfl ?_
    refine k_iload W d_code_37 rfl ?_
    refine k_iload W d_code_39 rfl ?_
    refine k_iload W d_code_41 rfl ?_
    refine k_callS W 0 6 12 (argsL := [(.int (0 : Int32)), (.int c236), (.int c237), (.int c238), (.int c239)]) (rest := []) d_code_43 (w5 hw) (w6 hw) (by decide) (lenOf pd25 rfl) (ct_mk0 l Z a0 hw n0 h0 c236 c237 c238 c239 zc r236 r237 r238 r239 P0 hzc) (w7 hw) (w3 hw) (fun x hx => hx) rfl (Nat.le_of_eq rfl) (Nat.le_of_ble_eq_true rfl) (Nat.le_of_ble_eq_true rfl) ⟨rfl, Nat.le_of_ble_eq_true rfl⟩ ⟨rfl, Nat.le_of_ble_eq_true rfl⟩ rfl (fun _ _ ⟨_, _, q, _⟩ => nomatch q) fun T h240 v so W hQ => ?_
    obtain ⟨x240, b240, hv, gx240, K240, S240⟩ := hQ
    obtain rfl := Option.some.inj hv
    refine k_astore W d_code_46 rfl (L' := #[.val (.int p0), .val (.int p1), .val (.int p2), .val (.int p3), .val (.int p4), .val (.int (0 : Int32)), .val (.int c236), .val (.int c237), .val (.int c238), .val (.int c239), .val (.ref x240), .unset, .unset, .unset, .unset]) rfl ?_
    refine k_aload W d_code_48 rfl rfl ?_
    have f241 := (Sta.keep P0 K240 ns0)
    refine k_callS W 0 6 12 (argsL := [(.ref x240)]) (rest := []) d_code_50 (w30 hw) (w31 hw) (by decide) (lenOf pd26 rfl) (ct_parseN l Z a0 hw n0 h240 x240 b240 [] zc (fun _ q => nomatch q) S240 f241 hzc) (w33 hw) (w32 hw) (fun x hx => hx) rfl (Nat.le_of_eq rfl) (Nat.le_of_ble_eq_true rfl) (Nat.le_of_ble_eq_true rfl) ⟨rfl, Nat.le_of_ble_eq_true rfl⟩ ⟨rfl, Nat.le_of_ble_eq_true rfl⟩ rfl (fun _ _ q => nomatch q.1) fun T h242 v so W hQ => ?_
    obtain ⟨hv, rfl, -⟩ := hQ
    obtain rfl := Option.some.inj hv
    refine k_astore W d_code_53 rfl (L' := #[.val (.int p0), .val (.int p1), .val (.int p2), .val (.int p3), .val (.int p4), .val (.int (0 : Int32)), .val (.int c236), .val (.int c237), .val (.int c238), .val (.int c239), .val (.ref x240), .val .null, .unset, .unset, .unset]) rfl ?_
    refine k_iconst W d_code_55 (z := (-1 : Int32)) rfl ?_
    refine k_istore W d_code_56 (L' := #[.val (.int p0), .val (.int p1), .val (.int p2), .val (.int p3), .val (.int p4), .val (.int (0 : Int32)), .val (.int c236), .val (.int c237), .val (.int c238), .val (.int c239), .val (.ref x240), .val .null, .val (.int (-1 : Int32)), .unset, .unset]) rfl ?_
    refine k_iload W d_code_58 rfl ?_
    refine k_ifY W 76 d_code_60 (by decide) (show ¬ 0 < (0 : Int32) by decide) ?_
    refine k_iload W d_code_76 rfl ?_
    refine k_iconst W d_code_78 (z := (1 : Int32)) rfl ?_
    refine k_icY W 95 d_code_79 (by decide) (show ¬ (1 : Int32) < (0 : Int32) by decide) ?_
    refine k_iload W d_code_95 rfl ?_
    refine k_iconst W d_code_97 (z := (2 : Int32)) rfl ?_
    refine k_icY W 114 d_code_98 (by decide) (show ¬ (2 : Int32) < (0 : Int32) by decide) ?_
    refine k_iload W d_code_114 rfl ?_
    refine k_iconst W d_code_116 (z := (3 : Int32)) rfl ?_
    refine k_icY W 130 d_code_117 (by decide) (show ¬ (3 : Int32) < (0 : Int32) by decide) ?_
    refine k_iload W d_code_130 rfl ?_
    refine k_ifN W d_code_132 (show ¬ (¬ (-1 : Int32) < 0) by decide) ?_
    refine k_aload W d_code_135 rfl rfl ?_
    refine k_nnN W d_code_137 ?_
    refine k_iconst W d_code_140 (z := (1 : Int32)) rfl ?_
    refine k_goto W 145 d_code_141 (by decide) ?_
    exact k_retN W (t := .boolean) (z' := (1 : Int32)) d_code_145 rfl (by simp) (by decide) [] (fun x hx => nomatch hx) (Nat.le_of_ble_eq_true rfl) (Nat.le_of_ble_eq_true rfl) rfl
  · -- n = 1
    refine k_iload W d_code_33 rfl ?_
    refine k_iload W d_code_35 rfl ?_
    refine k_iload W d_code_37 rfl ?_
    refine k_iload W d_code_39 rfl ?_
    refine k_iload W d_code_41 rfl ?_
    refine k_callS W 0 3 6 (argsL := [(.int (1 : Int32)), (.int c236), (.int c237), (.int c238), (.int c239)]) (rest := []) d_code_43 (w5 hw) (w6 hw) (by decide) (lenOf pd25 rfl) (ct_mk1 l Z a0 hw n0 h0 c236 c237 c238 c239 zc r236 r237 r238 r239 P0 hzc) (w7 hw) (w3 hw) (fun x hx => hx) rfl (Nat.le_of_eq rfl) (Nat.le_of_ble_eq_true rfl) (Nat.le_of_ble_eq_true rfl) ⟨rfl, Nat.le_of_ble_eq_true rfl⟩ ⟨rfl, Nat.le_of_ble_eq_true rfl⟩ rfl (fun _ _ ⟨_, _, q, _⟩ => nomatch q) fun T h243 v so W hQ => ?_
    obtain ⟨x243, b243, hv, gx243, K243, S243⟩ := hQ
    obtain rfl := Option.some.inj hv
    refine k_astore W d_code_46 rfl (L' := #[.val (.int p0), .val (.int p1), .val (.int p2), .val (.int p3), .val (.int p4), .val (.int (1 : Int32)), .val (.int c236), .val (.int c237), .val (.int c238), .val (.int c239), .val (.ref x243), .unset, .unset, .unset, .unset]) rfl ?_
    by_cases hs0 : c236 = 47
    · --
      refine k_aload W d_code_48 rfl rfl ?_
      have f244 := (Sta.keep P0 K243 ns0)
      have f246 := (Sta.keep G0 K243 ns0)
      refine k_callS W 0 8 24 (argsL := [(.ref x243)]) (rest := []) d_code_50 (w30 hw) (w31 hw) (by decide) (lenOf pd26 rfl) (ct_parseY l Z a0 hw n0 h243 x243 b243 [(i2b c236)] zc sio 0 (congrArg some (own_47 hs0)) (fun _ q => nomatch q) (Nat.le_of_ble_eq_true rfl) S243 f244 hzc f246 hsio) (w33 hw) (w32 hw) (fun x hx => hx) rfl (Nat.le_of_eq rfl) (Nat.le_of_ble_eq_true rfl) (Nat.le_of_ble_eq_true rfl) ⟨rfl, Nat.le_of_ble_eq_true rfl⟩ ⟨rfl, Nat.le_of_ble_eq_true rfl⟩ rfl (fun _ _ ⟨_, _, _, _, _, q, _⟩ => nomatch q) fun T h245 v so W hQ => ?_
      obtain ⟨r245, x1245, b1245, x2245, b2245, hv, K245, X245, A245, B245, S1245, S2245⟩ := hQ
      obtain rfl := Option.some.inj hv
      have S1245 : St Z h245 x1245 b1245 [] := S1245
      have S2245 : St Z h245 x2245 b2245 [] := S2245
      refine k_astore W d_code_53 rfl (L' := #[.val (.int p0), .val (.int p1), .val (.int p2), .val (.int p3), .val (.int p4), .val (.int (1 : Int32)), .val (.int c236), .val (.int c237), .val (.int c238), .val (.int c239), .val (.ref x243), .val (.ref r245), .unset, .unset, .unset]) rfl ?_
      refine k_iconst W d_code_55 (z := (-1 : Int32)) rfl ?_
      refine k_istore W d_code_56 (L' := #[.val (.int p0), .val (.int p1), .val (.int p2), .val (.int p3), .val (.int p4), .val (.int (1 : Int32)), .val (.int c236), .val (.int c237), .val (.int c238), .val (.int c239), .val (.ref x243), .val (.ref r245), .val (.int (-1 : Int32)), .unset, .unset]) rfl ?_
      refine k_iload W d_code_58 rfl ?_
      refine k_ifN W d_code_60 (show ¬ (¬ 0 < (1 : Int32)) by decide) ?_
      refine k_iload W d_code_63 rfl ?_
      refine k_bipush W d_code_65 (z := (47 : Int32)) rfl ?_
      refine k_icN W d_code_67 (show ¬ (¬ c236 = (47 : Int32)) from (fun q => q hs0)) ?_
      refine k_iconst W d_code_70 (z := (0 : Int32)) rfl ?_
      refine k_istore W d_code_71 (L' := #[.val (.int p0), .val (.int p1), .val (.int p2), .val (.int p3), .val (.int p4), .val (.int (1 : Int32)), .val (.int c236), .val (.int c237), .val (.int c238), .val (.int c239), .val (.ref x243), .val (.ref r245), .val (.int (0 : Int32)), .unset, .unset]) rfl ?_
      refine k_goto W 130 d_code_73 (by decide) ?_
      refine k_iload W d_code_130 rfl ?_
      refine k_ifY W 146 d_code_132 (by decide) (show ¬ (0 : Int32) < 0 by decide) ?_
      refine k_aload W d_code_146 rfl rfl ?_
      refine k_nnY W 153 d_code_148 (by decide) ?_
      refine k_aload W d_code_153 rfl rfl ?_
      refine k_callV W 0 8 24 (argsL := []) (rest := []) (a := r245) (C := "com/example/kourier/kourier/rabbitmq/Route") (z0 := (⟨"com/example/kourier/kourier/rabbitmq/Route", "exchange", "()Ljava/lang/String;"⟩ : MethodName)) (z := (⟨"com/example/kourier/kourier/rabbitmq/Route", "exchange", "()Ljava/lang/String;"⟩ : MethodName)) d_code_155 (w144 hw) (w145 hw) (nfSel (w147 hw)) (w147 hw) (w146 hw) (by decide) (lenOf pd27 rfl) X245 (ct_exchange l Z a0 hw n0 h245 r245 x1245 A245) (w148 hw) (w32 hw) (fun x hx => hx) rfl (Nat.le_of_eq rfl) (Nat.le_of_ble_eq_true rfl) (Nat.le_of_ble_eq_true rfl) ⟨rfl, Nat.le_of_ble_eq_true rfl⟩ ⟨rfl, Nat.le_of_ble_eq_true rfl⟩ rfl (fun _ _ q => nomatch q.1) fun T h247 v so W hQ => ?_
      obtain ⟨hv, rfl, -⟩ := hQ
      obtain rfl := Option.some.inj hv
      refine k_astore W d_code_158 rfl (L' := #[.val (.int p0), .val (.int p1), .val (.int p2), .val (.int p3), .val (.int p4), .val (.int (1 : Int32)), .val (.int c236), .val (.int c237), .val (.int c238), .val (.int c239), .val (.ref x243), .val (.ref r245), .val (.int (0 : Int32)), .val (.ref x1245), .unset]) rfl ?_
      refine k_aload W d_code_160 rfl rfl ?_
      refine k_callV W 0 8 24 (argsL := []) (rest := []) (a := r245) (C := "com/example/kourier/kourier/rabbitmq/Route") (z0 := (⟨"com/example/kourier/kourier/rabbitmq/Route", "routingKey", "()Ljava/lang/String;"⟩ : MethodName)) (z := (⟨"com/example/kourier/kourier/rabbitmq/Route", "routingKey", "()Ljava/lang/String;"⟩ : MethodName)) d_code_162 (w149 hw) (w150 hw) (nfSel (w152 hw)) (w152 hw) (w151 hw) (by decide) (lenOf pd27 rfl) X245 (ct_routingKey l Z a0 hw n0 h245 r245 x2245 B245) (w153 hw) (w32 hw) (fun x hx => hx) rfl (Nat.le_of_eq rfl) (Nat.le_of_ble_eq_true rfl) (Nat.le_of_ble_eq_true rfl) ⟨rfl, Nat.le_of_ble_eq_true rfl⟩ ⟨rfl, Nat.le_of_ble_eq_true rfl⟩ rfl (fun _ _ q => nomatch q.1) fun T h248 v so W hQ => ?_
      obtain ⟨hv, rfl, -⟩ := hQ
      obtain rfl := Option.some.inj hv
      refine k_astore W d_code_165 rfl (L' := #[.val (.int p0), .val (.int p1), .val (.int p2), .val (.int p3), .val (.int p4), .val (.int (1 : Int32)), .val (.int c236), .val (.int c237), .val (.int c238), .val (.int c239), .val (.ref x243), .val (.ref r245), .val (.int (0 : Int32)), .val (.ref x1245), .val (.ref x2245)]) rfl ?_
      refine k_aload W d_code_167 rfl rfl ?_
      refine k_nullN W d_code_169 ?_
      refine k_aload W d_code_172 rfl rfl ?_
      refine k_nnY W 179 d_code_174 (by decide) ?_
      refine k_aload W d_code_179 rfl rfl ?_
      have f249 := (Sta.keep f244 K245 ns0)
      refine k_callV W 0 8 24 (argsL := []) (rest := []) (a := x1245) (C := "java/lang/String") (z0 := (⟨"java/lang/String", "length", "()I"⟩ : MethodName)) (z := (⟨"java/lang/String", "length", "()I"⟩ : MethodName)) d_code_181 (w154 hw) (w51 hw) (nfSel (w53 hw)) (w53 hw) (w52 hw) (by decide) (lenOf pd9 rfl) S1245.1 (ct_len l Z a0 hw n0 h245 x1245 b1245 [] zc S1245 f249 hzc) (w54 hw) (w10 hw) (fun x hx => hx) rfl (Nat.le_of_eq rfl) (Nat.le_of_ble_eq_true rfl) (Nat.le_of_ble_eq_true rfl) ⟨rfl, Nat.le_of_ble_eq_true rfl⟩ ⟨rfl, Nat.le_of_ble_eq_true rfl⟩ rfl (fun _ _ q => nomatch q.1) fun T h250 v so W hQ => ?_
      obtain ⟨hv, rfl, -⟩ := hQ
      obtain rfl := Option.some.inj hv
      refine k_iload W d_code_184 rfl ?_
      refine k_icN W d_code_186 (show ¬ (¬ (0 : Int32) = (0 : Int32)) by decide) ?_
      refine k_aload W d_code_189 rfl rfl ?_
      refine k_callV W 0 8 24 (argsL := []) (rest := []) (a := x2245) (C := "java/lang/String") (z0 := (⟨"java/lang/String", "length", "()I"⟩ : MethodName)) (z := (⟨"java/lang/String", "length", "()I"⟩ : MethodName)) d_code_191 (w154 hw) (w51 hw) (nfSel (w53 hw)) (w53 hw) (w52 hw) (by decide) (lenOf pd9 rfl) S2245.1 (ct_len l Z a0 hw n0 h245 x2245 b2245 [] zc S2245 f249 hzc) (w54 hw) (w10 hw) (fun x hx => hx) rfl (Nat.le_of_eq rfl) (Nat.le_of_ble_eq_true rfl) (Nat.le_of_ble_eq_true rfl) ⟨rfl, Nat.le_of_ble_eq_true rfl⟩ ⟨rfl, Nat.le_of_ble_eq_true rfl⟩ rfl (fun _ _ q => nomatch q.1) fun T h251 v so W hQ => ?_
      obtain ⟨hv, rfl, -⟩ := hQ
      obtain rfl := Option.some.inj hv
      refine k_iload W d_code_194 rfl ?_
      refine k_iload W d_code_196 rfl ?_
      refine k_isub W d_code_198 (z := (1 : Int32)) (by decide) ?_
      refine k_iconst W d_code_199 (z := (1 : Int32)) rfl ?_
      refine k_isub W d_code_200 (z := (0 : Int32)) (by decide) ?_
      refine k_icY W 206 d_code_201 (by decide) (show (0 : Int32) = (0 : Int32) by decide) ?_
      refine k_aload W d_code_206 rfl rfl ?_
      refine k_aload W d_code_208 rfl rfl ?_
      refine k_iload W d_code_210 rfl ?_
      refine k_iload W d_code_212 rfl ?_
      refine k_iconst W d_code_214 (z := (0 : Int32)) rfl ?_
      refine k_iload W d_code_215 rfl ?_
      refine k_callS W 0 8 24 (argsL := [(.ref x1245), (.ref x2245), (.int (0 : Int32)), (.int (1 : Int32)), (.int (0 : Int32)), (.int c236)]) (rest := []) d_code_217 (w155 hw) (w156 hw) (by decide) (lenOf pd28 rfl) (ct_atA l Z a0 hw n0 h245 x1245 x2245 (0 : Int32) (1 : Int32) (0 : Int32) c236 (Or.inr (by decide))) (w157 hw) (w3 hw) (fun x hx => hx) rfl (Nat.le_of_eq rfl) (Nat.le_of_ble_eq_true rfl) (Nat.le_of_ble_eq_true rfl) ⟨rfl, Nat.le_of_ble_eq_true rfl⟩ ⟨rfl, Nat.le_of_ble_eq_true rfl⟩ rfl (fun _ _ q => nomatch q.1) fun T h252 v so W hQ => ?_
      obtain ⟨hv, rfl, -⟩ := hQ
      obtain rfl := Option.some.inj hv
      refine k_ifN W d_code_220 (show ¬ ((1 : Int32) = 0) by decide) ?_
      refine k_aload W d_code_223 rfl rfl ?_
      refine k_aload W d_code_225 rfl rfl ?_
      refine k_iload W d_code_227 rfl ?_
      refine k_iload W d_code_229 rfl ?_
      refine k_iconst W d_code_231 (z := (1 : Int32)) rfl ?_
      refine k_iload W d_code_232 rfl ?_
      refine k_callS W 0 8 24 (argsL := [(.ref x1245), (.ref x2245), (.int (0 : Int32)), (.int (1 : Int32)), (.int (1 : Int32)), (.int c237)]) (rest := []) d_code_234 (w155 hw) (w156 hw) (by decide) (lenOf pd28 rfl) (ct_atA l Z a0 hw n0 h245 x1245 x2245 (0 : Int32) (1 : Int32) (1 : Int32) c237 (Or.inl (by decide))) (w157 hw) (w3 hw) (fun x hx => hx) rfl (Nat.le_of_eq rfl) (Nat.le_of_ble_eq_true rfl) (Nat.le_of_ble_eq_true rfl) ⟨rfl, Nat.le_of_ble_eq_true rfl⟩ ⟨rfl, Nat.le_of_ble_eq_true rfl⟩ rfl (fun _ _ q => nomatch q.1) fun T h253 v so W hQ => ?_
      obtain ⟨hv, rfl, -⟩ := hQ
      obtain rfl := Option.some.inj hv
      refine k_ifN W d_code_237 (show ¬ ((1 : Int32) = 0) by decide) ?_
      refine k_aload W d_code_240 rfl rfl ?_
      refine k_aload W d_code_242 rfl rfl ?_
      refine k_iload W d_code_244 rfl ?_
      refine k_iload W d_code_246 rfl ?_
      refine k_iconst W d_code_248 (z := (2 : Int32)) rfl ?_
      refine k_iload W d_code_249 rfl ?_
      refine k_callS W 0 8 24 (argsL := [(.ref x1245), (.ref x2245), (.int (0 : Int32)), (.int (1 : Int32)), (.int (2 : Int32)), (.int c238)]) (rest := []) d_code_251 (w155 hw) (w156 hw) (by decide) (lenOf pd28 rfl) (ct_atA l Z a0 hw n0 h245 x1245 x2245 (0 : Int32) (1 : Int32) (2 : Int32) c238 (Or.inl (by decide))) (w157 hw) (w3 hw) (fun x hx => hx) rfl (Nat.le_of_eq rfl) (Nat.le_of_ble_eq_true rfl) (Nat.le_of_ble_eq_true rfl) ⟨rfl, Nat.le_of_ble_eq_true rfl⟩ ⟨rfl, Nat.le_of_ble_eq_true rfl⟩ rfl (fun _ _ q => nomatch q.1) fun T h254 v so W hQ => ?_
      obtain ⟨hv, rfl, -⟩ := hQ
      obtain rfl := Option.some.inj hv
      refine k_ifN W d_code_254 (show ¬ ((1 : Int32) = 0) by decide) ?_
      refine k_aload W d_code_257 rfl rfl ?_
      refine k_aload W d_code_259 rfl rfl ?_
      refine k_iload W d_code_261 rfl ?_
      refine k_iload W d_code_263 rfl ?_
      refine k_iconst W d_code_265 (z := (3 : Int32)) rfl ?_
      refine k_iload W d_code_266 rfl ?_
      refine k_callS W 0 8 24 (argsL := [(.ref x1245), (.ref x2245), (.int (0 : Int32)), (.int (1 : Int32)), (.int (3 : Int32)), (.int c239)]) (rest := []) d_code_268 (w155 hw) (w156 hw) (by decide) (lenOf pd28 rfl) (ct_atA l Z a0 hw n0 h245 x1245 x2245 (0 : Int32) (1 : Int32) (3 : Int32) c239 (Or.inl (by decide))) (w157 hw) (w3 hw) (fun x hx => hx) rfl (Nat.le_of_eq rfl) (Nat.le_of_ble_eq_true rfl) (Nat.le_of_ble_eq_true rfl) ⟨rfl, Nat.le_of_ble_eq_true rfl⟩ ⟨rfl, Nat.le_of_ble_eq_true rfl⟩ rfl (fun _ _ q => nomatch q.1) fun T h255 v so W hQ => ?_
      obtain ⟨hv, rfl, -⟩ := hQ
      obtain rfl := Option.some.inj hv
      refine k_ifN W d_code_271 (show ¬ ((1 : Int32) = 0) by decide) ?_
      refine k_iconst W d_code_274 (z := (1 : Int32)) rfl ?_
      refine k_goto W 279 d_code_275 (by decide) ?_
      exact k_retN W (t := .boolean) (z' := (1 : Int32)) d_code_279 rfl (by simp) (by decide) [] (fun x hx => nomatch hx) (Nat.le_of_ble_eq_true rfl) (Nat.le_of_ble_eq_true rfl) rfl
    · --
      refine k_aload W d_code_48 rfl rfl ?_
      have f256 := (Sta.keep P0 K243 ns0)
      refine k_callS W 0 3 6 (argsL := [(.ref x243)]) (rest := []) d_code_50 (w30 hw) (w31 hw) (by decide) (lenOf pd26 rfl) (ct_parseN l Z a0 hw n0 h243 x243 b243 [(i2b c236)] zc (allM (own_n47 r236 hs0) (fun _ q => nomatch q)) S243 f256 hzc) (w33 hw) (w32 hw) (fun x hx => hx) rfl (Nat.le_of_eq rfl) (Nat.le_of_ble_eq_true rfl) (Nat.le_of_ble_eq_true rfl) ⟨rfl, Nat.le_of_ble_eq_true rfl⟩ ⟨rfl, Nat.le_of_ble_eq_true rfl⟩ rfl (fun _ _ q => nomatch q.1) fun T h257 v so W hQ => ?_
      obtain ⟨hv, rfl, -⟩ := hQ
      obtain rfl := Option.some.inj hv
      refine k_astore W d_code_53 rfl (L' := #[.val (.int p0), .val (.int p1), .val (.int p2), .val (.int p3), .val (.int p4), .val (.int (1 : Int32)), .val (.int c236), .val (.int c237), .val (.int c238), .val (.int c239), .val (.ref x243), .val .null, .unset, .unset, .unset]) rfl ?_
      refine k_iconst W d_code_55 (z := (-1 : Int32)) rfl ?_
      refine k_istore W d_code_56 (L' := #[.val (.int p0), .val (.int p1), .val (.int p2), .val (.int p3), .val (.int p4), .val (.int (1 : Int32)), .val (.int c236), .val (.int c237), .val (.int c238), .val (.int c239), .val (.ref x243), .val .null, .val (.int (-1 : Int32)), .unset, .unset]) rfl ?_
      refine k_iload W d_code_58 rfl ?_
      refine k_ifN W d_code_60 (show ¬ (¬ 0 < (1 : Int32)) by decide) ?_
      refine k_iload W d_code_63 rfl ?_
      refine k_bipush W d_code_65 (z := (47 : Int32)) rfl ?_
      refine k_icY W 76 d_code_67 (by decide) (show ¬ c236 = (47 : Int32) from hs0) ?_
      refine k_iload W d_code_76 rfl ?_
      refine k_iconst W d_code_78 (z := (1 : Int32)) rfl ?_
      refine k_icY W 95 d_code_79 (by decide) (show ¬ (1 : Int32) < (1 : Int32) by decide) ?_
      refine k_iload W d_code_95 rfl ?_
      refine k_iconst W d_code_97 (z := (2 : Int32)) rfl ?_
      refine k_icY W 114 d_code_98 (by decide) (show ¬ (2 : Int32) < (1 : Int32) by decide) ?_
      refine k_iload W d_code_114 rfl ?_
      refine k_iconst W d_code_116 (z := (3 : Int32)) rfl ?_
      refine k_icY W 130 d_code_117 (by decide) (show ¬ (3 : Int32) < (1 : Int32) by decide) ?_
      refine k_iload W d_code_130 rfl ?_
      refine k_ifN W d_code_132 (show ¬ (¬ (-1 : Int32) < 0) by decide) ?_
      refine k_aload W d_code_135 rfl rfl ?_
      refine k_nnN W d_code_137 ?_
      refine k_iconst W d_code_140 (z := (1 : Int32)) rfl ?_
      refine k_goto W 145 d_code_141 (by decide) ?_
      exact k_retN W (t := .boolean) (z' := (1 : Int32)) d_code_145 rfl (by simp) (by decide) [] (fun x hx => nomatch hx) (Nat.le_of_ble_eq_true rfl) (Nat.le_of_ble_eq_true rfl) rfl
  · -- n = 2
    refine k_iload W d_code_33 rfl ?_
    refine k_iload W d_code_35 rfl ?_
    refine k_iload W d_code_37 rfl ?_
    refine k_iload W d_code_39 rfl ?_
    refine k_iload W d_code_41 rfl ?_
    refine k_callS W 0 3 8 (argsL := [(.int (2 : Int32)), (.int c236), (.int c237), (.int c238), (.int c239)]) (rest := []) d_code_43 (w5 hw) (w6 hw) (by decide) (lenOf pd25 rfl) (ct_mk2 l Z a0 hw n0 h0 c236 c237 c238 c239 zc r236 r237 r238 r239 P0 hzc) (w7 hw) (w3 hw) (fun x hx => hx) rfl (Nat.le_of_eq rfl) (Nat.le_of_ble_eq_true rfl) (Nat.le_of_ble_eq_true rfl) ⟨rfl, Nat.le_of_ble_eq_true rfl⟩ ⟨rfl, Nat.le_of_ble_eq_true rfl⟩ rfl (fun _ _ ⟨_, _, q, _⟩ => nomatch q) fun T h258 v so W hQ => ?_
    obtain ⟨x258, b258, hv, gx258, K258, S258⟩ := hQ
    obtain rfl := Option.some.inj hv
    refine k_astore W d_code_46 rfl (L' := #[.val (.int p0), .val (.int p1), .val (.int p2), .val (.int p3), .val (.int p4), .val (.int (2 : Int32)), .val (.int c236), .val (.int c237), .val (.int c238), .val (.int c239), .val (.ref x258), .unset, .unset, .unset, .unset]) rfl ?_
    by_cases hs0 : c236 = 47
    · --
      refine k_aload W d_code_48 rfl rfl ?_
      have f259 := (Sta.keep P0 K258 ns0)
      have f261 := (Sta.keep G0 K258 ns0)
      refine k_callS W 0 8 26 (argsL := [(.ref x258)]) (rest := []) d_code_50 (w30 hw) (w31 hw) (by decide) (lenOf pd26 rfl) (ct_parseY l Z a0 hw n0 h258 x258 b258 [(i2b c236), (i2b c237)] zc sio 0 (congrArg some (own_47 hs0)) (fun _ q => nomatch q) (Nat.le_of_ble_eq_true rfl) S258 f259 hzc f261 hsio) (w33 hw) (w32 hw) (fun x hx => hx) rfl (Nat.le_of_eq rfl) (Nat.le_of_ble_eq_true rfl) (Nat.le_of_ble_eq_true rfl) ⟨rfl, Nat.le_of_ble_eq_true rfl⟩ ⟨rfl, Nat.le_of_ble_eq_true rfl⟩ rfl (fun _ _ ⟨_, _, _, _, _, q, _⟩ => nomatch q) fun T h260 v so W hQ => ?_
      obtain ⟨r260, x1260, b1260, x2260, b2260, hv, K260, X260, A260, B260, S1260, S2260⟩ := hQ
      obtain rfl := Option.some.inj hv
      have S1260 : St Z h260 x1260 b1260 [] := S1260
      have S2260 : St Z h260 x2260 b2260 [(i2b c237)] := S2260
      refine k_astore W d_code_53 rfl (L' := #[.val (.int p0), .val (.int p1), .val (.int p2), .val (.int p3), .val (.int p4), .val (.int (2 : Int32)), .val (.int c236), .val (.int c237), .val (.int c238), .val (.int c239), .val (.ref x258), .val (.ref r260), .unset, .unset, .unset]) rfl ?_
      refine k_iconst W d_code_55 (z := (-1 : Int32)) rfl ?_
      refine k_istore W d_code_56 (L' := #[.val (.int p0), .val (.int p1), .val (.int p2), .val (.int p3), .val (.int p4), .val (.int (2 : Int32)), .val (.int c236), .val (.int c237), .val (.int c238), .val (.int c239), .val (.ref x258), .val (.ref r260), .val (.int (-1 : Int32)), .unset, .unset]) rfl ?_
      refine k_iload W d_code_58 rfl ?_
      refine k_ifN W d_code_60 (show ¬ (¬ 0 < (2 : Int32)) by decide) ?_
      refine k_iload W d_code_63 rfl ?_
      refine k_bipush W d_code_65 (z := (47 : Int32)) rfl ?_
      refine k_icN W d_code_67 (show ¬ (¬ c236 = (47 : Int32)) from (fun q => q hs0)) ?_
      refine k_iconst W d_code_70 (z := (0 : Int32)) rfl ?_
      refine k_istore W d_code_71 (L' := #[.val (.int p0), .val (.int p1), .val (.int p2), .val (.int p3), .val (.int p4), .val (.int (2 : Int32)), .val (.int c236), .val (.int c237), .val (.int c238), .val (.int c239), .val (.ref x258), .val (.ref r260), .val (.int (0 : Int32)), .unset, .unset]) rfl ?_
      refine k_goto W 130 d_code_73 (by decide) ?_
      refine k_iload W d_code_130 rfl ?_
      refine k_ifY W 146 d_code_132 (by decide) (show ¬ (0 : Int32) < 0 by decide) ?_
      refine k_aload W d_code_146 rfl rfl ?_
      refine k_nnY W 153 d_code_148 (by decide) ?_
      refine k_aload W d_code_153 rfl rfl ?_
      refine k_callV W 0 8 26 (argsL := []) (rest := []) (a := r260) (C := "com/example/kourier/kourier/rabbitmq/Route") (z0 := (⟨"com/example/kourier/kourier/rabbitmq/Route", "exchange", "()Ljava/lang/String;"⟩ : MethodName)) (z := (⟨"com/example/kourier/kourier/rabbitmq/Route", "exchange", "()Ljava/lang/String;"⟩ : MethodName)) d_code_155 (w144 hw) (w145 hw) (nfSel (w147 hw)) (w147 hw) (w146 hw) (by decide) (lenOf pd27 rfl) X260 (ct_exchange l Z a0 hw n0 h260 r260 x1260 A260) (w148 hw) (w32 hw) (fun x hx => hx) rfl (Nat.le_of_eq rfl) (Nat.le_of_ble_eq_true rfl) (Nat.le_of_ble_eq_true rfl) ⟨rfl, Nat.le_of_ble_eq_true rfl⟩ ⟨rfl, Nat.le_of_ble_eq_true rfl⟩ rfl (fun _ _ q => nomatch q.1) fun T h262 v so W hQ => ?_
      obtain ⟨hv, rfl, -⟩ := hQ
      obtain rfl := Option.some.inj hv
      refine k_astore W d_code_158 rfl (L' := #[.val (.int p0), .val (.int p1), .val (.int p2), .val (.int p3), .val (.int p4), .val (.int (2 : Int32)), .val (.int c236), .val (.int c237), .val (.int c238), .val (.int c239), .val (.ref x258), .val (.ref r260), .val (.int (0 : Int32)), .val (.ref x1260), .unset]) rfl ?_
      refine k_aload W d_code_160 rfl rfl ?_
      refine k_callV W 0 8 26 (argsL := []) (rest := []) (a := r260) (C := "com/example/kourier/kourier/rabbitmq/Route") (z0 := (⟨"com/example/kourier/kourier/rabbitmq/Route", "routingKey", "()Ljava/lang/String;"⟩ : MethodName)) (z := (⟨"com/example/kourier/kourier/rabbitmq/Route", "routingKey", "()Ljava/lang/String;"⟩ : MethodName)) d_code_162 (w149 hw) (w150 hw) (nfSel (w152 hw)) (w152 hw) (w151 hw) (by decide) (lenOf pd27 rfl) X260 (ct_routingKey l Z a0 hw n0 h260 r260 x2260 B260) (w153 hw) (w32 hw) (fun x hx => hx) rfl (Nat.le_of_eq rfl) (Nat.le_of_ble_eq_true rfl) (Nat.le_of_ble_eq_true rfl) ⟨rfl, Nat.le_of_ble_eq_true rfl⟩ ⟨rfl, Nat.le_of_ble_eq_true rfl⟩ rfl (fun _ _ q => nomatch q.1) fun T h263 v so W hQ => ?_
      obtain ⟨hv, rfl, -⟩ := hQ
      obtain rfl := Option.some.inj hv
      refine k_astore W d_code_165 rfl (L' := #[.val (.int p0), .val (.int p1), .val (.int p2), .val (.int p3), .val (.int p4), .val (.int (2 : Int32)), .val (.int c236), .val (.int c237), .val (.int c238), .val (.int c239), .val (.ref x258), .val (.ref r260), .val (.int (0 : Int32)), .val (.ref x1260), .val (.ref x2260)]) rfl ?_
      refine k_aload W d_code_167 rfl rfl ?_
      refine k_nullN W d_code_169 ?_
      refine k_aload W d_code_172 rfl rfl ?_
      refine k_nnY W 179 d_code_174 (by decide) ?_
      refine k_aload W d_code_179 rfl rfl ?_
      have f264 := (Sta.keep f259 K260 ns0)
      refine k_callV W 0 8 26 (argsL := []) (rest := []) (a := x1260) (C := "java/lang/String") (z0 := (⟨"java/lang/String", "length", "()I"⟩ : MethodName)) (z := (⟨"java/lang/String", "length", "()I"⟩ : MethodName)) d_code_181 (w154 hw) (w51 hw) (nfSel (w53 hw)) (w53 hw) (w52 hw) (by decide) (lenOf pd9 rfl) S1260.1 (ct_len l Z a0 hw n0 h260 x1260 b1260 [] zc S1260 f264 hzc) (w54 hw) (w10 hw) (fun x hx => hx) rfl (Nat.le_of_eq rfl) (Nat.le_of_ble_eq_true rfl) (Nat.le_of_ble_eq_true rfl) ⟨rfl, Nat.le_of_ble_eq_true rfl⟩ ⟨rfl, Nat.le_of_ble_eq_true rfl⟩ rfl (fun _ _ q => nomatch q.1) fun T h265 v so W hQ => ?_
      obtain ⟨hv, rfl, -⟩ := hQ
      obtain rfl := Option.some.inj hv
      refine k_iload W d_code_184 rfl ?_
      refine k_icN W d_code_186 (show ¬ (¬ (0 : Int32) = (0 : Int32)) by decide) ?_
      refine k_aload W d_code_189 rfl rfl ?_
      refine k_callV W 0 8 26 (argsL := []) (rest := []) (a := x2260) (C := "java/lang/String") (z0 := (⟨"java/lang/String", "length", "()I"⟩ : MethodName)) (z := (⟨"java/lang/String", "length", "()I"⟩ : MethodName)) d_code_191 (w154 hw) (w51 hw) (nfSel (w53 hw)) (w53 hw) (w52 hw) (by decide) (lenOf pd9 rfl) S2260.1 (ct_len l Z a0 hw n0 h260 x2260 b2260 [(i2b c237)] zc S2260 f264 hzc) (w54 hw) (w10 hw) (fun x hx => hx) rfl (Nat.le_of_eq rfl) (Nat.le_of_ble_eq_true rfl) (Nat.le_of_ble_eq_true rfl) ⟨rfl, Nat.le_of_ble_eq_true rfl⟩ ⟨rfl, Nat.le_of_ble_eq_true rfl⟩ rfl (fun _ _ q => nomatch q.1) fun T h266 v so W hQ => ?_
      obtain ⟨hv, rfl, -⟩ := hQ
      obtain rfl := Option.some.inj hv
      refine k_iload W d_code_194 rfl ?_
      refine k_iload W d_code_196 rfl ?_
      refine k_isub W d_code_198 (z := (2 : Int32)) (by decide) ?_
      refine k_iconst W d_code_199 (z := (1 : Int32)) rfl ?_
      refine k_isub W d_code_200 (z := (1 : Int32)) (by decide) ?_
      refine k_icY W 206 d_code_201 (by decide) (show (1 : Int32) = (1 : Int32) by decide) ?_
      refine k_aload W d_code_206 rfl rfl ?_
      refine k_aload W d_code_208 rfl rfl ?_
      refine k_iload W d_code_210 rfl ?_
      refine k_iload W d_code_212 rfl ?_
      refine k_iconst W d_code_214 (z := (0 : Int32)) rfl ?_
      refine k_iload W d_code_215 rfl ?_
      refine k_callS W 0 8 26 (argsL := [(.ref x1260), (.ref x2260), (.int (0 : Int32)), (.int (2 : Int32)), (.int (0 : Int32)), (.int c236)]) (rest := []) d_code_217 (w155 hw) (w156 hw) (by decide) (lenOf pd28 rfl) (ct_atA l Z a0 hw n0 h260 x1260 x2260 (0 : Int32) (2 : Int32) (0 : Int32) c236 (Or.inr (by decide))) (w157 hw) (w3 hw) (fun x hx => hx) rfl (Nat.le_of_eq rfl) (Nat.le_of_ble_eq_true rfl) (Nat.le_of_ble_eq_true rfl) ⟨rfl, Nat.le_of_ble_eq_true rfl⟩ ⟨rfl, Nat.le_of_ble_eq_true rfl⟩ rfl (fun _ _ q => nomatch q.1) fun T h267 v so W hQ => ?_
      obtain ⟨hv, rfl, -⟩ := hQ
      obtain rfl := Option.some.inj hv
      refine k_ifN W d_code_220 (show ¬ ((1 : Int32) = 0) by decide) ?_
      refine k_aload W d_code_223 rfl rfl ?_
      refine k_aload W d_code_225 rfl rfl ?_
      refine k_iload W d_code_227 rfl ?_
      refine k_iload W d_code_229 rfl ?_
      refine k_iconst W d_code_231 (z := (1 : Int32)) rfl ?_
      refine k_iload W d_code_232 rfl ?_
      have f268 := (Sta.keep f261 K260 ns0)
      refine k_callS W 0 8 26 (argsL := [(.ref x1260), (.ref x2260), (.int (0 : Int32)), (.int (2 : Int32)), (.int (1 : Int32)), (.int c237)]) (rest := []) d_code_234 (w155 hw) (w156 hw) (by decide) (lenOf pd28 rfl) (ct_atC l Z a0 hw n0 h260 x1260 x2260 (0 : Int32) (2 : Int32) (1 : Int32) c237 b2260 [(i2b c237)] zc sio 0 (by decide) (by decide) (by decide) (by decide) rfl r237 S2260 f264 hzc f268 hsio) (w157 hw) (w3 hw) (fun x hx => hx) rfl (Nat.le_of_eq rfl) (Nat.le_of_ble_eq_true rfl) (Nat.le_of_ble_eq_true rfl) ⟨rfl, Nat.le_of_ble_eq_true rfl⟩ ⟨rfl, Nat.le_of_ble_eq_true rfl⟩ rfl (fun _ _ q => nomatch q.1) fun T h269 v so W hQ => ?_
      obtain ⟨hv, rfl, -⟩ := hQ
      obtain rfl := Option.some.inj hv
      refine k_ifN W d_code_237 (show ¬ ((1 : Int32) = 0) by decide) ?_
      refine k_aload W d_code_240 rfl rfl ?_
      refine k_aload W d_code_242 rfl rfl ?_
      refine k_iload W d_code_244 rfl ?_
      refine k_iload W d_code_246 rfl ?_
      refine k_iconst W d_code_248 (z := (2 : Int32)) rfl ?_
      refine k_iload W d_code_249 rfl ?_
      refine k_callS W 0 8 26 (argsL := [(.ref x1260), (.ref x2260), (.int (0 : Int32)), (.int (2 : Int32)), (.int (2 : Int32)), (.int c238)]) (rest := []) d_code_251 (w155 hw) (w156 hw) (by decide) (lenOf pd28 rfl) (ct_atA l Z a0 hw n0 h260 x1260 x2260 (0 : Int32) (2 : Int32) (2 : Int32) c238 (Or.inl (by decide))) (w157 hw) (w3 hw) (fun x hx => hx) rfl (Nat.le_of_eq rfl) (Nat.le_of_ble_eq_true rfl) (Nat.le_of_ble_eq_true rfl) ⟨rfl, Nat.le_of_ble_eq_true rfl⟩ ⟨rfl, Nat.le_of_ble_eq_true rfl⟩ rfl (fun _ _ q => nomatch q.1) fun T h270 v so W hQ => ?_
      obtain ⟨hv, rfl, -⟩ := hQ
      obtain rfl := Option.some.inj hv
      refine k_ifN W d_code_254 (show ¬ ((1 : Int32) = 0) by decide) ?_
      refine k_aload W d_code_257 rfl rfl ?_
      refine k_aload W d_code_259 rfl rfl ?_
      refine k_iload W d_code_261 rfl ?_
      refine k_iload W d_code_263 rfl ?_
      refine k_iconst W d_code_265 (z := (3 : Int32)) rfl ?_
      refine k_iload W d_code_266 rfl ?_
      refine k_callS W 0 8 26 (argsL := [(.ref x1260), (.ref x2260), (.int (0 : Int32)), (.int (2 : Int32)), (.int (3 : Int32)), (.int c239)]) (rest := []) d_code_268 (w155 hw) (w156 hw) (by decide) (lenOf pd28 rfl) (ct_atA l Z a0 hw n0 h260 x1260 x2260 (0 : Int32) (2 : Int32) (3 : Int32) c239 (Or.inl (by decide))) (w157 hw) (w3 hw) (fun x hx => hx) rfl (Nat.le_of_eq rfl) (Nat.le_of_ble_eq_true rfl) (Nat.le_of_ble_eq_true rfl) ⟨rfl, Nat.le_of_ble_eq_true rfl⟩ ⟨rfl, Nat.le_of_ble_eq_true rfl⟩ rfl (fun _ _ q => nomatch q.1) fun T h271 v so W hQ => ?_
      obtain ⟨hv, rfl, -⟩ := hQ
      obtain rfl := Option.some.inj hv
      refine k_ifN W d_code_271 (show ¬ ((1 : Int32) = 0) by decide) ?_
      refine k_iconst W d_code_274 (z := (1 : Int32)) rfl ?_
      refine k_goto W 279 d_code_275 (by decide) ?_
      exact k_retN W (t := .boolean) (z' := (1 : Int32)) d_code_279 rfl (by simp) (by decide) [] (fun x hx => nomatch hx) (Nat.le_of_ble_eq_true rfl) (Nat.le_of_ble_eq_true rfl) rfl
    · --
      by_cases hs1 : c237 = 47
      · --
        refine k_aload W d_code_48 rfl rfl ?_
        have f272 := (Sta.keep P0 K258 ns0)
        have f274 := (Sta.keep G0 K258 ns0)
        refine k_callS W 0 8 26 (argsL := [(.ref x258)]) (rest := []) d_code_50 (w30 hw) (w31 hw) (by decide) (lenOf pd26 rfl) (ct_parseY l Z a0 hw n0 h258 x258 b258 [(i2b c236), (i2b c237)] zc sio 1 (congrArg some (own_47 hs1)) (allM (own_n47 r236 hs0) (fun _ q => nomatch q)) (Nat.le_of_ble_eq_true rfl) S258 f272 hzc f274 hsio) (w33 hw) (w32 hw) (fun x hx => hx) rfl (Nat.le_of_eq rfl) (Nat.le_of_ble_eq_true rfl) (Nat.le_of_ble_eq_true rfl) ⟨rfl, Nat.le_of_ble_eq_true rfl⟩ ⟨rfl, Nat.le_of_ble_eq_true rfl⟩ rfl (fun _ _ ⟨_, _, _, _, _, q, _⟩ => nomatch q) fun T h273 v so W hQ => ?_
        obtain ⟨r273, x1273, b1273, x2273, b2273, hv, K273, X273, A273, B273, S1273, S2273⟩ := hQ
        obtain rfl := Option.some.inj hv
        have S1273 : St Z h273 x1273 b1273 [(i2b c236)] := S1273
        have S2273 : St Z h273 x2273 b2273 [] := S2273
        refine k_astore W d_code_53 rfl (L' := #[.val (.int p0), .val (.int p1), .val (.int p2), .val (.int p3), .val (.int p4), .val (.int (2 : Int32)), .val (.int c236), .val (.int c237), .val (.int c238), .val (.int c239), .val (.ref x258), .val (.ref r273), .unset, .unset, .unset]) rfl ?_
        refine k_iconst W d_code_55 (z := (-1 : Int32)) rfl ?_
        refine k_istore W d_code_56 (L' := #[.val (.int p0), .val (.int p1), .val (.int p2), .val (.int p3), .val (.int p4), .val (.int (2 : Int32)), .val (.int c236), .val (.int c237), .val (.int c238), .val (.int c239), .val (.ref x258), .val (.ref r273), .val (.int (-1 : Int32)), .unset, .unset]) rfl ?_
        refine k_iload W d_code_58 rfl ?_
        refine k_ifN W d_code_60 (show ¬ (¬ 0 < (2 : Int32)) by decide) ?_
        refine k_iload W d_code_63 rfl ?_
        refine k_bipush W d_code_65 (z := (47 : Int32)) rfl ?_
        refine k_icY W 76 d_code_67 (by decide) (show ¬ c236 = (47 : Int32) from hs0) ?_
        refine k_iload W d_code_76 rfl ?_
        refine k_iconst W d_code_78 (z := (1 : Int32)) rfl ?_
        refine k_icN W d_code_79 (show ¬ (¬ (1 : Int32) < (2 : Int32)) by decide) ?_
        refine k_iload W d_code_82 rfl ?_
        refine k_bipush W d_code_84 (z := (47 : Int32)) rfl ?_
        refine k_icN W d_code_86 (show ¬ (¬ c237 = (47 : Int32)) from (fun q => q hs1)) ?_
        refine k_iconst W d_code_89 (z := (1 : Int32)) rfl ?_
        refine k_istore W d_code_90 (L' := #[.val (.int p0), .val (.int p1), .val (.int p2), .val (.int p3), .val (.int p4), .val (.int (2 : Int32)), .val (.int c236), .val (.int c237), .val (.int c238), .val (.int c239), .val (.ref x258), .val (.ref r273), .val (.int (1 : Int32)), .unset, .unset]) rfl ?_
        refine k_goto W 130 d_code_92 (by decide) ?_
        refine k_iload W d_code_130 rfl ?_
        refine k_ifY W 146 d_code_132 (by decide) (show ¬ (1 : Int32) < 0 by decide) ?_
        refine k_aload W d_code_146 rfl rfl ?_
        refine k_nnY W 153 d_code_148 (by decide) ?_
        refine k_aload W d_code_153 rfl rfl ?_
        refine k_callV W 0 8 26 (argsL := []) (rest := []) (a := r273) (C := "com/example/kourier/kourier/rabbitmq/Route") (z0 := (⟨"com/example/kourier/kourier/rabbitmq/Route", "exchange", "()Ljava/lang/String;"⟩ : MethodName)) (z := (⟨"com/example/kourier/kourier/rabbitmq/Route", "exchange", "()Ljava/lang/String;"⟩ : MethodName)) d_code_155 (w144 hw) (w145 hw) (nfSel (w147 hw)) (w147 hw) (w146 hw) (by decide) (lenOf pd27 rfl) X273 (ct_exchange l Z a0 hw n0 h273 r273 x1273 A273) (w148 hw) (w32 hw) (fun x hx => hx) rfl (Nat.le_of_eq rfl) (Nat.le_of_ble_eq_true rfl) (Nat.le_of_ble_eq_true rfl) ⟨rfl, Nat.le_of_ble_eq_true rfl⟩ ⟨rfl, Nat.le_of_ble_eq_true rfl⟩ rfl (fun _ _ q => nomatch q.1) fun T h275 v so W hQ => ?_
        obtain ⟨hv, rfl, -⟩ := hQ
        obtain rfl := Option.some.inj hv
        refine k_astore W d_code_158 rfl (L' := #[.val (.int p0), .val (.int p1), .val (.int p2), .val (.int p3), .val (.int p4), .val (.int (2 : Int32)), .val (.int c236), .val (.int c237), .val (.int c238), .val (.int c239), .val (.ref x258), .val (.ref r273), .val (.int (1 : Int32)), .val (.ref x1273), .unset]) rfl ?_
        refine k_aload W d_code_160 rfl rfl ?_
        refine k_callV W 0 8 26 (argsL := []) (rest := []) (a := r273) (C := "com/example/kourier/kourier/rabbitmq/Route") (z0 := (⟨"com/example/kourier/kourier/rabbitmq/Route", "routingKey", "()Ljava/lang/String;"⟩ : MethodName)) (z := (⟨"com/example/kourier/kourier/rabbitmq/Route", "routingKey", "()Ljava/lang/String;"⟩ : MethodName)) d_code_162 (w149 hw) (w150 hw) (nfSel (w152 hw)) (w152 hw) (w151 hw) (by decide) (lenOf pd27 rfl) X273 (ct_routingKey l Z a0 hw n0 h273 r273 x2273 B273) (w153 hw) (w32 hw) (fun x hx => hx) rfl (Nat.le_of_eq rfl) (Nat.le_of_ble_eq_true rfl) (Nat.le_of_ble_eq_true rfl) ⟨rfl, Nat.le_of_ble_eq_true rfl⟩ ⟨rfl, Nat.le_of_ble_eq_true rfl⟩ rfl (fun _ _ q => nomatch q.1) fun T h276 v so W hQ => ?_
        obtain ⟨hv, rfl, -⟩ := hQ
        obtain rfl := Option.some.inj hv
        refine k_astore W d_code_165 rfl (L' := #[.val (.int p0), .val (.int p1), .val (.int p2), .val (.int p3), .val (.int p4), .val (.int (2 : Int32)), .val (.int c236), .val (.int c237), .val (.int c238), .val (.int c239), .val (.ref x258), .val (.ref r273), .val (.int (1 : Int32)), .val (.ref x1273), .val (.ref x2273)]) rfl ?_
        refine k_aload W d_code_167 rfl rfl ?_
        refine k_nullN W d_code_169 ?_
        refine k_aload W d_code_172 rfl rfl ?_
        refine k_nnY W 179 d_code_174 (by decide) ?_
        refine k_aload W d_code_179 rfl rfl ?_
        have f277 := (Sta.keep f272 K273 ns0)
        refine k_callV W 0 8 26 (argsL := []) (rest := []) (a := x1273) (C := "java/lang/String") (z0 := (⟨"java/lang/String", "length", "()I"⟩ : MethodName)) (z := (⟨"java/lang/String", "length", "()I"⟩ : MethodName)) d_code_181 (w154 hw) (w51 hw) (nfSel (w53 hw)) (w53 hw) (w52 hw) (by decide) (lenOf pd9 rfl) S1273.1 (ct_len l Z a0 hw n0 h273 x1273 b1273 [(i2b c236)] zc S1273 f277 hzc) (w54 hw) (w10 hw) (fun x hx => hx) rfl (Nat.le_of_eq rfl) (Nat.le_of_ble_eq_true rfl) (Nat.le_of_ble_eq_true rfl) ⟨rfl, Nat.le_of_ble_eq_true rfl⟩ ⟨rfl, Nat.le_of_ble_eq_true rfl⟩ rfl (fun _ _ q => nomatch q.1) fun T h278 v so W hQ => ?_
        obtain ⟨hv, rfl, -⟩ := hQ
        obtain rfl := Option.some.inj hv
        refine k_iload W d_code_184 rfl ?_
        refine k_icN W d_code_186 (show ¬ (¬ (1 : Int32) = (1 : Int32)) by decide) ?_
        refine k_aload W d_code_189 rfl rfl ?_
        refine k_callV W 0 8 26 (argsL := []) (rest := []) (a := x2273) (C := "java/lang/String") (z0 := (⟨"java/lang/String", "length", "()I"⟩ : MethodName)) (z := (⟨"java/lang/String", "length", "()I"⟩ : MethodName)) d_code_191 (w154 hw) (w51 hw) (nfSel (w53 hw)) (w53 hw) (w52 hw) (by decide) (lenOf pd9 rfl) S2273.1 (ct_len l Z a0 hw n0 h273 x2273 b2273 [] zc S2273 f277 hzc) (w54 hw) (w10 hw) (fun x hx => hx) rfl (Nat.le_of_eq rfl) (Nat.le_of_ble_eq_true rfl) (Nat.le_of_ble_eq_true rfl) ⟨rfl, Nat.le_of_ble_eq_true rfl⟩ ⟨rfl, Nat.le_of_ble_eq_true rfl⟩ rfl (fun _ _ q => nomatch q.1) fun T h279 v so W hQ => ?_
        obtain ⟨hv, rfl, -⟩ := hQ
        obtain rfl := Option.some.inj hv
        refine k_iload W d_code_194 rfl ?_
        refine k_iload W d_code_196 rfl ?_
        refine k_isub W d_code_198 (z := (1 : Int32)) (by decide) ?_
        refine k_iconst W d_code_199 (z := (1 : Int32)) rfl ?_
        refine k_isub W d_code_200 (z := (0 : Int32)) (by decide) ?_
        refine k_icY W 206 d_code_201 (by decide) (show (0 : Int32) = (0 : Int32) by decide) ?_
        refine k_aload W d_code_206 rfl rfl ?_
        refine k_aload W d_code_208 rfl rfl ?_
        refine k_iload W d_code_210 rfl ?_
        refine k_iload W d_code_212 rfl ?_
        refine k_iconst W d_code_214 (z := (0 : Int32)) rfl ?_
        refine k_iload W d_code_215 rfl ?_
        have f280 := (Sta.keep f274 K273 ns0)
        refine k_callS W 0 8 26 (argsL := [(.ref x1273), (.ref x2273), (.int (1 : Int32)), (.int (2 : Int32)), (.int (0 : Int32)), (.int c236)]) (rest := []) d_code_217 (w155 hw) (w156 hw) (by decide) (lenOf pd28 rfl) (ct_atB l Z a0 hw n0 h273 x1273 x2273 (1 : Int32) (2 : Int32) (0 : Int32) c236 b1273 [(i2b c236)] zc sio 0 (by decide) (by decide) (by decide) (by decide) rfl r236 S1273 f277 hzc f280 hsio) (w157 hw) (w3 hw) (fun x hx => hx) rfl (Nat.le_of_eq rfl) (Nat.le_of_ble_eq_true rfl) (Nat.le_of_ble_eq_true rfl) ⟨rfl, Nat.le_of_ble_eq_true rfl⟩ ⟨rfl, Nat.le_of_ble_eq_true rfl⟩ rfl (fun _ _ q => nomatch q.1) fun T h281 v so W hQ => ?_
        obtain ⟨hv, rfl, -⟩ := hQ
        obtain rfl := Option.some.inj hv
        refine k_ifN W d_code_220 (show ¬ ((1 : Int32) = 0) by decide) ?_
        refine k_aload W d_code_223 rfl rfl ?_
        refine k_aload W d_code_225 rfl rfl ?_
        refine k_iload W d_code_227 rfl ?_
        refine k_iload W d_code_229 rfl ?_
        refine k_iconst W d_code_231 (z := (1 : Int32)) rfl ?_
        refine k_iload W d_code_232 rfl ?_
        refine k_callS W 0 8 26 (argsL := [(.ref x1273), (.ref x2273), (.int (1 : Int32)), (.int (2 : Int32)), (.int (1 : Int32)), (.int c237)]) (rest := []) d_code_234 (w155 hw) (w156 hw) (by decide) (lenOf pd28 rfl) (ct_atA l Z a0 hw n0 h273 x1273 x2273 (1 : Int32) (2 : Int32) (1 : Int32) c237 (Or.inr (by decide))) (w157 hw) (w3 hw) (fun x hx => hx) rfl (Nat.le_of_eq rfl) (Nat.le_of_ble_eq_true rfl) (Nat.le_of_ble_eq_true rfl) ⟨rfl, Nat.le_of_ble_eq_true rfl⟩ ⟨rfl, Nat.le_of_ble_eq_true rfl⟩ rfl (fun _ _ q => nomatch q.1) fun T h282 v so W hQ => ?_
        obtain ⟨hv, rfl, -⟩ := hQ
        obtain rfl := Option.some.inj hv
        refine k_ifN W d_code_237 (show ¬ ((1 : Int32) = 0) by decide) ?_
        refine k_aload W d_code_240 rfl rfl ?_
        refine k_aload W d_code_242 rfl rfl ?_
        refine k_iload W d_code_244 rfl ?_
        refine k_iload W d_code_246 rfl ?_
        refine k_iconst W d_code_248 (z := (2 : Int32)) rfl ?_
        refine k_iload W d_code_249 rfl ?_
        refine k_callS W 0 8 26 (argsL := [(.ref x1273), (.ref x2273), (.int (1 : Int32)), (.int (2 : Int32)), (.int (2 : Int32)), (.int c238)]) (rest := []) d_code_251 (w155 hw) (w156 hw) (by decide) (lenOf pd28 rfl) (ct_atA l Z a0 hw n0 h273 x1273 x2273 (1 : Int32) (2 : Int32) (2 : Int32) c238 (Or.inl (by decide))) (w157 hw) (w3 hw) (fun x hx => hx) rfl (Nat.le_of_eq rfl) (Nat.le_of_ble_eq_true rfl) (Nat.le_of_ble_eq_true rfl) ⟨rfl, Nat.le_of_ble_eq_true rfl⟩ ⟨rfl, Nat.le_of_ble_eq_true rfl⟩ rfl (fun _ _ q => nomatch q.1) fun T h283 v so W hQ => ?_
        obtain ⟨hv, rfl, -⟩ := hQ
        obtain rfl := Option.some.inj hv
        refine k_ifN W d_code_254 (show ¬ ((1 : Int32) = 0) by decide) ?_
        refine k_aload W d_code_257 rfl rfl ?_
        refine k_aload W d_code_259 rfl rfl ?_
        refine k_iload W d_code_261 rfl ?_
        refine k_iload W d_code_263 rfl ?_
        refine k_iconst W d_code_265 (z := (3 : Int32)) rfl ?_
        refine k_iload W d_code_266 rfl ?_
        refine k_callS W 0 8 26 (argsL := [(.ref x1273), (.ref x2273), (.int (1 : Int32)), (.int (2 : Int32)), (.int (3 : Int32)), (.int c239)]) (rest := []) d_code_268 (w155 hw) (w156 hw) (by decide) (lenOf pd28 rfl) (ct_atA l Z a0 hw n0 h273 x1273 x2273 (1 : Int32) (2 : Int32) (3 : Int32) c239 (Or.inl (by decide))) (w157 hw) (w3 hw) (fun x hx => hx) rfl (Nat.le_of_eq rfl) (Nat.le_of_ble_eq_true rfl) (Nat.le_of_ble_eq_true rfl) ⟨rfl, Nat.le_of_ble_eq_true rfl⟩ ⟨rfl, Nat.le_of_ble_eq_true rfl⟩ rfl (fun _ _ q => nomatch q.1) fun T h284 v so W hQ => ?_
        obtain ⟨hv, rfl, -⟩ := hQ
        obtain rfl := Option.some.inj hv
        refine k_ifN W d_code_271 (show ¬ ((1 : Int32) = 0) by decide) ?_
        refine k_iconst W d_code_274 (z := (1 : Int32)) rfl ?_
        refine k_goto W 279 d_code_275 (by decide) ?_
        exact k_retN W (t := .boolean) (z' := (1 : Int32)) d_code_279 rfl (by simp) (by decide) [] (fun x hx => nomatch hx) (Nat.le_of_ble_eq_true rfl) (Nat.le_of_ble_eq_true rfl) rfl
      · --
        refine k_aload W d_code_48 rfl rfl ?_
        have f285 := (Sta.keep P0 K258 ns0)
        refine k_callS W 0 3 8 (argsL := [(.ref x258)]) (rest := []) d_code_50 (w30 hw) (w31 hw) (by decide) (lenOf pd26 rfl) (ct_parseN l Z a0 hw n0 h258 x258 b258 [(i2b c236), (i2b c237)] zc (allM (own_n47 r236 hs0) (allM (own_n47 r237 hs1) (fun _ q => nomatch q))) S258 f285 hzc) (w33 hw) (w32 hw) (fun x hx => hx) rfl (Nat.le_of_eq rfl) (Nat.le_of_ble_eq_true rfl) (Nat.le_of_ble_eq_true rfl) ⟨rfl, Nat.le_of_ble_eq_true rfl⟩ ⟨rfl, Nat.le_of_ble_eq_true rfl⟩ rfl (fun _ _ q => nomatch q.1) fun T h286 v so W hQ => ?_
        obtain ⟨hv, rfl, -⟩ := hQ
        obtain rfl := Option.some.inj hv
        refine k_astore W d_code_53 rfl (L' := #[.val (.int p0), .val (.int p1), .val (.int p2), .val (.int p3), .val (.int p4), .val (.int (2 : Int32)), .val (.int c236), .val (.int c237), .val (.int c238), .val (.int c239), .val (.ref x258), .val .null, .unset, .unset, .unset]) rfl ?_
        refine k_iconst W d_code_55 (z := (-1 : Int32)) rfl ?_
        refine k_istore W d_code_56 (L' := #[.val (.int p0), .val (.int p1), .val (.int p2), .val (.int p3), .val (.int p4), .val (.int (2 : Int32)), .val (.int c236), .val (.int c237), .val (.int c238), .val (.int c239), .val (.ref x258), .val .null, .val (.int (-1 : Int32)), .unset, .unset]) rfl ?_
        refine k_iload W d_code_58 rfl ?_
        refine k_ifN W d_code_60 (show ¬ (¬ 0 < (2 : Int32)) by decide) ?_
        refine k_iload W d_code_63 rfl ?_
        refine k_bipush W d_code_65 (z := (47 : Int32)) rfl ?_
        refine k_icY W 76 d_code_67 (by decide) (show ¬ c236 = (47 : Int32) from hs0) ?_
        refine k_iload W d_code_76 rfl ?_
        refine k_iconst W d_code_78 (z := (1 : Int32)) rfl ?_
        refine k_icN W d_code_79 (show ¬ (¬ (1 : Int32) < (2 : Int32)) by decide) ?_
        refine k_iload W d_code_82 rfl ?_
        refine k_bipush W d_code_84 (z := (47 : Int32)) rfl ?_
        refine k_icY W 95 d_code_86 (by decide) (show ¬ c237 = (47 : Int32) from hs1) ?_
        refine k_iload W d_code_95 rfl ?_
        refine k_iconst W d_code_97 (z := (2 : Int32)) rfl ?_
        refine k_icY W 114 d_code_98 (by decide) (show ¬ (2 : Int32) < (2 : Int32) by decide) ?_
        refine k_iload W d_code_114 rfl ?_
        refine k_iconst W d_code_116 (z := (3 : Int32)) rfl ?_
        refine k_icY W 130 d_code_117 (by decide) (show ¬ (3 : Int32) < (2 : Int32) by decide) ?_
        refine k_iload W d_code_130 rfl ?_
        refine k_ifN W d_code_132 (show ¬ (¬ (-1 : Int32) < 0) by decide) ?_
        refine k_aload W d_code_135 rfl rfl ?_
        refine k_nnN W d_code_137 ?_
        refine k_iconst W d_code_140 (z := (1 : Int32)) rfl ?_
        refine k_goto W 145 d_code_141 (by decide) ?_
        exact k_retN W (t := .boolean) (z' := (1 : Int32)) d_code_145 rfl (by simp) (by decide) [] (fun x hx => nomatch hx) (Nat.le_of_ble_eq_true rfl) (Nat.le_of_ble_eq_true rfl) rfl
  · -- n = 3
    refine k_iload W d_code_33 rfl ?_
    refine k_iload W d_code_35 rfl ?_
    refine k_iload W d_code_37 rfl ?_
    refine k_iload W d_code_39 rfl ?_
    refine k_iload W d_code_41 rfl ?_
    refine k_callS W 0 3 10 (argsL := [(.int (3 : Int32)), (.int c236), (.int c237), (.int c238), (.int c239)]) (rest := []) d_code_43 (w5 hw) (w6 hw) (by decide) (lenOf pd25 rfl) (ct_mk3 l Z a0 hw n0 h0 c236 c237 c238 c239 zc r236 r237 r238 r239 P0 hzc) (w7 hw) (w3 hw) (fun x hx => hx) rfl (Nat.le_of_eq rfl) (Nat.le_of_ble_eq_true rfl) (Nat.le_of_ble_eq_true rfl) ⟨rfl, Nat.le_of_ble_eq_true rfl⟩ ⟨rfl, Nat.le_of_ble_eq_true rfl⟩ rfl (fun _ _ ⟨_, _, q, _⟩ => nomatch q) fun T h287 v so W hQ => ?_
    obtain ⟨x287, b287, hv, gx287, K287, S287⟩ := hQ
    obtain rfl := Option.some.inj hv
    refine k_astore W d_code_46 rfl (L' := #[.val (.int p0), .val (.int p1), .val (.int p2), .val (.int p3), .val (.int p4), .val (.int (3 : Int32)), .val (.int c236), .val (.int c237), .val (.int c238), .val (.int c239), .val (.ref x287), .unset, .unset, .unset, .unset]) rfl ?_
    by_cases hs0 : c236 = 47
    · --
      refine k_aload W d_code_48 rfl rfl ?_
      have f288 := (Sta.keep P0 K287 ns0)
      have f290 := (Sta.keep G0 K287 ns0)
      refine k_callS W 0 8 28 (argsL := [(.ref x287)]) (rest := []) d_code_50 (w30 hw) (w31 hw) (by decide) (lenOf pd26 rfl) (ct_parseY l Z a0 hw n0 h287 x287 b287 [(i2b c236), (i2b c237), (i2b c238)] zc sio 0 (congrArg some (own_47 hs0)) (fun _ q => nomatch q) (Nat.le_of_ble_eq_true rfl) S287 f288 hzc f290 hsio) (w33 hw) (w32 hw) (fun x hx => hx) rfl (Nat.le_of_eq rfl) (Nat.le_of_ble_eq_true rfl) (Nat.le_of_ble_eq_true rfl) ⟨rfl, Nat.le_of_ble_eq_true rfl⟩ ⟨rfl, Nat.le_of_ble_eq_true rfl⟩ rfl (fun _ _ ⟨_, _, _, _, _, q, _⟩ => nomatch q) fun T h289 v so W hQ => ?_
      obtain ⟨r289, x1289, b1289, x2289, b2289, hv, K289, X289, A289, B289, S1289, S2289⟩ := hQ
      obtain rfl := Option.some.inj hv
      have S1289 : St Z h289 x1289 b1289 [] := S1289
      have S2289 : St Z h289 x2289 b2289 [(i2b c237), (i2b c238)] := S2289
      refine k_astore W d_code_53 rfl (L' := #[.val (.int p0), .val (.int p1), .val (.int p2), .val (.int p3), .val (.int p4), .val (.int (3 : Int32)), .val (.int c236), .val (.int c237), .val (.int c238), .val (.int c239), .val (.ref x287), .val (.ref r289), .unset, .unset, .unset]) rfl ?_
      refine k_iconst W d_code_55 (z := (-1 : Int32)) rfl ?_
      refine k_istore W d_code_56 (L' := #[.val (.int p0), .val (.int p1), .val (.int p2), .val (.int p3), .val (.int p4), .val (.int (3 : Int32)), .val (.int c236), .val (.int c237), .val (.int c238), .val (.int c239), .val (.ref x287), .val (.ref r289), .val (.int (-1 : Int32)), .unset, .unset]) rfl ?_
      refine k_iload W d_code_58 rfl ?_
      refine k_ifN W d_code_60 (show ¬ (¬ 0 < (3 : Int32)) by decide) ?_
      refine k_iload W d_code_63 rfl ?_
      refine k_bipush W d_code_65 (z := (47 : Int32)) rfl ?_
      refine k_icN W d_code_67 (show ¬ (¬ c236 = (47 : Int32)) from (fun q => q hs0)) ?_
      refine k_iconst W d_code_70 (z := (0 : Int32)) rfl ?_
      refine k_istore W d_code_71 (L' := #[.val (.int p0), .val (.int p1), .val (.int p2), .val (.int p3), .val (.int p4), .val (.int (3 : Int32)), .val (.int c236), .val (.int c237), .val (.int c238), .val (.int c239), .val (.ref x287), .val (.ref r289), .val (.int (0 : Int32)), .unset, .unset]) rfl ?_
      refine k_goto W 130 d_code_73 (by decide) ?_
      refine k_iload W d_code_130 rfl ?_
      refine k_ifY W 146 d_code_132 (by decide) (show ¬ (0 : Int32) < 0 by decide) ?_
      refine k_aload W d_code_146 rfl rfl ?_
      refine k_nnY W 153 d_code_148 (by decide) ?_
      refine k_aload W d_code_153 rfl rfl ?_
      refine k_callV W 0 8 28 (argsL := []) (rest := []) (a := r289) (C := "com/example/kourier/kourier/rabbitmq/Route") (z0 := (⟨"com/example/kourier/kourier/rabbitmq/Route", "exchange", "()Ljava/lang/String;"⟩ : MethodName)) (z := (⟨"com/example/kourier/kourier/rabbitmq/Route", "exchange", "()Ljava/lang/String;"⟩ : MethodName)) d_code_155 (w144 hw) (w145 hw) (nfSel (w147 hw)) (w147 hw) (w146 hw) (by decide) (lenOf pd27 rfl) X289 (ct_exchange l Z a0 hw n0 h289 r289 x1289 A289) (w148 hw) (w32 hw) (fun x hx => hx) rfl (Nat.le_of_eq rfl) (Nat.le_of_ble_eq_true rfl) (Nat.le_of_ble_eq_true rfl) ⟨rfl, Nat.le_of_ble_eq_true rfl⟩ ⟨rfl, Nat.le_of_ble_eq_true rfl⟩ rfl (fun _ _ q => nomatch q.1) fun T h291 v so W hQ => ?_
      obtain ⟨hv, rfl, -⟩ := hQ
      obtain rfl := Option.some.inj hv
      refine k_astore W d_code_158 rfl (L' := #[.val (.int p0), .val (.int p1), .val (.int p2), .val (.int p3), .val (.int p4), .val (.int (3 : Int32)), .val (.int c236), .val (.int c237), .val (.int c238), .val (.int c239), .val (.ref x287), .val (.ref r289), .val (.int (0 : Int32)), .val (.ref x1289), .unset]) rfl ?_
      refine k_aload W d_code_160 rfl rfl ?_
      refine k_callV W 0 8 28 (argsL := []) (rest := []) (a := r289) (C := "com/example/kourier/kourier/rabbitmq/Route") (z0 := (⟨"com/example/kourier/kourier/rabbitmq/Route", "routingKey", "()Ljava/lang/String;"⟩ : MethodName)) (z := (⟨"com/example/kourier/kourier/rabbitmq/Route", "routingKey", "()Ljava/lang/String;"⟩ : MethodName)) d_code_162 (w149 hw) (w150 hw) (nfSel (w152 hw)) (w152 hw) (w151 hw) (by decide) (lenOf pd27 rfl) X289 (ct_routingKey l Z a0 hw n0 h289 r289 x2289 B289) (w153 hw) (w32 hw) (fun x hx => hx) rfl (Nat.le_of_eq rfl) (Nat.le_of_ble_eq_true rfl) (Nat.le_of_ble_eq_true rfl) ⟨rfl, Nat.le_of_ble_eq_true rfl⟩ ⟨rfl, Nat.le_of_ble_eq_true rfl⟩ rfl (fun _ _ q => nomatch q.1) fun T h292 v so W hQ => ?_
      obtain ⟨hv, rfl, -⟩ := hQ
      obtain rfl := Option.some.inj hv
      refine k_astore W d_code_165 rfl (L' := #[.val (.int p0), .val (.int p1), .val (.int p2), .val (.int p3), .val (.int p4), .val (.int (3 : Int32)), .val (.int c236), .val (.int c237), .val (.int c238), .val (.int c239), .val (.ref x287), .val (.ref r289), .val (.int (0 : Int32)), .val (.ref x1289), .val (.ref x2289)]) rfl ?_
      refine k_aload W d_code_167 rfl rfl ?_
      refine k_nullN W d_code_169 ?_
      refine k_aload W d_code_172 rfl rfl ?_
      refine k_nnY W 179 d_code_174 (by decide) ?_
      refine k_aload W d_code_179 rfl rfl ?_
      have f293 := (Sta.keep f288 K289 ns0)
      refine k_callV W 0 8 28 (argsL := []) (rest := []) (a := x1289) (C := "java/lang/String") (z0 := (⟨"java/lang/String", "length", "()I"⟩ : MethodName)) (z := (⟨"java/lang/String", "length", "()I"⟩ : MethodName)) d_code_181 (w154 hw) (w51 hw) (nfSel (w53 hw)) (w53 hw) (w52 hw) (by decide) (lenOf pd9 rfl) S1289.1 (ct_len l Z a0 hw n0 h289 x1289 b1289 [] zc S1289 f293 hzc) (w54 hw) (w10 hw) (fun x hx => hx) rfl (Nat.le_of_eq rfl) (Nat.le_of_ble_eq_true rfl) (Nat.le_of_ble_eq_true rfl) ⟨rfl, Nat.le_of_ble_eq_true rfl⟩ ⟨rfl, Nat.le_of_ble_eq_true rfl⟩ rfl (fun _ _ q => nomatch q.1) fun T h294 v so W hQ => ?_
      obtain ⟨hv, rfl, -⟩ := hQ
      obtain rfl := Option.some.inj hv
      refine k_iload W d_code_184 rfl ?_
      refine k_icN W d_code_186 (show ¬ (¬ (0 : Int32) = (0 : Int32)) by decide) ?_
      refine k_aload W d_code_189 rfl rfl ?_
      refine k_callV W 0 8 28 (argsL := []) (rest := []) (a := x2289) (C := "java/lang/String") (z0 := (⟨"java/lang/String", "length", "()I"⟩ : MethodName)) (z := (⟨"java/lang/String", "length", "()I"⟩ : MethodName)) d_code_191 (w154 hw) (w51 hw) (nfSel (w53 hw)) (w53 hw) (w52 hw) (by decide) (lenOf pd9 rfl) S2289.1 (ct_len l Z a0 hw n0 h289 x2289 b2289 [(i2b c237), (i2b c238)] zc S2289 f293 hzc) (w54 hw) (w10 hw) (fun x hx => hx) rfl (Nat.le_of_eq rfl) (Nat.le_of_ble_eq_true rfl) (Nat.le_of_ble_eq_true rfl) ⟨rfl, Nat.le_of_ble_eq_true rfl⟩ ⟨rfl, Nat.le_of_ble_eq_true rfl⟩ rfl (fun _ _ q => nomatch q.1) fun T h295 v so W hQ => ?_
      obtain ⟨hv, rfl, -⟩ := hQ
      obtain rfl := Option.some.inj hv
      refine k_iload W d_code_194 rfl ?_
      refine k_iload W d_code_196 rfl ?_
      refine k_isub W d_code_198 (z := (3 : Int32)) (by decide) ?_
      refine k_iconst W d_code_199 (z := (1 : Int32)) rfl ?_
      refine k_isub W d_code_200 (z := (2 : Int32)) (by decide) ?_
      refine k_icY W 206 d_code_201 (by decide) (show (2 : Int32) = (2 : Int32) by decide) ?_
      refine k_aload W d_code_206 rfl rfl ?_
      refine k_aload W d_code_208 rfl rfl ?_
      refine k_iload W d_code_210 rfl ?_
      refine k_iload W d_code_212 rfl ?_
      refine k_iconst W d_code_214 (z := (0 : Int32)) rfl ?_
      refine k_iload W d_code_215 rfl ?_
      refine k_callS W 0 8 28 (argsL := [(.ref x1289), (.ref x2289), (.int (0 : Int32)), (.int (3 : Int32)), (.int (0 : Int32)), (.int c236)]) (rest := []) d_code_217 (w155 hw) (w156 hw) (by decide) (lenOf pd28 rfl) (ct_atA l Z a0 hw n0 h289 x1289 x2289 (0 : Int32) (3 : Int32) (0 : Int32) c236 (Or.inr (by decide))) (w157 hw) (w3 hw) (fun x hx => hx) rfl (Nat.le_of_eq rfl) (Nat.le_of_ble_eq_true rfl) (Nat.le_of_ble_eq_true rfl) ⟨rfl, Nat.le_of_ble_eq_true rfl⟩ ⟨rfl, Nat.le_of_ble_eq_true rfl⟩ rfl (fun _ _ q => nomatch q.1) fun T h296 v so W hQ => ?_
      obtain ⟨hv, rfl, -⟩ := hQ
      obtain rfl := Option.some.inj hv
      refine k_ifN W d_code_220 (show ¬ ((1 : Int32) = 0) by decide) ?_
      refine k_aload W d_code_223 rfl rfl ?_
      refine k_aload W d_code_225 rfl rfl ?_
      refine k_iload W d_code_227 rfl ?_
      refine k_iload W d_code_229 rfl ?_
      refine k_iconst W d_code_231 (z := (1 : Int32)) rfl ?_
      refine k_iload W d_code_232 rfl ?_
      have f297 := (Sta.keep f290 K289 ns0)
      refine k_callS W 0 8 28 (argsL := [(.ref x1289), (.ref x2289), (.int (0 : Int32)), (.int (3 : Int32)), (.int (1 : Int32)), (.int c237)]) (rest := []) d_code_234 (w155 hw) (w156 hw) (by decide) (lenOf pd28 rfl) (ct_atC l Z a0 hw n0 h289 x1289 x2289 (0 : Int32) (3 : Int32) (1 : Int32) c237 b2289 [(i2b c237), (i2b c238)] zc sio 0 (by decide) (by decide) (by decide) (by decide) rfl r237 S2289 f293 hzc f297 hsio) (w157 hw) (w3 hw) (fun x hx => hx) rfl (Nat.le_of_eq rfl) (Nat.le_of_ble_eq_true rfl) (Nat.le_of_ble_eq_true rfl) ⟨rfl, Nat.le_of_ble_eq_true rfl⟩ ⟨rfl, Nat.le_of_ble_eq_true rfl⟩ rfl (fun _ _ q => nomatch q.1) fun T h298 v so W hQ => ?_
      obtain ⟨hv, rfl, -⟩ := hQ
      obtain rfl := Option.some.inj hv
      refine k_ifN W d_code_237 (show ¬ ((1 : Int32) = 0) by decide) ?_
      refine k_aload W d_code_240 rfl rfl ?_
      refine k_aload W d_code_242 rfl rfl ?_
      refine k_iload W d_code_244 rfl ?_
      refine k_iload W d_code_246 rfl ?_
      refine k_iconst W d_code_248 (z := (2 : Int32)) rfl ?_
      refine k_iload W d_code_249 rfl ?_
      refine k_callS W 0 8 28 (argsL := [(.ref x1289), (.ref x2289), (.int (0 : Int32)), (.int (3 : Int32)), (.int (2 : Int32)), (.int c238)]) (rest := []) d_code_251 (w155 hw) (w156 hw) (by decide) (lenOf pd28 rfl) (ct_atC l Z a0 hw n0 h289 x1289 x2289 (0 : Int32) (3 : Int32) (2 : Int32) c238 b2289 [(i2b c237), (i2b c238)] zc sio 1 (by decide) (by decide) (by decide) (by decide) rfl r238 S2289 f293 hzc f297 hsio) (w157 hw) (w3 hw) (fun x hx => hx) rfl (Nat.le_of_eq rfl) (Nat.le_of_ble_eq_true rfl) (Nat.le_of_ble_eq_true rfl) ⟨rfl, Nat.le_of_ble_eq_true rfl⟩ ⟨rfl, Nat.le_of_ble_eq_true rfl⟩ rfl (fun _ _ q => nomatch q.1) fun T h299 v so W hQ => ?_
      obtain ⟨hv, rfl, -⟩ := hQ
      obtain rfl := Option.some.inj hv
      refine k_ifN W d_code_254 (show ¬ ((1 : Int32) = 0) by decide) ?_
      refine k_aload W d_code_257 rfl rfl ?_
      refine k_aload W d_code_259 rfl rfl ?_
      refine k_iload W d_code_261 rfl ?_
      refine k_iload W d_code_263 rfl ?_
      refine k_iconst W d_code_265 (z := (3 : Int32)) rfl ?_
      refine k_iload W d_code_266 rfl ?_
      refine k_callS W 0 8 28 (argsL := [(.ref x1289), (.ref x2289), (.int (0 : Int32)), (.int (3 : Int32)), (.int (3 : Int32)), (.int c239)]) (rest := []) d_code_268 (w155 hw) (w156 hw) (by decide) (lenOf pd28 rfl) (ct_atA l Z a0 hw n0 h289 x1289 x2289 (0 : Int32) (3 : Int32) (3 : Int32) c239 (Or.inl (by decide))) (w157 hw) (w3 hw) (fun x hx => hx) rfl (Nat.le_of_eq rfl) (Nat.le_of_ble_eq_true rfl) (Nat.le_of_ble_eq_true rfl) ⟨rfl, Nat.le_of_ble_eq_true rfl⟩ ⟨rfl, Nat.le_of_ble_eq_true rfl⟩ rfl (fun _ _ q => nomatch q.1) fun T h300 v so W hQ => ?_
      obtain ⟨hv, rfl, -⟩ := hQ
      obtain rfl := Option.some.inj hv
      refine k_ifN W d_code_271 (show ¬ ((1 : Int32) = 0) by decide) ?_
      refine k_iconst W d_code_274 (z := (1 : Int32)) rfl ?_
      refine k_goto W 279 d_code_275 (by decide) ?_
      exact k_retN W (t := .boolean) (z' := (1 : Int32)) d_code_279 rfl (by simp) (by decide) [] (fun x hx => nomatch hx) (Nat.le_of_ble_eq_true rfl) (Nat.le_of_ble_eq_true rfl) rfl
    · --
      by_cases hs1 : c237 = 47
      · --
        refine k_aload W d_code_48 rfl rfl ?_
        have f301 := (Sta.keep P0 K287 ns0)
        have f303 := (Sta.keep G0 K287 ns0)
        refine k_callS W 0 8 28 (argsL := [(.ref x287)]) (rest := []) d_code_50 (w30 hw) (w31 hw) (by decide) (lenOf pd26 rfl) (ct_parseY l Z a0 hw n0 h287 x287 b287 [(i2b c236), (i2b c237), (i2b c238)] zc sio 1 (congrArg some (own_47 hs1)) (allM (own_n47 r236 hs0) (fun _ q => nomatch q)) (Nat.le_of_ble_eq_true rfl) S287 f301 hzc f303 hsio) (w33 hw) (w32 hw) (fun x hx => hx) rfl (Nat.le_of_eq rfl) (Nat.le_of_ble_eq_true rfl) (Nat.le_of_ble_eq_true rfl) ⟨rfl, Nat.le_of_ble_eq_true rfl⟩ ⟨rfl, Nat.le_of_ble_eq_true rfl⟩ rfl (fun _ _ ⟨_, _, _, _, _, q, _⟩ => nomatch q) fun T h302 v so W hQ => ?_
        obtain ⟨r302, x1302, b1302, x2302, b2302, hv, K302, X302, A302, B302, S1302, S2302⟩ := hQ
        obtain rfl := Option.some.inj hv
        have S1302 : St Z h302 x1302 b1302 [(i2b c236)] := S1302
        have S2302 : St Z h302 x2302 b2302 [(i2b c238)] := S2302
        refine k_astore W d_code_53 rfl (L' := #[.val (.int p0), .val (.int p1), .val (.int p2), .val (.int p3), .val (.int p4), .val (.int (3 : Int32)), .val (.int c236), .val (.int c237), .val (.int c238), .val (.int c239), .val (.ref x287), .val (.ref r302), .unset, .unset, .unset]) rfl ?_
        refine k_iconst W d_code_55 (z := (-1 : Int32)) rfl ?_
        refine k_istore W d_code_56 (L' := #[.val (.int p0), .val (.int p1), .val (.int p2), .val (.int p3), .val (.int p4), .val (.int (3 : Int32)), .val (.int c236), .val (.int c237), .val (.int c238), .val (.int c239), .val (.ref x287), .val (.ref r302), .val (.int (-1 : Int32)), .unset, .unset]) rfl ?_
        refine k_iload W d_code_58 rfl ?_
        refine k_ifN W d_code_60 (show ¬ (¬ 0 < (3 : Int32)) by decide) ?_
        refine k_iload W d_code_63 rfl ?_
        refine k_bipush W d_code_65 (z := (47 : Int32)) rfl ?_
        refine k_icY W 76 d_code_67 (by decide) (show ¬ c236 = (47 : Int32) from hs0) ?_
        refine k_iload W d_code_76 rfl ?_
        refine k_iconst W d_code_78 (z := (1 : Int32)) rfl ?_
        refine k_icN W d_code_79 (show ¬ (¬ (1 : Int32) < (3 : Int32)) by decide) ?_
        refine k_iload W d_code_82 rfl ?_
        refine k_bipush W d_code_84 (z := (47 : Int32)) rfl ?_
        refine k_icN W d_code_86 (show ¬ (¬ c237 = (47 : Int32)) from (fun q => q hs1)) ?_
        refine k_iconst W d_code_89 (z := (1 : Int32)) rfl ?_
        refine k_istore W d_code_90 (L' := #[.val (.int p0), .val (.int p1), .val (.int p2), .val (.int p3), .val (.int p4), .val (.int (3 : Int32)), .val (.int c236), .val (.int c237), .val (.int c238), .val (.int c239), .val (.ref x287), .val (.ref r302), .val (.int (1 : Int32)), .unset, .unset]) rfl ?_
        refine k_goto W 130 d_code_92 (by decide) ?_
        refine k_iload W d_code_130 rfl ?_
        refine k_ifY W 146 d_code_132 (by decide) (show ¬ (1 : Int32) < 0 by decide) ?_
        refine k_aload W d_code_146 rfl rfl ?_
        refine k_nnY W 153 d_code_148 (by decide) ?_
        refine k_aload W d_code_153 rfl rfl ?_
        refine k_callV W 0 8 28 (argsL := []) (rest := []) (a := r302) (C := "com/example/kourier/kourier/rabbitmq/Route") (z0 := (⟨"com/example/kourier/kourier/rabbitmq/Route", "exchange", "()Ljava/lang/String;"⟩ : MethodName)) (z := (⟨"com/example/kourier/kourier/rabbitmq/Route", "exchange", "()Ljava/lang/String;"⟩ : MethodName)) d_code_155 (w144 hw) (w145 hw) (nfSel (w147 hw)) (w147 hw) (w146 hw) (by decide) (lenOf pd27 rfl) X302 (ct_exchange l Z a0 hw n0 h302 r302 x1302 A302) (w148 hw) (w32 hw) (fun x hx => hx) rfl (Nat.le_of_eq rfl) (Nat.le_of_ble_eq_true rfl) (Nat.le_of_ble_eq_true rfl) ⟨rfl, Nat.le_of_ble_eq_true rfl⟩ ⟨rfl, Nat.le_of_ble_eq_true rfl⟩ rfl (fun _ _ q => nomatch q.1) fun T h304 v so W hQ => ?_
        obtain ⟨hv, rfl, -⟩ := hQ
        obtain rfl := Option.some.inj hv
        refine k_astore W d_code_158 rfl (L' := #[.val (.int p0), .val (.int p1), .val (.int p2), .val (.int p3), .val (.int p4), .val (.int (3 : Int32)), .val (.int c236), .val (.int c237), .val (.int c238), .val (.int c239), .val (.ref x287), .val (.ref r302), .val (.int (1 : Int32)), .val (.ref x1302), .unset]) rfl ?_
        refine k_aload W d_code_160 rfl rfl ?_
        refine k_callV W 0 8 28 (argsL := []) (rest := []) (a := r302) (C := "com/example/kourier/kourier/rabbitmq/Route") (z0 := (⟨"com/example/kourier/kourier/rabbitmq/Route", "routingKey", "()Ljava/lang/String;"⟩ : MethodName)) (z := (⟨"com/example/kourier/kourier/rabbitmq/Route", "routingKey", "()Ljava/lang/String;"⟩ : MethodName)) d_code_162 (w149 hw) (w150 hw) (nfSel (w152 hw)) (w152 hw) (w151 hw) (by decide) (lenOf pd27 rfl) X302 (ct_routingKey l Z a0 hw n0 h302 r302 x2302 B302) (w153 hw) (w32 hw) (fun x hx => hx) rfl (Nat.le_of_eq rfl) (Nat.le_of_ble_eq_true rfl) (Nat.le_of_ble_eq_true rfl) ⟨rfl, Nat.le_of_ble_eq_true rfl⟩ ⟨rfl, Nat.le_of_ble_eq_true rfl⟩ rfl (fun _ _ q => nomatch q.1) fun T h305 v so W hQ => ?_
        obtain ⟨hv, rfl, -⟩ := hQ
        obtain rfl := Option.some.inj hv
        refine k_astore W d_code_165 rfl (L' := #[.val (.int p0), .val (.int p1), .val (.int p2), .val (.int p3), .val (.int p4), .val (.int (3 : Int32)), .val (.int c236), .val (.int c237), .val (.int c238), .val (.int c239), .val (.ref x287), .val (.ref r302), .val (.int (1 : Int32)), .val (.ref x1302), .val (.ref x2302)]) rfl ?_
        refine k_aload W d_code_167 rfl rfl ?_
        refine k_nullN W d_code_169 ?_
        refine k_aload W d_code_172 rfl rfl ?_
        refine k_nnY W 179 d_code_174 (by decide) ?_
        refine k_aload W d_code_179 rfl rfl ?_
        have f306 := (Sta.keep f301 K302 ns0)
        refine k_callV W 0 8 28 (argsL := []) (rest := []) (a := x1302) (C := "java/lang/String") (z0 := (⟨"java/lang/String", "length", "()I"⟩ : MethodName)) (z := (⟨"java/lang/String", "length", "()I"⟩ : MethodName)) d_code_181 (w154 hw) (w51 hw) (nfSel (w53 hw)) (w53 hw) (w52 hw) (by decide) (lenOf pd9 rfl) S1302.1 (ct_len l Z a0 hw n0 h302 x1302 b1302 [(i2b c236)] zc S1302 f306 hzc) (w54 hw) (w10 hw) (fun x hx => hx) rfl (Nat.le_of_eq rfl) (Nat.le_of_ble_eq_true rfl) (Nat.le_of_ble_eq_true rfl) ⟨rfl, Nat.le_of_ble_eq_true rfl⟩ ⟨rfl, Nat.le_of_ble_eq_true rfl⟩ rfl (fun _ _ q => nomatch q.1) fun T h307 v so W hQ => ?_
        obtain ⟨hv, rfl, -⟩ := hQ
        obtain rfl := Option.some.inj hv
        refine k_iload W d_code_184 rfl ?_
        refine k_icN W d_code_186 (show ¬ (¬ (1 : Int32) = (1 : Int32)) by decide) ?_
        refine k_aload W d_code_189 rfl rfl ?_
        refine k_callV W 0 8 28 (argsL := []) (rest := []) (a := x2302) (C := "java/lang/String") (z0 := (⟨"java/lang/String", "length", "()I"⟩ : MethodName)) (z := (⟨"java/lang/String", "length", "()I"⟩ : MethodName)) d_code_191 (w154 hw) (w51 hw) (nfSel (w53 hw)) (w53 hw) (w52 hw) (by decide) (lenOf pd9 rfl) S2302.1 (ct_len l Z a0 hw n0 h302 x2302 b2302 [(i2b c238)] zc S2302 f306 hzc) (w54 hw) (w10 hw) (fun x hx => hx) rfl (Nat.le_of_eq rfl) (Nat.le_of_ble_eq_true rfl) (Nat.le_of_ble_eq_true rfl) ⟨rfl, Nat.le_of_ble_eq_true rfl⟩ ⟨rfl, Nat.le_of_ble_eq_true rfl⟩ rfl (fun _ _ q => nomatch q.1) fun T h308 v so W hQ => ?_
        obtain ⟨hv, rfl, -⟩ := hQ
        obtain rfl := Option.some.inj hv
        refine k_iload W d_code_194 rfl ?_
        refine k_iload W d_code_196 rfl ?_
        refine k_isub W d_code_198 (z := (2 : Int32)) (by decide) ?_
        refine k_iconst W d_code_199 (z := (1 : Int32)) rfl ?_
        refine k_isub W d_code_200 (z := (1 : Int32)) (by decide) ?_
        refine k_icY W 206 d_code_201 (by decide) (show (1 : Int32) = (1 : Int32) by decide) ?_
        refine k_aload W d_code_206 rfl rfl ?_
        refine k_aload W d_code_208 rfl rfl ?_
        refine k_iload W d_code_210 rfl ?_
        refine k_iload W d_code_212 rfl ?_
        refine k_iconst W d_code_214 (z := (0 : Int32)) rfl ?_
        refine k_iload W d_code_215 rfl ?_
        have f309 := (Sta.keep f303 K302 ns0)
        refine k_callS W 0 8 28 (argsL := [(.ref x1302), (.ref x2302), (.int (1 : Int32)), (.int (3 : Int32)), (.int (0 : Int32)), (.int c236)]) (rest := []) d_code_217 (w155 hw) (w156 hw) (by decide) (lenOf pd28 rfl) (ct_atB l Z a0 hw n0 h302 x1302 x2302 (1 : Int32) (3 : Int32) (0 : Int32) c236 b1302 [(i2b c236)] zc sio 0 (by decide) (by decide) (by decide) (by decide) rfl r236 S1302 f306 hzc f309 hsio) (w157 hw) (w3 hw) (fun x hx => hx) rfl (Nat.le_of_eq rfl) (Nat.le_of_ble_eq_true rfl) (Nat.le_of_ble_eq_true rfl) ⟨rfl, Nat.le_of_ble_eq_true rfl⟩ ⟨rfl, Nat.le_of_ble_eq_true rfl⟩ rfl (fun _ _ q => nomatch q.1) fun T h310 v so W hQ => ?_
        obtain ⟨hv, rfl, -⟩ := hQ
        obtain rfl := Option.some.inj hv
        refine k_ifN W d_code_220 (show ¬ ((1 : Int32) = 0) by decide) ?_
        refine k_aload W d_code_223 rfl rfl ?_
        refine k_aload W d_code_225 rfl rfl ?_
        refine k_iload W d_code_227 rfl ?_
        refine k_iload W d_code_229 rfl ?_
        refine k_iconst W d_code_231 (z := (1 : Int32)) rfl ?_
        refine k_iload W d_code_232 rfl ?_
        refine k_callS W 0 8 28 (argsL := [(.ref x1302), (.ref x2302), (.int (1 : Int32)), (.int (3 : Int32)), (.int (1 : Int32)), (.int c237)]) (rest := []) d_code_234 (w155 hw) (w156 hw) (by decide) (lenOf pd28 rfl) (ct_atA l Z a0 hw n0 h302 x1302 x2302 (1 : Int32) (3 : Int32) (1 : Int32) c237 (Or.inr (by decide))) (w157 hw) (w3 hw) (fun x hx => hx) rfl (Nat.le_of_eq rfl) (Nat.le_of_ble_eq_true rfl) (Nat.le_of_ble_eq_true rfl) ⟨rfl, Nat.le_of_ble_eq_true rfl⟩ ⟨rfl, Nat.le_of_ble_eq_true rfl⟩ rfl (fun _ _ q => nomatch q.1) fun T h311 v so W hQ => ?_
        obtain ⟨hv, rfl, -⟩ := hQ
        obtain rfl := Option.some.inj hv
        refine k_ifN W d_code_237 (show ¬ ((1 : Int32) = 0) by decide) ?_
        refine k_aload W d_code_240 rfl rfl ?_
        refine k_aload W d_code_242 rfl rfl ?_
        refine k_iload W d_code_244 rfl ?_
        refine k_iload W d_code_246 rfl ?_
        refine k_iconst W d_code_248 (z := (2 : Int32)) rfl ?_
        refine k_iload W d_code_249 rfl ?_
        refine k_callS W 0 8 28 (argsL := [(.ref x1302), (.ref x2302), (.int (1 : Int32)), (.int (3 : Int32)), (.int (2 : Int32)), (.int c238)]) (rest := []) d_code_251 (w155 hw) (w156 hw) (by decide) (lenOf pd28 rfl) (ct_atC l Z a0 hw n0 h302 x1302 x2302 (1 : Int32) (3 : Int32) (2 : Int32) c238 b2302 [(i2b c238)] zc sio 0 (by decide) (by decide) (by decide) (by decide) rfl r238 S2302 f306 hzc f309 hsio) (w157 hw) (w3 hw) (fun x hx => hx) rfl (Nat.le_of_eq rfl) (Nat.le_of_ble_eq_true rfl) (Nat.le_of_ble_eq_true rfl) ⟨rfl, Nat.le_of_ble_eq_true rfl⟩ ⟨rfl, Nat.le_of_ble_eq_true rfl⟩ rfl (fun _ _ q => nomatch q.1) fun T h312 v so W hQ => ?_
        obtain ⟨hv, rfl, -⟩ := hQ
        obtain rfl := Option.some.inj hv
        refine k_ifN W d_code_254 (show ¬ ((1 : Int32) = 0) by decide) ?_
        refine k_aload W d_code_257 rfl rfl ?_
        refine k_aload W d_code_259 rfl rfl ?_
        refine k_iload W d_code_261 rfl ?_
        refine k_iload W d_code_263 rfl ?_
        refine k_iconst W d_code_265 (z := (3 : Int32)) rfl ?_
        refine k_iload W d_code_266 rfl ?_
        refine k_callS W 0 8 28 (argsL := [(.ref x1302), (.ref x2302), (.int (1 : Int32)), (.int (3 : Int32)), (.int (3 : Int32)), (.int c239)]) (rest := []) d_code_268 (w155 hw) (w156 hw) (by decide) (lenOf pd28 rfl) (ct_atA l Z a0 hw n0 h302 x1302 x2302 (1 : Int32) (3 : Int32) (3 : Int32) c239 (Or.inl (by decide))) (w157 hw) (w3 hw) (fun x hx => hx) rfl (Nat.le_of_eq rfl) (Nat.le_of_ble_eq_true rfl) (Nat.le_of_ble_eq_true rfl) ⟨rfl, Nat.le_of_ble_eq_true rfl⟩ ⟨rfl, Nat.le_of_ble_eq_true rfl⟩ rfl (fun _ _ q => nomatch q.1) fun T h313 v so W hQ => ?_
        obtain ⟨hv, rfl, -⟩ := hQ
        obtain rfl := Option.some.inj hv
        refine k_ifN W d_code_271 (show ¬ ((1 : Int32) = 0) by decide) ?_
        refine k_iconst W d_code_274 (z := (1 : Int32)) rfl ?_
        refine k_goto W 279 d_code_275 (by decide) ?_
        exact k_retN W (t := .boolean) (z' := (1 : Int32)) d_code_279 rfl (by simp) (by decide) [] (fun x hx => nomatch hx) (Nat.le_of_ble_eq_true rfl) (Nat.le_of_ble_eq_true rfl) rfl
      · --
        by_cases hs2 : c238 = 47
        · --
          refine k_aload W d_code_48 rfl rfl ?_
          have f314 := (Sta.keep P0 K287 ns0)
          have f316 := (Sta.keep G0 K287 ns0)
          refine k_callS W 0 8 28 (argsL := [(.ref x287)]) (rest := []) d_code_50 (w30 hw) (w31 hw) (by decide) (lenOf pd26 rfl) (ct_parseY l Z a0 hw n0 h287 x287 b287 [(i2b c236), (i2b c237), (i2b c238)] zc sio 2 (congrArg some (own_47 hs2)) (allM (own_n47 r236 hs0) (allM (own_n47 r237 hs1) (fun _ q => nomatch q))) (Nat.le_of_ble_eq_true rfl) S287 f314 hzc f316 hsio) (w33 hw) (w32 hw) (fun x hx => hx) rfl (Nat.le_of_eq rfl) (Nat.le_of_ble_eq_true rfl) (Nat.le_of_ble_eq_true rfl) ⟨rfl, Nat.le_of_ble_eq_true rfl⟩ ⟨rfl, Nat.le_of_ble_eq_true rfl⟩ rfl (fun _ _ ⟨_, _, _, _, _, q, _⟩ => nomatch q) fun T h315 v so W hQ => ?_
          obtain ⟨r315, x1315, b1315, x2315, b2315, hv, K315, X315, A315, B315, S1315, S2315⟩ := hQ
          obtain rfl := Option.some.inj hv
          have S1315 : St Z h315 x1315 b1315 [(i2b c236), (i2b c237)] := S1315
          have S2315 : St Z h315 x2315 b2315 [] := S2315
          refine k_astore W d_code_53 rfl (L' := #[.val (.int p0), .val (.int p1), .val (.int p2), .val (.int p3), .val (.int p4), .val (.int (3 : Int32)), .val (.int c236), .val (.int c237), .val (.int c238), .val (.int c239), .val (.ref x287), .val (.ref r315), .unset, .unset, .unset]) rfl ?_
          refine k_iconst W d_code_55 (z := (-1 : Int32)) rfl ?_
          refine k_istore W d_code_56 (L' := #[.val (.int p0), .val (.int p1), .val (.int p2), .val (.int p3), .val (.int p4), .val (.int (3 : Int32)), .val (.int c236), .val (.int c237), .val (.int c238), .val (.int c239), .val (.ref x287), .val (.ref r315), .val (.int (-1 : Int32)), .unset, .unset]) rfl ?_
          refine k_iload W d_code_58 rfl ?_
          refine k_ifN W d_code_60 (show ¬ (¬ 0 < (3 : Int32)) by decide) ?_
          refine k_iload W d_code_63 rfl ?_
          refine k_bipush W d_code_65 (z := (47 : Int32)) rfl ?_
          refine k_icY W 76 d_code_67 (by decide) (show ¬ c236 = (47 : Int32) from hs0) ?_
          refine k_iload W d_code_76 rfl ?_
          refine k_iconst W d_code_78 (z := (1 : Int32)) rfl ?_
          refine k_icN W d_code_79 (show ¬ (¬ (1 : Int32) < (3 : Int32)) by decide) ?_
          refine k_iload W d_code_82 rfl ?_
          refine k_bipush W d_code_84 (z := (47 : Int32)) rfl ?_
          refine k_icY W 95 d_code_86 (by decide) (show ¬ c237 = (47 : Int32) from hs1) ?_
          refine k_iload W d_code_95 rfl ?_
          refine k_iconst W d_code_97 (z := (2 : Int32)) rfl ?_
          refine k_icN W d_code_98 (show ¬ (¬ (2 : Int32) < (3 : Int32)) by decide) ?_
          refine k_iload W d_code_101 rfl ?_
          refine k_bipush W d_code_103 (z := (47 : Int32)) rfl ?_
          refine k_icN W d_code_105 (show ¬ (¬ c238 = (47 : Int32)) from (fun q => q hs2)) ?_
          refine k_iconst W d_code_108 (z := (2 : Int32)) rfl ?_
          refine k_istore W d_code_109 (L' := #[.val (.int p0), .val (.int p1), .val (.int p2), .val (.int p3), .val (.int p4), .val (.int (3 : Int32)), .val (.int c236), .val (.int c237), .val (.int c238), .val (.int c239), .val (.ref x287), .val (.ref r315), .val (.int (2 : Int32)), .unset, .unset]) rfl ?_
          refine k_goto W 130 d_code_111 (by decide) ?_
          refine k_iload W d_code_130 rfl ?_
          refine k_ifY W 146 d_code_132 (by decide) (show ¬ (2 : Int32) < 0 by decide) ?_
          refine k_aload W d_code_146 rfl rfl ?_
          refine k_nnY W 153 d_code_148 (by decide) ?_
          refine k_aload W d_code_153 rfl rfl ?_
          refine k_callV W 0 8 28 (argsL := []) (rest := []) (a := r315) (C := "com/example/kourier/kourier/rabbitmq/Route") (z0 := (⟨"com/example/kourier/kourier/rabbitmq/Route", "exchange", "()Ljava/lang/String;"⟩ : MethodName)) (z := (⟨"com/example/kourier/kourier/rabbitmq/Route", "exchange", "()Ljava/lang/String;"⟩ : MethodName)) d_code_155 (w144 hw) (w145 hw) (nfSel (w147 hw)) (w147 hw) (w146 hw) (by decide) (lenOf pd27 rfl) X315 (ct_exchange l Z a0 hw n0 h315 r315 x1315 A315) (w148 hw) (w32 hw) (fun x hx => hx) rfl (Nat.le_of_eq rfl) (Nat.le_of_ble_eq_true rfl) (Nat.le_of_ble_eq_true rfl) ⟨rfl, Nat.le_of_ble_eq_true rfl⟩ ⟨rfl, Nat.le_of_ble_eq_true rfl⟩ rfl (fun _ _ q => nomatch q.1) fun T h317 v so W hQ => ?_
          obtain ⟨hv, rfl, -⟩ := hQ
          obtain rfl := Option.some.inj hv
          refine k_astore W d_code_158 rfl (L' := #[.val (.int p0), .val (.int p1), .val (.int p2), .val (.int p3), .val (.int p4), .val (.int (3 : Int32)), .val (.int c236), .val (.int c237), .val (.int c238), .val (.int c239), .val (.ref x287), .val (.ref r315), .val (.int (2 : Int32)), .val (.ref x1315), .unset]) rfl ?_
          refine k_aload W d_code_160 rfl rfl ?_
          refine k_callV W 0 8 28 (argsL := []) (rest := []) (a := r315) (C := "com/example/kourier/kourier/rabbitmq/Route") (z0 := (⟨"com/example/kourier/kourier/rabbitmq/Route", "routingKey", "()Ljava/lang/String;"⟩ : MethodName)) (z := (⟨"com/example/kourier/kourier/rabbitmq/Route", "routingKey", "()Ljava/lang/String;"⟩ : MethodName)) d_code_162 (w149 hw) (w150 hw) (nfSel (w152 hw)) (w152 hw) (w151 hw) (by decide) (lenOf pd27 rfl) X315 (ct_routingKey l Z a0 hw n0 h315 r315 x2315 B315) (w153 hw) (w32 hw) (fun x hx => hx) rfl (Nat.le_of_eq rfl) (Nat.le_of_ble_eq_true rfl) (Nat.le_of_ble_eq_true rfl) ⟨rfl, Nat.le_of_ble_eq_true rfl⟩ ⟨rfl, Nat.le_of_ble_eq_true rfl⟩ rfl (fun _ _ q => nomatch q.1) fun T h318 v so W hQ => ?_
          obtain ⟨hv, rfl, -⟩ := hQ
          obtain rfl := Option.some.inj hv
          refine k_astore W d_code_165 rfl (L' := #[.val (.int p0), .val (.int p1), .val (.int p2), .val (.int p3), .val (.int p4), .val (.int (3 : Int32)), .val (.int c236), .val (.int c237), .val (.int c238), .val (.int c239), .val (.ref x287), .val (.ref r315), .val (.int (2 : Int32)), .val (.ref x1315), .val (.ref x2315)]) rfl ?_
          refine k_aload W d_code_167 rfl rfl ?_
          refine k_nullN W d_code_169 ?_
          refine k_aload W d_code_172 rfl rfl ?_
          refine k_nnY W 179 d_code_174 (by decide) ?_
          refine k_aload W d_code_179 rfl rfl ?_
          have f319 := (Sta.keep f314 K315 ns0)
          refine k_callV W 0 8 28 (argsL := []) (rest := []) (a := x1315) (C := "java/lang/String") (z0 := (⟨"java/lang/String", "length", "()I"⟩ : MethodName)) (z := (⟨"java/lang/String", "length", "()I"⟩ : MethodName)) d_code_181 (w154 hw) (w51 hw) (nfSel (w53 hw)) (w53 hw) (w52 hw) (by decide) (lenOf pd9 rfl) S1315.1 (ct_len l Z a0 hw n0 h315 x1315 b1315 [(i2b c236), (i2b c237)] zc S1315 f319 hzc) (w54 hw) (w10 hw) (fun x hx => hx) rfl (Nat.le_of_eq rfl) (Nat.le_of_ble_eq_true rfl) (Nat.le_of_ble_eq_true rfl) ⟨rfl, Nat.le_of_ble_eq_true rfl⟩ ⟨rfl, Nat.le_of_ble_eq_true rfl⟩ rfl (fun _ _ q => nomatch q.1) fun T h320 v so W hQ => ?_
          obtain ⟨hv, rfl, -⟩ := hQ
          obtain rfl := Option.some.inj hv
          refine k_iload W d_code_184 rfl ?_
          refine k_icN W d_code_186 (show ¬ (¬ (2 : Int32) = (2 : Int32)) by decide) ?_
          refine k_aload W d_code_189 rfl rfl ?_
          refine k_callV W 0 8 28 (argsL := []) (rest := []) (a := x2315) (C := "java/lang/String") (z0 := (⟨"java/lang/String", "length", "()I"⟩ : MethodName)) (z := (⟨"java/lang/String", "length", "()I"⟩ : MethodName)) d_code_191 (w154 hw) (w51 hw) (nfSel (w53 hw)) (w53 hw) (w52 hw) (by decide) (lenOf pd9 rfl) S2315.1 (ct_len l Z a0 hw n0 h315 x2315 b2315 [] zc S2315 f319 hzc) (w54 hw) (w10 hw) (fun x hx => hx) rfl (Nat.le_of_eq rfl) (Nat.le_of_ble_eq_true rfl) (Nat.le_of_ble_eq_true rfl) ⟨rfl, Nat.le_of_ble_eq_true rfl⟩ ⟨rfl, Nat.le_of_ble_eq_true rfl⟩ rfl (fun _ _ q => nomatch q.1) fun T h321 v so W hQ => ?_
          obtain ⟨hv, rfl, -⟩ := hQ
          obtain rfl := Option.some.inj hv
          refine k_iload W d_code_194 rfl ?_
          refine k_iload W d_code_196 rfl ?_
          refine k_isub W d_code_198 (z := (1 : Int32)) (by decide) ?_
          refine k_iconst W d_code_199 (z := (1 : Int32)) rfl ?_
          refine k_isub W d_code_200 (z := (0 : Int32)) (by decide) ?_
          refine k_icY W 206 d_code_201 (by decide) (show (0 : Int32) = (0 : Int32) by decide) ?_
          refine k_aload W d_code_206 rfl rfl ?_
          refine k_aload W d_code_208 rfl rfl ?_
          refine k_iload W d_code_210 rfl ?_
          refine k_iload W d_code_212 rfl ?_
          refine k_iconst W d_code_214 (z := (0 : Int32)) rfl ?_
          refine k_iload W d_code_215 rfl ?_
          have f322 := (Sta.keep f316 K315 ns0)
          refine k_callS W 0 8 28 (argsL := [(.ref x1315), (.ref x2315), (.int (2 : Int32)), (.int (3 : Int32)), (.int (0 : Int32)), (.int c236)]) (rest := []) d_code_217 (w155 hw) (w156 hw) (by decide) (lenOf pd28 rfl) (ct_atB l Z a0 hw n0 h315 x1315 x2315 (2 : Int32) (3 : Int32) (0 : Int32) c236 b1315 [(i2b c236), (i2b c237)] zc sio 0 (by decide) (by decide) (by decide) (by decide) rfl r236 S1315 f319 hzc f322 hsio) (w157 hw) (w3 hw) (fun x hx => hx) rfl (Nat.le_of_eq rfl) (Nat.le_of_ble_eq_true rfl) (Nat.le_of_ble_eq_true rfl) ⟨rfl, Nat.le_of_ble_eq_true rfl⟩ ⟨rfl, Nat.le_of_ble_eq_true rfl⟩ rfl (fun _ _ q => nomatch q.1) fun T h323 v so W hQ => ?_
          obtain ⟨hv, rfl, -⟩ := hQ
          obtain rfl := Option.some.inj hv
          refine k_ifN W d_code_220 (show ¬ ((1 : Int32) = 0) by decide) ?_
          refine k_aload W d_code_223 rfl rfl ?_
          refine k_aload W d_code_225 rfl rfl ?_
          refine k_iload W d_code_227 rfl ?_
          refine k_iload W d_code_229 rfl ?_
          refine k_iconst W d_code_231 (z := (1 : Int32)) rfl ?_
          refine k_iload W d_code_232 rfl ?_
          refine k_callS W 0 8 28 (argsL := [(.ref x1315), (.ref x2315), (.int (2 : Int32)), (.int (3 : Int32)), (.int (1 : Int32)), (.int c237)]) (rest := []) d_code_234 (w155 hw) (w156 hw) (by decide) (lenOf pd28 rfl) (ct_atB l Z a0 hw n0 h315 x1315 x2315 (2 : Int32) (3 : Int32) (1 : Int32) c237 b1315 [(i2b c236), (i2b c237)] zc sio 1 (by decide) (by decide) (by decide) (by decide) rfl r237 S1315 f319 hzc f322 hsio) (w157 hw) (w3 hw) (fun x hx => hx) rfl (Nat.le_of_eq rfl) (Nat.le_of_ble_eq_true rfl) (Nat.le_of_ble_eq_true rfl) ⟨rfl, Nat.le_of_ble_eq_true rfl⟩ ⟨rfl, Nat.le_of_ble_eq_true rfl⟩ rfl (fun _ _ q => nomatch q.1) fun T h324 v so W hQ => ?_
          obtain ⟨hv, rfl, -⟩ := hQ
          obtain rfl := Option.some.inj hv
          refine k_ifN W d_code_237 (show ¬ ((1 : Int32) = 0) by decide) ?_
          refine k_aload W d_code_240 rfl rfl ?_
          refine k_aload W d_code_242 rfl rfl ?_
          refine k_iload W d_code_244 rfl ?_
          refine k_iload W d_code_246 rfl ?_
          refine k_iconst W d_code_248 (z := (2 : Int32)) rfl ?_
          refine k_iload W d_code_249 rfl ?_
          refine k_callS W 0 8 28 (argsL := [(.ref x1315), (.ref x2315), (.int (2 : Int32)), (.int (3 : Int32)), (.int (2 : Int32)), (.int c238)]) (rest := []) d_code_251 (w155 hw) (w156 hw) (by decide) (lenOf pd28 rfl) (ct_atA l Z a0 hw n0 h315 x1315 x2315 (2 : Int32) (3 : Int32) (2 : Int32) c238 (Or.inr (by decide))) (w157 hw) (w3 hw) (fun x hx => hx) rfl (Nat.le_of_eq rfl) (Nat.le_of_ble_eq_true rfl) (Nat.le_of_ble_eq_true rfl) ⟨rfl, Nat.le_of_ble_eq_true rfl⟩ ⟨rfl, Nat.le_of_ble_eq_true rfl⟩ rfl (fun _ _ q => nomatch q.1) fun T h325 v so W hQ => ?_
          obtain ⟨hv, rfl, -⟩ := hQ
          obtain rfl := Option.some.inj hv
          refine k_ifN W d_code_254 (show ¬ ((1 : Int32) = 0) by decide) ?_
          refine k_aload W d_code_257 rfl rfl ?_
          refine k_aload W d_code_259 rfl rfl ?_
          refine k_iload W d_code_261 rfl ?_
          refine k_iload W d_code_263 rfl ?_
          refine k_iconst W d_code_265 (z := (3 : Int32)) rfl ?_
          refine k_iload W d_code_266 rfl ?_
          refine k_callS W 0 8 28 (argsL := [(.ref x1315), (.ref x2315), (.int (2 : Int32)), (.int (3 : Int32)), (.int (3 : Int32)), (.int c239)]) (rest := []) d_code_268 (w155 hw) (w156 hw) (by decide) (lenOf pd28 rfl) (ct_atA l Z a0 hw n0 h315 x1315 x2315 (2 : Int32) (3 : Int32) (3 : Int32) c239 (Or.inl (by decide))) (w157 hw) (w3 hw) (fun x hx => hx) rfl (Nat.le_of_eq rfl) (Nat.le_of_ble_eq_true rfl) (Nat.le_of_ble_eq_true rfl) ⟨rfl, Nat.le_of_ble_eq_true rfl⟩ ⟨rfl, Nat.le_of_ble_eq_true rfl⟩ rfl (fun _ _ q => nomatch q.1) fun T h326 v so W hQ => ?_
          obtain ⟨hv, rfl, -⟩ := hQ
          obtain rfl := Option.some.inj hv
          refine k_ifN W d_code_271 (show ¬ ((1 : Int32) = 0) by decide) ?_
          refine k_iconst W d_code_274 (z := (1 : Int32)) rfl ?_
          refine k_goto W 279 d_code_275 (by decide) ?_
          exact k_retN W (t := .boolean) (z' := (1 : Int32)) d_code_279 rfl (by simp) (by decide) [] (fun x hx => nomatch hx) (Nat.le_of_ble_eq_true rfl) (Nat.le_of_ble_eq_true rfl) rfl
        · --
          refine k_aload W d_code_48 rfl rfl ?_
          have f327 := (Sta.keep P0 K287 ns0)
          refine k_callS W 0 3 10 (argsL := [(.ref x287)]) (rest := []) d_code_50 (w30 hw) (w31 hw) (by decide) (lenOf pd26 rfl) (ct_parseN l Z a0 hw n0 h287 x287 b287 [(i2b c236), (i2b c237), (i2b c238)] zc (allM (own_n47 r236 hs0) (allM (own_n47 r237 hs1) (allM (own_n47 r238 hs2) (fun _ q => nomatch q)))) S287 f327 hzc) (w33 hw) (w32 hw) (fun x hx => hx) rfl (Nat.le_of_eq rfl) (Nat.le_of_ble_eq_true rfl) (Nat.le_of_ble_eq_true rfl) ⟨rfl, Nat.le_of_ble_eq_true rfl⟩ ⟨rfl, Nat.le_of_ble_eq_true rfl⟩ rfl (fun _ _ q => nomatch q.1) fun T h328 v so W hQ => ?_
          obtain ⟨hv, rfl, -⟩ := hQ
          obtain rfl := Option.some.inj hv
          refine k_astore W d_code_53 rfl (L' := #[.val (.int p0), .val (.int p1), .val (.int p2), .val (.int p3), .val (.int p4), .val (.int (3 : Int32)), .val (.int c236), .val (.int c237), .val (.int c238), .val (.int c239), .val (.ref x287), .val .null, .unset, .unset, .unset]) rfl ?_
          refine k_iconst W d_code_55 (z := (-1 : Int32)) rfl ?_
          refine k_istore W d_code_56 (L' := #[.val (.int p0), .val (.int p1), .val (.int p2), .val (.int p3), .val (.int p4), .val (.int (3 : Int32)), .val (.int c236), .val (.int c237), .val (.int c238), .val (.int c239), .val (.ref x287), .val .null, .val (.int (-1 : Int32)), .unset, .unset]) rfl ?_
          refine k_iload W d_code_58 rfl ?_
          refine k_ifN W d_code_60 (show ¬ (¬ 0 < (3 : Int32)) by decide) ?_
          refine k_iload W d_code_63 rfl ?_
          refine k_bipush W d_code_65 (z := (47 : Int32)) rfl ?_
          refine k_icY W 76 d_code_67 (by decide) (show ¬ c236 = (47 : Int32) from hs0) ?_
          refine k_iload W d_code_76 rfl ?_
          refine k_iconst W d_code_78 (z := (1 : Int32)) rfl ?_
          refine k_icN W d_code_79 (show ¬ (¬ (1 : Int32) < (3 : Int32)) by decide) ?_
          refine k_iload W d_code_82 rfl ?_
          refine k_bipush W d_code_84 (z := (47 : Int32)) rfl ?_
          refine k_icY W 95 d_code_86 (by decide) (show ¬ c237 = (47 : Int32) from hs1) ?_
          refine k_iload W d_code_95 rfl ?_
          refine k_iconst W d_code_97 (z := (2 : Int32)) rfl ?_
          refine k_icN W d_code_98 (show ¬ (¬ (2 : Int32) < (3 : Int32)) by decide) ?_
          refine k_iload W d_code_101 rfl ?_
          refine k_bipush W d_code_103 (z := (47 : Int32)) rfl ?_
          refine k_icY W 114 d_code_105 (by decide) (show ¬ c238 = (47 : Int32) from hs2) ?_
          refine k_iload W d_code_114 rfl ?_
          refine k_iconst W d_code_116 (z := (3 : Int32)) rfl ?_
          refine k_icY W 130 d_code_117 (by decide) (show ¬ (3 : Int32) < (3 : Int32) by decide) ?_
          refine k_iload W d_code_130 rfl ?_
          refine k_ifN W d_code_132 (show ¬ (¬ (-1 : Int32) < 0) by decide) ?_
          refine k_aload W d_code_135 rfl rfl ?_
          refine k_nnN W d_code_137 ?_
          refine k_iconst W d_code_140 (z := (1 : Int32)) rfl ?_
          refine k_goto W 145 d_code_141 (by decide) ?_
          exact k_retN W (t := .boolean) (z' := (1 : Int32)) d_code_145 rfl (by simp) (by decide) [] (fun x hx => nomatch hx) (Nat.le_of_ble_eq_true rfl) (Nat.le_of_ble_eq_true rfl) rfl
  · -- n = 4
    refine k_iload W d_code_33 rfl ?_
    refine k_iload W d_code_35 rfl ?_
    refine k_iload W d_code_37 rfl ?_
    refine k_iload W d_code_39 rfl ?_
    refine k_iload W d_code_41 rfl ?_
    refine k_callS W 0 3 12 (argsL := [(.int (4 : Int32)), (.int c236), (.int c237), (.int c238), (.int c239)]) (rest := []) d_code_43 (w5 hw) (w6 hw) (by decide) (lenOf pd25 rfl) (ct_mk4 l Z a0 hw n0 h0 c236 c237 c238 c239 zc r236 r237 r238 r239 P0 hzc) (w7 hw) (w3 hw) (fun x hx => hx) rfl (Nat.le_of_eq rfl) (Nat.le_of_ble_eq_true rfl) (Nat.le_of_ble_eq_true rfl) ⟨rfl, Nat.le_of_ble_eq_true rfl⟩ ⟨rfl, Nat.le_of_ble_eq_true rfl⟩ rfl (fun _ _ ⟨_, _, q, _⟩ => nomatch q) fun T h329 v so W hQ => ?_
    obtain ⟨x329, b329, hv, gx329, K329, S329⟩ := hQ
    obtain rfl := Option.some.inj hv
    refine k_astore W d_code_46 rfl (L' := #[.val (.int p0), .val (.int p1), .val (.int p2), .val (.int p3), .val (.int p4), .val (.int (4 : Int32)), .val (.int c236), .val (.int c237), .val (.int c238), .val (.int c239), .val (.ref x329), .unset, .unset, .unset, .unset]) rfl ?_
    by_cases hs0 : c236 = 47
    · --
      refine k_aload W d_code_48 rfl rfl ?_
      have f330 := (Sta.keep P0 K329 ns0)
      have f332 := (Sta.keep G0 K329 ns0)
      refine k_callS W 0 8 30 (argsL := [(.ref x329)]) (rest := []) d_code_50 (w30 hw) (w31 hw) (by decide) (lenOf pd26 rfl) (ct_parseY l Z a0 hw n0 h329 x329 b329 [(i2b c236), (i2b c237), (i2b c238), (i2b c239)] zc sio 0 (congrArg some (own_47 hs0)) (fun _ q => nomatch q) (Nat.le_of_ble_eq_true rfl) S329 f330 hzc f332 hsio) (w33 hw) (w32 hw) (fun x hx => hx) rfl (Nat.le_of_eq rfl) (Nat.le_of_ble_eq_true rfl) (Nat.le_of_ble_eq_true rfl) ⟨rfl, Nat.le_of_ble_eq_true rfl⟩ ⟨rfl, Nat.le_of_ble_eq_true rfl⟩ rfl (fun _ _ ⟨_, _, _, _, _, q, _⟩ => nomatch q) fun T h331 v so W hQ => ?_
      obtain ⟨r331, x1331, b1331, x2331, b2331, hv, K331, X331, A331, B331, S1331, S2331⟩ := hQ
      obtain rfl := Option.some.inj hv
      have S1331 : St Z h331 x1331 b1331 [] := S1331
      have S2331 : St Z h331 x2331 b2331 [(i2b c237), (i2b c238), (i2b c239)] := S2331
      refine k_astore W d_code_53 rfl (L' := #[.val (.int p0), .val (.int p1), .val (.int p2), .val (.int p3), .val (.int p4), .val (.int (4 : Int32)), .val (.int c236), .val (.int c237), .val (.int c238), .val (.int c239), .val (.ref x329), .val (.ref r331), .unset, .unset, .unset]) rfl ?_
      refine k_iconst W d_code_55 (z := (-1 : Int32)) rfl ?_
      refine k_istore W d_code_56 (L' := #[.val (.int p0), .val (.int p1), .val (.int p2), .val (.int p3), .val (.int p4), .val (.int (4 : Int32)), .val (.int c236), .val (.int c237), .val (.int c238), .val (.int c239), .val (.ref x329), .val (.ref r331), .val (.int (-1 : Int32)), .unset, .unset]) rfl ?_
      refine k_iload W d_code_58 rfl ?_
      refine k_ifN W d_code_60 (show ¬ (¬ 0 < (4 : Int32)) by decide) ?_
      refine k_iload W d_code_63 rfl ?_
      refine k_bipush W d_code_65 (z := (47 : Int32)) rfl ?_
      refine k_icN W d_code_67 (show ¬ (¬ c236 = (47 : Int32)) from (fun q => q hs0)) ?_
      refine k_iconst W d_code_70 (z := (0 : Int32)) rfl ?_
      refine k_istore W d_code_71 (L' := #[.val (.int p0), .val (.int p1), .val (.int p2), .val (.int p3), .val (.int p4), .val (.int (4 : Int32)), .val (.int c236), .val (.int c237), .val (.int c238), .val (.int c239), .val (.ref x329), .val (.ref r331), .val (.int (0 : Int32)), .unset, .unset]) rfl ?_
      refine k_goto W 130 d_code_73 (by decide) ?_
      refine k_iload W d_code_130 rfl ?_
      refine k_ifY W 146 d_code_132 (by decide) (show ¬ (0 : Int32) < 0 by decide) ?_
      refine k_aload W d_code_146 rfl rfl ?_
      refine k_nnY W 153 d_code_148 (by decide) ?_
      refine k_aload W d_code_153 rfl rfl ?_
      refine k_callV W 0 8 30 (argsL := []) (rest := []) (a := r331) (C := "com/example/kourier/kourier/rabbitmq/Route") (z0 := (⟨"com/example/kourier/kourier/rabbitmq/Route", "exchange", "()Ljava/lang/String;"⟩ : MethodName)) (z := (⟨"com/example/kourier/kourier/rabbitmq/Route", "exchange", "()Ljava/lang/String;"⟩ : MethodName)) d_code_155 (w144 hw) (w145 hw) (nfSel (w147 hw)) (w147 hw) (w146 hw) (by decide) (lenOf pd27 rfl) X331 (ct_exchange l Z a0 hw n0 h331 r331 x1331 A331) (w148 hw) (w32 hw) (fun x hx => hx) rfl (Nat.le_of_eq rfl) (Nat.le_of_ble_eq_true rfl) (Nat.le_of_ble_eq_true rfl) ⟨rfl, Nat.le_of_ble_eq_true rfl⟩ ⟨rfl, Nat.le_of_ble_eq_true rfl⟩ rfl (fun _ _ q => nomatch q.1) fun T h333 v so W hQ => ?_
      obtain ⟨hv, rfl, -⟩ := hQ
      obtain rfl := Option.some.inj hv
      refine k_astore W d_code_158 rfl (L' := #[.val (.int p0), .val (.int p1), .val (.int p2), .val (.int p3), .val (.int p4), .val (.int (4 : Int32)), .val (.int c236), .val (.int c237), .val (.int c238), .val (.int c239), .val (.ref x329), .val (.ref r331), .val (.int (0 : Int32)), .val (.ref x1331), .unset]) rfl ?_
      refine k_aload W d_code_160 rfl rfl ?_
      refine k_callV W 0 8 30 (argsL := []) (rest := []) (a := r331) (C := "com/example/kourier/kourier/rabbitmq/Route") (z0 := (⟨"com/example/kourier/kourier/rabbitmq/Route", "routingKey", "()Ljava/lang/String;"⟩ : MethodName)) (z := (⟨"com/example/kourier/kourier/rabbitmq/Route", "routingKey", "()Ljava/lang/String;"⟩ : MethodName)) d_code_162 (w149 hw) (w150 hw) (nfSel (w152 hw)) (w152 hw) (w151 hw) (by decide) (lenOf pd27 rfl) X331 (ct_routingKey l Z a0 hw n0 h331 r331 x2331 B331) (w153 hw) (w32 hw) (fun x hx => hx) rfl (Nat.le_of_eq rfl) (Nat.le_of_ble_eq_true rfl) (Nat.le_of_ble_eq_true rfl) ⟨rfl, Nat.le_of_ble_eq_true rfl⟩ ⟨rfl, Nat.le_of_ble_eq_true rfl⟩ rfl (fun _ _ q => nomatch q.1) fun T h334 v so W hQ => ?_
      obtain ⟨hv, rfl, -⟩ := hQ
      obtain rfl := Option.some.inj hv
      refine k_astore W d_code_165 rfl (L' := #[.val (.int p0), .val (.int p1), .val (.int p2), .val (.int p3), .val (.int p4), .val (.int (4 : Int32)), .val (.int c236), .val (.int c237), .val (.int c238), .val (.int c239), .val (.ref x329), .val (.ref r331), .val (.int (0 : Int32)), .val (.ref x1331), .val (.ref x2331)]) rfl ?_
      refine k_aload W d_code_167 rfl rfl ?_
      refine k_nullN W d_code_169 ?_
      refine k_aload W d_code_172 rfl rfl ?_
      refine k_nnY W 179 d_code_174 (by decide) ?_
      refine k_aload W d_code_179 rfl rfl ?_
      have f335 := (Sta.keep f330 K331 ns0)
      refine k_callV W 0 8 30 (argsL := []) (rest := []) (a := x1331) (C := "java/lang/String") (z0 := (⟨"java/lang/String", "length", "()I"⟩ : MethodName)) (z := (⟨"java/lang/String", "length", "()I"⟩ : MethodName)) d_code_181 (w154 hw) (w51 hw) (nfSel (w53 hw)) (w53 hw) (w52 hw) (by decide) (lenOf pd9 rfl) S1331.1 (ct_len l Z a0 hw n0 h331 x1331 b1331 [] zc S1331 f335 hzc) (w54 hw) (w10 hw) (fun x hx => hx) rfl (Nat.le_of_eq rfl) (Nat.le_of_ble_eq_true rfl) (Nat.le_of_ble_eq_true rfl) ⟨rfl, Nat.le_of_ble_eq_true rfl⟩ ⟨rfl, Nat.le_of_ble_eq_true rfl⟩ rfl (fun _ _ q => nomatch q.1) fun T h336 v so W hQ => ?_
      obtain ⟨hv, rfl, -⟩ := hQ
      obtain rfl := Option.some.inj hv
      refine k_iload W d_code_184 rfl ?_
      refine k_icN W d_code_186 (show ¬ (¬ (0 : Int32) = (0 : Int32)) by decide) ?_
      refine k_aload W d_code_189 rfl rfl ?_
      refine k_callV W 0 8 30 (argsL := []) (rest := []) (a := x2331) (C := "java/lang/String") (z0 := (⟨"java/lang/String", "length", "()I"⟩ : MethodName)) (z := (⟨"java/lang/String", "length", "()I"⟩ : MethodName)) d_code_191 (w154 hw) (w51 hw) (nfSel (w53 hw)) (w53 hw) (w52 hw) (by decide) (lenOf pd9 rfl) S2331.1 (ct_len l Z a0 hw n0 h331 x2331 b2331 [(i2b c237), (i2b c238), (i2b c239)] zc S2331 f335 hzc) (w54 hw) (w10 hw) (fun x hx => hx) rfl (Nat.le_of_eq rfl) (Nat.le_of_ble_eq_true rfl) (Nat.le_of_ble_eq_true rfl) ⟨rfl, Nat.le_of_ble_eq_true rfl⟩ ⟨rfl, Nat.le_of_ble_eq_true rfl⟩ rfl (fun _ _ q => nomatch q.1) fun T h337 v so W hQ => ?_
      obtain ⟨hv, rfl, -⟩ := hQ
      obtain rfl := Option.some.inj hv
      refine k_iload W d_code_194 rfl ?_
      refine k_iload W d_code_196 rfl ?_
      refine k_isub W d_code_198 (z := (4 : Int32)) (by decide) ?_
      refine k_iconst W d_code_199 (z := (1 : Int32)) rfl ?_
      refine k_isub W d_code_200 (z := (3 : Int32)) (by decide) ?_
      refine k_icY W 206 d_code_201 (by decide) (show (3 : Int32) = (3 : Int32) by decide) ?_
      refine k_aload W d_code_206 rfl rfl ?_
      refine k_aload W d_code_208 rfl rfl ?_
      refine k_iload W d_code_210 rfl ?_
      refine k_iload W d_code_212 rfl ?_
      refine k_iconst W d_code_214 (z := (0 : Int32)) rfl ?_
      refine k_iload W d_code_215 rfl ?_
      refine k_callS W 0 8 30 (argsL := [(.ref x1331), (.ref x2331), (.int (0 : Int32)), (.int (4 : Int32)), (.int (0 : Int32)), (.int c236)]) (rest := []) d_code_217 (w155 hw) (w156 hw) (by decide) (lenOf pd28 rfl) (ct_atA l Z a0 hw n0 h331 x1331 x2331 (0 : Int32) (4 : Int32) (0 : Int32) c236 (Or.inr (by decide))) (w157 hw) (w3 hw) (fun x hx => hx) rfl (Nat.le_of_eq rfl) (Nat.le_of_ble_eq_true rfl) (Nat.le_of_ble_eq_true rfl) ⟨rfl, Nat.le_of_ble_eq_true rfl⟩ ⟨rfl, Nat.le_of_ble_eq_true rfl⟩ rfl (fun _ _ q => nomatch q.1) fun T h338 v so W hQ => ?_
      obtain ⟨hv, rfl, -⟩ := hQ
      obtain rfl := Option.some.inj hv
      refine k_ifN W d_code_220 (show ¬ ((1 : Int32) = 0) by decide) ?_
      refine k_aload W d_code_223 rfl rfl ?_
      refine k_aload W d_code_225 rfl rfl ?_
      refine k_iload W d_code_227 rfl ?_
      refine k_iload W d_code_229 rfl ?_
      refine k_iconst W d_code_231 (z := (1 : Int32)) rfl ?_
      refine k_iload W d_code_232 rfl ?_
      have f339 := (Sta.keep f332 K331 ns0)
      refine k_callS W 0 8 30 (argsL := [(.ref x1331), (.ref x2331), (.int (0 : Int32)), (.int (4 : Int32)), (.int (1 : Int32)), (.int c237)]) (rest := []) d_code_234 (w155 hw) (w156 hw) (by decide) (lenOf pd28 rfl) (ct_atC l Z a0 hw n0 h331 x1331 x2331 (0 : Int32) (4 : Int32) (1 : Int32) c237 b2331 [(i2b c237), (i2b c238), (i2b c239)] zc sio 0 (by decide) (by decide) (by decide) (by decide) rfl r237 S2331 f335 hzc f339 hsio) (w157 hw) (w3 hw) (fun x hx => hx) rfl (Nat.le_of_eq rfl) (Nat.le_of_ble_eq_true rfl) (Nat.le_of_ble_eq_true rfl) ⟨rfl, Nat.le_of_ble_eq_true rfl⟩ ⟨rfl, Nat.le_of_ble_eq_true rfl⟩ rfl (fun _ _ q => nomatch q.1) fun T h340 v so W hQ => ?_
      obtain ⟨hv, rfl, -⟩ := hQ
      obtain rfl := Option.some.inj hv
      refine k_ifN W d_code_237 (show ¬ ((1 : Int32) = 0) by decide) ?_
      refine k_aload W d_code_240 rfl rfl ?_
      refine k_aload W d_code_242 rfl rfl ?_
      refine k_iload W d_code_244 rfl ?_
      refine k_iload W d_code_246 rfl ?_
      refine k_iconst W d_code_248 (z := (2 : Int32)) rfl ?_
      refine k_iload W d_code_249 rfl ?_
      refine k_callS W 0 8 30 (argsL := [(.ref x1331), (.ref x2331), (.int (0 : Int32)), (.int (4 : Int32)), (.int (2 : Int32)), (.int c238)]) (rest := []) d_code_251 (w155 hw) (w156 hw) (by decide) (lenOf pd28 rfl) (ct_atC l Z a0 hw n0 h331 x1331 x2331 (0 : Int32) (4 : Int32) (2 : Int32) c238 b2331 [(i2b c237), (i2b c238), (i2b c239)] zc sio 1 (by decide) (by decide) (by decide) (by decide) rfl r238 S2331 f335 hzc f339 hsio) (w157 hw) (w3 hw) (fun x hx => hx) rfl (Nat.le_of_eq rfl) (Nat.le_of_ble_eq_true rfl) (Nat.le_of_ble_eq_true rfl) ⟨rfl, Nat.le_of_ble_eq_true rfl⟩ ⟨rfl, Nat.le_of_ble_eq_true rfl⟩ rfl (fun _ _ q => nomatch q.1) fun T h341 v so W hQ => ?_
      obtain ⟨hv, rfl, -⟩ := hQ
      obtain rfl := Option.some.inj hv
      refine k_ifN W d_code_254 (show ¬ ((1 : Int32) = 0) by decide) ?_
      refine k_aload W d_code_257 rfl rfl ?_
      refine k_aload W d_code_259 rfl rfl ?_
      refine k_iload W d_code_261 rfl ?_
      refine k_iload W d_code_263 rfl ?_
      refine k_iconst W d_code_265 (z := (3 : Int32)) rfl ?_
      refine k_iload W d_code_266 rfl ?_
      refine k_callS W 0 8 30 (argsL := [(.ref x1331), (.ref x2331), (.int (0 : Int32)), (.int (4 : Int32)), (.int (3 : Int32)), (.int c239)]) (rest := []) d_code_268 (w155 hw) (w156 hw) (by decide) (lenOf pd28 rfl) (ct_atC l Z a0 hw n0 h331 x1331 x2331 (0 : Int32) (4 : Int32) (3 : Int32) c239 b2331 [(i2b c237), (i2b c238), (i2b c239)] zc sio 2 (by decide) (by decide) (by decide) (by decide) rfl r239 S2331 f335 hzc f339 hsio) (w157 hw) (w3 hw) (fun x hx => hx) rfl (Nat.le_of_eq rfl) (Nat.le_of_ble_eq_true rfl) (Nat.le_of_ble_eq_true rfl) ⟨rfl, Nat.le_of_ble_eq_true rfl⟩ ⟨rfl, Nat.le_of_ble_eq_true rfl⟩ rfl (fun _ _ q => nomatch q.1) fun T h342 v so W hQ => ?_
      obtain ⟨hv, rfl, -⟩ := hQ
      obtain rfl := Option.some.inj hv
      refine k_ifN W d_code_271 (show ¬ ((1 : Int32) = 0) by decide) ?_
      refine k_iconst W d_code_274 (z := (1 : Int32)) rfl ?_
      refine k_goto W 279 d_code_275 (by decide) ?_
      exact k_retN W (t := .boolean) (z' := (1 : Int32)) d_code_279 rfl (by simp) (by decide) [] (fun x hx => nomatch hx) (Nat.le_of_ble_eq_true rfl) (Nat.le_of_ble_eq_true rfl) rfl
    · --
      by_cases hs1 : c237 = 47
      · --
        refine k_aload W d_code_48 rfl rfl ?_
        have f343 := (Sta.keep P0 K329 ns0)
        have f345 := (Sta.keep G0 K329 ns0)
        refine k_callS W 0 8 30 (argsL := [(.ref x329)]) (rest := []) d_code_50 (w30 hw) (w31 hw) (by decide) (lenOf pd26 rfl) (ct_parseY l Z a0 hw n0 h329 x329 b329 [(i2b c236), (i2b c237), (i2b c238), (i2b c239)] zc sio 1 (congrArg some (own_47 hs1)) (allM (own_n47 r236 hs0) (fun _ q => nomatch q)) (Nat.le_of_ble_eq_true rfl) S329 f343 hzc f345 hsio) (w33 hw) (w32 hw) (fun x hx => hx) rfl (Nat.le_of_eq rfl) (Nat.le_of_ble_eq_true rfl) (Nat.le_of_ble_eq_true rfl) ⟨rfl, Nat.le_of_ble_eq_true rfl⟩ ⟨rfl, Nat.le_of_ble_eq_true rfl⟩ rfl (fun _ _ ⟨_, _, _, _, _, q, _⟩ => nomatch q) fun T h344 v so W hQ => ?_
        obtain ⟨r344, x1344, b1344, x2344, b2344, hv, K344, X344, A344, B344, S1344, S2344⟩ := hQ
        obtain rfl := Option.some.inj hv
        have S1344 : St Z h344 x1344 b1344 [(i2b c236)] := S1344
        have S2344 : St Z h344 x2344 b2344 [(i2b c238), (i2b c239)] := S2344
        refine k_astore W d_code_53 rfl (L' := #[.val (.int p0), .val (.int p1), .val (.int p2), .val (.int p3), .val (.int p4), .val (.int (4 : Int32)), .val (.int c236), .val (.int c237), .val (.int c238), .val (.int c239), .val (.ref x329), .val (.ref r344), .unset, .unset, .unset]) rfl ?_
        refine k_iconst W d_code_55 (z := (-1 : Int32)) rfl ?_
        refine k_istore W d_code_56 (L' := #[.val (.int p0), .val (.int p1), .val (.int p2), .val (.int p3), .val (.int p4), .val (.int (4 : Int32)), .val (.int c236), .val (.int c237), .val (.int c238), .val (.int c239), .val (.ref x329), .val (.ref r344), .val (.int (-1 : Int32)), .unset, .unset]) rfl ?_
        refine k_iload W d_code_58 rfl ?_
        refine k_ifN W d_code_60 (show ¬ (¬ 0 < (4 : Int32)) by decide) ?_
        refine k_iload W d_code_63 rfl ?_
        refine k_bipush W d_code_65 (z := (47 : Int32)) rfl ?_
        refine k_icY W 76 d_code_67 (by decide) (show ¬ c236 = (47 : Int32) from hs0) ?_
        refine k_iload W d_code_76 rfl ?_
        refine k_iconst W d_code_78 (z := (1 : Int32)) rfl ?_
        refine k_icN W d_code_79 (show ¬ (¬ (1 : Int32) < (4 : Int32)) by decide) ?_
        refine k_iload W d_code_82 rfl ?_
        refine k_bipush W d_code_84 (z := (47 : Int32)) rfl ?_
        refine k_icN W d_code_86 (show ¬ (¬ c237 = (47 : Int32)) from (fun q => q hs1)) ?_
        refine k_iconst W d_code_89 (z := (1 : Int32)) rfl ?_
        refine k_istore W d_code_90 (L' := #[.val (.int p0), .val (.int p1), .val (.int p2), .val (.int p3), .val (.int p4), .val (.int (4 : Int32)), .val (.int c236), .val (.int c237), .val (.int c238), .val (.int c239), .val (.ref x329), .val (.ref r344), .val (.int (1 : Int32)), .unset, .unset]) rfl ?_
        refine k_goto W 130 d_code_92 (by decide) ?_
        refine k_iload W d_code_130 rfl ?_
        refine k_ifY W 146 d_code_132 (by decide) (show ¬ (1 : Int32) < 0 by decide) ?_
        refine k_aload W d_code_146 rfl rfl ?_
        refine k_nnY W 153 d_code_148 (by decide) ?_
        refine k_aload W d_code_153 rfl rfl ?_
        refine k_callV W 0 8 30 (argsL := []) (rest := []) (a := r344) (C := "com/example/kourier/kourier/rabbitmq/Route") (z0 := (⟨"com/example/kourier/kourier/rabbitmq/Route", "exchange", "()Ljava/lang/String;"⟩ : MethodName)) (z := (⟨"com/example/kourier/kourier/rabbitmq/Route", "exchange", "()Ljava/lang/String;"⟩ : MethodName)) d_code_155 (w144 hw) (w145 hw) (nfSel (w147 hw)) (w147 hw) (w146 hw) (by decide) (lenOf pd27 rfl) X344 (ct_exchange l Z a0 hw n0 h344 r344 x1344 A344) (w148 hw) (w32 hw) (fun x hx => hx) rfl (Nat.le_of_eq rfl) (Nat.le_of_ble_eq_true rfl) (Nat.le_of_ble_eq_true rfl) ⟨rfl, Nat.le_of_ble_eq_true rfl⟩ ⟨rfl, Nat.le_of_ble_eq_true rfl⟩ rfl (fun _ _ q => nomatch q.1) fun T h346 v so W hQ => ?_
        obtain ⟨hv, rfl, -⟩ := hQ
        obtain rfl := Option.some.inj hv
        refine k_astore W d_code_158 rfl (L' := #[.val (.int p0), .val (.int p1), .val (.int p2), .val (.int p3), .val (.int p4), .val (.int (4 : Int32)), .val (.int c236), .val (.int c237), .val (.int c238), .val (.int c239), .val (.ref x329), .val (.ref r344), .val (.int (1 : Int32)), .val (.ref x1344), .unset]) rfl ?_
        refine k_aload W d_code_160 rfl rfl ?_
        refine k_callV W 0 8 30 (argsL := []) (rest := []) (a := r344) (C := "com/example/kourier/kourier/rabbitmq/Route") (z0 := (⟨"com/example/kourier/kourier/rabbitmq/Route", "routingKey", "()Ljava/lang/String;"⟩ : MethodName)) (z := (⟨"com/example/kourier/kourier/rabbitmq/Route", "routingKey", "()Ljava/lang/String;"⟩ : MethodName)) d_code_162 (w149 hw) (w150 hw) (nfSel (w152 hw)) (w152 hw) (w151 hw) (by decide) (lenOf pd27 rfl) X344 (ct_routingKey l Z a0 hw n0 h344 r344 x2344 B344) (w153 hw) (w32 hw) (fun x hx => hx) rfl (Nat.le_of_eq rfl) (Nat.le_of_ble_eq_true rfl) (Nat.le_of_ble_eq_true rfl) ⟨rfl, Nat.le_of_ble_eq_true rfl⟩ ⟨rfl, Nat.le_of_ble_eq_true rfl⟩ rfl (fun _ _ q => nomatch q.1) fun T h347 v so W hQ => ?_
        obtain ⟨hv, rfl, -⟩ := hQ
        obtain rfl := Option.some.inj hv
        refine k_astore W d_code_165 rfl (L' := #[.val (.int p0), .val (.int p1), .val (.int p2), .val (.int p3), .val (.int p4), .val (.int (4 : Int32)), .val (.int c236), .val (.int c237), .val (.int c238), .val (.int c239), .val (.ref x329), .val (.ref r344), .val (.int (1 : Int32)), .val (.ref x1344), .val (.ref x2344)]) rfl ?_
        refine k_aload W d_code_167 rfl rfl ?_
        refine k_nullN W d_code_169 ?_
        refine k_aload W d_code_172 rfl rfl ?_
        refine k_nnY W 179 d_code_174 (by decide) ?_
        refine k_aload W d_code_179 rfl rfl ?_
        have f348 := (Sta.keep f343 K344 ns0)
        refine k_callV W 0 8 30 (argsL := []) (rest := []) (a := x1344) (C := "java/lang/String") (z0 := (⟨"java/lang/String", "length", "()I"⟩ : MethodName)) (z := (⟨"java/lang/String", "length", "()I"⟩ : MethodName)) d_code_181 (w154 hw) (w51 hw) (nfSel (w53 hw)) (w53 hw) (w52 hw) (by decide) (lenOf pd9 rfl) S1344.1 (ct_len l Z a0 hw n0 h344 x1344 b1344 [(i2b c236)] zc S1344 f348 hzc) (w54 hw) (w10 hw) (fun x hx => hx) rfl (Nat.le_of_eq rfl) (Nat.le_of_ble_eq_true rfl) (Nat.le_of_ble_eq_true rfl) ⟨rfl, Nat.le_of_ble_eq_true rfl⟩ ⟨rfl, Nat.le_of_ble_eq_true rfl⟩ rfl (fun _ _ q => nomatch q.1) fun T h349 v so W hQ => ?_
        obtain ⟨hv, rfl, -⟩ := hQ
        obtain rfl := Option.some.inj hv
        refine k_iload W d_code_184 rfl ?_
        refine k_icN W d_code_186 (show ¬ (¬ (1 : Int32) = (1 : Int32)) by decide) ?_
        refine k_aload W d_code_189 rfl rfl ?_
        refine k_callV W 0 8 30 (argsL := []) (rest := []) (a := x2344) (C := "java/lang/String") (z0 := (⟨"java/lang/String", "length", "()I"⟩ : MethodName)) (z := (⟨"java/lang/String", "length", "()I"⟩ : MethodName)) d_code_191 (w154 hw) (w51 hw) (nfSel (w53 hw)) (w53 hw) (w52 hw) (by decide) (lenOf pd9 rfl) S2344.1 (ct_len l Z a0 hw n0 h344 x2344 b2344 [(i2b c238), (i2b c239)] zc S2344 f348 hzc) (w54 hw) (w10 hw) (fun x hx => hx) rfl (Nat.le_of_eq rfl) (Nat.le_of_ble_eq_true rfl) (Nat.le_of_ble_eq_true rfl) ⟨rfl, Nat.le_of_ble_eq_true rfl⟩ ⟨rfl, Nat.le_of_ble_eq_true rfl⟩ rfl (fun _ _ q => nomatch q.1) fun T h350 v so W hQ => ?_
        obtain ⟨hv, rfl, -⟩ := hQ
        obtain rfl := Option.some.inj hv
        refine k_iload W d_code_194 rfl ?_
        refine k_iload W d_code_196 rfl ?_
        refine k_isub W d_code_198 (z := (3 : Int32)) (by decide) ?_
        refine k_iconst W d_code_199 (z := (1 : Int32)) rfl ?_
        refine k_isub W d_code_200 (z := (2 : Int32)) (by decide) ?_
        refine k_icY W 206 d_code_201 (by decide) (show (2 : Int32) = (2 : Int32) by decide) ?_
        refine k_aload W d_code_206 rfl rfl ?_
        refine k_aload W d_code_208 rfl rfl ?_
        refine k_iload W d_code_210 rfl ?_
        refine k_iload W d_code_212 rfl ?_
        refine k_iconst W d_code_214 (z := (0 : Int32)) rfl ?_
        refine k_iload W d_code_215 rfl ?_
        have f351 := (Sta.keep f345 K344 ns0)
        refine k_callS W 0 8 30 (argsL := [(.ref x1344), (.ref x2344), (.int (1 : Int32)), (.int (4 : Int32)), (.int (0 : Int32)), (.int c236)]) (rest := []) d_code_217 (w155 hw) (w156 hw) (by decide) (lenOf pd28 rfl) (ct_atB l Z a0 hw n0 h344 x1344 x2344 (1 : Int32) (4 : Int32) (0 : Int32) c236 b1344 [(i2b c236)] zc sio 0 (by decide) (by decide) (by decide) (by decide) rfl r236 S1344 f348 hzc f351 hsio) (w157 hw) (w3 hw) (fun x hx => hx) rfl (Nat.le_of_eq rfl) (Nat.le_of_ble_eq_true rfl) (Nat.le_of_ble_eq_true rfl) ⟨rfl, Nat.le_of_ble_eq_true rfl⟩ ⟨rfl, Nat.le_of_ble_eq_true rfl⟩ rfl (fun _ _ q => nomatch q.1) fun T h352 v so W hQ => ?_
        obtain ⟨hv, rfl, -⟩ := hQ
        obtain rfl := Option.some.inj hv
        refine k_ifN W d_code_220 (show ¬ ((1 : Int32) = 0) by decide) ?_
        refine k_aload W d_code_223 rfl rfl ?_
        refine k_aload W d_code_225 rfl rfl ?_
        refine k_iload W d_code_227 rfl ?_
        refine k_iload W d_code_229 rfl ?_
        refine k_iconst W d_code_231 (z := (1 : Int32)) rfl ?_
        refine k_iload W d_code_232 rfl ?_
        refine k_callS W 0 8 30 (argsL := [(.ref x1344), (.ref x2344), (.int (1 : Int32)), (.int (4 : Int32)), (.int (1 : Int32)), (.int c237)]) (rest := []) d_code_234 (w155 hw) (w156 hw) (by decide) (lenOf pd28 rfl) (ct_atA l Z a0 hw n0 h344 x1344 x2344 (1 : Int32) (4 : Int32) (1 : Int32) c237 (Or.inr (by decide))) (w157 hw) (w3 hw) (fun x hx => hx) rfl (Nat.le_of_eq rfl) (Nat.le_of_ble_eq_true rfl) (Nat.le_of_ble_eq_true rfl) ⟨rfl, Nat.le_of_ble_eq_true rfl⟩ ⟨rfl, Nat.le_of_ble_eq_true rfl⟩ rfl (fun _ _ q => nomatch q.1) fun T h353 v so W hQ => ?_
        obtain ⟨hv, rfl, -⟩ := hQ
        obtain rfl := Option.some.inj hv
        refine k_ifN W d_code_237 (show ¬ ((1 : Int32) = 0) by decide) ?_
        refine k_aload W d_code_240 rfl rfl ?_
        refine k_aload W d_code_242 rfl rfl ?_
        refine k_iload W d_code_244 rfl ?_
        refine k_iload W d_code_246 rfl ?_
        refine k_iconst W d_code_248 (z := (2 : Int32)) rfl ?_
        refine k_iload W d_code_249 rfl ?_
        refine k_callS W 0 8 30 (argsL := [(.ref x1344), (.ref x2344), (.int (1 : Int32)), (.int (4 : Int32)), (.int (2 : Int32)), (.int c238)]) (rest := []) d_code_251 (w155 hw) (w156 hw) (by decide) (lenOf pd28 rfl) (ct_atC l Z a0 hw n0 h344 x1344 x2344 (1 : Int32) (4 : Int32) (2 : Int32) c238 b2344 [(i2b c238), (i2b c239)] zc sio 0 (by decide) (by decide) (by decide) (by decide) rfl r238 S2344 f348 hzc f351 hsio) (w157 hw) (w3 hw) (fun x hx => hx) rfl (Nat.le_of_eq rfl) (Nat.le_of_ble_eq_true rfl) (Nat.le_of_ble_eq_true rfl) ⟨rfl, Nat.le_of_ble_eq_true rfl⟩ ⟨rfl, Nat.le_of_ble_eq_true rfl⟩ rfl (fun _ _ q => nomatch q.1) fun T h354 v so W hQ => ?_
        obtain ⟨hv, rfl, -⟩ := hQ
        obtain rfl := Option.some.inj hv
        refine k_ifN W d_code_254 (show ¬ ((1 : Int32) = 0) by decide) ?_
        refine k_aload W d_code_257 rfl rfl ?_
        refine k_aload W d_code_259 rfl rfl ?_
        refine k_iload W d_code_261 rfl ?_
        refine k_iload W d_code_263 rfl ?_
        refine k_iconst W d_code_265 (z := (3 : Int32)) rfl ?_
        refine k_iload W d_code_266 rfl ?_
        refine k_callS W 0 8 30 (argsL := [(.ref x1344), (.ref x2344), (.int (1 : Int32)), (.int (4 : Int32)), (.int (3 : Int32)), (.int c239)]) (rest := []) d_code_268 (w155 hw) (w156 hw) (by decide) (lenOf pd28 rfl) (ct_atC l Z a0 hw n0 h344 x1344 x2344 (1 : Int32) (4 : Int32) (3 : Int32) c239 b2344 [(i2b c238), (i2b c239)] zc sio 1 (by decide) (by decide) (by decide) (by decide) rfl r239 S2344 f348 hzc f351 hsio) (w157 hw) (w3 hw) (fun x hx => hx) rfl (Nat.le_of_eq rfl) (Nat.le_of_ble_eq_true rfl) (Nat.le_of_ble_eq_true rfl) ⟨rfl, Nat.le_of_ble_eq_true rfl⟩ ⟨rfl, Nat.le_of_ble_eq_true rfl⟩ rfl (fun _ _ q => nomatch q.1) fun T h355 v so W hQ => ?_
        obtain ⟨hv, rfl, -⟩ := hQ
        obtain rfl := Option.some.inj hv
        refine k_ifN W d_code_271 (show ¬ ((1 : Int32) = 0) by decide) ?_
        refine k_iconst W d_code_274 (z := (1 : Int32)) rfl ?_
        refine k_goto W 279 d_code_275 (by decide) ?_
        exact k_retN W (t := .boolean) (z' := (1 : Int32)) d_code_279 rfl (by simp) (by decide) [] (fun x hx => nomatch hx) (Nat.le_of_ble_eq_true rfl) (Nat.le_of_ble_eq_true rfl) rfl
      · --
        by_cases hs2 : c238 = 47
        · --
          refine k_aload W d_code_48 rfl rfl ?_
          have f356 := (Sta.keep P0 K329 ns0)
          have f358 := (Sta.keep G0 K329 ns0)
          refine k_callS W 0 8 30 (argsL := [(.ref x329)]) (rest := []) d_code_50 (w30 hw) (w31 hw) (by decide) (lenOf pd26 rfl) (ct_parseY l Z a0 hw n0 h329 x329 b329 [(i2b c236), (i2b c237), (i2b c238), (i2b c239)] zc sio 2 (congrArg some (own_47 hs2)) (allM (own_n47 r236 hs0) (allM (own_n47 r237 hs1) (fun _ q => nomatch q))) (Nat.le_of_ble_eq_true rfl) S329 f356 hzc f358 hsio) (w33 hw) (w32 hw) (fun x hx => hx) rfl (Nat.le_of_eq rfl) (Nat.le_of_ble_eq_true rfl) (Nat.le_of_ble_eq_true rfl) ⟨rfl, Nat.le_of_ble_eq_true rfl⟩ ⟨rfl, Nat.le_of_ble_eq_true rfl⟩ rfl (fun _ _ ⟨_, _, _, _, _, q, _⟩ => nomatch q) fun T h357 v so W hQ => ?_
          obtain ⟨r357, x1357, b1357, x2357, b2357, hv, K357, X357, A357, B357, S1357, S2357⟩ := hQ
          obtain rfl := Option.some.inj hv
          have S1357 : St Z h357 x1357 b1357 [(i2b c236), (i2b c237)] := S1357
          have S2357 : St Z h357 x2357 b2357 [(i2b c239)] := S2357
          refine k_astore W d_code_53 rfl (L' := #[.val (.int p0), .val (.int p1), .val (.int p2), .val (.int p3), .val (.int p4), .val (.int (4 : Int32)), .val (.int c236), .val (.int c237), .val (.int c238), .val (.int c239), .val (.ref x329), .val (.ref r357), .unset, .unset, .unset]) rfl ?_
          refine k_iconst W d_code_55 (z := (-1 : Int32)) rfl ?_
          refine k_istore W d_code_56 (L' := #[.val (.int p0), .val (.int p1), .val (.int p2), .val (.int p3), .val (.int p4), .val (.int (4 : Int32)), .val (.int c236), .val (.int c237), .val (.int c238), .val (.int c239), .val (.ref x329), .val (.ref r357), .val (.int (-1 : Int32)), .unset, .unset]) rfl ?_
          refine k_iload W d_code_58 rfl ?_
          refine k_ifN W d_code_60 (show ¬ (¬ 0 < (4 : Int32)) by decide) ?_
          refine k_iload W d_code_63 rfl ?_
          refine k_bipush W d_code_65 (z := (47 : Int32)) rfl ?_
          refine k_icY W 76 d_code_67 (by decide) (show ¬ c236 = (47 : Int32) from hs0) ?_
          refine k_iload W d_code_76 rfl ?_
          refine k_iconst W d_code_78 (z := (1 : Int32)) rfl ?_
          refine k_icN W d_code_79 (show ¬ (¬ (1 : Int32) < (4 : Int32)) by decide) ?_
          refine k_iload W d_code_82 rfl ?_
          refine k_bipush W d_code_84 (z := (47 : Int32)) rfl ?_
          refine k_icY W 95 d_code_86 (by decide) (show ¬ c237 = (47 : Int32) from hs1) ?_
          refine k_iload W d_code_95 rfl ?_
          refine k_iconst W d_code_97 (z := (2 : Int32)) rfl ?_
          refine k_icN W d_code_98 (show ¬ (¬ (2 : Int32) < (4 : Int32)) by decide) ?_
          refine k_iload W d_code_101 rfl ?_
          refine k_bipush W d_code_103 (z := (47 : Int32)) rfl ?_
          refine k_icN W d_code_105 (show ¬ (¬ c238 = (47 : Int32)) from (fun q => q hs2)) ?_
          refine k_iconst W d_code_108 (z := (2 : Int32)) rfl ?_
          refine k_istore W d_code_109 (L' := #[.val (.int p0), .val (.int p1), .val (.int p2), .val (.int p3), .val (.int p4), .val (.int (4 : Int32)), .val (.int c236), .val (.int c237), .val (.int c238), .val (.int c239), .val (.ref x329), .val (.ref r357), .val (.int (2 : Int32)), .unset, .unset]) rfl ?_
          refine k_goto W 130 d_code_111 (by decide) ?_
          refine k_iload W d_code_130 rfl ?_
          refine k_ifY W 146 d_code_132 (by decide) (show ¬ (2 : Int32) < 0 by decide) ?_
          refine k_aload W d_code_146 rfl rfl ?_
          refine k_nnY W 153 d_code_148 (by decide) ?_
          refine k_aload W d_code_153 rfl rfl ?_
          refine k_callV W 0 8 30 (argsL := []) (rest := []) (a := r357) (C := "com/example/kourier/kourier/rabbitmq/Route") (z0 := (⟨"com/example/kourier/kourier/rabbitmq/Route", "exchange", "()Ljava/lang/String;"⟩ : MethodName)) (z := (⟨"com/example/kourier/kourier/rabbitmq/Route", "exchange", "()Ljava/lang/String;"⟩ : MethodName)) d_code_155 (w144 hw) (w145 hw) (nfSel (w147 hw)) (w147 hw) (w146 hw) (by decide) (lenOf pd27 rfl) X357 (ct_exchange l Z a0 hw n0 h357 r357 x1357 A357) (w148 hw) (w32 hw) (fun x hx => hx) rfl (Nat.le_of_eq rfl) (Nat.le_of_ble_eq_true rfl) (Nat.le_of_ble_eq_true rfl) ⟨rfl, Nat.le_of_ble_eq_true rfl⟩ ⟨rfl, Nat.le_of_ble_eq_true rfl⟩ rfl (fun _ _ q => nomatch q.1) fun T h359 v so W hQ => ?_
          obtain ⟨hv, rfl, -⟩ := hQ
          obtain rfl := Option.some.inj hv
          refine k_astore W d_code_158 rfl (L' := #[.val (.int p0), .val (.int p1), .val (.int p2), .val (.int p3), .val (.int p4), .val (.int (4 : Int32)), .val (.int c236), .val (.int c237), .val (.int c238), .val (.int c239), .val (.ref x329), .val (.ref r357), .val (.int (2 : Int32)), .val (.ref x1357), .unset]) rfl ?_
          refine k_aload W d_code_160 rfl rfl ?_
          refine k_callV W 0 8 30 (argsL := []) (rest := []) (a := r357) (C := "com/example/kourier/kourier/rabbitmq/Route") (z0 := (⟨"com/example/kourier/kourier/rabbitmq/Route", "routingKey", "()Ljava/lang/String;"⟩ : MethodName)) (z := (⟨"com/example/kourier/kourier/rabbitmq/Route", "routingKey", "()Ljava/lang/String;"⟩ : MethodName)) d_code_162 (w149 hw) (w150 hw) (nfSel (w152 hw)) (w152 hw) (w151 hw) (by decide) (lenOf pd27 rfl) X357 (ct_routingKey l Z a0 hw n0 h357 r357 x2357 B357) (w153 hw) (w32 hw) (fun x hx => hx) rfl (Nat.le_of_eq rfl) (Nat.le_of_ble_eq_true rfl) (Nat.le_of_ble_eq_true rfl) ⟨rfl, Nat.le_of_ble_eq_true rfl⟩ ⟨rfl, Nat.le_of_ble_eq_true rfl⟩ rfl (fun _ _ q => nomatch q.1) fun T h360 v so W hQ => ?_
          obtain ⟨hv, rfl, -⟩ := hQ
          obtain rfl := Option.some.inj hv
          refine k_astore W d_code_165 rfl (L' := #[.val (.int p0), .val (.int p1), .val (.int p2), .val (.int p3), .val (.int p4), .val (.int (4 : Int32)), .val (.int c236), .val (.int c237), .val (.int c238), .val (.int c239), .val (.ref x329), .val (.ref r357), .val (.int (2 : Int32)), .val (.ref x1357), .val (.ref x2357)]) rfl ?_
          refine k_aload W d_code_167 rfl rfl ?_
          refine k_nullN W d_code_169 ?_
          refine k_aload W d_code_172 rfl rfl ?_
          refine k_nnY W 179 d_code_174 (by decide) ?_
          refine k_aload W d_code_179 rfl rfl ?_
          have f361 := (Sta.keep f356 K357 ns0)
          refine k_callV W 0 8 30 (argsL := []) (rest := []) (a := x1357) (C := "java/lang/String") (z0 := (⟨"java/lang/String", "length", "()I"⟩ : MethodName)) (z := (⟨"java/lang/String", "length", "()I"⟩ : MethodName)) d_code_181 (w154 hw) (w51 hw) (nfSel (w53 hw)) (w53 hw) (w52 hw) (by decide) (lenOf pd9 rfl) S1357.1 (ct_len l Z a0 hw n0 h357 x1357 b1357 [(i2b c236), (i2b c237)] zc S1357 f361 hzc) (w54 hw) (w10 hw) (fun x hx => hx) rfl (Nat.le_of_eq rfl) (Nat.le_of_ble_eq_true rfl) (Nat.le_of_ble_eq_true rfl) ⟨rfl, Nat.le_of_ble_eq_true rfl⟩ ⟨rfl, Nat.le_of_ble_eq_true rfl⟩ rfl (fun _ _ q => nomatch q.1) fun T h362 v so W hQ => ?_
          obtain ⟨hv, rfl, -⟩ := hQ
          obtain rfl := Option.some.inj hv
          refine k_iload W d_code_184 rfl ?_
          refine k_icN W d_code_186 (show ¬ (¬ (2 : Int32) = (2 : Int32)) by decide) ?_
          refine k_aload W d_code_189 rfl rfl ?_
          refine k_callV W 0 8 30 (argsL := []) (rest := []) (a := x2357) (C := "java/lang/String") (z0 := (⟨"java/lang/String", "length", "()I"⟩ : MethodName)) (z := (⟨"java/lang/String", "length", "()I"⟩ : MethodName)) d_code_191 (w154 hw) (w51 hw) (nfSel (w53 hw)) (w53 hw) (w52 hw) (by decide) (lenOf pd9 rfl) S2357.1 (ct_len l Z a0 hw n0 h357 x2357 b2357 [(i2b c239)] zc S2357 f361 hzc) (w54 hw) (w10 hw) (fun x hx => hx) rfl (Nat.le_of_eq rfl) (Nat.le_of_ble_eq_true rfl) (Nat.le_of_ble_eq_true rfl) ⟨rfl, Nat.le_of_ble_eq_true rfl⟩ ⟨rfl, Nat.le_of_ble_eq_true rfl⟩ rfl (fun _ _ q => nomatch q.1) fun T h363 v so W hQ => ?_
          obtain ⟨hv, rfl, -⟩ := hQ
          obtain rfl := Option.some.inj hv
          refine k_iload W d_code_194 rfl ?_
          refine k_iload W d_code_196 rfl ?_
          refine k_isub W d_code_198 (z := (2 : Int32)) (by decide) ?_
          refine k_iconst W d_code_199 (z := (1 : Int32)) rfl ?_
          refine k_isub W d_code_200 (z := (1 : Int32)) (by decide) ?_
          refine k_icY W 206 d_code_201 (by decide) (show (1 : Int32) = (1 : Int32) by decide) ?_
          refine k_aload W d_code_206 rfl rfl ?_
          refine k_aload W d_code_208 rfl rfl ?_
          refine k_iload W d_code_210 rfl ?_
          refine k_iload W d_code_212 rfl ?_
          refine k_iconst W d_code_214 (z := (0 : Int32)) rfl ?_
          refine k_iload W d_code_215 rfl ?_
          have f364 := (Sta.keep f358 K357 ns0)
          refine k_callS W 0 8 30 (argsL := [(.ref x1357), (.ref x2357), (.int (2 : Int32)), (.int (4 : Int32)), (.int (0 : Int32)), (.int c236)]) (rest := []) d_code_217 (w155 hw) (w156 hw) (by decide) (lenOf pd28 rfl) (ct_atB l Z a0 hw n0 h357 x1357 x2357 (2 : Int32) (4 : Int32) (0 : Int32) c236 b1357 [(i2b c236), (i2b c237)] zc sio 0 (by decide) (by decide) (by decide) (by decide) rfl r236 S1357 f361 hzc f364 hsio) (w157 hw) (w3 hw) (fun x hx => hx) rfl (Nat.le_of_eq rfl) (Nat.le_of_ble_eq_true rfl) (Nat.le_of_ble_eq_true rfl) ⟨rfl, Nat.le_of_ble_eq_true rfl⟩ ⟨rfl, Nat.le_of_ble_eq_true rfl⟩ rfl (fun _ _ q => nomatch q.1) fun T h365 v so W hQ => ?_
          obtain ⟨hv, rfl, -⟩ := hQ
          obtain rfl := Option.some.inj hv
          refine k_ifN W d_code_220 (show ¬ ((1 : Int32) = 0) by decide) ?_
          refine k_aload W d_code_223 rfl rfl ?_
          refine k_aload W d_code_225 rfl rfl ?_
          refine k_iload W d_code_227 rfl ?_
          refine k_iload W d_code_229 rfl ?_
          refine k_iconst W d_code_231 (z := (1 : Int32)) rfl ?_
          refine k_iload W d_code_232 rfl ?_
          refine k_callS W 0 8 30 (argsL := [(.ref x1357), (.ref x2357), (.int (2 : Int32)), (.int (4 : Int32)), (.int (1 : Int32)), (.int c237)]) (rest := []) d_code_234 (w155 hw) (w156 hw) (by decide) (lenOf pd28 rfl) (ct_atB l Z a0 hw n0 h357 x1357 x2357 (2 : Int32) (4 : Int32) (1 : Int32) c237 b1357 [(i2b c236), (i2b c237)] zc sio 1 (by decide) (by decide) (by decide) (by decide) rfl r237 S1357 f361 hzc f364 hsio) (w157 hw) (w3 hw) (fun x hx => hx) rfl (Nat.le_of_eq rfl) (Nat.le_of_ble_eq_true rfl) (Nat.le_of_ble_eq_true rfl) ⟨rfl, Nat.le_of_ble_eq_true rfl⟩ ⟨rfl, Nat.le_of_ble_eq_true rfl⟩ rfl (fun _ _ q => nomatch q.1) fun T h366 v so W hQ => ?_
          obtain ⟨hv, rfl, -⟩ := hQ
          obtain rfl := Option.some.inj hv
          refine k_ifN W d_code_237 (show ¬ ((1 : Int32) = 0) by decide) ?_
          refine k_aload W d_code_240 rfl rfl ?_
          refine k_aload W d_code_242 rfl rfl ?_
          refine k_iload W d_code_244 rfl ?_
          refine k_iload W d_code_246 rfl ?_
          refine k_iconst W d_code_248 (z := (2 : Int32)) rfl ?_
          refine k_iload W d_code_249 rfl ?_
          refine k_callS W 0 8 30 (argsL := [(.ref x1357), (.ref x2357), (.int (2 : Int32)), (.int (4 : Int32)), (.int (2 : Int32)), (.int c238)]) (rest := []) d_code_251 (w155 hw) (w156 hw) (by decide) (lenOf pd28 rfl) (ct_atA l Z a0 hw n0 h357 x1357 x2357 (2 : Int32) (4 : Int32) (2 : Int32) c238 (Or.inr (by decide))) (w157 hw) (w3 hw) (fun x hx => hx) rfl (Nat.le_of_eq rfl) (Nat.le_of_ble_eq_true rfl) (Nat.le_of_ble_eq_true rfl) ⟨rfl, Nat.le_of_ble_eq_true rfl⟩ ⟨rfl, Nat.le_of_ble_eq_true rfl⟩ rfl (fun _ _ q => nomatch q.1) fun T h367 v so W hQ => ?_
          obtain ⟨hv, rfl, -⟩ := hQ
          obtain rfl := Option.some.inj hv
          refine k_ifN W d_code_254 (show ¬ ((1 : Int32) = 0) by decide) ?_
          refine k_aload W d_code_257 rfl rfl ?_
          refine k_aload W d_code_259 rfl rfl ?_
          refine k_iload W d_code_261 rfl ?_
          refine k_iload W d_code_263 rfl ?_
          refine k_iconst W d_code_265 (z := (3 : Int32)) rfl ?_
          refine k_iload W d_code_266 rfl ?_
          refine k_callS W 0 8 30 (argsL := [(.ref x1357), (.ref x2357), (.int (2 : Int32)), (.int (4 : Int32)), (.int (3 : Int32)), (.int c239)]) (rest := []) d_code_268 (w155 hw) (w156 hw) (by decide) (lenOf pd28 rfl) (ct_atC l Z a0 hw n0 h357 x1357 x2357 (2 : Int32) (4 : Int32) (3 : Int32) c239 b2357 [(i2b c239)] zc sio 0 (by decide) (by decide) (by decide) (by decide) rfl r239 S2357 f361 hzc f364 hsio) (w157 hw) (w3 hw) (fun x hx => hx) rfl (Nat.le_of_eq rfl) (Nat.le_of_ble_eq_true rfl) (Nat.le_of_ble_eq_true rfl) ⟨rfl, Nat.le_of_ble_eq_true rfl⟩ ⟨rfl, Nat.le_of_ble_eq_true rfl⟩ rfl (fun _ _ q => nomatch q.1) fun T h368 v so W hQ => ?_
          obtain ⟨hv, rfl, -⟩ := hQ
          obtain rfl := Option.some.inj hv
          refine k_ifN W d_code_271 (show ¬ ((1 : Int32) = 0) by decide) ?_
          refine k_iconst W d_code_274 (z := (1 : Int32)) rfl ?_
          refine k_goto W 279 d_code_275 (by decide) ?_
          exact k_retN W (t := .boolean) (z' := (1 : Int32)) d_code_279 rfl (by simp) (by decide) [] (fun x hx => nomatch hx) (Nat.le_of_ble_eq_true rfl) (Nat.le_of_ble_eq_true rfl) rfl
        · --
          by_cases hs3 : c239 = 47
          · --
            refine k_aload W d_code_48 rfl rfl ?_
            have f369 := (Sta.keep P0 K329 ns0)
            have f371 := (Sta.keep G0 K329 ns0)
            refine k_callS W 0 8 30 (argsL := [(.ref x329)]) (rest := []) d_code_50 (w30 hw) (w31 hw) (by decide) (lenOf pd26 rfl) (ct_parseY l Z a0 hw n0 h329 x329 b329 [(i2b c236), (i2b c237), (i2b c238), (i2b c239)] zc sio 3 (congrArg some (own_47 hs3)) (allM (own_n47 r236 hs0) (allM (own_n47 r237 hs1) (allM (own_n47 r238 hs2) (fun _ q => nomatch q)))) (Nat.le_of_ble_eq_true rfl) S329 f369 hzc f371 hsio) (w33 hw) (w32 hw) (fun x hx => hx) rfl (Nat.le_of_eq rfl) (Nat.le_of_ble_eq_true rfl) (Nat.le_of_ble_eq_true rfl) ⟨rfl, Nat.le_of_ble_eq_true rfl⟩ ⟨rfl, Nat.le_of_ble_eq_true rfl⟩ rfl (fun _ _ ⟨_, _, _, _, _, q, _⟩ => nomatch q) fun T h370 v so W hQ => ?_
            obtain ⟨r370, x1370, b1370, x2370, b2370, hv, K370, X370, A370, B370, S1370, S2370⟩ := hQ
            obtain rfl := Option.some.inj hv
            have S1370 : St Z h370 x1370 b1370 [(i2b c236), (i2b c237), (i2b c238)] := S1370
            have S2370 : St Z h370 x2370 b2370 [] := S2370
            refine k_astore W d_code_53 rfl (L' := #[.val (.int p0), .val (.int p1), .val (.int p2), .val (.int p3), .val (.int p4), .val (.int (4 : Int32)), .val (.int c236), .val (.int c237), .val (.int c238), .val (.int c239), .val (.ref x329), .val (.ref r370), .unset, .unset, .unset]) rfl ?_
            refine k_iconst W d_code_55 (z := (-1 : Int32)) rfl ?_
            refine k_istore W d_code_56 (L' := #[.val (.int p0), .val (.int p1), .val (.int p2), .val (.int p3), .val (.int p4), .val (.int (4 : Int32)), .val (.int c236), .val (.int c237), .val (.int c238), .val (.int c239), .val (.ref x329), .val (.ref r370), .val (.int (-1 : Int32)), .unset, .unset]) rfl ?_
            refine k_iload W d_code_58 rfl ?_
            refine k_ifN W d_code_60 (show ¬ (¬ 0 < (4 : Int32)) by decide) ?_
            refine k_iload W d_code_63 rfl ?_
            refine k_bipush W d_code_65 (z := (47 : Int32)) rfl ?_
            refine k_icY W 76 d_code_67 (by decide) (show ¬ c236 = (47 : Int32) from hs0) ?_
            refine k_iload W d_code_76 rfl ?_
            refine k_iconst W d_code_78 (z := (1 : Int32)) rfl ?_
            refine k_icN W d_code_79 (show ¬ (¬ (1 : Int32) < (4 : Int32)) by decide) ?_
            refine k_iload W d_code_82 rfl ?_
            refine k_bipush W d_code_84 (z := (47 : Int32)) rfl ?_
            refine k_icY W 95 d_code_86 (by decide) (show ¬ c237 = (47 : Int32) from hs1) ?_
            refine k_iload W d_code_95 rfl ?_
            refine k_iconst W d_code_97 (z := (2 : Int32)) rfl ?_
            refine k_icN W d_code_98 (show ¬ (¬ (2 : Int32) < (4 : Int32)) by decide) ?_
            refine k_iload W d_code_101 rfl ?_
            refine k_bipush W d_code_103 (z := (47 : Int32)) rfl ?_
            refine k_icY W 114 d_code_105 (by decide) (show ¬ c238 = (47 : Int32) from hs2) ?_
            refine k_iload W d_code_114 rfl ?_
            refine k_iconst W d_code_116 (z := (3 : Int32)) rfl ?_
            refine k_icN W d_code_117 (show ¬ (¬ (3 : Int32) < (4 : Int32)) by decide) ?_
            refine k_iload W d_code_120 rfl ?_
            refine k_bipush W d_code_122 (z := (47 : Int32)) rfl ?_
            refine k_icN W d_code_124 (show ¬ (¬ c239 = (47 : Int32)) from (fun q => q hs3)) ?_
            refine k_iconst W d_code_127 (z := (3 : Int32)) rfl ?_
            refine k_istore W d_code_128 (L' := #[.val (.int p0), .val (.int p1), .val (.int p2), .val (.int p3), .val (.int p4), .val (.int (4 : Int32)), .val (.int c236), .val (.int c237), .val (.int c238), .val (.int c239), .val (.ref x329), .val (.ref r370), .val (.int (3 : Int32)), .unset, .unset]) rfl ?_
            refine k_iload W d_code_130 rfl ?_
            refine k_ifY W 146 d_code_132 (by decide) (show ¬ (3 : Int32) < 0 by decide) ?_
            refine k_aload W d_code_146 rfl rfl ?_
            refine k_nnY W 153 d_code_148 (by decide) ?_
            refine k_aload W d_code_153 rfl rfl ?_
            refine k_callV W 0 8 30 (argsL := []) (rest := []) (a := r370) (C := "com/example/kourier/kourier/rabbitmq/Route") (z0 := (⟨"com/example/kourier/kourier/rabbitmq/Route", "exchange", "()Ljava/lang/String;"⟩ : MethodName)) (z := (⟨"com/example/kourier/kourier/rabbitmq/Route", "exchange", "()Ljava/lang/String;"⟩ : MethodName)) d_code_155 (w144 hw) (w145 hw) (nfSel (w147 hw)) (w147 hw) (w146 hw) (by decide) (lenOf pd27 rfl) X370 (ct_exchange l Z a0 hw n0 h370 r370 x1370 A370) (w148 hw) (w32 hw) (fun x hx => hx) rfl (Nat.le_of_eq rfl) (Nat.le_of_ble_eq_true rfl) (Nat.le_of_ble_eq_true rfl) ⟨rfl, Nat.le_of_ble_eq_true rfl⟩ ⟨rfl, Nat.le_of_ble_eq_true rfl⟩ rfl (fun _ _ q => nomatch q.1) fun T h372 v so W hQ => ?_
            obtain ⟨hv, rfl, -⟩ := hQ
            obtain rfl := Option.some.inj hv
            refine k_astore W d_code_158 rfl (L' := #[.val (.int p0), .val (.int p1), .val (.int p2), .val (.int p3), .val (.int p4), .val (.int (4 : Int32)), .val (.int c236), .val (.int c237), .val (.int c238), .val (.int c239), .val (.ref x329), .val (.ref r370), .val (.int (3 : Int32)), .val (.ref x1370), .unset]) rfl ?_
            refine k_aload W d_code_160 rfl rfl ?_
            refine k_callV W 0 8 30 (argsL := []) (rest := []) (a := r370) (C := "com/example/kourier/kourier/rabbitmq/Route") (z0 := (⟨"com/example/kourier/kourier/rabbitmq/Route", "routingKey", "()Ljava/lang/String;"⟩ : MethodName)) (z := (⟨"com/example/kourier/kourier/rabbitmq/Route", "routingKey", "()Ljava/lang/String;"⟩ : MethodName)) d_code_162 (w149 hw) (w150 hw) (nfSel (w152 hw)) (w152 hw) (w151 hw) (by decide) (lenOf pd27 rfl) X370 (ct_routingKey l Z a0 hw n0 h370 r370 x2370 B370) (w153 hw) (w32 hw) (fun x hx => hx) rfl (Nat.le_of_eq rfl) (Nat.le_of_ble_eq_true rfl) (Nat.le_of_ble_eq_true rfl) ⟨rfl, Nat.le_of_ble_eq_true rfl⟩ ⟨rfl, Nat.le_of_ble_eq_true rfl⟩ rfl (fun _ _ q => nomatch q.1) fun T h373 v so W hQ => ?_
            obtain ⟨hv, rfl, -⟩ := hQ
            obtain rfl := Option.some.inj hv
            refine k_astore W d_code_165 rfl (L' := #[.val (.int p0), .val (.int p1), .val (.int p2), .val (.int p3), .val (.int p4), .val (.int (4 : Int32)), .val (.int c236), .val (.int c237), .val (.int c238), .val (.int c239), .val (.ref x329), .val (.ref r370), .val (.int (3 : Int32)), .val (.ref x1370), .val (.ref x2370)]) rfl ?_
            refine k_aload W d_code_167 rfl rfl ?_
            refine k_nullN W d_code_169 ?_
            refine k_aload W d_code_172 rfl rfl ?_
            refine k_nnY W 179 d_code_174 (by decide) ?_
            refine k_aload W d_code_179 rfl rfl ?_
            have f374 := (Sta.keep f369 K370 ns0)
            refine k_callV W 0 8 30 (argsL := []) (rest := []) (a := x1370) (C := "java/lang/String") (z0 := (⟨"java/lang/String", "length", "()I"⟩ : MethodName)) (z := (⟨"java/lang/String", "length", "()I"⟩ : MethodName)) d_code_181 (w154 hw) (w51 hw) (nfSel (w53 hw)) (w53 hw) (w52 hw) (by decide) (lenOf pd9 rfl) S1370.1 (ct_len l Z a0 hw n0 h370 x1370 b1370 [(i2b c236), (i2b c237), (i2b c238)] zc S1370 f374 hzc) (w54 hw) (w10 hw) (fun x hx => hx) rfl (Nat.le_of_eq rfl) (Nat.le_of_ble_eq_true rfl) (Nat.le_of_ble_eq_true rfl) ⟨rfl, Nat.le_of_ble_eq_true rfl⟩ ⟨rfl, Nat.le_of_ble_eq_true rfl⟩ rfl (fun _ _ q => nomatch q.1) fun T h375 v so W hQ => ?_
            obtain ⟨hv, rfl, -⟩ := hQ
            obtain rfl := Option.some.inj hv
            refine k_iload W d_code_184 rfl ?_
            refine k_icN W d_code_186 (show ¬ (¬ (3 : Int32) = (3 : Int32)) by decide) ?_
            refine k_aload W d_code_189 rfl rfl ?_
            refine k_callV W 0 8 30 (argsL := []) (rest := []) (a := x2370) (C := "java/lang/String") (z0 := (⟨"java/lang/String", "length", "()I"⟩ : MethodName)) (z := (⟨"java/lang/String", "length", "()I"⟩ : MethodName)) d_code_191 (w154 hw) (w51 hw) (nfSel (w53 hw)) (w53 hw) (w52 hw) (by decide) (lenOf pd9 rfl) S2370.1 (ct_len l Z a0 hw n0 h370 x2370 b2370 [] zc S2370 f374 hzc) (w54 hw) (w10 hw) (fun x hx => hx) rfl (Nat.le_of_eq rfl) (Nat.le_of_ble_eq_true rfl) (Nat.le_of_ble_eq_true rfl) ⟨rfl, Nat.le_of_ble_eq_true rfl⟩ ⟨rfl, Nat.le_of_ble_eq_true rfl⟩ rfl (fun _ _ q => nomatch q.1) fun T h376 v so W hQ => ?_
            obtain ⟨hv, rfl, -⟩ := hQ
            obtain rfl := Option.some.inj hv
            refine k_iload W d_code_194 rfl ?_
            refine k_iload W d_code_196 rfl ?_
            refine k_isub W d_code_198 (z := (1 : Int32)) (by decide) ?_
            refine k_iconst W d_code_199 (z := (1 : Int32)) rfl ?_
            refine k_isub W d_code_200 (z := (0 : Int32)) (by decide) ?_
            refine k_icY W 206 d_code_201 (by decide) (show (0 : Int32) = (0 : Int32) by decide) ?_
            refine k_aload W d_code_206 rfl rfl ?_
            refine k_aload W d_code_208 rfl rfl ?_
            refine k_iload W d_code_210 rfl ?_
            refine k_iload W d_code_212 rfl ?_
            refine k_iconst W d_code_214 (z := (0 : Int32)) rfl ?_
            refine k_iload W d_code_215 rfl ?_
            have f377 := (Sta.keep f371 K370 ns0)
            refine k_callS W 0 8 30 (argsL := [(.ref x1370), (.ref x2370), (.int (3 : Int32)), (.int (4 : Int32)), (.int (0 : Int32)), (.int c236)]) (rest := []) d_code_217 (w155 hw) (w156 hw) (by decide) (lenOf pd28 rfl) (ct_atB l Z a0 hw n0 h370 x1370 x2370 (3 : Int32) (4 : Int32) (0 : Int32) c236 b1370 [(i2b c236), (i2b c237), (i2b c238)] zc sio 0 (by decide) (by decide) (by decide) (by decide) rfl r236 S1370 f374 hzc f377 hsio) (w157 hw) (w3 hw) (fun x hx => hx) rfl (Nat.le_of_eq rfl) (Nat.le_of_ble_eq_true rfl) (Nat.le_of_ble_eq_true rfl) ⟨rfl, Nat.le_of_ble_eq_true rfl⟩ ⟨rfl, Nat.le_of_ble_eq_true rfl⟩ rfl (fun _ _ q => nomatch q.1) fun T h378 v so W hQ => ?_
            obtain ⟨hv, rfl, -⟩ := hQ
            obtain rfl := Option.some.inj hv
            refine k_ifN W d_code_220 (show ¬ ((1 : Int32) = 0) by decide) ?_
            refine k_aload W d_code_223 rfl rfl ?_
            refine k_aload W d_code_225 rfl rfl ?_
            refine k_iload W d_code_227 rfl ?_
            refine k_iload W d_code_229 rfl ?_
            refine k_iconst W d_code_231 (z := (1 : Int32)) rfl ?_
            refine k_iload W d_code_232 rfl ?_
            refine k_callS W 0 8 30 (argsL := [(.ref x1370), (.ref x2370), (.int (3 : Int32)), (.int (4 : Int32)), (.int (1 : Int32)), (.int c237)]) (rest := []) d_code_234 (w155 hw) (w156 hw) (by decide) (lenOf pd28 rfl) (ct_atB l Z a0 hw n0 h370 x1370 x2370 (3 : Int32) (4 : Int32) (1 : Int32) c237 b1370 [(i2b c236), (i2b c237), (i2b c238)] zc sio 1 (by decide) (by decide) (by decide) (by decide) rfl r237 S1370 f374 hzc f377 hsio) (w157 hw) (w3 hw) (fun x hx => hx) rfl (Nat.le_of_eq rfl) (Nat.le_of_ble_eq_true rfl) (Nat.le_of_ble_eq_true rfl) ⟨rfl, Nat.le_of_ble_eq_true rfl⟩ ⟨rfl, Nat.le_of_ble_eq_true rfl⟩ rfl (fun _ _ q => nomatch q.1) fun T h379 v so W hQ => ?_
            obtain ⟨hv, rfl, -⟩ := hQ
            obtain rfl := Option.some.inj hv
            refine k_ifN W d_code_237 (show ¬ ((1 : Int32) = 0) by decide) ?_
            refine k_aload W d_code_240 rfl rfl ?_
            refine k_aload W d_code_242 rfl rfl ?_
            refine k_iload W d_code_244 rfl ?_
            refine k_iload W d_code_246 rfl ?_
            refine k_iconst W d_code_248 (z := (2 : Int32)) rfl ?_
            refine k_iload W d_code_249 rfl ?_
            refine k_callS W 0 8 30 (argsL := [(.ref x1370), (.ref x2370), (.int (3 : Int32)), (.int (4 : Int32)), (.int (2 : Int32)), (.int c238)]) (rest := []) d_code_251 (w155 hw) (w156 hw) (by decide) (lenOf pd28 rfl) (ct_atB l Z a0 hw n0 h370 x1370 x2370 (3 : Int32) (4 : Int32) (2 : Int32) c238 b1370 [(i2b c236), (i2b c237), (i2b c238)] zc sio 2 (by decide) (by decide) (by decide) (by decide) rfl r238 S1370 f374 hzc f377 hsio) (w157 hw) (w3 hw) (fun x hx => hx) rfl (Nat.le_of_eq rfl) (Nat.le_of_ble_eq_true rfl) (Nat.le_of_ble_eq_true rfl) ⟨rfl, Nat.le_of_ble_eq_true rfl⟩ ⟨rfl, Nat.le_of_ble_eq_true rfl⟩ rfl (fun _ _ q => nomatch q.1) fun T h380 v so W hQ => ?_
            obtain ⟨hv, rfl, -⟩ := hQ
            obtain rfl := Option.some.inj hv
            refine k_ifN W d_code_254 (show ¬ ((1 : Int32) = 0) by decide) ?_
            refine k_aload W d_code_257 rfl rfl ?_
            refine k_aload W d_code_259 rfl rfl ?_
            refine k_iload W d_code_261 rfl ?_
            refine k_iload W d_code_263 rfl ?_
            refine k_iconst W d_code_265 (z := (3 : Int32)) rfl ?_
            refine k_iload W d_code_266 rfl ?_
            refine k_callS W 0 8 30 (argsL := [(.ref x1370), (.ref x2370), (.int (3 : Int32)), (.int (4 : Int32)), (.int (3 : Int32)), (.int c239)]) (rest := []) d_code_268 (w155 hw) (w156 hw) (by decide) (lenOf pd28 rfl) (ct_atA l Z a0 hw n0 h370 x1370 x2370 (3 : Int32) (4 : Int32) (3 : Int32) c239 (Or.inr (by decide))) (w157 hw) (w3 hw) (fun x hx => hx) rfl (Nat.le_of_eq rfl) (Nat.le_of_ble_eq_true rfl) (Nat.le_of_ble_eq_true rfl) ⟨rfl, Nat.le_of_ble_eq_true rfl⟩ ⟨rfl, Nat.le_of_ble_eq_true rfl⟩ rfl (fun _ _ q => nomatch q.1) fun T h381 v so W hQ => ?_
            obtain ⟨hv, rfl, -⟩ := hQ
            obtain rfl := Option.some.inj hv
            refine k_ifN W d_code_271 (show ¬ ((1 : Int32) = 0) by decide) ?_
            refine k_iconst W d_code_274 (z := (1 : Int32)) rfl ?_
            refine k_goto W 279 d_code_275 (by decide) ?_
            exact k_retN W (t := .boolean) (z' := (1 : Int32)) d_code_279 rfl (by simp) (by decide) [] (fun x hx => nomatch hx) (Nat.le_of_ble_eq_true rfl) (Nat.le_of_ble_eq_true rfl) rfl
          · --
            refine k_aload W d_code_48 rfl rfl ?_
            have f382 := (Sta.keep P0 K329 ns0)
            refine k_callS W 0 3 12 (argsL := [(.ref x329)]) (rest := []) d_code_50 (w30 hw) (w31 hw) (by decide) (lenOf pd26 rfl) (ct_parseN l Z a0 hw n0 h329 x329 b329 [(i2b c236), (i2b c237), (i2b c238), (i2b c239)] zc (allM (own_n47 r236 hs0) (allM (own_n47 r237 hs1) (allM (own_n47 r238 hs2) (allM (own_n47 r239 hs3) (fun _ q => nomatch q))))) S329 f382 hzc) (w33 hw) (w32 hw) (fun x hx => hx) rfl (Nat.le_of_eq rfl) (Nat.le_of_ble_eq_true rfl) (Nat.le_of_ble_eq_true rfl) ⟨rfl, Nat.le_of_ble_eq_true rfl⟩ ⟨rfl, Nat.le_of_ble_eq_true rfl⟩ rfl (fun _ _ q => nomatch q.1) fun T h383 v so W hQ => ?_
            obtain ⟨hv, rfl, -⟩ := hQ
            obtain rfl := Option.some.inj hv
            refine k_astore W d_code_53 rfl (L' := #[.val (.int p0), .val (.int p1), .val (.int p2), .val (.int p3), .val (.int p4), .val (.int (4 : Int32)), .val (.int c236), .val (.int c237), .val (.int c238), .val (.int c239), .val (.ref x329), .val .null, .unset, .unset, .unset]) rfl ?_
            refine k_iconst W d_code_55 (z := (-1 : Int32)) rfl ?_
            refine k_istore W d_code_56 (L' := #[.val (.int p0), .val (.int p1), .val (.int p2), .val (.int p3), .val (.int p4), .val (.int (4 : Int32)), .val (.int c236), .val (.int c237), .val (.int c238), .val (.int c239), .val (.ref x329), .val .null, .val (.int (-1 : Int32)), .unset, .unset]) rfl ?_
            refine k_iload W d_code_58 rfl ?_
            refine k_ifN W d_code_60 (show ¬ (¬ 0 < (4 : Int32)) by decide) ?_
            refine k_iload W d_code_63 rfl ?_
            refine k_bipush W d_code_65 (z := (47 : Int32)) rfl ?_
            refine k_icY W 76 d_code_67 (by decide) (show ¬ c236 = (47 : Int32) from hs0) ?_
            refine k_iload W d_code_76 rfl ?_
            refine k_iconst W d_code_78 (z := (1 : Int32)) rfl ?_
            refine k_icN W d_code_79 (show ¬ (¬ (1 : Int32) < (4 : Int32)) by decide) ?_
            refine k_iload W d_code_82 rfl ?_
            refine k_bipush W d_code_84 (z := (47 : Int32)) rfl ?_
            refine k_icY W 95 d_code_86 (by decide) (show ¬ c237 = (47 : Int32) from hs1) ?_
            refine k_iload W d_code_95 rfl ?_
            refine k_iconst W d_code_97 (z := (2 : Int32)) rfl ?_
            refine k_icN W d_code_98 (show ¬ (¬ (2 : Int32) < (4 : Int32)) by decide) ?_
            refine k_iload W d_code_101 rfl ?_
            refine k_bipush W d_code_103 (z := (47 : Int32)) rfl ?_
            refine k_icY W 114 d_code_105 (by decide) (show ¬ c238 = (47 : Int32) from hs2) ?_
            refine k_iload W d_code_114 rfl ?_
            refine k_iconst W d_code_116 (z := (3 : Int32)) rfl ?_
            refine k_icN W d_code_117 (show ¬ (¬ (3 : Int32) < (4 : Int32)) by decide) ?_
            refine k_iload W d_code_120 rfl ?_
            refine k_bipush W d_code_122 (z := (47 : Int32)) rfl ?_
            refine k_icY W 130 d_code_124 (by decide) (show ¬ c239 = (47 : Int32) from hs3) ?_
            refine k_iload W d_code_130 rfl ?_
            refine k_ifN W d_code_132 (show ¬ (¬ (-1 : Int32) < 0) by decide) ?_
            refine k_aload W d_code_135 rfl rfl ?_
            refine k_nnN W d_code_137 ?_
            refine k_iconst W d_code_140 (z := (1 : Int32)) rfl ?_
            refine k_goto W 145 d_code_141 (by decide) ?_
            exact k_retN W (t := .boolean) (z' := (1 : Int32)) d_code_145 rfl (by simp) (by decide) [] (fun x hx => nomatch hx) (Nat.le_of_ble_eq_true rfl) (Nat.le_of_ble_eq_true rfl) rfl
set_option maxRecDepth 65536 in
set_option maxHeartbeats 40000000 in
theorem comes_1 {Post : Tables → Env → Array Value → State → Outcome → State → Prop} (hpost : ∀ tb e args s v u, (limb_1_1.after args s (.returned v) u = true ∧ limb_1_2.after args s (.returned v) u = true ∧ True) → FramedW s (.returned v) u (Jvm.fieldLocs frame_1_writes args s ++ Jvm.arrayLocs frame_1_arrays args s ++ Jvm.staticLocs frame_1_statics s) 32 2176 → Post tb e args s (.returned v) u) :
    ArmFor flags0 classFile x code maxLocals ret World_1 tables_1 room_1 Calls_1 rest_1 Pre_1 Post := by
  intro l hfl _ _ p e ha hc hk s m args below hf hA hF happ hP
  obtain ⟨hcalls, hrest, hpre⟩ := hP
  obtain ⟨-, -, -, hnamed, -, -, -, hat⟩ := (Spec.applies_iff hf).mp happ
  obtain ⟨hg, hnarrow⟩ := and_e (Cond.before_iff.mp (show (Jvm.Cond.and given_1 narrow_1).before args s = true from hpre))
  obtain ⟨h1, h2⟩ := and_e hg
  obtain ⟨ga0, h2⟩ := and_e h2
  obtain ⟨ga1, h2⟩ := and_e h2
  obtain ⟨ga2, h2⟩ := and_e h2
  obtain ⟨ga3, h2⟩ := and_e h2
  have ga4 := h2
  obtain ⟨w0, w1, w2, w3, w4, rfl⟩ : ∃ w0 w1 w2 w3 w4 : Value, args = #[w0, w1, w2, w3, w4] := by
    have hs : args.size = 5 := by simpa [Cond.value, given_1] using h1
    obtain ⟨L⟩ := args
    match L, hs with
    | [w0, w1, w2, w3, w4], _ => exact ⟨w0, w1, w2, w3, w4, rfl⟩
  have hw := fun d (hd : d ∈ tables_1) => atoms_spec (ws := Jvm.Cond.code x code maxLocals ret :: tables_1) hat d (List.mem_cons_of_mem _ hd)
  obtain ⟨hsets, hown0⟩ := atoms_of _ (rest_1_c_eq ▸ (show rest_1_c.before _ s = true from hrest))
  have hfit : Fit s := fun {y c} hc i hi => by
    obtain ⟨ha, rfl⟩ := Array.getElem?_eq_some_iff.mp hc
    have q := List.all_eq_true.mp ((Array.all_eq_true_iff_forall_mem.mp hF) _ (Array.getElem_mem ha)) i (List.mem_range.mpr hi)
    simpa [Array.getElem?_eq_getElem hi] using q
  obtain ⟨i0, ei0⟩ := is_v ga0
  obtain rfl : w0 = (.int i0) := Option.some.inj ei0
  obtain ⟨i1, ei1⟩ := is_v ga1
  obtain rfl : w1 = (.int i1) := Option.some.inj ei1
  obtain ⟨i2, ei2⟩ := is_v ga2
  obtain rfl : w2 = (.int i2) := Option.some.inj ei2
  obtain ⟨i3, ei3⟩ := is_v ga3
  obtain rfl : w3 = (.int i3) := Option.some.inj ei3
  obtain ⟨i4, ei4⟩ := is_v ga4
  obtain rfl : w4 = (.int i4) := Option.some.inj ei4
  have n5 := not_v (Cond.before_iff.mp (hsets _ (List.mem_of_getElem? (i := 2) rfl)))
  obtain ⟨zc, ezc⟩ := is_v (Cond.before_iff.mp (hsets _ (List.mem_of_getElem? (i := 1) rfl)))
  have Szc : Sta s s.heap "java/lang/String" "COMPACT_STRINGS" "Z" (.int zc) := Sta.start ezc (Or.inl (hsets _ (List.mem_of_getElem? (i := 0) rfl)))
  have hzc : ¬ (zc = (0 : Int32)) := gotF (Cond.eq_ints ezc (Term.int_eval (0))) n5
  obtain ⟨sio, esio, hsio⟩ := isR_v (Cond.before_iff.mp (hsets _ (List.mem_of_getElem? (i := 8) rfl)))
  have G0 : Sta s s.heap "jdk/internal/util/Preconditions" "SIOOBE_FORMATTER" "Ljava/util/function/BiFunction;" sio := Sta.start esio (Or.inl (hsets _ (List.mem_of_getElem? (i := 7) rfl)))
  obtain ⟨n, o, k1, k2, k3, v, L, so, rfl, hQ, N, -, -, hnw, hq⟩ := rm0 l s _ hw s.heap.size s.heap i0 i1 i2 i3 i4 zc sio Szc hzc G0 hsio tables_1 p e ha hc hk s m _ below hf ((Spec.applies_iff_loose hf).mp happ).1 ⟨rfl, State.Warmed39.refl s, rfl, (CHv.start (own_EW hw) (fun p hp => hcalls.1 p hp) (hsets _ (List.mem_of_getElem? (i := 2) rfl)) (w23 hw) (w9 hw)), Nat.le_refl _, own_EW hw, fun x hx => nomatch hx⟩ trivial
  subst hQ
  refine ⟨n, _, k1, k2, k3, hpost _ _ _ _ _ _ ⟨Cond.after_iff.mpr rfl, Cond.after_iff.mpr (eq_i res_at (Term.int_eval (1)) rfl), trivial⟩ ⟨hq.1, hq.2.1, hq.2.2.1, (hq.2.2.2.sift fun y hy => Or.inr (N y hy)).mono (by decide) (by decide)⟩⟩
theorem main_1_1 : Claimed_1_1 := comes_1 fun _ _ _ _ _ _ h hF => ⟨h.1, hF⟩
theorem main_1_2 : Claimed_1_2 := comes_1 fun _ _ _ _ _ _ h hF => ⟨h.2.1, hF⟩
end Jvm.Pilot.@@N@@
namespace Jvm.Pilot.@@N@@
open Jvm Jvm.ClassFile Sem Op Lib Jvm.Free Jvm.Stand Jvm.Pilot.@@N@@.Jvm.D
/-! MADE BY PROGRAM (witnessworld.py) out of the Statement's table words and the real class files: 24 classes; the members and pool entries that the words name. The judged class is class 1, her method 1. -/
namespace start1
open Jvm.ClassFile
def u (s : String) : CpInfo := .utf8 (stringToUtf16 s)
/-- a pool by its gaps: so many unusable entries, then the entry; so many at the end -/
def gap : Nat → List CpInfo → List CpInfo
  | 0, r => r
  | n + 1, r => .unusable :: gap n r
def poolList (es : List (Nat × CpInfo)) (last : Nat) : List CpInfo := es.foldr (fun e r => gap e.1 (e.2 :: r)) (gap last [])
def pool (es : List (Nat × CpInfo)) (last : Nat) : Array CpInfo := ⟨poolList es last⟩
def fileOf (pool : Array CpInfo) (this : Nat) (attrs : Array Attribute := #[]) (ms : Array MethodInfo := #[]) (fl : Nat := 33) (sup : Nat := 0) (ifs : Array Nat := #[]) (fds : Array FieldInfo := #[]) : ClassFile where
  minorVersion := 0
  majorVersion := 65
  constantPool := pool
  accessFlags := fl
  thisClass := this
  superClass := sup
  interfaces := ifs
  fields := fds
  methods := ms
  attributes := attrs
def plain (name : String) (sup : Option ClassId) : Class where
  name := name
  kind := .ordinary
  loader := none
  accessFlags := 33
  super := sup
  interfaces := #[]
  cf := none
  fields := #[]
  methods := #[]
  instanceTypes := #[]
  staticTypes := #[]
  resolved := #[]
  callSites := []
  init := .initialized
  statics := none
  mirror := none

def pool0 : Array CpInfo := pool [(5, u "<init>"), (0, u "()V"), (1, .class_ 10), (1, u "java/lang/Object")] 113

def k0c0 : Code := { maxStack := 0, maxLocals := 1, code := object_method_1_code, exceptionTable := #[], attributes := #[] }
def k0m0 : Method := { name := "<init>", desc := "()V", sig := { parameters := [], returnType := none }, accessFlags := 1, code := some k0c0 }
/-- java/lang/Object -/
def k0 : Class := { plain "java/lang/Object" none with
  accessFlags := 33
  interfaces := #[]
  cf := some (fileOf pool0 8 #[] #[{ accessFlags := 1, nameIndex := 5, descriptorIndex := 6, attributes := #[] }] 33 0 #[] #[])
  fields := #[]
  methods := #[k0m0]
  instanceTypes := #[]
  staticTypes := #[]
  resolved := Array.replicate 124 none
  statics := none }

def pool1 : Array CpInfo := pool [(2, .class_ 4), (1, u "java/lang/Object"), (0, u "<init>"), (0, u "()V"), (0, .integer 2147483647), (0, .methodref 9 10), (0, .class_ 11), (0, .nameAndType 12 13), (0, u "com/example/kourier/kourier/rabbitmq/RouteParsePinLaw"), (0, u "draw"), (0, u "(I)C"), (0, .methodref 9 15), (0, .nameAndType 16 17), (0, u "make"), (0, u "(ICCCC)Ljava/lang/String;"), (0, .methodref 19 20), (0, .class_ 21), (0, .nameAndType 22 23), (0, u "com/example/kourier/kourier/rabbitmq/Route"), (0, u "parse"), (0, u "(Ljava/lang/String;)Lcom/example/kourier/kourier/rabbitmq/Route;"), (0, .methodref 19 25), (0, .nameAndType 26 27), (0, u "exchange"), (0, u "()Ljava/lang/String;"), (0, .methodref 19 29), (0, .nameAndType 30 27), (0, u "routingKey"), (0, .methodref 32 33), (0, .class_ 34), (0, .nameAndType 35 36), (0, u "java/lang/String"), (0, u "length"), (0, u "()I"), (0, .methodref 9 38), (0, .nameAndType 39 40), (0, u "at"), (0, u "(Ljava/lang/String;Ljava/lang/String;IIIC)Z"), (0, .methodref 32 42), (0, .nameAndType 43 13), (0, u "charAt"), (0, .methodref 32 45), (0, .nameAndType 5 46), (0, u "([C)V"), (2, u "law"), (0, u "(IIIII)Z")] 3

def k1m0 : Method := { name := "<init>", desc := "()V", sig := { parameters := [], returnType := none }, accessFlags := 1, code := none }
def k1c1 : Code := { maxStack := 6, maxLocals := 15, code := code, exceptionTable := #[], attributes := #[] }
def k1m1 : Method := { name := "law", desc := "(IIIII)Z", sig := { parameters := [.int, .int, .int, .int, .int], returnType := some .boolean }, accessFlags := 9, code := some k1c1 }
def k1c2 : Code := { maxStack := 3, maxLocals := 6, code := method_3_code, exceptionTable := #[], attributes := #[] }
def k1m2 : Method := { name := "at", desc := "(Ljava/lang/String;Ljava/lang/String;IIIC)Z", sig := { parameters := [(.object "java/lang/String"), (.object "java/lang/String"), .int, .int, .int, .char], returnType := some .boolean }, accessFlags := 10, code := some k1c2 }
def k1c3 : Code := { maxStack := 2, maxLocals := 1, code := method_4_code, exceptionTable := #[], attributes := #[] }
def k1m3 : Method := { name := "draw", desc := "(I)C", sig := { parameters := [.int], returnType := some .char }, accessFlags := 10, code := some k1c3 }
def k1c4 : Code := { maxStack := 6, maxLocals := 5, code := method_5_code, exceptionTable := #[], attributes := #[] }
def k1m4 : Method := { name := "make", desc := "(ICCCC)Ljava/lang/String;", sig := { parameters := [.int, .char, .char, .char, .char], returnType := some (.object "java/lang/String") }, accessFlags := 10, code := some k1c4 }
/-- com/example/kourier/kourier/rabbitmq/RouteParsePinLaw -/
def k1 : Class := { plain "com/example/kourier/kourier/rabbitmq/RouteParsePinLaw" (some 0) with
  accessFlags := 49
  interfaces := #[]
  cf := some (fileOf pool1 9 #[] #[{ accessFlags := 1, nameIndex := 5, descriptorIndex := 6, attributes := #[] }, { accessFlags := 9, nameIndex := 49, descriptorIndex := 50, attributes := #[] }, { accessFlags := 10, nameIndex := 39, descriptorIndex := 40, attributes := #[] }, { accessFlags := 10, nameIndex := 12, descriptorIndex := 13, attributes := #[] }, { accessFlags := 10, nameIndex := 16, descriptorIndex := 17, attributes := #[] }] 49 2 #[] #[])
  fields := #[]
  methods := #[k1m0, k1m1, k1m2, k1m3, k1m4]
  instanceTypes := #[]
  staticTypes := #[]
  resolved := Array.replicate 54 none
  statics := none }

def pool2 : Array CpInfo := pool [(1, .class_ 2), (0, u "java/io/Serializable"), (0, .class_ 4), (0, u "java/lang/Object")] 2

/-- java/io/Serializable -/
def k2 : Class := { plain "java/io/Serializable" (some 0) with
  accessFlags := 1537
  interfaces := #[]
  cf := some (fileOf pool2 1 #[] #[] 1537 3 #[] #[])
  fields := #[]
  methods := #[]
  instanceTypes := #[]
  staticTypes := #[]
  resolved := Array.replicate 7 none
  statics := none }

def pool3 : Array CpInfo := pool [(1, .class_ 2), (0, u "java/lang/Comparable"), (0, .class_ 4), (0, u "java/lang/Object")] 7

/-- java/lang/Comparable -/
def k3 : Class := { plain "java/lang/Comparable" (some 0) with
  accessFlags := 1537
  interfaces := #[]
  cf := some (fileOf pool3 1 #[] #[] 1537 3 #[] #[])
  fields := #[]
  methods := #[]
  instanceTypes := #[]
  staticTypes := #[]
  resolved := Array.replicate 12 none
  statics := none }

def pool4 : Array CpInfo := pool [(2, .class_ 4), (1, u "java/lang/CharSequence"), (42, .class_ 48), (0, u "java/lang/CharSequence$1CodePointIterator"), (10, .class_ 60), (0, u "java/lang/CharSequence$1CharIterator"), (5, .class_ 67), (0, u "java/lang/Object")] 63

/-- java/lang/CharSequence -/
def k4 : Class := { plain "java/lang/CharSequence" (some 0) with
  accessFlags := 1537
  interfaces := #[]
  cf := some (fileOf pool4 2 #[.nestMembers #[47, 59]] #[] 1537 66 #[] #[])
  fields := #[]
  methods := #[]
  instanceTypes := #[]
  staticTypes := #[]
  resolved := Array.replicate 131 none
  statics := none }

def pool5 : Array CpInfo := pool [(1, .class_ 2), (0, u "java/lang/constant/Constable"), (0, .class_ 4), (0, u "java/lang/Object")] 6

/-- java/lang/constant/Constable -/
def k5 : Class := { plain "java/lang/constant/Constable" (some 0) with
  accessFlags := 1537
  interfaces := #[]
  cf := some (fileOf pool5 1 #[] #[] 1537 3 #[] #[])
  fields := #[]
  methods := #[]
  instanceTypes := #[]
  staticTypes := #[]
  resolved := Array.replicate 11 none
  statics := none }

def pool6 : Array CpInfo := pool [(1, .class_ 2), (0, u "java/lang/constant/ConstantDesc"), (0, .class_ 4), (0, u "java/lang/Object")] 32

/-- java/lang/constant/ConstantDesc -/
def k6 : Class := { plain "java/lang/constant/ConstantDesc" (some 0) with
  accessFlags := 1537
  interfaces := #[]
  cf := some (fileOf pool6 1 #[] #[] 1537 3 #[] #[])
  fields := #[]
  methods := #[]
  instanceTypes := #[]
  staticTypes := #[]
  resolved := Array.replicate 37 none
  statics := none }

def pool7 : Array CpInfo := pool [(1, .methodref 2 3), (0, .class_ 4), (0, .nameAndType 5 6), (0, u "java/lang/Object"), (0, u "<init>"), (0, u "()V"), (0, .string 8), (0, u ""), (0, .fieldref 10 11), (0, .class_ 12), (0, .nameAndType 13 14), (0, u "java/lang/String"), (0, u "value"), (0, u "[B"), (0, .fieldref 10 16), (0, .nameAndType 17 18), (0, u "coder"), (0, u "B"), (2, u "hash"), (0, u "I"), (2, u "hashIsZero"), (0, u "Z"), (0, .methodref 10 28), (0, .nameAndType 5 29), (0, u "([CIILjava/lang/Void;)V"), (8, .fieldref 10 39), (0, .nameAndType 40 26), (0, u "COMPACT_STRINGS"), (1, .class_ 44), (1, u "java/lang/StringUTF16"), (0, u "compress"), (1, .methodref 42 48), (0, .nameAndType 49 50), (0, u "coderFromArrayLen"), (0, u "([BI)B"), (56, .class_ 109), (1, u "java/lang/StringLatin1"), (32, u "()Z"), (34, .methodref 42 178), (0, .nameAndType 45 179), (0, u "([CII)[B"), (31, u "([BB)V"), (122, u "()I"), (0, .methodref 10 336), (0, .nameAndType 17 337), (0, u "()B"), (25, u "([BI)C"), (27, u "(II)V"), (35, u "(I)C"), (64, .methodref 10 493), (0, .nameAndType 494 142), (0, u "isLatin1"), (0, .methodref 107 496), (0, .nameAndType 497 363), (0, u "charAt"), (3, u "checkIndex"), (3, .methodref 10 506), (0, .nameAndType 507 334), (0, u "length"), (5, u "checkFromToIndex"), (7, .methodref 10 522), (0, .nameAndType 523 524), (0, u "checkBoundsBeginEnd"), (0, u "(III)V"), (50, .class_ 576), (0, u "java/lang/CharSequence"), (22, u "CASE_INSENSITIVE_ORDER"), (0, u "Ljava/util/Comparator;"), (32, .methodref 10 634), (0, .nameAndType 635 636), (0, u "indexOf"), (0, u "(II)I"), (0, .methodref 107 638), (0, .nameAndType 635 639), (0, u "([BIII)I"), (41, .methodref 10 682), (0, .nameAndType 683 684), (0, u "substring"), (0, u "(II)Ljava/lang/String;"), (0, .methodref 107 686), (0, .nameAndType 687 688), (0, u "newString"), (0, u "([BII)Ljava/lang/String;"), (76, u "(I)I"), (126, u "(I)Ljava/lang/String;"), (117, u "([C)V"), (42, .fieldref 1054 1055), (0, .class_ 1056), (0, .nameAndType 1057 1058), (0, u "jdk/internal/util/Preconditions"), (0, u "SIOOBE_FORMATTER"), (0, u "Ljava/util/function/BiFunction;"), (0, .methodref 1054 1060), (0, .nameAndType 501 1061), (0, u "(IILjava/util/function/BiFunction;)I"), (0, .methodref 1054 1063), (0, .nameAndType 513 1064), (0, u "(IIILjava/util/function/BiFunction;)I"), (36, u "serialPersistentFields"), (0, u "[Ljava/io/ObjectStreamField;"), (0, .class_ 1104), (0, u "java/lang/String$CaseInsensitiveComparator"), (1, .class_ 1107), (0, u "java/io/Serializable"), (0, .class_ 1109), (0, u "java/lang/Comparable"), (0, .class_ 1111), (0, u "java/lang/constant/Constable"), (0, .class_ 1113), (0, u "java/lang/constant/ConstantDesc"), (2, u "serialVersionUID"), (0, u "J"), (3, u "REPL"), (0, u "C"), (2, u "LATIN1"), (1, u "UTF16")] 323

def k7m0 : Method := { name := "<init>", desc := "()V", sig := { parameters := [], returnType := none }, accessFlags := 1, code := none }
def k7c1 : Code := { maxStack := 5, maxLocals := 2, code := jdk_42_method_3_code, exceptionTable := #[], attributes := #[] }
def k7m1 : Method := { name := "<init>", desc := "([C)V", sig := { parameters := [(.array .char)], returnType := none }, accessFlags := 1, code := some k7c1 }
def k7c2 : Code := { maxStack := 2, maxLocals := 1, code := jdk_42_method_54_code, exceptionTable := #[], attributes := #[] }
def k7m2 : Method := { name := "length", desc := "()I", sig := { parameters := [], returnType := some .int }, accessFlags := 1, code := some k7c2 }
def k7c3 : Code := { maxStack := 2, maxLocals := 2, code := jdk_42_method_56_code, exceptionTable := #[], attributes := #[] }
def k7m3 : Method := { name := "charAt", desc := "(I)C", sig := { parameters := [.int], returnType := some .char }, accessFlags := 1, code := some k7c3 }
def k7c4 : Code := { maxStack := 3, maxLocals := 2, code := jdk_42_method_79_code, exceptionTable := #[], attributes := #[] }
def k7m4 : Method := { name := "indexOf", desc := "(I)I", sig := { parameters := [.int], returnType := some .int }, accessFlags := 1, code := some k7c4 }
def k7c5 : Code := { maxStack := 4, maxLocals := 3, code := jdk_42_method_80_code, exceptionTable := #[], attributes := #[] }
def k7m5 : Method := { name := "indexOf", desc := "(II)I", sig := { parameters := [.int, .int], returnType := some .int }, accessFlags := 1, code := some k7c5 }
def k7c6 : Code := { maxStack := 3, maxLocals := 2, code := jdk_42_method_91_code, exceptionTable := #[], attributes := #[] }
def k7m6 : Method := { name := "substring", desc := "(I)Ljava/lang/String;", sig := { parameters := [.int], returnType := some (.object "java/lang/String") }, accessFlags := 1, code := some k7c6 }
def k7c7 : Code := { maxStack := 3, maxLocals := 5, code := jdk_42_method_92_code, exceptionTable := #[], attributes := #[] }
def k7m7 : Method := { name := "substring", desc := "(II)Ljava/lang/String;", sig := { parameters := [.int, .int], returnType := some (.object "java/lang/String") }, accessFlags := 1, code := some k7c7 }
def k7c8 : Code := { maxStack := 4, maxLocals := 6, code := jdk_42_method_149_code, exceptionTable := #[], attributes := #[] }
def k7m8 : Method := { name := "<init>", desc := "([CIILjava/lang/Void;)V", sig := { parameters := [(.array .char), .int, .int, (.object "java/lang/Void")], returnType := none }, accessFlags := 2, code := some k7c8 }
def k7c9 : Code := { maxStack := 2, maxLocals := 3, code := jdk_42_method_151_code, exceptionTable := #[], attributes := #[] }
def k7m9 : Method := { name := "<init>", desc := "([BB)V", sig := { parameters := [(.array .byte), .byte], returnType := none }, accessFlags := 0, code := some k7c9 }
def k7c10 : Code := { maxStack := 1, maxLocals := 1, code := jdk_42_method_152_code, exceptionTable := #[], attributes := #[] }
def k7m10 : Method := { name := "coder", desc := "()B", sig := { parameters := [], returnType := some .byte }, accessFlags := 0, code := some k7c10 }
def k7c11 : Code := { maxStack := 1, maxLocals := 1, code := jdk_42_method_154_code, exceptionTable := #[], attributes := #[] }
def k7m11 : Method := { name := "isLatin1", desc := "()Z", sig := { parameters := [], returnType := some .boolean }, accessFlags := 0, code := some k7c11 }
def k7c12 : Code := { maxStack := 3, maxLocals := 2, code := jdk_42_method_155_code, exceptionTable := #[], attributes := #[] }
def k7m12 : Method := { name := "checkIndex", desc := "(II)V", sig := { parameters := [.int, .int], returnType := none }, accessFlags := 8, code := some k7c12 }
def k7c13 : Code := { maxStack := 4, maxLocals := 3, code := jdk_42_method_158_code, exceptionTable := #[], attributes := #[] }
def k7m13 : Method := { name := "checkBoundsBeginEnd", desc := "(III)V", sig := { parameters := [.int, .int, .int], returnType := none }, accessFlags := 8, code := some k7c13 }
/-- java/lang/String -/
def k7 : Class := { plain "java/lang/String" (some 0) with
  accessFlags := 49
  interfaces := #[2, 3, 4, 5, 6]
  cf := some (fileOf pool7 10 #[.nestMembers #[1103]] #[{ accessFlags := 1, nameIndex := 5, descriptorIndex := 6, attributes := #[] }, { accessFlags := 1, nameIndex := 5, descriptorIndex := 1010, attributes := #[] }, { accessFlags := 1, nameIndex := 507, descriptorIndex := 334, attributes := #[] }, { accessFlags := 1, nameIndex := 497, descriptorIndex := 427, attributes := #[] }, { accessFlags := 1, nameIndex := 635, descriptorIndex := 765, attributes := #[] }, { accessFlags := 1, nameIndex := 635, descriptorIndex := 636, attributes := #[] }, { accessFlags := 1, nameIndex := 683, descriptorIndex := 892, attributes := #[] }, { accessFlags := 1, nameIndex := 683, descriptorIndex := 684, attributes := #[] }, { accessFlags := 2, nameIndex := 5, descriptorIndex := 29, attributes := #[] }, { accessFlags := 0, nameIndex := 5, descriptorIndex := 211, attributes := #[] }, { accessFlags := 0, nameIndex := 17, descriptorIndex := 337, attributes := #[] }, { accessFlags := 0, nameIndex := 494, descriptorIndex := 142, attributes := #[] }, { accessFlags := 8, nameIndex := 501, descriptorIndex := 391, attributes := #[] }, { accessFlags := 8, nameIndex := 523, descriptorIndex := 524, attributes := #[] }] 49 2 #[1106, 1108, 575, 1110, 1112] #[{ accessFlags := 18, nameIndex := 13, descriptorIndex := 14, attributes := #[] }, { accessFlags := 18, nameIndex := 17, descriptorIndex := 18, attributes := #[] }, { accessFlags := 2, nameIndex := 21, descriptorIndex := 22, attributes := #[] }, { accessFlags := 2, nameIndex := 25, descriptorIndex := 26, attributes := #[] }, { accessFlags := 26, nameIndex := 1116, descriptorIndex := 1117, attributes := #[] }, { accessFlags := 24, nameIndex := 40, descriptorIndex := 26, attributes := #[] }, { accessFlags := 26, nameIndex := 1101, descriptorIndex := 1102, attributes := #[] }, { accessFlags := 26, nameIndex := 1121, descriptorIndex := 1122, attributes := #[] }, { accessFlags := 25, nameIndex := 599, descriptorIndex := 600, attributes := #[] }, { accessFlags := 24, nameIndex := 1125, descriptorIndex := 18, attributes := #[] }, { accessFlags := 24, nameIndex := 1127, descriptorIndex := 18, attributes := #[] }])
  fields := #[{ name := "value", type := (.array .byte), accessFlags := 18, slot := 0, constantValue := 0 }, { name := "coder", type := .byte, accessFlags := 18, slot := 1, constantValue := 0 }, { name := "hash", type := .int, accessFlags := 2, slot := 2, constantValue := 0 }, { name := "hashIsZero", type := .boolean, accessFlags := 2, slot := 3, constantValue := 0 }, { name := "serialVersionUID", type := .long, accessFlags := 26, slot := 0, constantValue := 0 }, { name := "COMPACT_STRINGS", type := .boolean, accessFlags := 24, slot := 1, constantValue := 0 }, { name := "serialPersistentFields", type := (.array (.object "java/io/ObjectStreamField")), accessFlags := 26, slot := 2, constantValue := 0 }, { name := "REPL", type := .char, accessFlags := 26, slot := 3, constantValue := 0 }, { name := "CASE_INSENSITIVE_ORDER", type := (.object "java/util/Comparator"), accessFlags := 25, slot := 4, constantValue := 0 }, { name := "LATIN1", type := .byte, accessFlags := 24, slot := 5, constantValue := 0 }, { name := "UTF16", type := .byte, accessFlags := 24, slot := 6, constantValue := 0 }]
  methods := #[k7m0, k7m1, k7m2, k7m3, k7m4, k7m5, k7m6, k7m7, k7m8, k7m9, k7m10, k7m11, k7m12, k7m13]
  instanceTypes := #[(.array .byte), .byte, .int, .boolean]
  staticTypes := #[.long, .boolean, (.array (.object "java/io/ObjectStreamField")), .char, (.object "java/util/Comparator"), .byte, .byte]
  resolved := Array.replicate 1451 none
  statics := some 0 }

def pool8 : Array CpInfo := pool [(1, .methodref 2 3), (0, .class_ 4), (0, .nameAndType 5 6), (0, u "java/lang/Object"), (0, u "<init>"), (0, u "()V"), (0, .class_ 8), (0, u "java/lang/Record")] 13

def k8c0 : Code := { maxStack := 1, maxLocals := 1, code := jdk_30_method_1_code, exceptionTable := #[], attributes := #[] }
def k8m0 : Method := { name := "<init>", desc := "()V", sig := { parameters := [], returnType := none }, accessFlags := 4, code := some k8c0 }
/-- java/lang/Record -/
def k8 : Class := { plain "java/lang/Record" (some 0) with
  accessFlags := 1057
  interfaces := #[]
  cf := some (fileOf pool8 7 #[] #[{ accessFlags := 4, nameIndex := 5, descriptorIndex := 6, attributes := #[] }] 1057 2 #[] #[])
  fields := #[]
  methods := #[k8m0]
  instanceTypes := #[]
  staticTypes := #[]
  resolved := Array.replicate 22 none
  statics := none }

def pool9 : Array CpInfo := pool [(1, .methodref 2 3), (0, .class_ 4), (0, .nameAndType 5 6), (0, u "java/lang/Record"), (0, u "<init>"), (0, u "()V"), (0, .fieldref 8 9), (0, .class_ 10), (0, .nameAndType 11 12), (0, u "com/example/kourier/kourier/rabbitmq/Route"), (0, u "exchange"), (0, u "Ljava/lang/String;"), (0, .fieldref 8 14), (0, .nameAndType 15 12), (0, u "routingKey"), (0, .methodref 17 18), (0, .class_ 19), (0, .nameAndType 20 21), (0, u "java/lang/String"), (0, u "indexOf"), (0, u "(I)I"), (0, .methodref 17 23), (0, .nameAndType 24 25), (0, u "substring"), (0, u "(II)Ljava/lang/String;"), (0, .methodref 17 27), (0, .nameAndType 24 28), (0, u "(I)Ljava/lang/String;"), (0, .methodref 8 30), (0, .nameAndType 5 31), (0, u "(Ljava/lang/String;Ljava/lang/String;)V"), (15, u "parse"), (0, u "(Ljava/lang/String;)Lcom/example/kourier/kourier/rabbitmq/Route;"), (1, u "()Ljava/lang/String;")] 23

def k9c0 : Code := { maxStack := 2, maxLocals := 3, code := prog_16_method_1_code, exceptionTable := #[], attributes := #[] }
def k9m0 : Method := { name := "<init>", desc := "(Ljava/lang/String;Ljava/lang/String;)V", sig := { parameters := [(.object "java/lang/String"), (.object "java/lang/String")], returnType := none }, accessFlags := 0, code := some k9c0 }
def k9c1 : Code := { maxStack := 6, maxLocals := 2, code := prog_16_method_2_code, exceptionTable := #[], attributes := #[] }
def k9m1 : Method := { name := "parse", desc := "(Ljava/lang/String;)Lcom/example/kourier/kourier/rabbitmq/Route;", sig := { parameters := [(.object "java/lang/String")], returnType := some (.object "com/example/kourier/kourier/rabbitmq/Route") }, accessFlags := 8, code := some k9c1 }
def k9c2 : Code := { maxStack := 1, maxLocals := 1, code := prog_16_method_6_code, exceptionTable := #[], attributes := #[] }
def k9m2 : Method := { name := "exchange", desc := "()Ljava/lang/String;", sig := { parameters := [], returnType := some (.object "java/lang/String") }, accessFlags := 1, code := some k9c2 }
def k9c3 : Code := { maxStack := 1, maxLocals := 1, code := prog_16_method_7_code, exceptionTable := #[], attributes := #[] }
def k9m3 : Method := { name := "routingKey", desc := "()Ljava/lang/String;", sig := { parameters := [], returnType := some (.object "java/lang/String") }, accessFlags := 1, code := some k9c3 }
/-- com/example/kourier/kourier/rabbitmq/Route -/
def k9 : Class := { plain "com/example/kourier/kourier/rabbitmq/Route" (some 8) with
  accessFlags := 48
  interfaces := #[]
  cf := some (fileOf pool9 8 #[] #[{ accessFlags := 0, nameIndex := 5, descriptorIndex := 31, attributes := #[] }, { accessFlags := 8, nameIndex := 47, descriptorIndex := 48, attributes := #[] }, { accessFlags := 1, nameIndex := 11, descriptorIndex := 50, attributes := #[] }, { accessFlags := 1, nameIndex := 15, descriptorIndex := 50, attributes := #[] }] 48 2 #[] #[{ accessFlags := 18, nameIndex := 11, descriptorIndex := 12, attributes := #[] }, { accessFlags := 18, nameIndex := 15, descriptorIndex := 12, attributes := #[] }])
  fields := #[{ name := "exchange", type := (.object "java/lang/String"), accessFlags := 18, slot := 0, constantValue := 0 }, { name := "routingKey", type := (.object "java/lang/String"), accessFlags := 18, slot := 1, constantValue := 0 }]
  methods := #[k9m0, k9m1, k9m2, k9m3]
  instanceTypes := #[(.object "java/lang/String"), (.object "java/lang/String")]
  staticTypes := #[]
  resolved := Array.replicate 74 none
  statics := none }

def pool10 : Array CpInfo := pool [(1, .class_ 2), (0, u "java/lang/String"), (1, .class_ 6), (1, u "java/lang/Object"), (0, u "<init>"), (0, u "()V"), (0, .methodref 1 10), (0, .nameAndType 11 12), (0, u "checkIndex"), (0, u "(II)V"), (1, .class_ 16), (1, u "java/lang/StringLatin1"), (21, .methodref 39 40), (0, .class_ 41), (0, .nameAndType 42 43), (0, u "java/lang/Math"), (0, u "min"), (0, u "(II)I"), (9, u "([BI)C"), (34, .methodref 14 89), (0, .nameAndType 90 91), (0, u "canEncode"), (0, u "(I)Z"), (0, .methodref 39 93), (0, .nameAndType 94 43), (0, u "max"), (0, .methodref 14 96), (0, .nameAndType 97 98), (0, u "indexOfChar"), (0, u "([BIII)I"), (2, u "indexOf"), (10, .methodref 1 113), (0, .nameAndType 7 114), (0, u "([BB)V"), (6, u "$assertionsDisabled"), (0, u "Z"), (8, .class_ 133), (1, u "java/util/Arrays"), (17, .string 152), (0, u ""), (43, u "newString"), (0, u "([BII)Ljava/lang/String;"), (23, .class_ 223), (1, u "java/lang/StringLatin1$LinesSpliterator"), (8, .methodref 131 233), (0, .nameAndType 234 235), (0, u "copyOfRange"), (0, u "([BII)[B"), (16, u "charAt"), (137, .class_ 391), (0, u "java/lang/StringLatin1$CharsSpliterator")] 3

def k10m0 : Method := { name := "<init>", desc := "()V", sig := { parameters := [], returnType := none }, accessFlags := 0, code := none }
def k10c1 : Code := { maxStack := 2, maxLocals := 2, code := jdk_43_method_2_code, exceptionTable := #[], attributes := #[] }
def k10m1 : Method := { name := "charAt", desc := "([BI)C", sig := { parameters := [(.array .byte), .int], returnType := some .char }, accessFlags := 9, code := some k10c1 }
def k10c2 : Code := { maxStack := 2, maxLocals := 1, code := jdk_43_method_4_code, exceptionTable := #[], attributes := #[] }
def k10m2 : Method := { name := "canEncode", desc := "(I)Z", sig := { parameters := [.int], returnType := some .boolean }, accessFlags := 9, code := some k10c2 }
def k10c3 : Code := { maxStack := 4, maxLocals := 4, code := jdk_43_method_22_code, exceptionTable := #[], attributes := #[] }
def k10m3 : Method := { name := "indexOf", desc := "([BIII)I", sig := { parameters := [(.array .byte), .int, .int, .int], returnType := some .int }, accessFlags := 9, code := some k10c3 }
def k10c4 : Code := { maxStack := 2, maxLocals := 6, code := jdk_43_method_23_code, exceptionTable := #[], attributes := #[] }
def k10m4 : Method := { name := "indexOfChar", desc := "([BIII)I", sig := { parameters := [(.array .byte), .int, .int, .int], returnType := some .int }, accessFlags := 10, code := some k10c4 }
def k10c5 : Code := { maxStack := 6, maxLocals := 3, code := jdk_43_method_47_code, exceptionTable := #[], attributes := #[] }
def k10m5 : Method := { name := "newString", desc := "([BII)Ljava/lang/String;", sig := { parameters := [(.array .byte), .int, .int], returnType := some (.object "java/lang/String") }, accessFlags := 9, code := some k10c5 }
/-- java/lang/StringLatin1 -/
def k10 : Class := { plain "java/lang/StringLatin1" (some 0) with
  accessFlags := 48
  interfaces := #[]
  cf := some (fileOf pool10 14 #[.nestMembers #[390, 221]] #[{ accessFlags := 0, nameIndex := 7, descriptorIndex := 8, attributes := #[] }, { accessFlags := 9, nameIndex := 252, descriptorIndex := 53, attributes := #[] }, { accessFlags := 9, nameIndex := 90, descriptorIndex := 91, attributes := #[] }, { accessFlags := 9, nameIndex := 101, descriptorIndex := 98, attributes := #[] }, { accessFlags := 10, nameIndex := 97, descriptorIndex := 98, attributes := #[] }, { accessFlags := 9, nameIndex := 196, descriptorIndex := 197, attributes := #[] }] 48 4 #[] #[{ accessFlags := 4120, nameIndex := 121, descriptorIndex := 122, attributes := #[] }])
  fields := #[{ name := "$assertionsDisabled", type := .boolean, accessFlags := 4120, slot := 0, constantValue := 0 }]
  methods := #[k10m0, k10m1, k10m2, k10m3, k10m4, k10m5]
  instanceTypes := #[]
  staticTypes := #[.boolean]
  resolved := Array.replicate 395 none
  statics := none }

def pool11 : Array CpInfo := pool [(1, .class_ 2), (0, u "java/lang/Math"), (1, .class_ 6), (1, u "java/lang/Object"), (0, u "<init>"), (0, u "()V"), (89, .class_ 100), (1, u "java/lang/Math$RandomNumberGeneratorHolder"), (71, u "negativeZeroFloatBits"), (0, u "J"), (2, u "negativeZeroDoubleBits"), (21, u "max"), (2, u "min"), (43, u "$assertionsDisabled"), (0, u "Z"), (88, u "(II)I"), (2, u "twoToTheDoubleScaleDown"), (0, u "D"), (4, u "twoToTheDoubleScaleUp"), (9, u "E"), (3, u "PI"), (2, u "TAU"), (2, u "DEGREES_TO_RADIANS"), (0, u "RADIANS_TO_DEGREES")] 94

def k11m0 : Method := { name := "<init>", desc := "()V", sig := { parameters := [], returnType := none }, accessFlags := 2, code := none }
def k11c1 : Code := { maxStack := 2, maxLocals := 2, code := jdk_29_method_65_code, exceptionTable := #[], attributes := #[] }
def k11m1 : Method := { name := "max", desc := "(II)I", sig := { parameters := [.int, .int], returnType := some .int }, accessFlags := 9, code := some k11c1 }
def k11c2 : Code := { maxStack := 2, maxLocals := 2, code := jdk_29_method_69_code, exceptionTable := #[], attributes := #[] }
def k11m2 : Method := { name := "min", desc := "(II)I", sig := { parameters := [.int, .int], returnType := some .int }, accessFlags := 9, code := some k11c2 }
/-- java/lang/Math -/
def k11 : Class := { plain "java/lang/Math" (some 0) with
  accessFlags := 49
  interfaces := #[]
  cf := some (fileOf pool11 1 #[.nestMembers #[98]] #[{ accessFlags := 2, nameIndex := 7, descriptorIndex := 8, attributes := #[] }, { accessFlags := 9, nameIndex := 198, descriptorIndex := 335, attributes := #[] }, { accessFlags := 9, nameIndex := 201, descriptorIndex := 335, attributes := #[] }] 49 4 #[] #[{ accessFlags := 25, nameIndex := 354, descriptorIndex := 339, attributes := #[] }, { accessFlags := 25, nameIndex := 358, descriptorIndex := 339, attributes := #[] }, { accessFlags := 25, nameIndex := 361, descriptorIndex := 339, attributes := #[] }, { accessFlags := 26, nameIndex := 364, descriptorIndex := 339, attributes := #[] }, { accessFlags := 26, nameIndex := 365, descriptorIndex := 339, attributes := #[] }, { accessFlags := 26, nameIndex := 172, descriptorIndex := 173, attributes := #[] }, { accessFlags := 26, nameIndex := 176, descriptorIndex := 173, attributes := #[] }, { accessFlags := 8, nameIndex := 344, descriptorIndex := 339, attributes := #[] }, { accessFlags := 8, nameIndex := 338, descriptorIndex := 339, attributes := #[] }, { accessFlags := 4120, nameIndex := 245, descriptorIndex := 246, attributes := #[] }])
  fields := #[{ name := "E", type := .double, accessFlags := 25, slot := 0, constantValue := 0 }, { name := "PI", type := .double, accessFlags := 25, slot := 1, constantValue := 0 }, { name := "TAU", type := .double, accessFlags := 25, slot := 2, constantValue := 0 }, { name := "DEGREES_TO_RADIANS", type := .double, accessFlags := 26, slot := 3, constantValue := 0 }, { name := "RADIANS_TO_DEGREES", type := .double, accessFlags := 26, slot := 4, constantValue := 0 }, { name := "negativeZeroFloatBits", type := .long, accessFlags := 26, slot := 5, constantValue := 0 }, { name := "negativeZeroDoubleBits", type := .long, accessFlags := 26, slot := 6, constantValue := 0 }, { name := "twoToTheDoubleScaleUp", type := .double, accessFlags := 8, slot := 7, constantValue := 0 }, { name := "twoToTheDoubleScaleDown", type := .double, accessFlags := 8, slot := 8, constantValue := 0 }, { name := "$assertionsDisabled", type := .boolean, accessFlags := 4120, slot := 9, constantValue := 0 }]
  methods := #[k11m0, k11m1, k11m2]
  instanceTypes := #[]
  staticTypes := #[.double, .double, .double, .double, .double, .long, .long, .double, .double, .boolean]
  resolved := Array.replicate 460 none
  statics := none }

def pool12 : Array CpInfo := pool [(6, .class_ 8), (1, u "java/lang/Object"), (0, u "<init>"), (0, u "()V"), (1, .class_ 14), (1, u "java/lang/StringUTF16"), (31, u "$assertionsDisabled"), (0, u "Z"), (13, u "HI_BYTE_SHIFT"), (0, u "I"), (2, u "LO_BYTE_SHIFT"), (49, .methodref 12 116), (0, .nameAndType 117 118), (0, u "compress"), (0, u "([CI[BII)I"), (3, u "([CII)[B"), (138, u "coderFromArrayLen"), (0, u "([BI)B"), (106, .class_ 371), (1, u "java/lang/StringUTF16$LinesSpliterator"), (58, u "MAX_LENGTH"), (196, .class_ 628), (0, u "java/lang/StringUTF16$CodePointsSpliterator"), (0, .class_ 630), (0, u "java/lang/StringUTF16$CharsSpliterator")] 4

def k12m0 : Method := { name := "<init>", desc := "()V", sig := { parameters := [], returnType := none }, accessFlags := 0, code := none }
def k12c1 : Code := { maxStack := 2, maxLocals := 2, code := jdk_52_method_15_code, exceptionTable := #[], attributes := #[] }
def k12m1 : Method := { name := "coderFromArrayLen", desc := "([BI)B", sig := { parameters := [(.array .byte), .int], returnType := some .byte }, accessFlags := 8, code := some k12c1 }
def k12c2 : Code := { maxStack := 5, maxLocals := 6, code := jdk_52_method_16_code, exceptionTable := #[], attributes := #[] }
def k12m2 : Method := { name := "compress", desc := "([CII)[B", sig := { parameters := [(.array .char), .int, .int], returnType := some (.array .byte) }, accessFlags := 9, code := some k12c2 }
def k12c3 : Code := { maxStack := 3, maxLocals := 7, code := jdk_52_method_21_code, exceptionTable := #[], attributes := #[] }
def k12m3 : Method := { name := "compress", desc := "([CI[BII)I", sig := { parameters := [(.array .char), .int, (.array .byte), .int, .int], returnType := some .int }, accessFlags := 9, code := some k12c3 }
/-- java/lang/StringUTF16 -/
def k12 : Class := { plain "java/lang/StringUTF16" (some 0) with
  accessFlags := 48
  interfaces := #[]
  cf := some (fileOf pool12 12 #[.nestMembers #[627, 629, 369]] #[{ accessFlags := 0, nameIndex := 9, descriptorIndex := 10, attributes := #[] }, { accessFlags := 8, nameIndex := 261, descriptorIndex := 262, attributes := #[] }, { accessFlags := 9, nameIndex := 117, descriptorIndex := 122, attributes := #[] }, { accessFlags := 9, nameIndex := 117, descriptorIndex := 118, attributes := #[] }] 48 6 #[] #[{ accessFlags := 26, nameIndex := 61, descriptorIndex := 62, attributes := #[] }, { accessFlags := 26, nameIndex := 65, descriptorIndex := 62, attributes := #[] }, { accessFlags := 24, nameIndex := 430, descriptorIndex := 62, attributes := #[] }, { accessFlags := 4120, nameIndex := 46, descriptorIndex := 47, attributes := #[] }])
  fields := #[{ name := "HI_BYTE_SHIFT", type := .int, accessFlags := 26, slot := 0, constantValue := 0 }, { name := "LO_BYTE_SHIFT", type := .int, accessFlags := 26, slot := 1, constantValue := 0 }, { name := "MAX_LENGTH", type := .int, accessFlags := 24, slot := 2, constantValue := 0 }, { name := "$assertionsDisabled", type := .boolean, accessFlags := 4120, slot := 3, constantValue := 0 }]
  methods := #[k12m0, k12m1, k12m2, k12m3]
  instanceTypes := #[]
  staticTypes := #[.int, .int, .int, .boolean]
  resolved := Array.replicate 635 none
  statics := none }

def pool13 : Array CpInfo := pool [(2, .class_ 4), (1, u "java/lang/Object"), (0, u "<init>"), (0, u "()V"), (17, .class_ 26), (1, u "jdk/internal/util/Preconditions"), (6, u "checkIndex"), (13, u "checkFromToIndex"), (7, .class_ 56), (0, u "jdk/internal/util/Preconditions$4"), (57, .class_ 115), (0, u "jdk/internal/util/Preconditions$1"), (7, u "SIOOBE_FORMATTER"), (0, u "Ljava/util/function/BiFunction;"), (0, .class_ 126), (0, u "jdk/internal/util/Preconditions$2"), (3, u "AIOOBE_FORMATTER"), (0, .class_ 132), (0, u "jdk/internal/util/Preconditions$3"), (3, u "IOOBE_FORMATTER"), (41, u "(IILjava/util/function/BiFunction;)I"), (4, u "(IIILjava/util/function/BiFunction;)I")] 10

def k13m0 : Method := { name := "<init>", desc := "()V", sig := { parameters := [], returnType := none }, accessFlags := 1, code := none }
def k13c1 : Code := { maxStack := 3, maxLocals := 3, code := jdk_41_method_11_code, exceptionTable := #[], attributes := #[] }
def k13m1 : Method := { name := "checkIndex", desc := "(IILjava/util/function/BiFunction;)I", sig := { parameters := [.int, .int, (.object "java/util/function/BiFunction")], returnType := some .int }, accessFlags := 9, code := some k13c1 }
def k13c2 : Code := { maxStack := 4, maxLocals := 4, code := jdk_41_method_12_code, exceptionTable := #[], attributes := #[] }
def k13m2 : Method := { name := "checkFromToIndex", desc := "(IIILjava/util/function/BiFunction;)I", sig := { parameters := [.int, .int, .int, (.object "java/util/function/BiFunction")], returnType := some .int }, accessFlags := 9, code := some k13c2 }
/-- jdk/internal/util/Preconditions -/
def k13 : Class := { plain "jdk/internal/util/Preconditions" (some 0) with
  accessFlags := 33
  interfaces := #[]
  cf := some (fileOf pool13 24 #[.nestMembers #[55, 131, 125, 114]] #[{ accessFlags := 1, nameIndex := 5, descriptorIndex := 6, attributes := #[] }, { accessFlags := 9, nameIndex := 33, descriptorIndex := 178, attributes := #[] }, { accessFlags := 9, nameIndex := 47, descriptorIndex := 183, attributes := #[] }] 33 2 #[] #[{ accessFlags := 25, nameIndex := 123, descriptorIndex := 124, attributes := #[] }, { accessFlags := 25, nameIndex := 130, descriptorIndex := 124, attributes := #[] }, { accessFlags := 25, nameIndex := 136, descriptorIndex := 124, attributes := #[] }])
  fields := #[{ name := "SIOOBE_FORMATTER", type := (.object "java/util/function/BiFunction"), accessFlags := 25, slot := 0, constantValue := 0 }, { name := "AIOOBE_FORMATTER", type := (.object "java/util/function/BiFunction"), accessFlags := 25, slot := 1, constantValue := 0 }, { name := "IOOBE_FORMATTER", type := (.object "java/util/function/BiFunction"), accessFlags := 25, slot := 2, constantValue := 0 }]
  methods := #[k13m0, k13m1, k13m2]
  instanceTypes := #[]
  staticTypes := #[(.object "java/util/function/BiFunction"), (.object "java/util/function/BiFunction"), (.object "java/util/function/BiFunction")]
  resolved := Array.replicate 194 none
  statics := some 1 }

def pool14 : Array CpInfo := pool [(2, .class_ 4), (1, u "java/lang/Object"), (0, u "<init>"), (0, u "()V"), (7, .class_ 16), (1, u "java/util/Arrays"), (57, .class_ 76), (1, u "java/util/Arrays$NaturalOrder"), (36, .class_ 115), (1, u "java/util/Arrays$LegacyMergeSort"), (1, u "Z"), (21, u "copyOfRange"), (10, .methodref 151 152), (0, .class_ 153), (0, .nameAndType 154 155), (0, u "java/lang/System"), (0, u "arraycopy"), (0, u "(Ljava/lang/Object;ILjava/lang/Object;II)V"), (148, .methodref 305 306), (0, .class_ 307), (0, .nameAndType 308 309), (0, u "java/lang/Math"), (0, u "min"), (0, u "(II)I"), (29, .methodref 14 340), (0, .nameAndType 341 342), (0, u "copyOfRangeByte"), (0, u "([BII)[B"), (0, .methodref 14 344), (0, .nameAndType 345 346), (0, u "checkLength"), (0, u "(II)V"), (28, .class_ 376), (0, u "java/util/Arrays$ArrayList"), (68, u "$assertionsDisabled"), (269, u "MIN_ARRAY_SORT_GRAN"), (0, u "I"), (2, u "INSERTIONSORT_THRESHOLD"), (255, .class_ 976), (0, u "java/util/Arrays$ArrayItr")] 52

def k14m0 : Method := { name := "<init>", desc := "()V", sig := { parameters := [], returnType := none }, accessFlags := 2, code := none }
def k14c1 : Code := { maxStack := 4, maxLocals := 2, code := jdk_65_method_131_code, exceptionTable := #[], attributes := #[] }
def k14m1 : Method := { name := "checkLength", desc := "(II)V", sig := { parameters := [.int, .int], returnType := none }, accessFlags := 10, code := some k14c1 }
def k14c2 : Code := { maxStack := 3, maxLocals := 3, code := jdk_65_method_132_code, exceptionTable := #[], attributes := #[] }
def k14m2 : Method := { name := "copyOfRange", desc := "([BII)[B", sig := { parameters := [(.array .byte), .int, .int], returnType := some (.array .byte) }, accessFlags := 9, code := some k14c2 }
def k14c3 : Code := { maxStack := 6, maxLocals := 5, code := jdk_65_method_133_code, exceptionTable := #[], attributes := #[] }
def k14m3 : Method := { name := "copyOfRangeByte", desc := "([BII)[B", sig := { parameters := [(.array .byte), .int, .int], returnType := some (.array .byte) }, accessFlags := 10, code := some k14c3 }
/-- java/util/Arrays -/
def k14 : Class := { plain "java/util/Arrays" (some 0) with
  accessFlags := 49
  interfaces := #[]
  cf := some (fileOf pool14 14 #[.nestMembers #[975, 375, 113, 74]] #[{ accessFlags := 2, nameIndex := 5, descriptorIndex := 6, attributes := #[] }, { accessFlags := 10, nameIndex := 345, descriptorIndex := 346, attributes := #[] }, { accessFlags := 9, nameIndex := 139, descriptorIndex := 342, attributes := #[] }, { accessFlags := 10, nameIndex := 341, descriptorIndex := 342, attributes := #[] }] 49 2 #[] #[{ accessFlags := 26, nameIndex := 715, descriptorIndex := 716, attributes := #[] }, { accessFlags := 26, nameIndex := 719, descriptorIndex := 716, attributes := #[] }, { accessFlags := 4120, nameIndex := 445, descriptorIndex := 117, attributes := #[] }])
  fields := #[{ name := "MIN_ARRAY_SORT_GRAN", type := .int, accessFlags := 26, slot := 0, constantValue := 0 }, { name := "INSERTIONSORT_THRESHOLD", type := .int, accessFlags := 26, slot := 1, constantValue := 0 }, { name := "$assertionsDisabled", type := .boolean, accessFlags := 4120, slot := 2, constantValue := 0 }]
  methods := #[k14m0, k14m1, k14m2, k14m3]
  instanceTypes := #[]
  staticTypes := #[.int, .int, .boolean]
  resolved := Array.replicate 1029 none
  statics := none }

def pool15 : Array CpInfo := pool [(2, .class_ 4), (1, u "java/lang/Object"), (0, u "<init>"), (0, u "()V"), (1, .class_ 10), (1, u "java/lang/System"), (0, u "allowSecurityManager"), (0, u "I"), (16, u "cons"), (0, u "Ljava/io/Console;"), (77, .class_ 110), (1, u "java/lang/System$CallersHolder"), (43, u "initialErrStream"), (0, u "Ljava/io/PrintStream;"), (19, u "security"), (0, u "Ljava/lang/SecurityManager;"), (31, .class_ 209), (0, u "java/lang/System$1"), (7, u "props"), (0, u "Ljava/util/Properties;"), (2, u "lineSeparator"), (0, u "Ljava/lang/String;"), (96, .class_ 321), (1, u "java/lang/System$LoggerFinder"), (5, .class_ 328), (0, u "java/lang/System$Logger"), (67, u "err"), (2, u "out"), (91, u "notSupportedJnuEncoding"), (15, u "in"), (17, u "initialIn"), (0, u "Ljava/io/InputStream;"), (35, u "bootLayer"), (0, u "Ljava/lang/ModuleLayer;"), (99, .class_ 664), (0, u "java/lang/System$2"), (9, u "NEVER"), (2, u "MAYBE"), (49, u "arraycopy"), (0, u "(Ljava/lang/Object;ILjava/lang/Object;II)V"), (72, .class_ 802), (0, u "java/lang/System$Logger$Level")] 31

def k15m0 : Method := { name := "<init>", desc := "()V", sig := { parameters := [], returnType := none }, accessFlags := 2, code := none }
def k15m1 : Method := { name := "arraycopy", desc := "(Ljava/lang/Object;ILjava/lang/Object;II)V", sig := { parameters := [(.object "java/lang/Object"), .int, (.object "java/lang/Object"), .int, .int], returnType := none }, accessFlags := 265, code := none }
/-- java/lang/System -/
def k15 : Class := { plain "java/lang/System" (some 0) with
  accessFlags := 49
  interfaces := #[]
  cf := some (fileOf pool15 8 #[.nestMembers #[319, 327, 801, 108, 663, 208]] #[{ accessFlags := 2, nameIndex := 5, descriptorIndex := 6, attributes := #[] }, { accessFlags := 265, nameIndex := 727, descriptorIndex := 728, attributes := #[] }] 49 2 #[] #[{ accessFlags := 25, nameIndex := 507, descriptorIndex := 526, attributes := #[] }, { accessFlags := 25, nameIndex := 399, descriptorIndex := 155, attributes := #[] }, { accessFlags := 25, nameIndex := 396, descriptorIndex := 155, attributes := #[] }, { accessFlags := 10, nameIndex := 525, descriptorIndex := 526, attributes := #[] }, { accessFlags := 26, nameIndex := 674, descriptorIndex := 12, attributes := #[] }, { accessFlags := 26, nameIndex := 677, descriptorIndex := 12, attributes := #[] }, { accessFlags := 10, nameIndex := 11, descriptorIndex := 12, attributes := #[] }, { accessFlags := 74, nameIndex := 175, descriptorIndex := 176, attributes := #[] }, { accessFlags := 10, nameIndex := 491, descriptorIndex := 222, attributes := #[] }, { accessFlags := 74, nameIndex := 29, descriptorIndex := 30, attributes := #[] }, { accessFlags := 74, nameIndex := 154, descriptorIndex := 155, attributes := #[] }, { accessFlags := 10, nameIndex := 217, descriptorIndex := 218, attributes := #[] }, { accessFlags := 10, nameIndex := 221, descriptorIndex := 222, attributes := #[] }, { accessFlags := 8, nameIndex := 562, descriptorIndex := 563, attributes := #[] }])
  fields := #[{ name := "in", type := (.object "java/io/InputStream"), accessFlags := 25, slot := 0, constantValue := 0 }, { name := "out", type := (.object "java/io/PrintStream"), accessFlags := 25, slot := 1, constantValue := 0 }, { name := "err", type := (.object "java/io/PrintStream"), accessFlags := 25, slot := 2, constantValue := 0 }, { name := "initialIn", type := (.object "java/io/InputStream"), accessFlags := 10, slot := 3, constantValue := 0 }, { name := "NEVER", type := .int, accessFlags := 26, slot := 4, constantValue := 0 }, { name := "MAYBE", type := .int, accessFlags := 26, slot := 5, constantValue := 0 }, { name := "allowSecurityManager", type := .int, accessFlags := 10, slot := 6, constantValue := 0 }, { name := "security", type := (.object "java/lang/SecurityManager"), accessFlags := 74, slot := 7, constantValue := 0 }, { name := "notSupportedJnuEncoding", type := (.object "java/lang/String"), accessFlags := 10, slot := 8, constantValue := 0 }, { name := "cons", type := (.object "java/io/Console"), accessFlags := 74, slot := 9, constantValue := 0 }, { name := "initialErrStream", type := (.object "java/io/PrintStream"), accessFlags := 74, slot := 10, constantValue := 0 }, { name := "props", type := (.object "java/util/Properties"), accessFlags := 10, slot := 11, constantValue := 0 }, { name := "lineSeparator", type := (.object "java/lang/String"), accessFlags := 10, slot := 12, constantValue := 0 }, { name := "bootLayer", type := (.object "java/lang/ModuleLayer"), accessFlags := 8, slot := 13, constantValue := 0 }]
  methods := #[k15m0, k15m1]
  instanceTypes := #[]
  staticTypes := #[(.object "java/io/InputStream"), (.object "java/io/PrintStream"), (.object "java/io/PrintStream"), (.object "java/io/InputStream"), .int, .int, .int, (.object "java/lang/SecurityManager"), (.object "java/lang/String"), (.object "java/io/Console"), (.object "java/io/PrintStream"), (.object "java/util/Properties"), (.object "java/lang/String"), (.object "java/lang/ModuleLayer")]
  resolved := Array.replicate 834 none
  statics := none }

def pool16 : Array CpInfo := pool [(9, u "<init>"), (6, .class_ 18), (1, u "java/lang/Object"), (0, u "()V"), (1, .class_ 23), (1, u "jdk/internal/util/ArraysSupport"), (0, u "LOG2_ARRAY_LONG_INDEX_SCALE"), (0, u "I"), (2, u "U"), (0, u "Ljdk/internal/misc/Unsafe;"), (8, u "BIG_ENDIAN"), (0, u "Z"), (8, u "LOG2_BYTE_BIT_SIZE"), (4, u "LOG2_ARRAY_INT_INDEX_SCALE"), (54, u "JLA"), (0, u "Ljdk/internal/access/JavaLangAccess;"), (11, u "LOG2_ARRAY_BOOLEAN_INDEX_SCALE"), (9, u "LOG2_ARRAY_BYTE_INDEX_SCALE"), (5, u "LOG2_ARRAY_CHAR_INDEX_SCALE"), (5, u "LOG2_ARRAY_SHORT_INDEX_SCALE"), (18, u "LOG2_ARRAY_FLOAT_INDEX_SCALE"), (24, u "LOG2_ARRAY_DOUBLE_INDEX_SCALE"), (89, u "T_BOOLEAN"), (2, u "T_CHAR"), (1, u "T_FLOAT"), (1, u "T_DOUBLE"), (1, u "T_BYTE"), (1, u "T_SHORT"), (1, u "T_INT"), (1, u "T_LONG"), (1, u "SOFT_MAX_ARRAY_LENGTH")] 83

def k16m0 : Method := { name := "<init>", desc := "()V", sig := { parameters := [], returnType := none }, accessFlags := 2, code := none }
/-- jdk/internal/util/ArraysSupport -/
def k16 : Class := { plain "jdk/internal/util/ArraysSupport" (some 0) with
  accessFlags := 33
  interfaces := #[]
  cf := some (fileOf pool16 21 #[] #[{ accessFlags := 2, nameIndex := 9, descriptorIndex := 19, attributes := #[] }] 33 16 #[] #[{ accessFlags := 24, nameIndex := 28, descriptorIndex := 29, attributes := #[] }, { accessFlags := 26, nameIndex := 38, descriptorIndex := 39, attributes := #[] }, { accessFlags := 25, nameIndex := 121, descriptorIndex := 25, attributes := #[] }, { accessFlags := 25, nameIndex := 131, descriptorIndex := 25, attributes := #[] }, { accessFlags := 25, nameIndex := 137, descriptorIndex := 25, attributes := #[] }, { accessFlags := 25, nameIndex := 143, descriptorIndex := 25, attributes := #[] }, { accessFlags := 25, nameIndex := 53, descriptorIndex := 25, attributes := #[] }, { accessFlags := 25, nameIndex := 24, descriptorIndex := 25, attributes := #[] }, { accessFlags := 25, nameIndex := 162, descriptorIndex := 25, attributes := #[] }, { accessFlags := 25, nameIndex := 187, descriptorIndex := 25, attributes := #[] }, { accessFlags := 26, nameIndex := 48, descriptorIndex := 25, attributes := #[] }, { accessFlags := 25, nameIndex := 277, descriptorIndex := 25, attributes := #[] }, { accessFlags := 25, nameIndex := 280, descriptorIndex := 25, attributes := #[] }, { accessFlags := 25, nameIndex := 282, descriptorIndex := 25, attributes := #[] }, { accessFlags := 25, nameIndex := 284, descriptorIndex := 25, attributes := #[] }, { accessFlags := 25, nameIndex := 286, descriptorIndex := 25, attributes := #[] }, { accessFlags := 25, nameIndex := 288, descriptorIndex := 25, attributes := #[] }, { accessFlags := 25, nameIndex := 290, descriptorIndex := 25, attributes := #[] }, { accessFlags := 25, nameIndex := 292, descriptorIndex := 25, attributes := #[] }, { accessFlags := 26, nameIndex := 108, descriptorIndex := 109, attributes := #[] }, { accessFlags := 25, nameIndex := 294, descriptorIndex := 25, attributes := #[] }])
  fields := #[{ name := "U", type := (.object "jdk/internal/misc/Unsafe"), accessFlags := 24, slot := 0, constantValue := 0 }, { name := "BIG_ENDIAN", type := .boolean, accessFlags := 26, slot := 1, constantValue := 0 }, { name := "LOG2_ARRAY_BOOLEAN_INDEX_SCALE", type := .int, accessFlags := 25, slot := 2, constantValue := 0 }, { name := "LOG2_ARRAY_BYTE_INDEX_SCALE", type := .int, accessFlags := 25, slot := 3, constantValue := 0 }, { name := "LOG2_ARRAY_CHAR_INDEX_SCALE", type := .int, accessFlags := 25, slot := 4, constantValue := 0 }, { name := "LOG2_ARRAY_SHORT_INDEX_SCALE", type := .int, accessFlags := 25, slot := 5, constantValue := 0 }, { name := "LOG2_ARRAY_INT_INDEX_SCALE", type := .int, accessFlags := 25, slot := 6, constantValue := 0 }, { name := "LOG2_ARRAY_LONG_INDEX_SCALE", type := .int, accessFlags := 25, slot := 7, constantValue := 0 }, { name := "LOG2_ARRAY_FLOAT_INDEX_SCALE", type := .int, accessFlags := 25, slot := 8, constantValue := 0 }, { name := "LOG2_ARRAY_DOUBLE_INDEX_SCALE", type := .int, accessFlags := 25, slot := 9, constantValue := 0 }, { name := "LOG2_BYTE_BIT_SIZE", type := .int, accessFlags := 26, slot := 10, constantValue := 0 }, { name := "T_BOOLEAN", type := .int, accessFlags := 25, slot := 11, constantValue := 0 }, { name := "T_CHAR", type := .int, accessFlags := 25, slot := 12, constantValue := 0 }, { name := "T_FLOAT", type := .int, accessFlags := 25, slot := 13, constantValue := 0 }, { name := "T_DOUBLE", type := .int, accessFlags := 25, slot := 14, constantValue := 0 }, { name := "T_BYTE", type := .int, accessFlags := 25, slot := 15, constantValue := 0 }, { name := "T_SHORT", type := .int, accessFlags := 25, slot := 16, constantValue := 0 }, { name := "T_INT", type := .int, accessFlags := 25, slot := 17, constantValue := 0 }, { name := "T_LONG", type := .int, accessFlags := 25, slot := 18, constantValue := 0 }, { name := "JLA", type := (.object "jdk/internal/access/JavaLangAccess"), accessFlags := 26, slot := 19, constantValue := 0 }, { name := "SOFT_MAX_ARRAY_LENGTH", type := .int, accessFlags := 25, slot := 20, constantValue := 0 }]
  methods := #[k16m0]
  instanceTypes := #[]
  staticTypes := #[(.object "jdk/internal/misc/Unsafe"), .boolean, .int, .int, .int, .int, .int, .int, .int, .int, .int, .int, .int, .int, .int, .int, .int, .int, .int, (.object "jdk/internal/access/JavaLangAccess"), .int]
  resolved := Array.replicate 378 none
  statics := some 2 }

def pool17 : Array CpInfo := pool [(1, u "java/lang/Cloneable"), (0, .class_ 1), (0, u "java/lang/Object"), (0, .class_ 3)] 3

/-- java/lang/Cloneable -/
def k17 : Class := { plain "java/lang/Cloneable" (some 0) with
  accessFlags := 1537
  interfaces := #[]
  cf := some (fileOf pool17 2 #[] #[] 1537 4 #[] #[])
  fields := #[]
  methods := #[]
  instanceTypes := #[]
  staticTypes := #[]
  resolved := Array.replicate 8 none
  statics := none }

/-- the primitive byte -/
def k18 : Class := { plain "byte" none with kind := .primitive 'B', accessFlags := 0x411 }
/-- [B -/
def k19 : Class := { plain "[B" (some 0) with kind := .array 18 .byte, interfaces := #[17, 2], accessFlags := 1041 }

/-- the primitive char -/
def k20 : Class := { plain "char" none with kind := .primitive 'C', accessFlags := 0x411 }
/-- [C -/
def k21 : Class := { plain "[C" (some 0) with kind := .array 20 .char, interfaces := #[17, 2], accessFlags := 1041 }

/-- the primitive int -/
def k22 : Class := { plain "int" none with kind := .primitive 'I', accessFlags := 0x411 }
/-- [I -/
def k23 : Class := { plain "[I" (some 0) with kind := .array 22 .int, interfaces := #[17, 2], accessFlags := 1041 }

def heap : Heap := #[{ cls := 7, slots := #[.long 0, .int 1, .null, .int 0, .null, .int 0, .int 0], vm := .statics 7 },
  { cls := 13, slots := #[.null, .null, .null], vm := .statics 13 },
  { cls := 16, slots := #[.null, .int 0, .int 0, .int 0, .int 0, .int 0, .int 0, .int 0, .int 0, .int 0, .int 0, .int 0, .int 0, .int 0, .int 0, .int 0, .int 0, .int 0, .int 0, .null, .int 0], vm := .statics 16 }]
def classes : Array Class := #[k0, k1, k2, k3, k4, k5, k6, k7, k8, k9, k10, k11, k12, k13, k14, k15, k16, k17, k18, k19, k20, k21, k22, k23]
def interned : List (Array UInt16 × Addr) := []
def slotsUsed : Nat := 31
def theMethod : MethodId := ⟨1, 1⟩
def args0 : Array Value := #[.int 5, .int 6, .int 7, .int 8, .int 9]
def aboutOver (below : List Frame) : State where
  vm := { classes := classes, interned := interned.toArray }
  heap := heap
  slotsUsed := slotsUsed
  threads := #[{ frames := .invoking theMethod args0 :: below }]
def below0 : List Frame := [.native { method := ⟨0, 0⟩, args := #[] }]
def about1 : State := aboutOver below0
def p0 : Program := .bare "" "" ""
def e0 : Env := launch0.env 0 0 0
theorem w_frames : about1.frames = Frame.invoking theMethod args0 :: below0 := rfl
set_option maxRecDepth 65536 in
theorem w_args : argsFit about1.vm theMethod args0 = true := by decide +kernel
set_option maxRecDepth 65536 in
theorem w_heap : heapFits about1 = true := by decide +kernel
set_option maxRecDepth 65536 in
theorem w_runnable : about1.curStatus? = some .runnable := by decide +kernel
set_option maxRecDepth 65536 in
theorem w_alone : about1.alone = true := by decide +kernel
set_option maxRecDepth 65536 in
theorem w_named : about1.methodNamed? x = some theMethod := by decide +kernel
set_option maxRecDepth 65536 in
theorem w_hears : about1.hears theMethod below0 = true := by decide +kernel
set_option maxRecDepth 65536 in
theorem w_ripe : about1.ripe theMethod args0 below0 = true := by decide +kernel
theorem w_running : about1.status = .running := rfl
set_option maxRecDepth 65536 in
theorem w_room : about1.hasRoom e0.platform room_1 = true :=
  launch0.hasRoom_least _ room_1 (by decide +kernel) (by decide +kernel) (by decide +kernel) (by decide +kernel) (by decide +kernel) (by decide +kernel)
theorem allAtoms_all (ts : List Jvm.Cond) (a : Array Jvm.Value) (st : Jvm.State) : (allAtoms ts).before a st = ts.all (fun c => c.before a st) := by
  induction ts with
  | nil => rfl
  | cons c t ih =>
    show (Jvm.Cond.and c (allAtoms t)).before a st = _
    rw [Jvm.Cond.before_and, ih, List.all_cons]
def words1 : List Jvm.Cond := Jvm.Cond.code x code maxLocals ret :: tables_1
/-- a 'code' word, met by the world's own term for the bytes: nothing is compared byte by byte -/
theorem code_word {y : MethodName} {bytes : ByteArray} {mx : Nat} {rt : Option FieldType} {a : Array Value} {s : State} {m : MethodId} {meth : Method} {c : Code} (h1 : s.methodNamed? y = some m) (h2 : s.vm.method? m = some meth) (h3 : meth.code = some c) (h4 : c.code = bytes)
    (h5 : (c.maxLocals == mx && c.exceptionTable.isEmpty && decide (c.maxStack ≤ mostOperands) && decide (meth.sig.returnType = rt) && !meth.locks && decide (parseMethodDescriptor y.desc = some meth.sig)) = true) : (Jvm.Cond.code y bytes mx rt).before a s = true := by
  simp only [Bool.and_eq_true, beq_iff_eq, Bool.not_eq_true', decide_eq_true_eq] at h5
  obtain ⟨⟨⟨⟨⟨g1, g2⟩, g3⟩, g4⟩, g5⟩, g6⟩ := h5
  simp [Cond.before, Cond.holds, Cond.value, h1, h2, h3, h4, g1, g2, g3, g4, g5, g6]
def isCode : Jvm.Cond → Bool
  | .code _ _ _ _ => true
  | _ => false
theorem all_split {L : List Jvm.Cond} {P : Jvm.Cond → Bool} (h1 : L.all (fun c => isCode c || P c) = true) (h2 : ∀ c ∈ L.filter isCode, P c = true) : L.all P = true := by
  refine List.all_eq_true.mpr fun c hc => ?_
  have h := List.all_eq_true.mp h1 c hc
  rcases Bool.eq_false_or_eq_true (isCode c) with hi | hi
  · exact h2 c (List.mem_filter.mpr ⟨hc, hi⟩)
  · simpa [hi] using h
set_option maxRecDepth 65536 in
theorem w_c0 : (Jvm.Cond.code x code maxLocals ret).before args0 about1 = true := code_word (m := ⟨1, 1⟩) (meth := k1m1) (c := k1c1) (by decide +kernel) rfl rfl rfl (by decide +kernel)
set_option maxRecDepth 65536 in
theorem w_c1 : (Jvm.Cond.code ({ cls := "com/example/kourier/kourier/rabbitmq/RouteParsePinLaw", name := "draw", desc := "(I)C" } : Jvm.MethodName) method_4_code (1 : Nat) (Option.some Jvm.ClassFile.FieldType.char)).before args0 about1 = true := code_word (m := ⟨1, 3⟩) (meth := k1m3) (c := k1c3) (by decide +kernel) rfl rfl rfl (by decide +kernel)
set_option maxRecDepth 65536 in
theorem w_c2 : (Jvm.Cond.code ({ cls := "com/example/kourier/kourier/rabbitmq/RouteParsePinLaw", name := "make", desc := "(ICCCC)Ljava/lang/String;" } : Jvm.MethodName) method_5_code (5 : Nat) (Option.some (Jvm.ClassFile.FieldType.object "java/lang/String"))).before args0 about1 = true := code_word (m := ⟨1, 4⟩) (meth := k1m4) (c := k1c4) (by decide +kernel) rfl rfl rfl (by decide +kernel)
set_option maxRecDepth 65536 in
theorem w_c3 : (Jvm.Cond.code ({ cls := "java/lang/String", name := "<init>", desc := "([C)V" } : Jvm.MethodName) jdk_42_method_3_code (2 : Nat) (Option.none : Option Jvm.ClassFile.FieldType)).before args0 about1 = true := code_word (m := ⟨7, 1⟩) (meth := k7m1) (c := k7c1) (by decide +kernel) rfl rfl rfl (by decide +kernel)
set_option maxRecDepth 65536 in
theorem w_c4 : (Jvm.Cond.code ({ cls := "java/lang/String", name := "<init>", desc := "([CIILjava/lang/Void;)V" } : Jvm.MethodName) jdk_42_method_149_code (6 : Nat) (Option.none : Option Jvm.ClassFile.FieldType)).before args0 about1 = true := code_word (m := ⟨7, 8⟩) (meth := k7m8) (c := k7c8) (by decide +kernel) rfl rfl rfl (by decide +kernel)
set_option maxRecDepth 65536 in
theorem w_c5 : (Jvm.Cond.code ({ cls := "java/lang/Object", name := "<init>", desc := "()V" } : Jvm.MethodName) object_method_1_code (1 : Nat) (Option.none : Option Jvm.ClassFile.FieldType)).before args0 about1 = true := code_word (m := ⟨0, 0⟩) (meth := k0m0) (c := k0c0) (by decide +kernel) rfl rfl rfl (by decide +kernel)
set_option maxRecDepth 65536 in
theorem w_c6 : (Jvm.Cond.code ({ cls := "com/example/kourier/kourier/rabbitmq/Route", name := "parse", desc := "(Ljava/lang/String;)Lcom/example/kourier/kourier/rabbitmq/Route;" } : Jvm.MethodName) prog_16_method_2_code (2 : Nat) (Option.some (Jvm.ClassFile.FieldType.object "com/example/kourier/kourier/rabbitmq/Route"))).before args0 about1 = true := code_word (m := ⟨9, 1⟩) (meth := k9m1) (c := k9c1) (by decide +kernel) rfl rfl rfl (by decide +kernel)
set_option maxRecDepth 65536 in
theorem w_c7 : (Jvm.Cond.code ({ cls := "java/lang/String", name := "indexOf", desc := "(I)I" } : Jvm.MethodName) jdk_42_method_79_code (2 : Nat) (Option.some Jvm.ClassFile.FieldType.int)).before args0 about1 = true := code_word (m := ⟨7, 4⟩) (meth := k7m4) (c := k7c4) (by decide +kernel) rfl rfl rfl (by decide +kernel)
set_option maxRecDepth 65536 in
theorem w_c8 : (Jvm.Cond.code ({ cls := "java/lang/String", name := "indexOf", desc := "(II)I" } : Jvm.MethodName) jdk_42_method_80_code (3 : Nat) (Option.some Jvm.ClassFile.FieldType.int)).before args0 about1 = true := code_word (m := ⟨7, 5⟩) (meth := k7m5) (c := k7c5) (by decide +kernel) rfl rfl rfl (by decide +kernel)
set_option maxRecDepth 65536 in
theorem w_c9 : (Jvm.Cond.code ({ cls := "java/lang/String", name := "isLatin1", desc := "()Z" } : Jvm.MethodName) jdk_42_method_154_code (1 : Nat) (Option.some Jvm.ClassFile.FieldType.boolean)).before args0 about1 = true := code_word (m := ⟨7, 11⟩) (meth := k7m11) (c := k7c11) (by decide +kernel) rfl rfl rfl (by decide +kernel)
set_option maxRecDepth 65536 in
theorem w_c10 : (Jvm.Cond.code ({ cls := "java/lang/String", name := "length", desc := "()I" } : Jvm.MethodName) jdk_42_method_54_code (1 : Nat) (Option.some Jvm.ClassFile.FieldType.int)).before args0 about1 = true := code_word (m := ⟨7, 2⟩) (meth := k7m2) (c := k7c2) (by decide +kernel) rfl rfl rfl (by decide +kernel)
set_option maxRecDepth 65536 in
theorem w_c11 : (Jvm.Cond.code ({ cls := "java/lang/String", name := "coder", desc := "()B" } : Jvm.MethodName) jdk_42_method_152_code (1 : Nat) (Option.some Jvm.ClassFile.FieldType.byte)).before args0 about1 = true := code_word (m := ⟨7, 10⟩) (meth := k7m10) (c := k7c10) (by decide +kernel) rfl rfl rfl (by decide +kernel)
set_option maxRecDepth 65536 in
theorem w_c12 : (Jvm.Cond.code ({ cls := "java/lang/StringLatin1", name := "indexOf", desc := "([BIII)I" } : Jvm.MethodName) jdk_43_method_22_code (4 : Nat) (Option.some Jvm.ClassFile.FieldType.int)).before args0 about1 = true := code_word (m := ⟨10, 3⟩) (meth := k10m3) (c := k10c3) (by decide +kernel) rfl rfl rfl (by decide +kernel)
set_option maxRecDepth 65536 in
theorem w_c13 : (Jvm.Cond.code ({ cls := "java/lang/StringLatin1", name := "canEncode", desc := "(I)Z" } : Jvm.MethodName) jdk_43_method_4_code (1 : Nat) (Option.some Jvm.ClassFile.FieldType.boolean)).before args0 about1 = true := code_word (m := ⟨10, 2⟩) (meth := k10m2) (c := k10c2) (by decide +kernel) rfl rfl rfl (by decide +kernel)
set_option maxRecDepth 65536 in
theorem w_c14 : (Jvm.Cond.code ({ cls := "java/lang/Math", name := "max", desc := "(II)I" } : Jvm.MethodName) jdk_29_method_65_code (2 : Nat) (Option.some Jvm.ClassFile.FieldType.int)).before args0 about1 = true := code_word (m := ⟨11, 1⟩) (meth := k11m1) (c := k11c1) (by decide +kernel) rfl rfl rfl (by decide +kernel)
set_option maxRecDepth 65536 in
theorem w_c15 : (Jvm.Cond.code ({ cls := "java/lang/Math", name := "min", desc := "(II)I" } : Jvm.MethodName) jdk_29_method_69_code (2 : Nat) (Option.some Jvm.ClassFile.FieldType.int)).before args0 about1 = true := code_word (m := ⟨11, 2⟩) (meth := k11m2) (c := k11c2) (by decide +kernel) rfl rfl rfl (by decide +kernel)
set_option maxRecDepth 65536 in
theorem w_c16 : (Jvm.Cond.code ({ cls := "java/lang/StringUTF16", name := "compress", desc := "([CII)[B" } : Jvm.MethodName) jdk_52_method_16_code (6 : Nat) (Option.some (Jvm.ClassFile.FieldType.array Jvm.ClassFile.FieldType.byte))).before args0 about1 = true := code_word (m := ⟨12, 2⟩) (meth := k12m2) (c := k12c2) (by decide +kernel) rfl rfl rfl (by decide +kernel)
set_option maxRecDepth 65536 in
theorem w_c17 : (Jvm.Cond.code ({ cls := "java/lang/StringUTF16", name := "compress", desc := "([CI[BII)I" } : Jvm.MethodName) jdk_52_method_21_code (7 : Nat) (Option.some Jvm.ClassFile.FieldType.int)).before args0 about1 = true := code_word (m := ⟨12, 3⟩) (meth := k12m3) (c := k12c3) (by decide +kernel) rfl rfl rfl (by decide +kernel)
set_option maxRecDepth 65536 in
theorem w_c18 : (Jvm.Cond.code ({ cls := "java/lang/StringUTF16", name := "coderFromArrayLen", desc := "([BI)B" } : Jvm.MethodName) jdk_52_method_15_code (2 : Nat) (Option.some Jvm.ClassFile.FieldType.byte)).before args0 about1 = true := code_word (m := ⟨12, 1⟩) (meth := k12m1) (c := k12c1) (by decide +kernel) rfl rfl rfl (by decide +kernel)
set_option maxRecDepth 65536 in
theorem w_c19 : (Jvm.Cond.code ({ cls := "java/lang/StringLatin1", name := "indexOfChar", desc := "([BIII)I" } : Jvm.MethodName) jdk_43_method_23_code (6 : Nat) (Option.some Jvm.ClassFile.FieldType.int)).before args0 about1 = true := code_word (m := ⟨10, 4⟩) (meth := k10m4) (c := k10c4) (by decide +kernel) rfl rfl rfl (by decide +kernel)
set_option maxRecDepth 65536 in
theorem w_c20 : (Jvm.Cond.code ({ cls := "java/lang/String", name := "substring", desc := "(II)Ljava/lang/String;" } : Jvm.MethodName) jdk_42_method_92_code (5 : Nat) (Option.some (Jvm.ClassFile.FieldType.object "java/lang/String"))).before args0 about1 = true := code_word (m := ⟨7, 7⟩) (meth := k7m7) (c := k7c7) (by decide +kernel) rfl rfl rfl (by decide +kernel)
set_option maxRecDepth 65536 in
theorem w_c21 : (Jvm.Cond.code ({ cls := "java/lang/String", name := "checkBoundsBeginEnd", desc := "(III)V" } : Jvm.MethodName) jdk_42_method_158_code (3 : Nat) (Option.none : Option Jvm.ClassFile.FieldType)).before args0 about1 = true := code_word (m := ⟨7, 13⟩) (meth := k7m13) (c := k7c13) (by decide +kernel) rfl rfl rfl (by decide +kernel)
set_option maxRecDepth 65536 in
theorem w_c22 : (Jvm.Cond.code ({ cls := "jdk/internal/util/Preconditions", name := "checkFromToIndex", desc := "(IIILjava/util/function/BiFunction;)I" } : Jvm.MethodName) jdk_41_method_12_code (4 : Nat) (Option.some Jvm.ClassFile.FieldType.int)).before args0 about1 = true := code_word (m := ⟨13, 2⟩) (meth := k13m2) (c := k13c2) (by decide +kernel) rfl rfl rfl (by decide +kernel)
set_option maxRecDepth 65536 in
theorem w_c23 : (Jvm.Cond.code ({ cls := "java/lang/StringLatin1", name := "newString", desc := "([BII)Ljava/lang/String;" } : Jvm.MethodName) jdk_43_method_47_code (3 : Nat) (Option.some (Jvm.ClassFile.FieldType.object "java/lang/String"))).before args0 about1 = true := code_word (m := ⟨10, 5⟩) (meth := k10m5) (c := k10c5) (by decide +kernel) rfl rfl rfl (by decide +kernel)
set_option maxRecDepth 65536 in
theorem w_c24 : (Jvm.Cond.code ({ cls := "java/lang/String", name := "substring", desc := "(I)Ljava/lang/String;" } : Jvm.MethodName) jdk_42_method_91_code (2 : Nat) (Option.some (Jvm.ClassFile.FieldType.object "java/lang/String"))).before args0 about1 = true := code_word (m := ⟨7, 6⟩) (meth := k7m6) (c := k7c6) (by decide +kernel) rfl rfl rfl (by decide +kernel)
set_option maxRecDepth 65536 in
theorem w_c25 : (Jvm.Cond.code ({ cls := "java/util/Arrays", name := "copyOfRange", desc := "([BII)[B" } : Jvm.MethodName) jdk_65_method_132_code (3 : Nat) (Option.some (Jvm.ClassFile.FieldType.array Jvm.ClassFile.FieldType.byte))).before args0 about1 = true := code_word (m := ⟨14, 2⟩) (meth := k14m2) (c := k14c2) (by decide +kernel) rfl rfl rfl (by decide +kernel)
set_option maxRecDepth 65536 in
theorem w_c26 : (Jvm.Cond.code ({ cls := "java/util/Arrays", name := "copyOfRangeByte", desc := "([BII)[B" } : Jvm.MethodName) jdk_65_method_133_code (5 : Nat) (Option.some (Jvm.ClassFile.FieldType.array Jvm.ClassFile.FieldType.byte))).before args0 about1 = true := code_word (m := ⟨14, 3⟩) (meth := k14m3) (c := k14c3) (by decide +kernel) rfl rfl rfl (by decide +kernel)
set_option maxRecDepth 65536 in
theorem w_c27 : (Jvm.Cond.code ({ cls := "java/util/Arrays", name := "checkLength", desc := "(II)V" } : Jvm.MethodName) jdk_65_method_131_code (2 : Nat) (Option.none : Option Jvm.ClassFile.FieldType)).before args0 about1 = true := code_word (m := ⟨14, 1⟩) (meth := k14m1) (c := k14c1) (by decide +kernel) rfl rfl rfl (by decide +kernel)
set_option maxRecDepth 65536 in
theorem w_c28 : (Jvm.Cond.code ({ cls := "java/lang/String", name := "<init>", desc := "([BB)V" } : Jvm.MethodName) jdk_42_method_151_code (3 : Nat) (Option.none : Option Jvm.ClassFile.FieldType)).before args0 about1 = true := code_word (m := ⟨7, 9⟩) (meth := k7m9) (c := k7c9) (by decide +kernel) rfl rfl rfl (by decide +kernel)
set_option maxRecDepth 65536 in
theorem w_c29 : (Jvm.Cond.code ({ cls := "com/example/kourier/kourier/rabbitmq/Route", name := "<init>", desc := "(Ljava/lang/String;Ljava/lang/String;)V" } : Jvm.MethodName) prog_16_method_1_code (3 : Nat) (Option.none : Option Jvm.ClassFile.FieldType)).before args0 about1 = true := code_word (m := ⟨9, 0⟩) (meth := k9m0) (c := k9c0) (by decide +kernel) rfl rfl rfl (by decide +kernel)
set_option maxRecDepth 65536 in
theorem w_c30 : (Jvm.Cond.code ({ cls := "java/lang/Record", name := "<init>", desc := "()V" } : Jvm.MethodName) jdk_30_method_1_code (1 : Nat) (Option.none : Option Jvm.ClassFile.FieldType)).before args0 about1 = true := code_word (m := ⟨8, 0⟩) (meth := k8m0) (c := k8c0) (by decide +kernel) rfl rfl rfl (by decide +kernel)
set_option maxRecDepth 65536 in
theorem w_c31 : (Jvm.Cond.code ({ cls := "com/example/kourier/kourier/rabbitmq/Route", name := "exchange", desc := "()Ljava/lang/String;" } : Jvm.MethodName) prog_16_method_6_code (1 : Nat) (Option.some (Jvm.ClassFile.FieldType.object "java/lang/String"))).before args0 about1 = true := code_word (m := ⟨9, 2⟩) (meth := k9m2) (c := k9c2) (by decide +kernel) rfl rfl rfl (by decide +kernel)
set_option maxRecDepth 65536 in
theorem w_c32 : (Jvm.Cond.code ({ cls := "com/example/kourier/kourier/rabbitmq/Route", name := "routingKey", desc := "()Ljava/lang/String;" } : Jvm.MethodName) prog_16_method_7_code (1 : Nat) (Option.some (Jvm.ClassFile.FieldType.object "java/lang/String"))).before args0 about1 = true := code_word (m := ⟨9, 3⟩) (meth := k9m3) (c := k9c3) (by decide +kernel) rfl rfl rfl (by decide +kernel)
set_option maxRecDepth 65536 in
theorem w_c33 : (Jvm.Cond.code ({ cls := "com/example/kourier/kourier/rabbitmq/RouteParsePinLaw", name := "at", desc := "(Ljava/lang/String;Ljava/lang/String;IIIC)Z" } : Jvm.MethodName) method_3_code (6 : Nat) (Option.some Jvm.ClassFile.FieldType.boolean)).before args0 about1 = true := code_word (m := ⟨1, 2⟩) (meth := k1m2) (c := k1c2) (by decide +kernel) rfl rfl rfl (by decide +kernel)
set_option maxRecDepth 65536 in
theorem w_c34 : (Jvm.Cond.code ({ cls := "java/lang/String", name := "charAt", desc := "(I)C" } : Jvm.MethodName) jdk_42_method_56_code (2 : Nat) (Option.some Jvm.ClassFile.FieldType.char)).before args0 about1 = true := code_word (m := ⟨7, 3⟩) (meth := k7m3) (c := k7c3) (by decide +kernel) rfl rfl rfl (by decide +kernel)
set_option maxRecDepth 65536 in
theorem w_c35 : (Jvm.Cond.code ({ cls := "java/lang/StringLatin1", name := "charAt", desc := "([BI)C" } : Jvm.MethodName) jdk_43_method_2_code (2 : Nat) (Option.some Jvm.ClassFile.FieldType.char)).before args0 about1 = true := code_word (m := ⟨10, 1⟩) (meth := k10m1) (c := k10c1) (by decide +kernel) rfl rfl rfl (by decide +kernel)
set_option maxRecDepth 65536 in
theorem w_c36 : (Jvm.Cond.code ({ cls := "java/lang/String", name := "checkIndex", desc := "(II)V" } : Jvm.MethodName) jdk_42_method_155_code (2 : Nat) (Option.none : Option Jvm.ClassFile.FieldType)).before args0 about1 = true := code_word (m := ⟨7, 12⟩) (meth := k7m12) (c := k7c12) (by decide +kernel) rfl rfl rfl (by decide +kernel)
set_option maxRecDepth 65536 in
theorem w_c37 : (Jvm.Cond.code ({ cls := "jdk/internal/util/Preconditions", name := "checkIndex", desc := "(IILjava/util/function/BiFunction;)I" } : Jvm.MethodName) jdk_41_method_11_code (3 : Nat) (Option.some Jvm.ClassFile.FieldType.int)).before args0 about1 = true := code_word (m := ⟨13, 1⟩) (meth := k13m1) (c := k13c1) (by decide +kernel) rfl rfl rfl (by decide +kernel)
def codes1 : List Jvm.Cond := [Jvm.Cond.code x code maxLocals ret, Jvm.Cond.code ({ cls := "com/example/kourier/kourier/rabbitmq/RouteParsePinLaw", name := "draw", desc := "(I)C" } : Jvm.MethodName) method_4_code (1 : Nat) (Option.some Jvm.ClassFile.FieldType.char), Jvm.Cond.code ({ cls := "com/example/kourier/kourier/rabbitmq/RouteParsePinLaw", name := "make", desc := "(ICCCC)Ljava/lang/String;" } : Jvm.MethodName) method_5_code (5 : Nat) (Option.some (Jvm.ClassFile.FieldType.object "java/lang/String")), Jvm.Cond.code ({ cls := "java/lang/String", name := "<init>", desc := "([C)V" } : Jvm.MethodName) jdk_42_method_3_code (2 : Nat) (Option.none : Option Jvm.ClassFile.FieldType), Jvm.Cond.code ({ cls := "java/lang/String", name := "<init>", desc := "([CIILjava/lang/Void;)V" } : Jvm.MethodName) jdk_42_method_149_code (6 : Nat) (Option.none : Option Jvm.ClassFile.FieldType), Jvm.Cond.code ({ cls := "java/lang/Object", name := "<init>", desc := "()V" } : Jvm.MethodName) object_method_1_code (1 : Nat) (Option.none : Option Jvm.ClassFile.FieldType), Jvm.Cond.code ({ cls := "com/example/kourier/kourier/rabbitmq/Route", name := "parse", desc := "(Ljava/lang/String;)Lcom/example/kourier/kourier/rabbitmq/Route;" } : Jvm.MethodName) prog_16_method_2_code (2 : Nat) (Option.some (Jvm.ClassFile.FieldType.object "com/example/kourier/kourier/rabbitmq/Route")), Jvm.Cond.code ({ cls := "java/lang/String", name := "indexOf", desc := "(I)I" } : Jvm.MethodName) jdk_42_method_79_code (2 : Nat) (Option.some Jvm.ClassFile.FieldType.int), Jvm.Cond.code ({ cls := "java/lang/String", name := "indexOf", desc := "(II)I" } : Jvm.MethodName) jdk_42_method_80_code (3 : Nat) (Option.some Jvm.ClassFile.FieldType.int), Jvm.Cond.code ({ cls := "java/lang/String", name := "isLatin1", desc := "()Z" } : Jvm.MethodName) jdk_42_method_154_code (1 : Nat) (Option.some Jvm.ClassFile.FieldType.boolean), Jvm.Cond.code ({ cls := "java/lang/String", name := "length", desc := "()I" } : Jvm.MethodName) jdk_42_method_54_code (1 : Nat) (Option.some Jvm.ClassFile.FieldType.int), Jvm.Cond.code ({ cls := "java/lang/String", name := "coder", desc := "()B" } : Jvm.MethodName) jdk_42_method_152_code (1 : Nat) (Option.some Jvm.ClassFile.FieldType.byte), Jvm.Cond.code ({ cls := "java/lang/StringLatin1", name := "indexOf", desc := "([BIII)I" } : Jvm.MethodName) jdk_43_method_22_code (4 : Nat) (Option.some Jvm.ClassFile.FieldType.int), Jvm.Cond.code ({ cls := "java/lang/StringLatin1", name := "canEncode", desc := "(I)Z" } : Jvm.MethodName) jdk_43_method_4_code (1 : Nat) (Option.some Jvm.ClassFile.FieldType.boolean), Jvm.Cond.code ({ cls := "java/lang/Math", name := "max", desc := "(II)I" } : Jvm.MethodName) jdk_29_method_65_code (2 : Nat) (Option.some Jvm.ClassFile.FieldType.int), Jvm.Cond.code ({ cls := "java/lang/Math", name := "min", desc := "(II)I" } : Jvm.MethodName) jdk_29_method_69_code (2 : Nat) (Option.some Jvm.ClassFile.FieldType.int), Jvm.Cond.code ({ cls := "java/lang/StringUTF16", name := "compress", desc := "([CII)[B" } : Jvm.MethodName) jdk_52_method_16_code (6 : Nat) (Option.some (Jvm.ClassFile.FieldType.array Jvm.ClassFile.FieldType.byte)), Jvm.Cond.code ({ cls := "java/lang/StringUTF16", name := "compress", desc := "([CI[BII)I" } : Jvm.MethodName) jdk_52_method_21_code (7 : Nat) (Option.some Jvm.ClassFile.FieldType.int), Jvm.Cond.code ({ cls := "java/lang/StringUTF16", name := "coderFromArrayLen", desc := "([BI)B" } : Jvm.MethodName) jdk_52_method_15_code (2 : Nat) (Option.some Jvm.ClassFile.FieldType.byte), Jvm.Cond.code ({ cls := "java/lang/StringLatin1", name := "indexOfChar", desc := "([BIII)I" } : Jvm.MethodName) jdk_43_method_23_code (6 : Nat) (Option.some Jvm.ClassFile.FieldType.int), Jvm.Cond.code ({ cls := "java/lang/String", name := "substring", desc := "(II)Ljava/lang/String;" } : Jvm.MethodName) jdk_42_method_92_code (5 : Nat) (Option.some (Jvm.ClassFile.FieldType.object "java/lang/String")), Jvm.Cond.code ({ cls := "java/lang/String", name := "checkBoundsBeginEnd", desc := "(III)V" } : Jvm.MethodName) jdk_42_method_158_code (3 : Nat) (Option.none : Option Jvm.ClassFile.FieldType), Jvm.Cond.code ({ cls := "jdk/internal/util/Preconditions", name := "checkFromToIndex", desc := "(IIILjava/util/function/BiFunction;)I" } : Jvm.MethodName) jdk_41_method_12_code (4 : Nat) (Option.some Jvm.ClassFile.FieldType.int), Jvm.Cond.code ({ cls := "java/lang/StringLatin1", name := "newString", desc := "([BII)Ljava/lang/String;" } : Jvm.MethodName) jdk_43_method_47_code (3 : Nat) (Option.some (Jvm.ClassFile.FieldType.object "java/lang/String")), Jvm.Cond.code ({ cls := "java/lang/String", name := "substring", desc := "(I)Ljava/lang/String;" } : Jvm.MethodName) jdk_42_method_91_code (2 : Nat) (Option.some (Jvm.ClassFile.FieldType.object "java/lang/String")), Jvm.Cond.code ({ cls := "java/util/Arrays", name := "copyOfRange", desc := "([BII)[B" } : Jvm.MethodName) jdk_65_method_132_code (3 : Nat) (Option.some (Jvm.ClassFile.FieldType.array Jvm.ClassFile.FieldType.byte)), Jvm.Cond.code ({ cls := "java/util/Arrays", name := "copyOfRangeByte", desc := "([BII)[B" } : Jvm.MethodName) jdk_65_method_133_code (5 : Nat) (Option.some (Jvm.ClassFile.FieldType.array Jvm.ClassFile.FieldType.byte)), Jvm.Cond.code ({ cls := "java/util/Arrays", name := "checkLength", desc := "(II)V" } : Jvm.MethodName) jdk_65_method_131_code (2 : Nat) (Option.none : Option Jvm.ClassFile.FieldType), Jvm.Cond.code ({ cls := "java/lang/String", name := "<init>", desc := "([BB)V" } : Jvm.MethodName) jdk_42_method_151_code (3 : Nat) (Option.none : Option Jvm.ClassFile.FieldType), Jvm.Cond.code ({ cls := "com/example/kourier/kourier/rabbitmq/Route", name := "<init>", desc := "(Ljava/lang/String;Ljava/lang/String;)V" } : Jvm.MethodName) prog_16_method_1_code (3 : Nat) (Option.none : Option Jvm.ClassFile.FieldType), Jvm.Cond.code ({ cls := "java/lang/Record", name := "<init>", desc := "()V" } : Jvm.MethodName) jdk_30_method_1_code (1 : Nat) (Option.none : Option Jvm.ClassFile.FieldType), Jvm.Cond.code ({ cls := "com/example/kourier/kourier/rabbitmq/Route", name := "exchange", desc := "()Ljava/lang/String;" } : Jvm.MethodName) prog_16_method_6_code (1 : Nat) (Option.some (Jvm.ClassFile.FieldType.object "java/lang/String")), Jvm.Cond.code ({ cls := "com/example/kourier/kourier/rabbitmq/Route", name := "routingKey", desc := "()Ljava/lang/String;" } : Jvm.MethodName) prog_16_method_7_code (1 : Nat) (Option.some (Jvm.ClassFile.FieldType.object "java/lang/String")), Jvm.Cond.code ({ cls := "com/example/kourier/kourier/rabbitmq/RouteParsePinLaw", name := "at", desc := "(Ljava/lang/String;Ljava/lang/String;IIIC)Z" } : Jvm.MethodName) method_3_code (6 : Nat) (Option.some Jvm.ClassFile.FieldType.boolean), Jvm.Cond.code ({ cls := "java/lang/String", name := "charAt", desc := "(I)C" } : Jvm.MethodName) jdk_42_method_56_code (2 : Nat) (Option.some Jvm.ClassFile.FieldType.char), Jvm.Cond.code ({ cls := "java/lang/StringLatin1", name := "charAt", desc := "([BI)C" } : Jvm.MethodName) jdk_43_method_2_code (2 : Nat) (Option.some Jvm.ClassFile.FieldType.char), Jvm.Cond.code ({ cls := "java/lang/String", name := "checkIndex", desc := "(II)V" } : Jvm.MethodName) jdk_42_method_155_code (2 : Nat) (Option.none : Option Jvm.ClassFile.FieldType), Jvm.Cond.code ({ cls := "jdk/internal/util/Preconditions", name := "checkIndex", desc := "(IILjava/util/function/BiFunction;)I" } : Jvm.MethodName) jdk_41_method_11_code (3 : Nat) (Option.some Jvm.ClassFile.FieldType.int)]
set_option maxRecDepth 65536 in
theorem codes_eq : words1.filter isCode = codes1 := rfl
theorem w_codes : ∀ c ∈ words1.filter isCode, c.before args0 about1 = true := by
  rw [codes_eq]
  intro c hc
  simp only [codes1, List.mem_cons, List.not_mem_nil, or_false] at hc
  rcases hc with rfl | rfl | rfl | rfl | rfl | rfl | rfl | rfl | rfl | rfl | rfl | rfl | rfl | rfl | rfl | rfl | rfl | rfl | rfl | rfl | rfl | rfl | rfl | rfl | rfl | rfl | rfl | rfl | rfl | rfl | rfl | rfl | rfl | rfl | rfl | rfl | rfl | rfl
  · exact w_c0
  · exact w_c1
  · exact w_c2
  · exact w_c3
  · exact w_c4
  · exact w_c5
  · exact w_c6
  · exact w_c7
  · exact w_c8
  · exact w_c9
  · exact w_c10
  · exact w_c11
  · exact w_c12
  · exact w_c13
  · exact w_c14
  · exact w_c15
  · exact w_c16
  · exact w_c17
  · exact w_c18
  · exact w_c19
  · exact w_c20
  · exact w_c21
  · exact w_c22
  · exact w_c23
  · exact w_c24
  · exact w_c25
  · exact w_c26
  · exact w_c27
  · exact w_c28
  · exact w_c29
  · exact w_c30
  · exact w_c31
  · exact w_c32
  · exact w_c33
  · exact w_c34
  · exact w_c35
  · exact w_c36
  · exact w_c37
set_option maxRecDepth 65536 in
theorem w_t1 : (words1.take 24).all (fun c => isCode c || c.before args0 about1) = true := by decide +kernel
set_option maxRecDepth 65536 in
theorem w_t2 : ((words1.drop 24).take 24).all (fun c => isCode c || c.before args0 about1) = true := by decide +kernel
set_option maxRecDepth 65536 in
theorem w_t3 : (((words1.drop 24).drop 24).take 24).all (fun c => isCode c || c.before args0 about1) = true := by decide +kernel
set_option maxRecDepth 65536 in
theorem w_t4 : ((((words1.drop 24).drop 24).drop 24).take 24).all (fun c => isCode c || c.before args0 about1) = true := by decide +kernel
set_option maxRecDepth 65536 in
theorem w_t5 : (((((words1.drop 24).drop 24).drop 24).drop 24).take 24).all (fun c => isCode c || c.before args0 about1) = true := by decide +kernel
set_option maxRecDepth 65536 in
theorem w_t6 : ((((((words1.drop 24).drop 24).drop 24).drop 24).drop 24).take 24).all (fun c => isCode c || c.before args0 about1) = true := by decide +kernel
set_option maxRecDepth 65536 in
theorem w_t7 : (((((((words1.drop 24).drop 24).drop 24).drop 24).drop 24).drop 24).take 24).all (fun c => isCode c || c.before args0 about1) = true := by decide +kernel
set_option maxRecDepth 65536 in
theorem w_t8 : (((((((words1.drop 24).drop 24).drop 24).drop 24).drop 24).drop 24).drop 24).all (fun c => isCode c || c.before args0 about1) = true := by decide +kernel
theorem w_tables : (allAtoms (Jvm.Cond.code x code maxLocals ret :: tables_1)).before args0 about1 = true := by
  rw [allAtoms_all]
  show words1.all (fun c => c.before args0 about1) = true
  refine all_split ?_ w_codes
  rw [← List.take_append_drop 24 words1, List.all_append, w_t1, ← List.take_append_drop 24 (words1.drop 24), List.all_append, w_t2, ← List.take_append_drop 24 ((words1.drop 24).drop 24), List.all_append, w_t3, ← List.take_append_drop 24 (((words1.drop 24).drop 24).drop 24), List.all_append, w_t4, ← List.take_append_drop 24 ((((words1.drop 24).drop 24).drop 24).drop 24), List.all_append, w_t5, ← List.take_append_drop 24 (((((words1.drop 24).drop 24).drop 24).drop 24).drop 24), List.all_append, w_t6, ← List.take_append_drop 24 ((((((words1.drop 24).drop 24).drop 24).drop 24).drop 24).drop 24), List.all_append, w_t7, w_t8]
  rfl
set_option maxRecDepth 65536 in
theorem w_rest : rest_1_c.before args0 about1 = true := by decide +kernel
set_option maxRecDepth 65536 in
theorem w_case : (Jvm.Cond.and given_1 narrow_1).before args0 about1 = true := by decide +kernel
set_option maxRecDepth 65536 in
theorem w_consts : constsHeld consts_1 about1 := Jvm.Lit.constsHeldB_iff.mp (by decide +kernel)
theorem w_applies : (headSpec (Jvm.Cond.code x code maxLocals ret :: tables_1) room_1).applies x e0.platform about1 = true :=
  (Spec.applies_iff w_frames).mpr ⟨w_running, w_runnable, w_alone, w_named, w_hears, w_ripe, w_room, w_tables⟩
theorem atStart : AtStart classFile x code maxLocals ret World_1 tables_1 room_1 Calls_1 rest_1 Pre_1 launch0 p0 e0 about1 theMethod args0 below0 :=
  ⟨lists_1, trivial, launch0.admits_env _ _ _, launch0.least_env, fairChoices_fair.cas, fairChoices_fair.clock, w_frames, w_args, w_heap, w_applies, ⟨w_consts, trivial⟩, w_rest, w_case⟩
end start1
theorem witness_1 : WitnessClaimed_1 := ⟨start1.p0, start1.e0, start1.about1, start1.theMethod, start1.args0, start1.below0, start1.atStart⟩
end Jvm.Pilot.@@N@@
