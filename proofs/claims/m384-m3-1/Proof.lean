import JvmDerived
import JvmDerived.Pilot.@@N@@Statement
import JvmDerived.Pilot.@@N@@Code
set_option linter.unusedVariables false
set_option linter.unusedSimpArgs false
namespace Jvm.OwnK
open Sem ClassFile Op Lib Bundle Jvm.Stand Jvm.Free Jvm.LawKit Jvm.RoadKit
/-! ## the end of a body, the goal, the point -/
def Fne (s : State) (n0 : Nat) (Z : State) (EL : List (String × Nat)) (nw : Bool) (rm : Room) (Q : Option Value → Heap → List Addr → Prop) (o : Outcome) (U : State) : Prop :=
  ∃ v L so, o = .returned v ∧ Q v U.heap so ∧ Fr n0 L ∧ CHr Z EL s.vm s.heap U.vm U.heap ∧ (∀ x ∈ so, n0 ≤ x ∧ x < U.heap.size ∧ Safe Z EL U.vm U.heap x) ∧ (nw = true → s.WarmedH U.vm) ∧ ReturnedEndW s o U L rm.cells rm.slots
def WP (p : Program) (e : Env) (below : List Frame) (Φ : Outcome → State → Prop) (T : State) (g : JFrame) : Prop :=
  ∃ s₂ o, Steps p.tables e below (T.setTop g) s₂ ∧ s₂.status = .running ∧ Ended s₂ below o ∧ Φ o s₂
def WS (p : Program) (l : Launch) (e : Env) (R : Room) (s : State) (m : MethodId) (args : Array Value) (below : List Frame) (meth : Method) (c : Code) (Z : State) (a0 : Array Value) (EL : List (String × Nat)) (nw : Bool) (n0 : Nat) (y : MethodName) (code : ByteArray) (maxL : Nat) (ret : Option FieldType)
    (T : State) (h : Heap) (sf : List Addr) (cells slots : Nat) : Prop :=
  ∃ locs, Stand p l e R (s.setVm T.vm) m args below meth c T locs cells slots ∧ T.heap = h ∧ s.Since T.vm h.size ∧ Z.Warmed39 T.vm ∧ T.vm.findClass y.cls = some m.cls ∧ CHr Z EL s.vm s.heap T.vm h ∧ Fr n0 locs ∧ n0 ≤ h.size ∧
    (∀ x ∈ sf, n0 ≤ x ∧ x < h.size ∧ Safe Z EL T.vm h x) ∧ EW Z a0 EL ∧ (nw = true → s.WarmedH T.vm) ∧ (p.tables.exec = Jvm.exec ∧ c.code = code ∧ meth.sig.returnType = ret ∧ meth.locks = false ∧ c.maxLocals = maxL ∧ meth.name = y.name)
def Ct (l : Launch) (Z : State) (a0 : Array Value) (EL : List (String × Nat)) (nw : Bool) (y : MethodName) (bytes : ByteArray) (maxL : Nat) (ret : Option FieldType) (rm : Room) (as' : Array Value) (h : Heap) (sf : List Addr) (n0 : Nat) (Q : Option Value → Heap → List Addr → Prop) : Prop :=
  ∀ ws, MetFree l y (head1 (Cond.code y bytes maxL ret :: ws) rm) (fun a U => a = as' ∧ Z.Warmed39 U.vm ∧ U.heap = h ∧ CHv Z EL U.vm h ∧ n0 ≤ h.size ∧ EW Z a0 EL ∧ ∀ x ∈ sf, n0 ≤ x ∧ x < h.size ∧ Safe Z EL U.vm h x) (fun _ _ _ _ _ => True)
    (fun _ U o U' => Fne U n0 Z EL nw rm Q o U')
def D (code : ByteArray) (pc : Nat) (i : Instr) (n pc' : Nat) : Prop := decode code pc = .ok (i, n) ∧ pc' = pc + n
section Base
variable {p : Program} {l : Launch} {e : Env} {R : Room} {s : State} {m : MethodId} {args : Array Value} {below : List Frame} {meth : Method} {c : Code} {Z : State} {EL : List (String × Nat)} {nw : Bool} {n0 : Nat} {y : MethodName} {code : ByteArray} {maxL : Nat} {ret : Option FieldType} {T : State} {h : Heap} {sf : List Addr} {cells slots : Nat} {Φ : Outcome → State → Prop} {a0 : Array Value} {pc pc' : Nat} {L : Array Slot} {S : List Value}
theorem WP.st {T' : State} {g g' : JFrame} (k : ∀ t, Steps p.tables e below (T'.setTop g') t → Steps p.tables e below (T.setTop g) t) (w : WP p e below Φ T' g') : WP p e below Φ T g := by
  obtain ⟨s₂, o, h1, h2⟩ := w; exact ⟨s₂, o, k _ h1, h2⟩
theorem WP.cast {g g' : JFrame} (q : g = g') (w : WP p e below Φ T g') : WP p e below Φ T g := q ▸ w
theorem WP.steps {T' : State} {g g' : JFrame} (k : Steps p.tables e below (T.setTop g) (T'.setTop g')) (w : WP p e below Φ T' g') : WP p e below Φ T g := WP.st (fun _ q => k.trans q) w

theorem WS.here (W : WS p l e R s m args below meth c Z a0 EL nw n0 y code maxL ret T h sf cells slots) : At T m c below := by obtain ⟨_, X, -⟩ := W; exact X.here
theorem WS.hx (W : WS p l e R s m args below meth c Z a0 EL nw n0 y code maxL ret T h sf cells slots) : p.tables.exec = Jvm.exec := by obtain ⟨_, _, _, _, _, _, _, _, _, _, _, _, q, -⟩ := W; exact q
theorem WS.hby (W : WS p l e R s m args below meth c Z a0 EL nw n0 y code maxL ret T h sf cells slots) : c.code = code := by obtain ⟨_, _, _, _, _, _, _, _, _, _, _, _, _, q, -⟩ := W; exact q
theorem WS.hn (W : WS p l e R s m args below meth c Z a0 EL nw n0 y code maxL ret T h sf cells slots) : n0 ≤ h.size := by obtain ⟨_, _, _, _, _, _, _, _, q, -⟩ := W; exact q
theorem WS.hT (W : WS p l e R s m args below meth c Z a0 EL nw n0 y code maxL ret T h sf cells slots) : T.heap = h := by obtain ⟨_, _, q, -⟩ := W; exact q
theorem WS.hZ (W : WS p l e R s m args below meth c Z a0 EL nw n0 y code maxL ret T h sf cells slots) : Z.Warmed39 T.vm := by obtain ⟨_, _, _, _, q, -⟩ := W; exact q
theorem WS.lt (W : WS p l e R s m args below meth c Z a0 EL nw n0 y code maxL ret T h sf cells slots) {x : Addr} (q : x ∈ sf) : x < h.size := by obtain ⟨_, _, _, _, _, _, _, _, _, w, -⟩ := W; exact (w x q).2.1
theorem WS.ge (W : WS p l e R s m args below meth c Z a0 EL nw n0 y code maxL ret T h sf cells slots) {x : Addr} (q : x ∈ sf) : n0 ≤ x := by obtain ⟨_, _, _, _, _, _, _, _, _, w, -⟩ := W; exact (w x q).1
theorem WS.hd (W : WS p l e R s m args below meth c Z a0 EL nw n0 y code maxL ret T h sf cells slots) {i : Instr} {n : Nat} (d : D code pc i n pc') : decode c.code pc = .ok (i, n) := hb W.hby d.1
theorem WS.mono (W : WS p l e R s m args below meth c Z a0 EL nw n0 y code maxL ret T h sf cells slots) {cells' slots' : Nat} {sf' : List Addr} (hc : cells ≤ cells') (hs : slots ≤ slots') (hf : ∀ x ∈ sf', x ∈ sf) : WS p l e R s m args below meth c Z a0 EL nw n0 y code maxL ret T h sf' cells' slots' := by
  obtain ⟨locs, X, a1, a2, a3, a4, a5, a6, a7, a8, a9⟩ := W
  exact ⟨locs, X.mono hc hs, a1, a2, a3, a4, a5, a6, a7, fun x hx => a8 x (hf x hx), a9⟩
/-- a step by a law of the library over the point's own start: the point behind it -/
theorem WS.pack {T' : State} {h' : Heap} {sf' : List Addr} {locs' : List Loc} {cells' slots' : Nat} (W : WS p l e R s m args below meth c Z a0 EL nw n0 y code maxL ret T h sf cells slots) (X' : Stand p l e R (s.setVm T.vm) m args below meth c T' locs' cells' slots') (eT : T'.heap = h') (N : Fr n0 locs') (hle : h.size ≤ h'.size) (K : CHv Z EL T.vm h → CHv Z EL T.vm h' ∧ ∀ y, Bk Z EL T.vm h' y → Bk Z EL T.vm h y) (hf : ∀ x ∈ sf', x ∈ sf ∨ (h.size ≤ x ∧ x < h'.size)) :
    WS p l e R s m args below meth c Z a0 EL nw n0 y code maxL ret T' h' sf' cells' slots' := by
  obtain ⟨locs, X, a1, a2, a3, a4, a5, a6, a7, a8, hE, aW, a10⟩ := W
  have C0 := K a5.1
  have C1 : CHr Z EL T.vm h T.vm h' := ⟨C0.1, hle, fun z q => Or.inl (C0.2 z q)⟩
  have C2 := CHv.at X' a3 hE C1.1
  have hS2 : (s.setVm T.vm).Since T'.vm h'.size := X'.warmed.since _
  refine ⟨locs', X'.retabled X'.warmed.wide, eT, a2.trans hS2 hle, wtrans (s := s.setVm T.vm) a3 X'.warmed, by rw [X'.warmed.alike.findClass]; exact a4, (a5.trans C1).trans C2, N, Nat.le_trans a7 hle, fun x hx => ?_, hE, fun u => State.WarmedH.trans (t := s.setVm T.vm) (aW u) X'.warmed, a10⟩
  rcases hf x hx with q | ⟨q1, q2⟩
  · obtain ⟨b1, b2, b3⟩ := a8 x q
    exact ⟨b1, Nat.lt_of_lt_of_le b2 hle, C2.safe (Nat.lt_of_lt_of_le b2 hle) (C1.safe b2 b3)⟩
  · refine ⟨Nat.le_trans a7 q1, q2, C2.safe q2 fun B => ?_⟩
    obtain ⟨cell, z⟩ := (C0.2 x B).there
    have := (Array.getElem?_eq_some_iff.mp z).1; omega
/-- nothing of the heap moved -/
theorem WS.same {T' : State} (W : WS p l e R s m args below meth c Z a0 EL nw n0 y code maxL ret T h sf cells slots) (f : ∀ locs, Stand p l e R (s.setVm T.vm) m args below meth c T locs cells slots → Stand p l e R (s.setVm T.vm) m args below meth c T' locs cells slots) (eT : T'.heap = h) : WS p l e R s m args below meth c Z a0 EL nw n0 y code maxL ret T' h sf cells slots := by
  obtain ⟨locs, X, a1, a2, a3, a4, a5, a6, a7, a8, a9⟩ := id W
  exact W.pack (f _ X) eT a6 (Nat.le_refl _) (fun H => ⟨H, fun _ q => q⟩) (fun x hx => Or.inl hx)

theorem k_aloadN (W : WS p l e R s m args below meth c Z a0 EL nw n0 y code maxL ret T h sf cells slots) {k : Fin 4} {v : Value} (d : D code pc (.aload_n k) 1 pc')   (hl : L[k.val]? = some (.val v)) (hv : v.isRef = true) (w : WP p e below Φ T (mkF m pc' L (v :: S))) : WP p e below Φ T (mkF m pc L (S)) := by
  obtain ⟨hd, rfl⟩ := d
  exact WP.st (fun _ q => XS.aloadN W.here W.hx rfl (hb W.hby hd) hl hv q) w
theorem k_aload (W : WS p l e R s m args below meth c Z a0 EL nw n0 y code maxL ret T h sf cells slots) {k : Nat} {v : Value} (d : D code pc (.aload k) 2 pc')   (hl : L[k]? = some (.val v)) (hv : v.isRef = true) (w : WP p e below Φ T (mkF m pc' L (v :: S))) : WP p e below Φ T (mkF m pc L (S)) := by
  obtain ⟨hd, rfl⟩ := d
  exact WP.st (fun _ q => XS.aload W.here W.hx rfl (hb W.hby hd) hl hv q) w
theorem k_iloadN (W : WS p l e R s m args below meth c Z a0 EL nw n0 y code maxL ret T h sf cells slots) {k : Fin 4} {v : Int32} (d : D code pc (.iload_n k) 1 pc')   (hl : L[k.val]? = some (.val (.int v))) (w : WP p e below Φ T (mkF m pc' L (.int v :: S))) : WP p e below Φ T (mkF m pc L (S)) := by
  obtain ⟨hd, rfl⟩ := d
  exact WP.st (fun _ q => XS.iloadN W.here W.hx rfl (hb W.hby hd) hl q) w
theorem k_iload (W : WS p l e R s m args below meth c Z a0 EL nw n0 y code maxL ret T h sf cells slots) {k : Nat} {v : Int32} (d : D code pc (.iload k) 2 pc')   (hl : L[k]? = some (.val (.int v))) (w : WP p e below Φ T (mkF m pc' L (.int v :: S))) : WP p e below Φ T (mkF m pc L (S)) := by
  obtain ⟨hd, rfl⟩ := d
  exact WP.st (fun _ q => XS.iload W.here W.hx rfl (hb W.hby hd) hl q) w
theorem k_lloadN (W : WS p l e R s m args below meth c Z a0 EL nw n0 y code maxL ret T h sf cells slots) {k : Fin 4} {v : Int64} (d : D code pc (.lload_n k) 1 pc')   (hl : L[k.val]? = some (.val (.long v))) (w : WP p e below Φ T (mkF m pc' L (.long v :: S))) : WP p e below Φ T (mkF m pc L (S)) := by
  obtain ⟨hd, rfl⟩ := d
  exact WP.st (fun _ q => XS.lloadN W.here W.hx rfl (hb W.hby hd) hl q) w
theorem k_lload (W : WS p l e R s m args below meth c Z a0 EL nw n0 y code maxL ret T h sf cells slots) {k : Nat} {v : Int64} (d : D code pc (.lload k) 2 pc')   (hl : L[k]? = some (.val (.long v))) (w : WP p e below Φ T (mkF m pc' L (.long v :: S))) : WP p e below Φ T (mkF m pc L (S)) := by
  obtain ⟨hd, rfl⟩ := d
  exact WP.st (fun _ q => XS.lload W.here W.hx rfl (hb W.hby hd) hl q) w
theorem k_istoreN (W : WS p l e R s m args below meth c Z a0 EL nw n0 y code maxL ret T h sf cells slots) {k : Fin 4} {x : Int32} {L' : Array Slot} (d : D code pc (.istore_n k) 1 pc')    (hl : storeLocals L k.val (.int x) = some L') (w : WP p e below Φ T (mkF m pc' L' (S))) : WP p e below Φ T (mkF m pc L (.int x :: S)) := by
  obtain ⟨hd, rfl⟩ := d
  exact WP.st (fun _ q => XS.istoreN W.here W.hx rfl (hb W.hby hd) rfl hl q) w
theorem k_istore (W : WS p l e R s m args below meth c Z a0 EL nw n0 y code maxL ret T h sf cells slots) {k : Nat} {x : Int32} {L' : Array Slot} (d : D code pc (.istore k) 2 pc')    (hl : storeLocals L k (.int x) = some L') (w : WP p e below Φ T (mkF m pc' L' (S))) : WP p e below Φ T (mkF m pc L (.int x :: S)) := by
  obtain ⟨hd, rfl⟩ := d
  exact WP.st (fun _ q => XS.istore W.here W.hx rfl (hb W.hby hd) rfl hl q) w
theorem k_lstoreN (W : WS p l e R s m args below meth c Z a0 EL nw n0 y code maxL ret T h sf cells slots) {k : Fin 4} {x : Int64} {L' : Array Slot} (d : D code pc (.lstore_n k) 1 pc')    (hl : storeLocals L k.val (.long x) = some L') (w : WP p e below Φ T (mkF m pc' L' (S))) : WP p e below Φ T (mkF m pc L (.long x :: S)) := by
  obtain ⟨hd, rfl⟩ := d
  exact WP.st (fun _ q => XS.lstoreN W.here W.hx rfl (hb W.hby hd) rfl hl q) w
theorem k_lstore (W : WS p l e R s m args below meth c Z a0 EL nw n0 y code maxL ret T h sf cells slots) {k : Nat} {x : Int64} {L' : Array Slot} (d : D code pc (.lstore k) 2 pc')    (hl : storeLocals L k (.long x) = some L') (w : WP p e below Φ T (mkF m pc' L' (S))) : WP p e below Φ T (mkF m pc L (.long x :: S)) := by
  obtain ⟨hd, rfl⟩ := d
  exact WP.st (fun _ q => XS.lstore W.here W.hx rfl (hb W.hby hd) rfl hl q) w
theorem k_astoreN (W : WS p l e R s m args below meth c Z a0 EL nw n0 y code maxL ret T h sf cells slots) {k : Fin 4} {x : Value} {L' : Array Slot} (d : D code pc (.astore_n k) 1 pc')    (hv : x.isRef = true) (hl : storeLocals L k.val x = some L') (w : WP p e below Φ T (mkF m pc' L' (S))) : WP p e below Φ T (mkF m pc L (x :: S)) := by
  obtain ⟨hd, rfl⟩ := d
  exact WP.st (fun _ q => XS.astoreN W.here W.hx rfl (hb W.hby hd) rfl hv hl q) w
theorem k_astore (W : WS p l e R s m args below meth c Z a0 EL nw n0 y code maxL ret T h sf cells slots) {k : Nat} {x : Value} {L' : Array Slot} (d : D code pc (.astore k) 2 pc')    (hv : x.isRef = true) (hl : storeLocals L k x = some L') (w : WP p e below Φ T (mkF m pc' L' (S))) : WP p e below Φ T (mkF m pc L (x :: S)) := by
  obtain ⟨hd, rfl⟩ := d
  exact WP.st (fun _ q => XS.astore W.here W.hx rfl (hb W.hby hd) rfl hv hl q) w
theorem k_iconst (W : WS p l e R s m args below meth c Z a0 EL nw n0 y code maxL ret T h sf cells slots) {i : Int} {z : Int32} (d : D code pc (.iconst i) 1 pc')   (hz : Int32.ofInt i = z) (w : WP p e below Φ T (mkF m pc' L (.int z :: S))) : WP p e below Φ T (mkF m pc L (S)) := by
  obtain ⟨hd, rfl⟩ := d
  exact WP.st (fun _ q => XS.iconst W.here W.hx rfl (hb W.hby hd) (by rw [hz]; exact q)) w
theorem k_bipush (W : WS p l e R s m args below meth c Z a0 EL nw n0 y code maxL ret T h sf cells slots) {i : Int} {z : Int32} (d : D code pc (.bipush i) 2 pc')   (hz : (Int8.ofInt i).toInt32 = z) (w : WP p e below Φ T (mkF m pc' L (.int z :: S))) : WP p e below Φ T (mkF m pc L (S)) := by
  obtain ⟨hd, rfl⟩ := d
  exact WP.st (fun _ q => XS.bipush W.here W.hx rfl (hb W.hby hd) (by rw [hz]; exact q)) w
theorem k_sipush (W : WS p l e R s m args below meth c Z a0 EL nw n0 y code maxL ret T h sf cells slots) {i : Int} {z : Int32} (d : D code pc (.sipush i) 3 pc')   (hz : (Int16.ofInt i).toInt32 = z) (w : WP p e below Φ T (mkF m pc' L (.int z :: S))) : WP p e below Φ T (mkF m pc L (S)) := by
  obtain ⟨hd, rfl⟩ := d
  exact WP.st (fun _ q => XS.sipush W.here W.hx rfl (hb W.hby hd) (by rw [hz]; exact q)) w
theorem k_lconst (W : WS p l e R s m args below meth c Z a0 EL nw n0 y code maxL ret T h sf cells slots) {k : Fin 2} {z : Int64} (d : D code pc (.lconst k) 1 pc')   (hz : Int64.ofNat k = z) (w : WP p e below Φ T (mkF m pc' L (.long z :: S))) : WP p e below Φ T (mkF m pc L (S)) := by
  obtain ⟨hd, rfl⟩ := d
  exact WP.st (fun _ q => XS.lconst W.here W.hx rfl (hb W.hby hd) (by rw [hz]; exact q)) w
theorem k_aconst (W : WS p l e R s m args below meth c Z a0 EL nw n0 y code maxL ret T h sf cells slots)  (d : D code pc (.aconst_null) 1 pc')  (w : WP p e below Φ T (mkF m pc' L (.null :: S))) : WP p e below Φ T (mkF m pc L (S)) := by
  obtain ⟨hd, rfl⟩ := d
  exact WP.st (fun _ q => XS.aconstNull W.here W.hx rfl (hb W.hby hd) q) w
theorem k_iadd (W : WS p l e R s m args below meth c Z a0 EL nw n0 y code maxL ret T h sf cells slots) {x y z : Int32} (d : D code pc (.iadd) 1 pc')  (hz : x + y = z) (w : WP p e below Φ T (mkF m pc' L (.int z :: S))) : WP p e below Φ T (mkF m pc L (.int y :: .int x :: S)) := by
  obtain ⟨hd, rfl⟩ := d
  exact WP.st (fun _ q => XS.iadd W.here W.hx rfl (hb W.hby hd) rfl (by rw [hz]; exact q)) w
theorem k_isub (W : WS p l e R s m args below meth c Z a0 EL nw n0 y code maxL ret T h sf cells slots) {x y z : Int32} (d : D code pc (.isub) 1 pc')  (hz : x - y = z) (w : WP p e below Φ T (mkF m pc' L (.int z :: S))) : WP p e below Φ T (mkF m pc L (.int y :: .int x :: S)) := by
  obtain ⟨hd, rfl⟩ := d
  exact WP.st (fun _ q => XS.isub W.here W.hx rfl (hb W.hby hd) rfl (by rw [hz]; exact q)) w
theorem k_iand (W : WS p l e R s m args below meth c Z a0 EL nw n0 y code maxL ret T h sf cells slots) {x y z : Int32} (d : D code pc (.iand) 1 pc')  (hz : x &&& y = z) (w : WP p e below Φ T (mkF m pc' L (.int z :: S))) : WP p e below Φ T (mkF m pc L (.int y :: .int x :: S)) := by
  obtain ⟨hd, rfl⟩ := d
  exact WP.st (fun _ q => XS.iand W.here W.hx rfl (hb W.hby hd) rfl (by rw [hz]; exact q)) w
theorem k_imul (W : WS p l e R s m args below meth c Z a0 EL nw n0 y code maxL ret T h sf cells slots) {x y z : Int32} (d : D code pc (.imul) 1 pc')  (hz : x * y = z) (w : WP p e below Φ T (mkF m pc' L (.int z :: S))) : WP p e below Φ T (mkF m pc L (.int y :: .int x :: S)) := by
  obtain ⟨hd, rfl⟩ := d
  exact WP.st (fun _ q => XS.imul W.here W.hx rfl (hb W.hby hd) rfl (by rw [hz]; exact q)) w
theorem k_ixor (W : WS p l e R s m args below meth c Z a0 EL nw n0 y code maxL ret T h sf cells slots) {x y z : Int32} (d : D code pc (.ixor) 1 pc')  (hz : x ^^^ y = z) (w : WP p e below Φ T (mkF m pc' L (.int z :: S))) : WP p e below Φ T (mkF m pc L (.int y :: .int x :: S)) := by
  obtain ⟨hd, rfl⟩ := d
  exact WP.st (fun _ q => XS.ixor W.here W.hx rfl (hb W.hby hd) rfl (by rw [hz]; exact q)) w
theorem k_ior (W : WS p l e R s m args below meth c Z a0 EL nw n0 y code maxL ret T h sf cells slots) {x y z : Int32} (d : D code pc (.ior) 1 pc')  (hz : x ||| y = z) (w : WP p e below Φ T (mkF m pc' L (.int z :: S))) : WP p e below Φ T (mkF m pc L (.int y :: .int x :: S)) := by
  obtain ⟨hd, rfl⟩ := d
  exact WP.st (fun _ q => XS.ior W.here W.hx rfl (hb W.hby hd) rfl (by rw [hz]; exact q)) w
theorem k_ishl (W : WS p l e R s m args below meth c Z a0 EL nw n0 y code maxL ret T h sf cells slots) {x y z : Int32} (d : D code pc (.ishl) 1 pc')  (hz : x <<< (y &&& 31) = z) (w : WP p e below Φ T (mkF m pc' L (.int z :: S))) : WP p e below Φ T (mkF m pc L (.int y :: .int x :: S)) := by
  obtain ⟨hd, rfl⟩ := d
  exact WP.st (fun _ q => XS.ishl W.here W.hx rfl (hb W.hby hd) rfl (by rw [hz]; exact q)) w
theorem k_ishr (W : WS p l e R s m args below meth c Z a0 EL nw n0 y code maxL ret T h sf cells slots) {x y z : Int32} (d : D code pc (.ishr) 1 pc')  (hz : x >>> (y &&& 31) = z) (w : WP p e below Φ T (mkF m pc' L (.int z :: S))) : WP p e below Φ T (mkF m pc L (.int y :: .int x :: S)) := by
  obtain ⟨hd, rfl⟩ := d
  exact WP.st (fun _ q => XS.ishr W.here W.hx rfl (hb W.hby hd) rfl (by rw [hz]; exact q)) w
theorem k_iushr (W : WS p l e R s m args below meth c Z a0 EL nw n0 y code maxL ret T h sf cells slots) {x y z : Int32} (d : D code pc (.iushr) 1 pc')  (hz : XT.ushr x y = z) (w : WP p e below Φ T (mkF m pc' L (.int z :: S))) : WP p e below Φ T (mkF m pc L (.int y :: .int x :: S)) := by
  obtain ⟨hd, rfl⟩ := d
  exact WP.st (fun _ q => XT.iushr W.here W.hx rfl (hb W.hby hd) rfl (by rw [hz]; exact q)) w
theorem k_idiv (W : WS p l e R s m args below meth c Z a0 EL nw n0 y code maxL ret T h sf cells slots) {x y z : Int32} (d : D code pc (.idiv) 1 pc')  (hy : y ≠ 0) (hz : x / y = z) (w : WP p e below Φ T (mkF m pc' L (.int z :: S))) : WP p e below Φ T (mkF m pc L (.int y :: .int x :: S)) := by
  obtain ⟨hd, rfl⟩ := d
  exact WP.st (fun _ q => XS.idiv W.here W.hx rfl (hb W.hby hd) rfl hy (by rw [hz]; exact q)) w
theorem k_irem (W : WS p l e R s m args below meth c Z a0 EL nw n0 y code maxL ret T h sf cells slots) {x y z : Int32} (d : D code pc (.irem) 1 pc')  (hy : y ≠ 0) (hz : x % y = z) (w : WP p e below Φ T (mkF m pc' L (.int z :: S))) : WP p e below Φ T (mkF m pc L (.int y :: .int x :: S)) := by
  obtain ⟨hd, rfl⟩ := d
  exact WP.st (fun _ q => XS.irem W.here W.hx rfl (hb W.hby hd) rfl hy (by rw [irem_eq_mod x y, hz]; exact q)) w
theorem k_ineg (W : WS p l e R s m args below meth c Z a0 EL nw n0 y code maxL ret T h sf cells slots) {x z : Int32} (d : D code pc (.ineg) 1 pc')  (hz : -x = z) (w : WP p e below Φ T (mkF m pc' L (.int z :: S))) : WP p e below Φ T (mkF m pc L (.int x :: S)) := by
  obtain ⟨hd, rfl⟩ := d
  exact WP.st (fun _ q => XS.ineg W.here W.hx rfl (hb W.hby hd) rfl (by rw [hz]; exact q)) w
theorem k_ladd (W : WS p l e R s m args below meth c Z a0 EL nw n0 y code maxL ret T h sf cells slots) {x y z : Int64} (d : D code pc (.ladd) 1 pc')  (hz : x + y = z) (w : WP p e below Φ T (mkF m pc' L (.long z :: S))) : WP p e below Φ T (mkF m pc L (.long y :: .long x :: S)) := by
  obtain ⟨hd, rfl⟩ := d
  exact WP.st (fun _ q => XS.ladd W.here W.hx rfl (hb W.hby hd) rfl (by rw [hz]; exact q)) w
theorem k_lsub (W : WS p l e R s m args below meth c Z a0 EL nw n0 y code maxL ret T h sf cells slots) {x y z : Int64} (d : D code pc (.lsub) 1 pc')  (hz : x - y = z) (w : WP p e below Φ T (mkF m pc' L (.long z :: S))) : WP p e below Φ T (mkF m pc L (.long y :: .long x :: S)) := by
  obtain ⟨hd, rfl⟩ := d
  exact WP.st (fun _ q => XS.lsub W.here W.hx rfl (hb W.hby hd) rfl (by rw [hz]; exact q)) w
theorem k_land (W : WS p l e R s m args below meth c Z a0 EL nw n0 y code maxL ret T h sf cells slots) {x y z : Int64} (d : D code pc (.land) 1 pc')  (hz : x &&& y = z) (w : WP p e below Φ T (mkF m pc' L (.long z :: S))) : WP p e below Φ T (mkF m pc L (.long y :: .long x :: S)) := by
  obtain ⟨hd, rfl⟩ := d
  exact WP.st (fun _ q => XS.land W.here W.hx rfl (hb W.hby hd) rfl (by rw [hz]; exact q)) w
theorem k_lmul (W : WS p l e R s m args below meth c Z a0 EL nw n0 y code maxL ret T h sf cells slots) {x y z : Int64} (d : D code pc (.lmul) 1 pc')  (hz : x * y = z) (w : WP p e below Φ T (mkF m pc' L (.long z :: S))) : WP p e below Φ T (mkF m pc L (.long y :: .long x :: S)) := by
  obtain ⟨hd, rfl⟩ := d
  exact WP.st (fun _ q => XS.lmul W.here W.hx rfl (hb W.hby hd) rfl (by rw [hz]; exact q)) w
theorem k_lxor (W : WS p l e R s m args below meth c Z a0 EL nw n0 y code maxL ret T h sf cells slots) {x y z : Int64} (d : D code pc (.lxor) 1 pc')  (hz : x ^^^ y = z) (w : WP p e below Φ T (mkF m pc' L (.long z :: S))) : WP p e below Φ T (mkF m pc L (.long y :: .long x :: S)) := by
  obtain ⟨hd, rfl⟩ := d
  exact WP.st (fun _ q => XS.lxor W.here W.hx rfl (hb W.hby hd) rfl (by rw [hz]; exact q)) w
theorem k_lor (W : WS p l e R s m args below meth c Z a0 EL nw n0 y code maxL ret T h sf cells slots) {x y z : Int64} (d : D code pc (.lor) 1 pc')  (hz : x ||| y = z) (w : WP p e below Φ T (mkF m pc' L (.long z :: S))) : WP p e below Φ T (mkF m pc L (.long y :: .long x :: S)) := by
  obtain ⟨hd, rfl⟩ := d
  exact WP.st (fun _ q => XS.lor W.here W.hx rfl (hb W.hby hd) rfl (by rw [hz]; exact q)) w
theorem k_lshl (W : WS p l e R s m args below meth c Z a0 EL nw n0 y code maxL ret T h sf cells slots) {x z : Int64} {y : Int32} (d : D code pc (.lshl) 1 pc')   (hz : x <<< (y.toInt64 &&& 63) = z) (w : WP p e below Φ T (mkF m pc' L (.long z :: S))) : WP p e below Φ T (mkF m pc L (.int y :: .long x :: S)) := by
  obtain ⟨hd, rfl⟩ := d
  exact WP.st (fun _ q => XT.lshl W.here W.hx rfl (hb W.hby hd) rfl (by rw [hz]; exact q)) w
theorem k_lshr (W : WS p l e R s m args below meth c Z a0 EL nw n0 y code maxL ret T h sf cells slots) {x z : Int64} {y : Int32} (d : D code pc (.lshr) 1 pc')   (hz : x >>> (y.toInt64 &&& 63) = z) (w : WP p e below Φ T (mkF m pc' L (.long z :: S))) : WP p e below Φ T (mkF m pc L (.int y :: .long x :: S)) := by
  obtain ⟨hd, rfl⟩ := d
  exact WP.st (fun _ q => XT.lshr W.here W.hx rfl (hb W.hby hd) rfl (by rw [hz]; exact q)) w
theorem k_lushr (W : WS p l e R s m args below meth c Z a0 EL nw n0 y code maxL ret T h sf cells slots) {x z : Int64} {y : Int32} (d : D code pc (.lushr) 1 pc')   (hz : XT.ushrL x y = z) (w : WP p e below Φ T (mkF m pc' L (.long z :: S))) : WP p e below Φ T (mkF m pc L (.int y :: .long x :: S)) := by
  obtain ⟨hd, rfl⟩ := d
  exact WP.st (fun _ q => XT.lushr W.here W.hx rfl (hb W.hby hd) rfl (by rw [hz]; exact q)) w
theorem k_lrem (W : WS p l e R s m args below meth c Z a0 EL nw n0 y code maxL ret T h sf cells slots) {x y z : Int64} (d : D code pc (.lrem) 1 pc')  (hy : y ≠ 0) (hz : x - (x / y) * y = z) (w : WP p e below Φ T (mkF m pc' L (.long z :: S))) : WP p e below Φ T (mkF m pc L (.long y :: .long x :: S)) := by
  obtain ⟨hd, rfl⟩ := d
  exact WP.st (fun _ q => XS.lrem W.here W.hx rfl (hb W.hby hd) rfl hy (by rw [hz]; exact q)) w
theorem k_ldiv (W : WS p l e R s m args below meth c Z a0 EL nw n0 y code maxL ret T h sf cells slots) {x y z : Int64} (d : D code pc (.ldiv) 1 pc')  (hy : y ≠ 0) (hz : x / y = z) (w : WP p e below Φ T (mkF m pc' L (.long z :: S))) : WP p e below Φ T (mkF m pc L (.long y :: .long x :: S)) := by
  obtain ⟨hd, rfl⟩ := d
  exact WP.st (fun _ q => XS.ldiv W.here W.hx rfl (hb W.hby hd) rfl hy (by rw [hz]; exact q)) w
theorem k_lneg (W : WS p l e R s m args below meth c Z a0 EL nw n0 y code maxL ret T h sf cells slots) {x z : Int64} (d : D code pc (.lneg) 1 pc')  (hz : -x = z) (w : WP p e below Φ T (mkF m pc' L (.long z :: S))) : WP p e below Φ T (mkF m pc L (.long x :: S)) := by
  obtain ⟨hd, rfl⟩ := d
  exact WP.st (fun _ q => XS.lneg W.here W.hx rfl (hb W.hby hd) rfl (by rw [hz]; exact q)) w
theorem k_lcmp (W : WS p l e R s m args below meth c Z a0 EL nw n0 y code maxL ret T h sf cells slots) {x y : Int64} {z : Int32} (d : D code pc (.lcmp) 1 pc')   (hz : XT.cmpL x y = z) (w : WP p e below Φ T (mkF m pc' L (.int z :: S))) : WP p e below Φ T (mkF m pc L (.long y :: .long x :: S)) := by
  obtain ⟨hd, rfl⟩ := d
  exact WP.st (fun _ q => XT.lcmp W.here W.hx rfl (hb W.hby hd) rfl (by rw [hz]; exact q)) w
theorem k_i2b (W : WS p l e R s m args below meth c Z a0 EL nw n0 y code maxL ret T h sf cells slots) {x z : Int32} (d : D code pc (.i2b) 1 pc')  (hz : x.toInt8.toInt32 = z) (w : WP p e below Φ T (mkF m pc' L (.int z :: S))) : WP p e below Φ T (mkF m pc L (.int x :: S)) := by
  obtain ⟨hd, rfl⟩ := d
  exact WP.st (fun _ q => XS.i2b W.here W.hx rfl (hb W.hby hd) rfl (by rw [hz]; exact q)) w
theorem k_i2c (W : WS p l e R s m args below meth c Z a0 EL nw n0 y code maxL ret T h sf cells slots) {x z : Int32} (d : D code pc (.i2c) 1 pc')  (hz : x.toUInt32.toUInt16.toUInt32.toInt32 = z) (w : WP p e below Φ T (mkF m pc' L (.int z :: S))) : WP p e below Φ T (mkF m pc L (.int x :: S)) := by
  obtain ⟨hd, rfl⟩ := d
  exact WP.st (fun _ q => XS.i2c W.here W.hx rfl (hb W.hby hd) rfl (by rw [hz]; exact q)) w
theorem k_i2s (W : WS p l e R s m args below meth c Z a0 EL nw n0 y code maxL ret T h sf cells slots) {x z : Int32} (d : D code pc (.i2s) 1 pc')  (hz : x.toInt16.toInt32 = z) (w : WP p e below Φ T (mkF m pc' L (.int z :: S))) : WP p e below Φ T (mkF m pc L (.int x :: S)) := by
  obtain ⟨hd, rfl⟩ := d
  exact WP.st (fun _ q => XS.i2s W.here W.hx rfl (hb W.hby hd) rfl (by rw [hz]; exact q)) w
theorem k_i2l (W : WS p l e R s m args below meth c Z a0 EL nw n0 y code maxL ret T h sf cells slots) {x : Int32} {z : Int64} (d : D code pc (.i2l) 1 pc')   (hz : x.toInt64 = z) (w : WP p e below Φ T (mkF m pc' L (.long z :: S))) : WP p e below Φ T (mkF m pc L (.int x :: S)) := by
  obtain ⟨hd, rfl⟩ := d
  exact WP.st (fun _ q => XS.i2l W.here W.hx rfl (hb W.hby hd) rfl (by rw [hz]; exact q)) w
theorem k_l2i (W : WS p l e R s m args below meth c Z a0 EL nw n0 y code maxL ret T h sf cells slots) {x : Int64} {z : Int32} (d : D code pc (.l2i) 1 pc')   (hz : x.toInt32 = z) (w : WP p e below Φ T (mkF m pc' L (.int z :: S))) : WP p e below Φ T (mkF m pc L (.long x :: S)) := by
  obtain ⟨hd, rfl⟩ := d
  exact WP.st (fun _ q => XS.l2i W.here W.hx rfl (hb W.hby hd) rfl (by rw [hz]; exact q)) w
theorem k_dup (W : WS p l e R s m args below meth c Z a0 EL nw n0 y code maxL ret T h sf cells slots) {x : Value} (d : D code pc (.dup) 1 pc')  (hc : x.category = 1) (w : WP p e below Φ T (mkF m pc' L (x :: x :: S))) : WP p e below Φ T (mkF m pc L (x :: S)) := by
  obtain ⟨hd, rfl⟩ := d
  exact WP.st (fun _ q => XS.dup W.here W.hx rfl (hb W.hby hd) rfl hc q) w
theorem k_pop (W : WS p l e R s m args below meth c Z a0 EL nw n0 y code maxL ret T h sf cells slots) {x : Value} (d : D code pc (.pop) 1 pc')  (hc : x.category = 1) (w : WP p e below Φ T (mkF m pc' L (S))) : WP p e below Φ T (mkF m pc L (x :: S)) := by
  obtain ⟨hd, rfl⟩ := d
  exact WP.st (fun _ q => XS.pop W.here W.hx rfl (hb W.hby hd) rfl hc q) w
theorem k_dupX1 (W : WS p l e R s m args below meth c Z a0 EL nw n0 y code maxL ret T h sf cells slots) {x z : Value} (d : D code pc (.dup_x1) 1 pc')  (hc : x.category = 1) (hc' : z.category = 1) (w : WP p e below Φ T (mkF m pc' L (x :: z :: x :: S))) : WP p e below Φ T (mkF m pc L (x :: z :: S)) := by
  obtain ⟨hd, rfl⟩ := d
  exact WP.st (fun _ q => XS.dupX1 W.here W.hx rfl (hb W.hby hd) rfl hc hc' q) w
theorem k_dup2 (W : WS p l e R s m args below meth c Z a0 EL nw n0 y code maxL ret T h sf cells slots) {x z : Value} (d : D code pc (.dup2) 1 pc')  (hc : x.category = 1) (hc' : z.category = 1) (w : WP p e below Φ T (mkF m pc' L (x :: z :: x :: z :: S))) : WP p e below Φ T (mkF m pc L (x :: z :: S)) := by
  obtain ⟨hd, rfl⟩ := d
  exact WP.st (fun _ q => XT.dup2 W.here W.hx rfl (hb W.hby hd) rfl hc hc' q) w
theorem k_dup2L (W : WS p l e R s m args below meth c Z a0 EL nw n0 y code maxL ret T h sf cells slots) {x : Int64} (d : D code pc (.dup2) 1 pc')  (w : WP p e below Φ T (mkF m pc' L (.long x :: .long x :: S))) : WP p e below Φ T (mkF m pc L (.long x :: S)) := by
  obtain ⟨hd, rfl⟩ := d
  exact WP.st (fun _ q => XT.dup2L W.here W.hx rfl (hb W.hby hd) rfl q) w
theorem k_iinc (W : WS p l e R s m args below meth c Z a0 EL nw n0 y code maxL ret T h sf cells slots) {k : Nat} {cst : Int} {x z : Int32} {L' : Array Slot} (d : D code pc (.iinc k cst) 3 pc')     (hl : L[k]? = some (.val (.int x))) (hz : x + Int32.ofInt cst = z) (hl' : storeLocals L k (.int z) = some L') (w : WP p e below Φ T (mkF m pc' L' (S))) : WP p e below Φ T (mkF m pc L (S)) := by
  obtain ⟨hd, rfl⟩ := d
  exact WP.st (fun _ q => XS.iinc W.here W.hx rfl (hb W.hby hd) hl (by rw [hz]; exact hl') q) w
theorem k_goto (W : WS p l e R s m args below meth c Z a0 EL nw n0 y code maxL ret T h sf cells slots) {o : Int} (pc1 : Nat) (d : D code pc (.goto o) 3 pc') (ho : 0 ≤ (pc : Int) + o ∧ ((pc : Int) + o).toNat = pc1) (w : WP p e below Φ T (mkF m pc1 L S)) : WP p e below Φ T (mkF m pc L S) := by
  obtain ⟨hd, rfl⟩ := d
  exact WP.st (fun _ q => XS.goto W.here W.hx rfl (pc0 := pc) (pc' := pc1) rfl (hb W.hby hd) ho.1 ho.2 q) w
def icP : ClassFile.Cond → Int32 → Prop
  | .eq, x => x = 0
  | .ne, x => ¬ x = 0
  | .lt, x => x < 0
  | .ge, x => ¬ x < 0
  | .gt, x => 0 < x
  | .le, x => ¬ 0 < x
def ic2 : ClassFile.Cond → Int32 → Int32 → Prop
  | .eq, x, y => x = y
  | .ne, x, y => ¬ x = y
  | .lt, x, y => x < y
  | .ge, x, y => ¬ x < y
  | .gt, x, y => y < x
  | .le, x, y => ¬ y < x
theorem icP_iff (cd : ClassFile.Cond) (x : Int32) : ifCond.holds cd x = true ↔ icP cd x := by
  cases cd <;> simp [ifCond.holds, icP, Int32.not_lt, Int32.not_le]
theorem ic2_iff (cd : ClassFile.Cond) (x y : Int32) : if_icmp.holds cd x y = true ↔ ic2 cd x y := by
  cases cd <;> simp [if_icmp.holds, ic2, Int32.not_lt, Int32.not_le]
theorem k_ifY (W : WS p l e R s m args below meth c Z a0 EL nw n0 y code maxL ret T h sf cells slots) {cd : ClassFile.Cond} {x : Int32} {o : Int} (pc1 : Nat) (d : D code pc (.ifCond cd o) 3 pc') (ho : 0 ≤ (pc : Int) + o ∧ ((pc : Int) + o).toNat = pc1) (hc : icP cd x) (w : WP p e below Φ T (mkF m pc1 L S)) : WP p e below Φ T (mkF m pc L (.int x :: S)) := by
  obtain ⟨hd, rfl⟩ := d
  exact WP.st (fun _ q => XS.ifYes W.here W.hx rfl (pc0 := pc) (pc' := pc1) rfl (hb W.hby hd) rfl ((icP_iff _ _).mpr hc) ho.1 ho.2 q) w
theorem k_ifN (W : WS p l e R s m args below meth c Z a0 EL nw n0 y code maxL ret T h sf cells slots) {cd : ClassFile.Cond} {x : Int32} {o : Int} (d : D code pc (.ifCond cd o) 3 pc') (hc : ¬ icP cd x) (w : WP p e below Φ T (mkF m pc' L S)) : WP p e below Φ T (mkF m pc L (.int x :: S)) := by
  obtain ⟨hd, rfl⟩ := d
  exact WP.st (fun _ q => XS.ifNo W.here W.hx rfl (hb W.hby hd) rfl (by cases hh : ifCond.holds cd x with | false => rfl | true => exact absurd ((icP_iff _ _).mp hh) hc) q) w
theorem k_if (W : WS p l e R s m args below meth c Z a0 EL nw n0 y code maxL ret T h sf cells slots) {cd : ClassFile.Cond} {x : Int32} {o : Int} (pc1 : Nat) (d : D code pc (.ifCond cd o) 3 pc') (ho : 0 ≤ (pc : Int) + o ∧ ((pc : Int) + o).toNat = pc1) (w1 : icP cd x → WP p e below Φ T (mkF m pc1 L S)) (w2 : ¬ icP cd x → WP p e below Φ T (mkF m pc' L S)) : WP p e below Φ T (mkF m pc L (.int x :: S)) := by
  by_cases q : icP cd x
  · exact k_ifY W pc1 d ho q (w1 q)
  · exact k_ifN W d q (w2 q)
theorem k_icY (W : WS p l e R s m args below meth c Z a0 EL nw n0 y code maxL ret T h sf cells slots) {cd : ClassFile.Cond} {x z : Int32} {o : Int} (pc1 : Nat) (d : D code pc (.if_icmp cd o) 3 pc') (ho : 0 ≤ (pc : Int) + o ∧ ((pc : Int) + o).toNat = pc1) (hc : ic2 cd x z) (w : WP p e below Φ T (mkF m pc1 L S)) : WP p e below Φ T (mkF m pc L (.int z :: .int x :: S)) := by
  obtain ⟨hd, rfl⟩ := d
  exact WP.st (fun _ q => XS.icmpYes W.here W.hx rfl (pc0 := pc) (pc' := pc1) rfl (hb W.hby hd) rfl ((ic2_iff _ _ _).mpr hc) ho.1 ho.2 q) w
theorem k_icN (W : WS p l e R s m args below meth c Z a0 EL nw n0 y code maxL ret T h sf cells slots) {cd : ClassFile.Cond} {x z : Int32} {o : Int} (d : D code pc (.if_icmp cd o) 3 pc') (hc : ¬ ic2 cd x z) (w : WP p e below Φ T (mkF m pc' L S)) : WP p e below Φ T (mkF m pc L (.int z :: .int x :: S)) := by
  obtain ⟨hd, rfl⟩ := d
  exact WP.st (fun _ q => XS.icmpNo W.here W.hx rfl (hb W.hby hd) rfl (by cases hh : if_icmp.holds cd x z with | false => rfl | true => exact absurd ((ic2_iff _ _ _).mp hh) hc) q) w
theorem k_ic (W : WS p l e R s m args below meth c Z a0 EL nw n0 y code maxL ret T h sf cells slots) {cd : ClassFile.Cond} {x z : Int32} {o : Int} (pc1 : Nat) (d : D code pc (.if_icmp cd o) 3 pc') (ho : 0 ≤ (pc : Int) + o ∧ ((pc : Int) + o).toNat = pc1) (w1 : ic2 cd x z → WP p e below Φ T (mkF m pc1 L S)) (w2 : ¬ ic2 cd x z → WP p e below Φ T (mkF m pc' L S)) : WP p e below Φ T (mkF m pc L (.int z :: .int x :: S)) := by
  by_cases q : ic2 cd x z
  · exact k_icY W pc1 d ho q (w1 q)
  · exact k_icN W d q (w2 q)
theorem k_nullY (W : WS p l e R s m args below meth c Z a0 EL nw n0 y code maxL ret T h sf cells slots) {o : Int} (pc1 : Nat) (d : D code pc (.ifnull o) 3 pc') (ho : 0 ≤ (pc : Int) + o ∧ ((pc : Int) + o).toNat = pc1) (w : WP p e below Φ T (mkF m pc1 L S)) : WP p e below Φ T (mkF m pc L (.null :: S)) := by
  obtain ⟨hd, rfl⟩ := d
  exact WP.st (fun _ q => XS.ifnullYes W.here W.hx rfl (pc0 := pc) (pc' := pc1) rfl (hb W.hby hd) rfl ho.1 ho.2 q) w
theorem k_nullN (W : WS p l e R s m args below meth c Z a0 EL nw n0 y code maxL ret T h sf cells slots) {o : Int} {b : Addr} (d : D code pc (.ifnull o) 3 pc') (w : WP p e below Φ T (mkF m pc' L S)) : WP p e below Φ T (mkF m pc L (.ref b :: S)) := by
  obtain ⟨hd, rfl⟩ := d
  exact WP.st (fun _ q => XS.ifnullNo W.here W.hx rfl (hb W.hby hd) rfl q) w
theorem k_nnY (W : WS p l e R s m args below meth c Z a0 EL nw n0 y code maxL ret T h sf cells slots) {o : Int} {b : Addr} (pc1 : Nat) (d : D code pc (.ifnonnull o) 3 pc') (ho : 0 ≤ (pc : Int) + o ∧ ((pc : Int) + o).toNat = pc1) (w : WP p e below Φ T (mkF m pc1 L S)) : WP p e below Φ T (mkF m pc L (.ref b :: S)) := by
  obtain ⟨hd, rfl⟩ := d
  exact WP.st (fun _ q => XS.ifnonnullYes W.here W.hx rfl (pc0 := pc) (pc' := pc1) rfl (hb W.hby hd) rfl ho.1 ho.2 q) w
theorem k_nnN (W : WS p l e R s m args below meth c Z a0 EL nw n0 y code maxL ret T h sf cells slots) {o : Int} (d : D code pc (.ifnonnull o) 3 pc') (w : WP p e below Φ T (mkF m pc' L S)) : WP p e below Φ T (mkF m pc L (.null :: S)) := by
  obtain ⟨hd, rfl⟩ := d
  exact WP.st (fun _ q => XS.ifnonnullNo W.here W.hx rfl (hb W.hby hd) rfl q) w
def acP : ACond → Value → Value → Prop
  | .eq, x, y => x = y
  | .ne, x, y => ¬ x = y
theorem k_acY (W : WS p l e R s m args below meth c Z a0 EL nw n0 y code maxL ret T h sf cells slots) {cd : ACond} {x z : Value} {o : Int} (pc1 : Nat) (d : D code pc (.if_acmp cd o) 3 pc') (h1 : x.isRef = true) (h2 : z.isRef = true) (ho : 0 ≤ (pc : Int) + o ∧ ((pc : Int) + o).toNat = pc1) (hc : acP cd x z) (w : WP p e below Φ T (mkF m pc1 L S)) : WP p e below Φ T (mkF m pc L (z :: x :: S)) := by
  obtain ⟨hd, rfl⟩ := d
  obtain ⟨locs, X, -⟩ := id W
  cases cd
  · exact WP.st (fun _ q => Jvm.RoadKit.acmp X W.hx rfl h1 h2 (pc0 := pc) (pc' := pc1) (same := true) rfl (hb W.hby hd) rfl (decide_eq_true hc) ho.1 (by simp [acV, ho.2]) q) w
  · exact WP.st (fun _ q => Jvm.RoadKit.acmp X W.hx rfl h1 h2 (pc0 := pc) (pc' := pc1) (same := false) rfl (hb W.hby hd) rfl (decide_eq_false hc) ho.1 (by simp [acV, ho.2]) q) w
theorem k_acN (W : WS p l e R s m args below meth c Z a0 EL nw n0 y code maxL ret T h sf cells slots) {cd : ACond} {x z : Value} {o : Int} (d : D code pc (.if_acmp cd o) 3 pc') (h1 : x.isRef = true) (h2 : z.isRef = true) (ho : 0 ≤ (pc : Int) + o) (hc : ¬ acP cd x z) (w : WP p e below Φ T (mkF m pc' L S)) : WP p e below Φ T (mkF m pc L (z :: x :: S)) := by
  obtain ⟨hd, rfl⟩ := d
  obtain ⟨locs, X, -⟩ := id W
  cases cd
  · exact WP.st (fun _ q => Jvm.RoadKit.acmp X W.hx rfl h1 h2 (pc0 := pc) (pc' := pc + 3) (same := false) rfl (hb W.hby hd) rfl (decide_eq_false hc) ho (by simp [acV]) q) w
  · exact WP.st (fun _ q => Jvm.RoadKit.acmp X W.hx rfl h1 h2 (pc0 := pc) (pc' := pc + 3) (same := true) rfl (hb W.hby hd) rfl (decide_eq_true (Classical.not_not.mp hc)) ho (by simp [acV]) q) w
end Base

/-! ## small facts on numbers -/
abbrev i2c (x : Int32) : Int32 := x.toUInt32.toUInt16.toUInt32.toInt32
abbrev i2b (x : Int32) : Int32 := x.toInt8.toInt32
abbrev Rg (x : Int32) (n : Int) : Prop := 0 ≤ x.toInt ∧ x.toInt < n
theorem Rg.mono {x : Int32} {n k : Int} (q : Rg x n) (h : n ≤ k) : Rg x k := ⟨q.1, Int.lt_of_lt_of_le q.2 h⟩
theorem toInt_and_nonneg (x m : Int32) (hm : 0 ≤ m.toInt) : 0 ≤ (x &&& m).toInt ∧ (x &&& m).toInt ≤ m.toInt := by
  have e1 : (x &&& m).toBitVec = x.toBitVec &&& m.toBitVec := rfl
  have h1 : m.toInt = m.toBitVec.toNat := by
    have : m.toInt = m.toBitVec.toInt := rfl
    rw [this] at hm ⊢
    rw [BitVec.toInt_eq_toNat_cond] at hm ⊢
    split at hm <;> split <;> omega
  have h2 : (x.toBitVec &&& m.toBitVec).toNat ≤ m.toBitVec.toNat := by rw [BitVec.toNat_and]; exact Nat.and_le_right
  have hm2 : 2 * m.toBitVec.toNat < 2 ^ 32 := by
    have : m.toInt < 2 ^ 31 := Int32.toInt_lt m
    omega
  have h3 : (x &&& m).toInt = (x.toBitVec &&& m.toBitVec).toNat := by
    show (x.toBitVec &&& m.toBitVec).toInt = _
    rw [BitVec.toInt_eq_toNat_cond, if_pos (by omega)]
  rw [h3, h1]; omega
theorem Rg.and (x m : Int32) {n : Int} (hm : 0 ≤ m.toInt ∧ m.toInt < n) : Rg (x &&& m) n := by
  have := toInt_and_nonneg x m hm.1; exact ⟨this.1, by omega⟩
theorem toInt_i2c (x : Int32) : (i2c x).toInt = x.toBitVec.toNat % 65536 := by
  have h : (i2c x).toBitVec = (x.toBitVec.setWidth 16).setWidth 32 := rfl
  show (i2c x).toBitVec.toInt = _
  rw [h, BitVec.toInt_eq_toNat_cond, BitVec.toNat_setWidth, BitVec.toNat_setWidth]
  have : x.toBitVec.toNat % 2 ^ 16 < 2 ^ 16 := Nat.mod_lt _ (by decide)
  rw [Nat.mod_eq_of_lt (a := x.toBitVec.toNat % 2 ^ 16) (by omega), if_pos (by omega)]
  rfl
theorem rg_i2c (x : Int32) : Rg (i2c x) 65536 := by rw [Rg, toInt_i2c]; omega
theorem natOf {x : Int32} (q : 0 ≤ x.toInt) : (x.toBitVec.toNat : Int) = x.toInt := by
  have : x.toInt = x.toBitVec.toInt := rfl
  rw [this] at q ⊢
  rw [BitVec.toInt_eq_toNat_cond] at q ⊢
  split at q <;> split <;> omega
theorem Rg.c {x : Int32} (q : Rg x 65536) : i2c x = x := by
  apply Int32.toInt_inj.mp
  have := natOf q.1; rw [toInt_i2c]; have h2 := q.2; omega
theorem Rg.nar {x : Int32} (q : Rg x 65536) : nar .char x = x := q.c
theorem Rg.fits {x : Int32} (q : Rg x 65536) : fits .char (.int x) = true := by
  have h0 : (0 : Int32) ≤ x := Int32.le_iff_toInt_le.mpr q.1
  have h1 : x ≤ 65535 := Int32.le_iff_toInt_le.mpr (by have := q.2; have e : (65535 : Int32).toInt = 65535 := by decide
                                                       omega)
  simp [Jvm.fits, h0, h1]
theorem Rg.le255 {x : Int32} (q : Rg x 256) : ¬ 255 < x := by rw [Int32.lt_iff_toInt_lt]; have := q.2; have h : (255 : Int32).toInt = 255 := by decide
                                                              omega
theorem nar_i2b (x : Int32) : nar .byte (i2b x) = i2b x := by simp [nar, i2b]
theorem fits_i2b (x : Int32) : Jvm.fits .byte (.int (i2b x)) = true := by
  have e : (i2b x).toInt = x.toInt8.toInt := Int8.toInt_toInt32 _
  have h0 : (-128 : Int32) ≤ i2b x := Int32.le_iff_toInt_le.mpr (by rw [e]; exact Int8.le_toInt _)
  have h1 : i2b x ≤ 127 := Int32.le_iff_toInt_le.mpr (by rw [e]; exact Int8.toInt_le _)
  simp [Jvm.fits, h0, h1]
theorem shr0 (x : Int32) : x >>> ((0 : Int32) &&& 31) = x := by
  have : ((0 : Int32) &&& 31) = 0 := by decide
  rw [this]; simp
theorem Rg.fin {x : Int32} (q : Rg x 256) : ∃ k : Fin 256, x = Int32.ofNat k.val := by
  obtain ⟨h1, h2⟩ := q
  obtain ⟨n, hn⟩ : ∃ n : Nat, x.toInt = n := ⟨x.toInt.toNat, (Int.toNat_of_nonneg h1).symm⟩
  refine ⟨⟨n, by omega⟩, ?_⟩
  apply Int32.toInt_inj.mp
  rw [Int32.toInt_ofNat_of_lt (by simp; omega), hn]
theorem lo_all : ∀ k : Fin 256, (i2b (Int32.ofNat k.val)) &&& 255 = Int32.ofNat k.val := by decide +kernel
theorem lo_i2b {x : Int32} (q : Rg x 256) : (i2b x) &&& 255 = x := by
  obtain ⟨k, rfl⟩ := q.fin; exact lo_all k
theorem i2b_inj {x y : Int32} (q : Rg x 256) (r : Rg y 256) (h : i2b x = i2b y) : x = y := by
  rw [← lo_i2b q, ← lo_i2b r, h]
theorem Rg.mod {x k : Int32} {n : Int} (q : Rg x n) (hk : 0 < k.toInt) : Rg (x % k) k.toInt := by
  have h : (x % k).toInt = x.toInt.tmod k.toInt := Int32.toInt_mod _ _
  rw [Rg, h]
  have h1 := q.1
  rw [Int.tmod_eq_emod_of_nonneg h1]
  exact ⟨Int.emod_nonneg _ (by omega), Int.emod_lt_of_pos _ hk⟩
theorem Rg.add {x y : Int32} {n k : Int} (q : Rg x n) (r : Rg y k) (h : n + k ≤ 2147483648) : Rg (x + y) (n + k - 1) := by
  have e : (x + y).toInt = x.toInt + y.toInt := by
    rw [Int32.toInt_add]
    have h1 := q.1; have h2 := q.2; have h3 := r.1; have h4 := r.2
    rw [Int.bmod_eq_of_le (by omega) (by omega)]
  rw [Rg, e]
  have h1 := q.1; have h2 := q.2; have h3 := r.1; have h4 := r.2
  omega
theorem toInt_land_nonneg (x m : Int64) (hm : 0 ≤ m.toInt) : 0 ≤ (x &&& m).toInt ∧ (x &&& m).toInt ≤ m.toInt := by
  have h1 : m.toInt = m.toBitVec.toNat := by
    have : m.toInt = m.toBitVec.toInt := rfl
    rw [this] at hm ⊢
    rw [BitVec.toInt_eq_toNat_cond] at hm ⊢
    split at hm <;> split <;> omega
  have h2 : (x.toBitVec &&& m.toBitVec).toNat ≤ m.toBitVec.toNat := by rw [BitVec.toNat_and]; exact Nat.and_le_right
  have hm2 : 2 * m.toBitVec.toNat < 2 ^ 64 := by
    have : m.toInt < 2 ^ 63 := Int64.toInt_lt m
    omega
  have h3 : (x &&& m).toInt = (x.toBitVec &&& m.toBitVec).toNat := by
    show (x.toBitVec &&& m.toBitVec).toInt = _
    rw [BitVec.toInt_eq_toNat_cond, if_pos (by omega)]
  rw [h3, h1]; omega
theorem lrem_rg {x y : Int64} (hx : 0 ≤ x.toInt) (hy : 0 < y.toInt) : 0 ≤ (x - x / y * y).toInt ∧ (x - x / y * y).toInt < y.toInt := by
  have hxl : x.toInt < 2 ^ 63 := Int64.toInt_lt x
  have hyl : y.toInt < 2 ^ 63 := Int64.toInt_lt y
  have e0 : x.toInt.tdiv y.toInt = x.toInt / y.toInt := Int.tdiv_eq_ediv_of_nonneg hx
  have d0 : 0 ≤ x.toInt / y.toInt := Int.ediv_nonneg hx (by omega)
  have d1 : x.toInt / y.toInt ≤ x.toInt := Int.ediv_le_self _ hx
  have e1 : (x / y).toInt = x.toInt / y.toInt := by rw [Int64.toInt_div, e0, Int.bmod_eq_of_le (by omega) (by omega)]
  have d2 : x.toInt / y.toInt * y.toInt ≤ x.toInt := Int.ediv_mul_le _ (by omega)
  have d3 : 0 ≤ x.toInt / y.toInt * y.toInt := Int.mul_nonneg d0 (by omega)
  have e2 : (x / y * y).toInt = x.toInt / y.toInt * y.toInt := by rw [Int64.toInt_mul, e1, Int.bmod_eq_of_le (by omega) (by omega)]
  have e3 : (x - x / y * y).toInt = x.toInt - x.toInt / y.toInt * y.toInt := by rw [Int64.toInt_sub, e2, Int.bmod_eq_of_le (by omega) (by omega)]
  have e4 : x.toInt % y.toInt = x.toInt - x.toInt / y.toInt * y.toInt := by
    have := Int.emod_add_mul_ediv x.toInt y.toInt; rw [Int.mul_comm] at this; omega
  rw [e3, ← e4]
  exact ⟨Int.emod_nonneg _ (by omega), Int.emod_lt_of_pos _ hy⟩
theorem cmpL_eq {x y : Int64} : XT.cmpL x y = 0 ↔ x = y := by
  unfold XT.cmpL; split
  · rename_i h; constructor
    · intro q; exact absurd q (by decide)
    · intro q; subst q; exact absurd h (Int64.lt_irrefl)
  · split <;> simp_all
theorem cmpL_lt {x y : Int64} : XT.cmpL x y < 0 ↔ x < y := by
  unfold XT.cmpL; split
  · rename_i h; constructor
    · intro q; exact absurd q (by decide)
    · intro q; rw [Int64.lt_iff_toInt_lt] at h q; omega
  · rename_i h; split
    · rename_i h2; subst h2; simp
    · rename_i h2; constructor
      · intro _; rw [Int64.lt_iff_toInt_lt] at h ⊢; have : x.toInt ≠ y.toInt := fun q => h2 (Int64.toInt_inj.mp q); omega
      · intro _; decide
theorem cmpL_gt {x y : Int64} : 0 < XT.cmpL x y ↔ y < x := by
  unfold XT.cmpL; split
  · rename_i h; constructor
    · intro _; exact h
    · intro _; decide
  · rename_i h; split
    · constructor
      · intro q; exact absurd q (by decide)
      · intro q; exact absurd q h
    · constructor
      · intro q; exact absurd q (by decide)
      · intro q; exact absurd q h
theorem bit01 {x : Int32} (q : Rg x 2) : x = 0 ∨ x = 1 := by
  have h1 := q.1; have h2 := q.2
  rcases (by omega : x.toInt = 0 ∨ x.toInt = 1) with h | h
  · exact Or.inl (Int32.toInt_inj.mp (h.trans (by decide)))
  · exact Or.inr (Int32.toInt_inj.mp (h.trans (by decide)))
theorem toInt_of {i : Nat} (h : i < 2147483648) : (Int32.ofNat i).toInt = i := Int32.toInt_ofNat_of_lt (by simpa using h)
theorem ix_of {i : Nat} (h : i < 2147483648) : ¬ Int32.ofNat i < 0 ∧ (Int32.ofNat i).toNatClampNeg = i := by
  refine ⟨?_, ?_⟩
  · rw [Int32.lt_iff_toInt_lt, toInt_of h]; simp
  · unfold Int32.toNatClampNeg; rw [toInt_of h]; rfl
theorem of_lt {i n : Nat} (h : i < n) (hn : n < 2147483648) : Int32.ofNat i < Int32.ofNat n := by
  rw [Int32.lt_iff_toInt_lt, toInt_of hn, toInt_of (by omega)]; omega
theorem of_ge {i n : Nat} (h : n ≤ i) (hn : i < 2147483648) : ¬ Int32.ofNat i < Int32.ofNat n := by
  rw [Int32.lt_iff_toInt_lt, toInt_of hn, toInt_of (by omega)]; omega
theorem of_sub {i n : Nat} (h : n ≤ i) (hi : i < 2147483648) : ¬ Int32.ofNat i - Int32.ofNat n < 0 := by
  have e : Int32.ofNat i - Int32.ofNat n = Int32.ofNat (i - n) := by
    apply Int32.toInt_inj.mp
    rw [Int32.toInt_sub, toInt_of hi, toInt_of (i := n) (by omega), toInt_of (i := i - n) (by omega), Int.bmod_eq_of_le (by omega) (by omega)]; omega
  rw [e]; exact (ix_of (by omega)).1
theorem of_subn {i n : Nat} (h : n ≤ i) : Int32.ofNat i - Int32.ofNat n = Int32.ofNat (i - n) := by
  have e : Int32.ofNat i = Int32.ofNat (i - n) + Int32.ofNat n := by rw [← Int32.ofNat_add, Nat.sub_add_cancel h]
  rw [e, Int32.add_sub_cancel]
theorem of_addn (i n : Nat) : Int32.ofNat i + Int32.ofNat n = Int32.ofNat (i + n) := (Int32.ofNat_add i n).symm
theorem lt_as {x y : Int32} (h : ¬ x < y) (q : ¬ y < x) : x = y := by
  rw [Int32.lt_iff_toInt_lt] at h q; exact Int32.toInt_inj.mp (by omega)
theorem acp0 {bs : List Int32} {ud : List Value} {i n : Nat} (h : ud.length = n) : ud.take 0 ++ ((bs.map Value.int).drop i).take n ++ ud.drop (0 + n) = ((bs.drop i).take n).map Value.int := by
  rw [List.take_zero, List.nil_append, Nat.zero_add, List.drop_eq_nil_of_le (as := ud) (by omega), List.append_nil, List.map_take, List.map_drop]
theorem take_dropL (bs : List Int32) (i : Nat) : (bs.drop i).take (bs.length - i) = bs.drop i := List.take_of_length_le (by rw [List.length_drop]; exact Nat.le_refl _)
theorem allM {P : Int32 → Prop} {x : Int32} {L : List Int32} (q : P x) (r : ∀ z ∈ L, P z) : ∀ z ∈ x :: L, P z := fun z hz => (List.mem_cons.mp hz).elim (fun e => e ▸ q) (r z)
theorem of_inj {i n : Nat} (hi : i < 2147483648) (hn : n < 2147483648) (h : Int32.ofNat i = Int32.ofNat n) : i = n := by
  have := congrArg Int32.toInt h; rw [toInt_of hi, toInt_of hn] at this; omega
theorem subne {i e n : Nat} (hi : i < 2147483648) (he : e < 2147483648) (hn : n < 2147483648) (h : i ≠ 0 ∨ e ≠ n) (q : ¬ ¬ Int32.ofNat i = 0) : ¬ Int32.ofNat e = Int32.ofNat n := fun u => by
  have h1 : i = 0 := of_inj hi (by decide) (Classical.not_not.mp q)
  have h2 := of_inj he hn u
  rcases h with h | h
  · exact h h1
  · exact h h2
theorem of_ne0 {n : Nat} (h : 0 < n) (hn : n < 2147483648) : ¬ Int32.ofNat n = 0 := fun q => by
  have h1 := congrArg Int32.toInt q; rw [toInt_of hn] at h1
  have h2 : (0 : Int32).toInt = 0 := by decide
  omega
theorem cmp_step {cs : List Int32} {vs : List Value} {i : Nat} {ci : Int32} (hci : cs[i]? = some ci) (hl : vs.length = cs.length) : (((cs.take i).map i2b).map Value.int ++ vs.drop i).set i (.int (i2b ci)) = ((cs.take (i + 1)).map i2b).map Value.int ++ vs.drop (i + 1) := by
  have h0 : i < cs.length := (List.getElem?_eq_some_iff.mp hci).1
  have h1 : (((cs.take i).map i2b).map Value.int).length = i := by simp; omega
  have h2 : i < vs.length := by omega
  rw [List.set_append_right _ _ (by omega), h1, Nat.sub_self, List.drop_eq_getElem_cons h2, List.set_cons_zero, List.take_add_one, hci]
  simp
theorem le7 {n : Nat} (h : n ≤ 7) : ¬ (7 : Int32) < Int32.ofNat n := by
  have h7 : (7 : Int32) = Int32.ofNat 7 := rfl
  rw [h7]; exact of_ge h (by decide)
theorem of_succ (i : Nat) : Int32.ofNat i + Int32.ofInt 1 = Int32.ofNat (i + 1) := by
  rw [Int32.ofNat_add]; rfl
theorem rgS {x : Int32} {L : List Int32} {n : Int} (q : Rg x n) (r : ∀ c ∈ L, Rg c n) : ∀ c ∈ x :: L, Rg c n := fun c hc => (List.mem_cons.mp hc).elim (fun e => e ▸ q) (r c)
theorem cat_ref {v : Value} (h : v.isRef = true) : v.category = 1 := by cases v <;> simp_all [Value.isRef, Value.category]
theorem cat_i (x : Int32) : (Value.int x).category = 1 := rfl
theorem cat_l (x : Int64) : (Value.long x).category = 2 := rfl
theorem cat_r (x : Addr) : (Value.ref x).category = 1 := rfl
theorem cat_n : Value.null.category = 1 := rfl
theorem nar_refv {t : FieldType} {v : Value} (h : v.isRef = true) (ht : t.isReference = true) : narrow t v = v := by cases t <;> simp_all [narrow, FieldType.isReference]
theorem fits_refv {t : FieldType} {v : Value} (h : v.isRef = true) (ht : t.isReference = true) : Jvm.fits t v = true := by cases t <;> cases v <;> simp_all [Jvm.fits, Value.isRef, FieldType.isReference]

/-! ## what is known of a heap -/
section Facts
variable {Z : State} {h h' : Heap} {a b : Addr} {ty : FieldType} {vs : List Value} {ws : List Addr} {C : String}
def Av (Z : State) (h : Heap) (a : Addr) (ty : FieldType) (vs : List Value) : Prop :=
  ∃ c : Cell, Arr Z h a c ty ∧ c.slots.toList = vs ∧ vs.length < 2147483648 ∧ ∀ v ∈ vs, fits ty v = true
theorem Av.lt (F : Av Z h a ty vs) : a < h.size := by obtain ⟨c, A, -⟩ := F; exact A.lt
theorem Av.keep (F : Av Z h a ty vs) (K : Keep h h' ws) (q : a ∉ ws) : Av Z h' a ty vs := by obtain ⟨c, A, r⟩ := F; exact ⟨c, ⟨K.2.1 a c A.1 q, A.2⟩, r⟩
theorem Av.len (F : Av Z h a ty vs) : vs.length < 2147483648 := F.choose_spec.2.2.1
theorem fits_default (ty : FieldType) : fits ty (defaultValue ty) = true := by cases ty <;> simp [fits, defaultValue]
theorem Av.new {k : ClassId} {z : Int32} (A : Arr Z h a (newA k ty z) ty) (n : Nat) (q : z.toNatClampNeg = n) : Av Z h a ty (List.replicate n (defaultValue ty)) := by
  refine ⟨_, A, by simp [newA, q], ?_, fun v hv => ?_⟩
  · rw [List.length_replicate, ← q]; have := Int32.toInt_lt z; unfold Int32.toNatClampNeg; omega
  · rw [List.eq_of_mem_replicate hv]; exact fits_default ty
theorem Av.set {j : Nat} {v : Value} (F : Av Z h a ty vs) (W : Wr h h' a j v) (hv : fits ty v = true) : Av Z h' a ty (vs.set j v) := by
  obtain ⟨c, A, r1, r2, r3⟩ := F
  refine ⟨c.setSlot j v, A.same W, by simp [Cell.setSlot, r1], by simpa using r2, fun u hu => ?_⟩
  rcases List.mem_or_eq_of_mem_set hu with q | q
  · exact r3 u q
  · rw [q]; exact hv
theorem Av.arv (F : Av Z h a ty vs) (d : Value) : ∃ k, Arv Z h a k ty (Int32.ofNat vs.length) vs d := by
  obtain ⟨c, A, r1, r2, r3⟩ := F
  have hs : c.slots.size = vs.length := by rw [← r1]; simp
  have hx := ix_of r2
  refine ⟨c.cls, c, A, rfl, by rw [hx.2, hs], hx.1, fun k hk => ?_, fun i hi => ?_⟩
  · rw [← Array.getElem?_toList, r1, List.getD_eq_getElem?_getD, List.getElem?_eq_getElem (by omega)]; rfl
  · rw [List.getD_eq_getElem?_getD, List.getElem?_eq_getElem (by omega)]; exact r3 _ (List.getElem_mem _)
theorem Av.fitc {c : Cell} (A : Arr Z h a c ty) (r1 : c.slots.toList = vs) (r3 : ∀ v ∈ vs, fits ty v = true) : FitC Z c := fun i v hv => by
  obtain ⟨-, k, hk, comp, hkind⟩ := A.2.1
  have : v ∈ vs := by rw [← r1]; exact List.mem_of_getElem? (i := i) (by rw [Array.getElem?_toList]; exact hv)
  simp [State.fitsSlot, State.slotType?, hk, hkind, r3 v this]
theorem Av.of_arv {k : ClassId} {z : Int32} {d : Value} (F : Arv Z h a k ty z vs d) (q : z.toNatClampNeg = vs.length) : Av Z h a ty vs := by
  obtain ⟨c, A, -, r1, r2, H, G⟩ := F
  have e : c.slots.toList = vs := by
    apply List.ext_getElem?; intro i
    by_cases hi : i < c.slots.size
    · have := H i hi
      rw [Array.getElem?_toList, this, List.getD_eq_getElem?_getD]
      have hv : i < vs.length := by omega
      simp [hv]
    · rw [Array.getElem?_toList, Array.getElem?_eq_none (by omega), List.getElem?_eq_none (by omega)]
  refine ⟨c, A, e, ?_, fun v hv => ?_⟩
  · rw [← q]; have := Int32.toInt_lt z; unfold Int32.toNatClampNeg; omega
  · obtain ⟨i, hi, rfl⟩ := List.mem_iff_getElem.mp hv
    have := G i (by omega)
    rwa [List.getD_eq_getElem?_getD, List.getElem?_eq_getElem hi] at this
theorem keep_ext (E : Ext h h') (ws : List Addr) : Keep h h' ws := (Keep.refl h ws).ext E
theorem nin1 {x y : Addr} (q : x ≠ y) : x ∉ [y] := ninS q nin0
def AllExa (Z : State) (h : Heap) (C : String) (vs : List Value) : Prop := ∀ v ∈ vs, ∃ r, v = .ref r ∧ Exa Z h r C
theorem AllExa.keep (F : AllExa Z h C vs) (K : Keep h h' ws) : AllExa Z h' C vs := fun v hv => by obtain ⟨r, e, E⟩ := F v hv; exact ⟨r, e, E.keep K⟩
theorem Sta.keep {n d : String} {v : Value} (F : Sta Z h C n d v) (K : Keep h h' ws) (q : ∀ x ∈ ws, ∀ cell : Cell, h[x]? = some cell → cell.vm.isStatics = false) : Sta Z h' C n d v := by
  obtain ⟨cf, i, k, f, st, cell, h1, h2, h3, h4, h5, h6, h7⟩ := F
  exact ⟨cf, i, k, f, st, cell, h1, h2, h3, h4, K.2.1 _ _ h5 (fun hm => by have := q _ hm _ h5; rw [h6] at this; cases this), h6, h7⟩
theorem Av.plain (F : Av Z h a ty vs) : ∀ cell : Cell, h[a]? = some cell → cell.vm.isStatics = false := fun cell q => by
  obtain ⟨c, A, -⟩ := F; cases A.1.symm.trans q; exact Arr.plain A
theorem Exa.plain (F : Exa Z h a C) : ∀ cell : Cell, h[a]? = some cell → cell.vm.isStatics = false := fun cell q => by
  obtain ⟨c, _, h1, _, _, h4, _⟩ := F; cases h1.symm.trans q; exact h4
theorem ne_av {ty' : FieldType} {vs' : List Value} (F : Av Z h a ty vs) (G : Av Z h b ty' vs') (q : ty ≠ ty') : a ≠ b := fun e => by
  subst e
  obtain ⟨c, A, -⟩ := F; obtain ⟨c', A', -⟩ := G
  cases A.1.symm.trans A'.1
  obtain ⟨-, k, hk, comp, hkind⟩ := A.2.1
  obtain ⟨-, k', hk', comp', hkind'⟩ := A'.2.1
  cases hk.symm.trans hk'
  have := hkind.symm.trans hkind'
  injection this with _ e
  exact q e
theorem ne_len {vs' : List Value} (F : Av Z h a ty vs) (G : Av Z h b ty vs') (q : vs ≠ vs') : a ≠ b := fun e => by
  subst e
  obtain ⟨c, A, r, -⟩ := F; obtain ⟨c', A', r', -⟩ := G
  cases A.1.symm.trans A'.1
  exact q (r.symm.trans r')
theorem ne_exav {n : Nat} {a0 : Array Value} (E : Exa Z h a C) (w : (Cond.instantiable C n).before a0 Z = true) (F : Av Z h b ty vs) : a ≠ b := by
  obtain ⟨c, A, -⟩ := F; exact ne_arr E w A
/-- a String of Latin-1 bytes (as signed), its byte[] at b -/
def St (Z : State) (h : Heap) (a b : Addr) (bs : List Int32) : Prop :=
  Exa Z h a "java/lang/String" ∧ Fld Z h a "java/lang/String" "coder" "B" (.int 0) ∧ Fld Z h a "java/lang/String" "value" "[B" (.ref b) ∧ Av Z h b .byte (bs.map Value.int)
theorem St.keep {bs : List Int32} (F : St Z h a b bs) (K : Keep h h' ws) (q : a ∉ ws) (r : b ∉ ws) : St Z h' a b bs := ⟨F.1.keep K, F.2.1.keep K q, F.2.2.1.keep K q, F.2.2.2.keep K r⟩
end Facts

/-! ## a body's entry and its ends -/
section Ends
variable {p : Program} {l : Launch} {e : Env} {R : Room} {s : State} {m : MethodId} {args : Array Value} {below : List Frame} {meth : Method} {c : Code} {Z : State} {EL : List (String × Nat)} {nw : Bool} {n0 : Nat} {y : MethodName} {code : ByteArray} {maxL : Nat} {ret : Option FieldType} {T : State} {h : Heap} {sf : List Addr} {cells slots : Nat} {Φ : Outcome → State → Prop} {a0 : Array Value} {pc pc' : Nat} {L : Array Slot} {S : List Value} {rm : Room} {Q : Option Value → Heap → List Addr → Prop}
theorem Ct.body {as' : Array Value} (hp : plainFor y = true)
    (body : ∀ p e s m below meth c s₁, WS p l e rm s m as' below meth c Z a0 EL nw n0 y code maxL ret s₁ h sf 0 0 → WP p e below (Fne s n0 Z EL nw rm Q) s₁ (entryFrame m as' maxL)) : Ct l Z a0 EL nw y code maxL ret rm as' h sf n0 Q := by
  intro ws
  refine MetFree.of_bodySF hp hisR ?_
  intro p e s m args below meth c s₁ Bd hml hP hK
  obtain ⟨rfl, hZ, hh, hC, hn, hE, hsf⟩ := hP
  have X0 : Stand p l e rm s m args below meth c s₁ [] 0 0 := Stand.of_body Bd
  have e0 : s₁.heap = h := by rw [← hh, Bd.state]; rfl
  have ev : s₁.vm = s.vm := by rw [Bd.state]; rfl
  have hs : s.heap = h := hh
  refine body p e s m below meth c s₁ ⟨[], X0.retabled X0.warmed.wide, e0, X0.warmed.since _, wtrans hZ X0.warmed, ?_, ?_, Fr.nil _, hn, ?_, hE, fun _ => X0.warmed, Bd.exec, Bd.bytes, Bd.returns, Bd.notSynchronized, hml, (name_of_methodNamed Bd.named Bd.method).1⟩
  · rw [ev]; exact findClass_of_methodNamed Bd.named
  · rw [ev, hs]; exact CHr.refl hC
  · rw [ev]; exact hsf
theorem WS.fin (W : WS p l e R s m args below meth c Z a0 EL nw n0 y code maxL ret T h sf cells slots) (so : List Addr) (hso : ∀ x ∈ so, x ∈ sf) {v : Option Value} (hv : meth.sig.returnType = none → v = none) (hc : cells ≤ rm.cells) (hs : slots ≤ rm.slots) (q : Q v h so) :
    ∃ fs, (∀ (f : JFrame) (acts : List Action), f.method = m → f.locked = none → f.entered = [] → (doReturn e (T.setTop f) acts v).1 = T.setFrames fs) ∧ (T.setFrames fs).status = .running ∧ Ended (T.setFrames fs) below (.returned v) ∧ Fne s n0 Z EL nw rm Q (.returned v) (T.setFrames fs) := by
  obtain ⟨locs, X, a1, a2, a3, a4, a5, a6, a7, a8, a9, aW, b1, b2, b3, b4, b5⟩ := W
  obtain ⟨fs, q1, q2, q3, q4⟩ := (X.mono hc hs).leaveW a2 (by rw [a1]; exact Nat.le_refl _) hv b4
  refine ⟨fs, q1, q2, q3, v, locs, so, rfl, ?_, a6, ?_, ?_, aW, q4⟩
  · show Q v T.heap so; rw [a1]; exact q
  · show CHr Z EL s.vm s.heap T.vm T.heap; rw [a1]; exact a5
  · show ∀ x ∈ so, n0 ≤ x ∧ x < T.heap.size ∧ Safe Z EL T.vm T.heap x; rw [a1]; exact fun x hx => a8 x (hso x hx)
theorem k_ret (W : WS p l e R s m args below meth c Z a0 EL nw n0 y code maxL ret T h sf cells slots) (d : D code pc .return_ 1 pc') (hr : ret = none) (so : List Addr) (hso : ∀ x ∈ so, x ∈ sf) (hc : cells ≤ rm.cells) (hs : slots ≤ rm.slots) (q : Q none h so) : WP p e below (Fne s n0 Z EL nw rm Q) T (mkF m pc L []) := by
  have hret : meth.sig.returnType = ret := by obtain ⟨_, _, _, _, _, _, _, _, _, _, _, _, _, _, q, -⟩ := W; exact q
  obtain ⟨fs, q1, q2, q3, q4⟩ := W.fin so hso (v := none) (fun _ => rfl) hc hs q
  obtain ⟨locs, X, -⟩ := id W
  exact ⟨_, _, X.returnOut W.hx (hret.trans hr) (W.hd d) q1, q2, q3, q4⟩
theorem k_ireturn (W : WS p l e R s m args below meth c Z a0 EL nw n0 y code maxL ret T h sf cells slots) {z : Int32} (d : D code pc .ireturn 1 pc') (hr : ret = some .int) (so : List Addr) (hso : ∀ x ∈ so, x ∈ sf) (hc : cells ≤ rm.cells) (hs : slots ≤ rm.slots) (q : Q (some (.int z)) h so) : WP p e below (Fne s n0 Z EL nw rm Q) T (mkF m pc L (.int z :: S)) := by
  have hret : meth.sig.returnType = ret := by obtain ⟨_, _, _, _, _, _, _, _, _, _, _, _, _, _, q, -⟩ := W; exact q
  obtain ⟨fs, q1, q2, q3, q4⟩ := W.fin so hso (v := some (.int z)) (fun u => by rw [hret, hr] at u; cases u) hc hs q
  obtain ⟨locs, X, -⟩ := id W
  exact ⟨_, _, retOut X W.hx (hret.trans hr) rfl (Or.inl ⟨rfl, Or.inl rfl, z, rfl⟩) (W.hd d) q1, q2, q3, q4⟩
theorem k_retN (W : WS p l e R s m args below meth c Z a0 EL nw n0 y code maxL ret T h sf cells slots) {z z' : Int32} {t : FieldType} (d : D code pc .ireturn 1 pc') (hr : ret = some t) (ht : t = .boolean ∨ t = .byte ∨ t = .char ∨ t = .short) (hz : nar t z = z') (so : List Addr) (hso : ∀ x ∈ so, x ∈ sf) (hc : cells ≤ rm.cells) (hs : slots ≤ rm.slots) (q : Q (some (.int z')) h so) : WP p e below (Fne s n0 Z EL nw rm Q) T (mkF m pc L (.int z :: S)) := by
  have hret : meth.sig.returnType = ret := by obtain ⟨_, _, _, _, _, _, _, _, _, _, _, _, _, _, q, -⟩ := W; exact q
  obtain ⟨fs, q1, q2, q3, q4⟩ := W.fin so hso (v := some (.int z')) (fun u => by rw [hret, hr] at u; cases u) hc hs q
  obtain ⟨locs, X, -⟩ := id W
  subst hz
  exact ⟨_, _, retN X W.hx (t := t) (hret.trans hr) ht (W.hd d) q1, q2, q3, q4⟩
theorem k_lreturn (W : WS p l e R s m args below meth c Z a0 EL nw n0 y code maxL ret T h sf cells slots) {z : Int64} (d : D code pc .lreturn 1 pc') (hr : ret = some .long) (so : List Addr) (hso : ∀ x ∈ so, x ∈ sf) (hc : cells ≤ rm.cells) (hs : slots ≤ rm.slots) (q : Q (some (.long z)) h so) : WP p e below (Fne s n0 Z EL nw rm Q) T (mkF m pc L (.long z :: S)) := by
  have hret : meth.sig.returnType = ret := by obtain ⟨_, _, _, _, _, _, _, _, _, _, _, _, _, _, q, -⟩ := W; exact q
  obtain ⟨fs, q1, q2, q3, q4⟩ := W.fin so hso (v := some (.long z)) (fun u => by rw [hret, hr] at u; cases u) hc hs q
  obtain ⟨locs, X, -⟩ := id W
  exact ⟨_, _, retOut X W.hx (hret.trans hr) rfl (Or.inr (Or.inl ⟨rfl, rfl, z, rfl⟩)) (W.hd d) q1, q2, q3, q4⟩
theorem k_areturn (W : WS p l e R s m args below meth c Z a0 EL nw n0 y code maxL ret T h sf cells slots) {v : Value} {t : FieldType} (d : D code pc .areturn 1 pc') (hr : ret = some t) (ht : t.isReference = true) (hv : v.isRef = true) (so : List Addr) (hso : ∀ x ∈ so, x ∈ sf) (hc : cells ≤ rm.cells) (hs : slots ≤ rm.slots) (q : Q (some v) h so) : WP p e below (Fne s n0 Z EL nw rm Q) T (mkF m pc L (v :: S)) := by
  have hret : meth.sig.returnType = ret := by obtain ⟨_, _, _, _, _, _, _, _, _, _, _, _, _, _, q, -⟩ := W; exact q
  obtain ⟨fs, q1, q2, q3, q4⟩ := W.fin so hso (v := some v) (fun u => by rw [hret, hr] at u; cases u) hc hs q
  obtain ⟨locs, X, -⟩ := id W
  have hn : narrow t v = v := by cases t <;> simp_all [narrow, FieldType.isReference]
  exact ⟨_, _, retOut X W.hx (hret.trans hr) hn (Or.inr (Or.inr (Or.inr (Or.inr ⟨rfl, ht, hv⟩)))) (W.hd d) q1, q2, q3, q4⟩
end Ends

/-! ## steps on the heap -/
section Steps
variable {p : Program} {l : Launch} {e : Env} {R : Room} {s : State} {m : MethodId} {args : Array Value} {below : List Frame} {meth : Method} {c : Code} {Z : State} {EL : List (String × Nat)} {nw : Bool} {n0 : Nat} {y : MethodName} {code : ByteArray} {maxL : Nat} {ret : Option FieldType} {T : State} {h : Heap} {sf : List Addr} {cells slots : Nat} {Φ : Outcome → State → Prop} {a0 : Array Value} {pc pc' : Nat} {L : Array Slot} {S : List Value}
abbrev catS (S : List Value) : Nat := (S.map fun v => v.category).sum
theorem cat0 : catS [] = 0 := rfl
theorem catC {v : Value} {S : List Value} {a n : Nat} (h : v.category = a) (q : catS S = n) : catS (v :: S) = a + n := by
  have : catS (v :: S) = v.category + catS S := by simp [catS]
  rw [this, h, q]
abbrev Ix (j : Int32) (i : Nat) : Prop := ¬ j < 0 ∧ j.toNatClampNeg = i
theorem Ix.ok {j : Int32} {i n : Nat} (q : Ix j i) (hi : i < n) : ¬ (j < 0 ∨ n ≤ j.toNatClampNeg) := by
  rintro (u | u)
  · exact q.1 u
  · rw [q.2] at u; omega

theorem k_getF (W : WS p l e R s m args below meth c Z a0 EL nw n0 y code maxL ret T h sf cells slots) {index : Nat} {R0 O n d host : String} (dd : D code pc (.getfield index) 3 pc') (w : (Cond.fieldLink y.cls index R0 n d).before a0 Z = true ∨ (Cond.fieldLinkNest y.cls index R0 n d host).before a0 Z = true) (via : Via Z R0 O n d) {a : Addr} {v : Value} (F : Fld Z h a O n d v)
    (k : ∀ T', WS p l e R s m args below meth c Z a0 EL nw n0 y code maxL ret T' h sf cells slots → WP p e below Φ T' (mkF m pc' L (v :: S))) : WP p e below Φ T (mkF m pc L (.ref a :: S)) := by
  obtain ⟨locs, X, eT, hS, hZ, hown, hC, hN, hn, hsf, hE, hWm, b1, b2, b3, b4, b5, b6⟩ := id W
  obtain ⟨T', X', e', st⟩ := getF X W.hx hZ hown w via eT F (g := mkF m pc L (.ref a :: S)) rfl rfl (W.hd dd)
  obtain ⟨hd, rfl⟩ := dd
  exact WP.st (fun t q => st t q) (k T' (W.pack X' e' hN (Nat.le_refl _) (fun H => ⟨H, fun _ q => q⟩) (fun x hx => Or.inl hx)))

theorem k_getS (W : WS p l e R s m args below meth c Z a0 EL nw n0 y code maxL ret T h sf cells slots) {index : Nat} {R0 O n d : String} (dd : D code pc (.getstatic index) 3 pc') (w : (Cond.fieldLink y.cls index R0 n d).before a0 Z = true) (via : Via Z R0 O n d) {v : Value} (F : Sta Z h O n d v)
    (k : ∀ T', WS p l e R s m args below meth c Z a0 EL nw n0 y code maxL ret T' h sf cells slots → WP p e below Φ T' (mkF m pc' L (v :: S))) : WP p e below Φ T (mkF m pc L (S)) := by
  obtain ⟨locs, X, eT, hS, hZ, hown, hC, hN, hn, hsf, hE, hWm, b1, b2, b3, b4, b5, b6⟩ := id W
  obtain ⟨T', X', e', st⟩ := getS X W.hx hZ (host := "") hown w via eT F (g := mkF m pc L S) rfl (W.hd dd)
  obtain ⟨hd, rfl⟩ := dd
  exact WP.st (fun t q => st t q) (k T' (W.pack X' e' hN (Nat.le_refl _) (fun H => ⟨H, fun _ q => q⟩) (fun x hx => Or.inl hx)))

theorem k_putF (W : WS p l e R s m args below meth c Z a0 EL nw n0 y code maxL ret T h sf cells slots) {index kk : Nat} {R0 O n d C : String} {ty : FieldType} (dd : D code pc (.putfield index) 3 pc') (w : (Cond.fieldLink y.cls index R0 n d).before a0 Z = true) (via : Via Z R0 O n d) {a : Addr} {v v' old : Value} (ha : a ∈ sf) (F : Fld Z h a O n d old) (E : Exa Z h a C)
    (Lw : (Cond.lays C O n d).before a0 Z = true ∨ ((Cond.laysFinal C O n d).before a0 Z = true ∧ y.cls = O ∧ y.name = "<init>")) (wi : (Cond.instantiable C kk).before a0 Z = true) (hty : parseFieldDescriptor d = some ty) (hnr : narrow ty v = v') (hf : fits ty v' = true)
    (k : ∀ T' h', WS p l e R s m args below meth c Z a0 EL nw n0 y code maxL ret T' h' sf cells slots → Wr h h' a (Jvm.RoadKit.slotOf Z O n d) v' → WP p e below Φ T' (mkF m pc' L (S))) : WP p e below Φ T (mkF m pc L (v :: .ref a :: S)) := by
  obtain ⟨locs, X, eT, hS, hZ, hown, hC, hN, hn, hsf, hE, hWm, b1, b2, b3, b4, b5, b6⟩ := id W
  obtain ⟨T', h', X', e', Wh, st⟩ := putFN X W.hx hZ hown w via eT F E (Lw.imp id fun q => ⟨q.1, q.2.1, b6.trans q.2.2⟩) wi hty hnr hf (g := mkF m pc L (v :: .ref a :: S)) rfl rfl (W.hd dd)
  obtain ⟨hd, rfl⟩ := dd
  exact WP.st (fun t q => st t q) (k T' h' (W.pack X' e' (Fr.snoc X' hN (hsf a ha).1) (Nat.le_of_eq Wh.size.symm) (fun H => H.wrStep Wh (hsf a ha).2.2) (fun x hx => Or.inl hx)) Wh)

theorem k_new (W : WS p l e R s m args below meth c Z a0 EL nw n0 y code maxL ret T h sf cells slots) {index n : Nat} {C : String} (c' s' : Nat) (dd : D code pc (.new index) 3 pc') (w : (Cond.classLink y.cls index C).before a0 Z = true) (wi : (Cond.instantiable C n).before a0 Z = true) (wz : (Cond.initialized C).before a0 Z = true) (hc : cells + 1 = c' ∧ c' ≤ R.cells) (hl : slots + n = s' ∧ s' ≤ R.slots)
    (k : ∀ T' h' a, a = h.size → WS p l e R s m args below meth c Z a0 EL nw n0 y code maxL ret T' h' (a :: sf) c' s' → Ext h h' → Exa Z h' a C → (∀ {O nm d : String} {ty : FieldType}, Laid Z a0 C O nm d → parseFieldDescriptor d = some ty → Fld Z h' a O nm d (defaultValue ty)) → WP p e below Φ T' (mkF m pc' L (.ref a :: S))) : WP p e below Φ T (mkF m pc L (S)) := by
  obtain ⟨locs, X, eT, hS, hZ, hown, hC, hN, hn, hsf, hE, hWm, b1, b2, b3, b4, b5, b6⟩ := id W
  obtain ⟨rfl, hc⟩ := hc
  obtain ⟨rfl, hl⟩ := hl
  obtain ⟨T', h', X', e', E, A, Dd, -, st⟩ := newO X W.hx hZ hown w wi wz eT (g := mkF m pc L S) rfl (W.hd dd) hc hl
  obtain ⟨hd, rfl⟩ := dd
  exact WP.st (fun t q => st t q) (k T' h' _ rfl (W.pack X' e' hN E.1 (fun H => H.step fun _ _ _ q => E.2 _ _ q) (fun x hx => (List.mem_cons.mp hx).elim (fun q => Or.inr (by subst q; exact ⟨Nat.le_refl _, A.lt⟩)) Or.inl)) E A Dd)

theorem k_newarr (W : WS p l e R s m args below meth c Z a0 EL nw n0 y code maxL ret T h sf cells slots) {aty : ArrayType} {z : Int32} (n c' s' : Nat) (dd : D code pc (.newarray aty) 2 pc') (w : (Cond.arrayClass (newarray.typeOf aty)).before a0 Z = true) (hz : Ix z n) (hb : n * 8 ≤ 536870912) (hc : cells + 1 = c' ∧ c' ≤ R.cells) (hl : slots + n = s' ∧ s' ≤ R.slots)
    (k : ∀ T' h' a, a = h.size → WS p l e R s m args below meth c Z a0 EL nw n0 y code maxL ret T' h' (a :: sf) c' s' → Ext h h' → Av Z h' a (newarray.typeOf aty) (List.replicate n (defaultValue (newarray.typeOf aty))) → WP p e below Φ T' (mkF m pc' L (.ref a :: S))) : WP p e below Φ T (mkF m pc L (.int z :: S)) := by
  obtain ⟨locs, X, eT, hS, hZ, hown, hC, hN, hn, hsf, hE, hWm, b1, b2, b3, b4, b5, b6⟩ := id W
  obtain ⟨rfl, hc⟩ := hc
  obtain ⟨rfl, hl⟩ := hl
  obtain ⟨T', h', cA, X', e', E, A, st⟩ := newP X W.hx hZ w eT (g := mkF m pc L (.int z :: S)) rfl (W.hd dd) rfl hz.1 (cap := n) (Nat.le_of_eq hz.2) hb hc hl
  obtain ⟨hd, rfl⟩ := dd
  exact WP.st (fun t q => st t q) (k T' h' _ rfl (W.pack X' e' hN E.1 (fun H => H.step fun _ _ _ q => E.2 _ _ q) (fun x hx => (List.mem_cons.mp hx).elim (fun q => Or.inr (by subst q; exact ⟨Nat.le_refl _, A.lt⟩)) Or.inl)) E (Av.new A n hz.2))

theorem k_newarrE (W : WS p l e R s m args below meth c Z a0 EL nw n0 y code maxL ret T h sf cells slots) {aty : ArrayType} {z : Int32} (n c' s' : Nat) (ad : String) (had : "[" ++ (newarray.typeOf aty).toString = ad) (dd : D code pc (.newarray aty) 2 pc') (w : (Cond.arrayClass (newarray.typeOf aty)).before a0 Z = true) (hz : Ix z n) (hb : n * 8 ≤ 536870912) (hc : cells + 1 = c' ∧ c' ≤ R.cells) (hl : slots + n = s' ∧ s' ≤ R.slots)
    (k : ∀ T' h' a, a = h.size → WS p l e R s m args below meth c Z a0 EL nw n0 y code maxL ret T' h' (a :: sf) c' s' → Ext h h' → Av Z h' a (newarray.typeOf aty) (List.replicate n (defaultValue (newarray.typeOf aty))) → Exa Z h' a ad → WP p e below Φ T' (mkF m pc' L (.ref a :: S))) : WP p e below Φ T (mkF m pc L (.int z :: S)) := by
  obtain ⟨locs, X, eT, hS, hZ, hown, hC, hN, hn, hsf, hE, hWm, b1, b2, b3, b4, b5, b6⟩ := id W
  obtain ⟨rfl, hc⟩ := hc
  obtain ⟨rfl, hl⟩ := hl
  obtain ⟨T', h', cA, X', e', E, A, E', st⟩ := newPE X W.hx hZ w eT (g := mkF m pc L (.int z :: S)) rfl (W.hd dd) rfl hz.1 (cap := n) (Nat.le_of_eq hz.2) hb hc hl had
  obtain ⟨hd, rfl⟩ := dd
  exact WP.st (fun t q => st t q) (k T' h' _ rfl (W.pack X' e' hN E.1 (fun H => H.step fun _ _ _ q => E.2 _ _ q) (fun x hx => (List.mem_cons.mp hx).elim (fun q => Or.inr (by subst q; exact ⟨Nat.le_refl _, A.lt⟩)) Or.inl)) E (Av.new A n hz.2) E')

theorem k_castore (W : WS p l e R s m args below meth c Z a0 EL nw n0 y code maxL ret T h sf cells slots) {a : Addr} {vs : List Value} {j x z : Int32} (i : Nat) (dd : D code pc (.castore) 1 pc') (ha : a ∈ sf) (F : Av Z h a .char vs) (hj : Ix j i) (hi : i < vs.length) (hz : nar .char x = z) (hf : fits .char (.int z) = true)
    (k : ∀ T' h', WS p l e R s m args below meth c Z a0 EL nw n0 y code maxL ret T' h' sf cells slots → Wr h h' a i (.int z) → Av Z h' a .char (vs.set i (.int z)) → WP p e below Φ T' (mkF m pc' L (S))) : WP p e below Φ T (mkF m pc L (.int x :: .int j :: .ref a :: S)) := by
  obtain ⟨locs, X, eT, hS, hZ, hown, hC, hN, hn, hsf, hE, hWm, b1, b2, b3, b4, b5, b6⟩ := id W
  obtain ⟨cl, A, r1, r2, r3⟩ := id F
  have hsz : cl.slots.size = vs.length := by rw [← r1]; simp
  obtain ⟨T', h', X', e', Wh, st⟩ := stC X W.hx hZ eT A (j := j) (x := x) (hj.ok (by rw [hsz]; exact hi)) (g := mkF m pc L (.int x :: .int j :: .ref a :: S)) rfl rfl (W.hd dd)
  rw [hj.2] at X' Wh
  subst hz
  obtain ⟨hd, rfl⟩ := dd
  exact WP.st (fun t q => st t q) (k T' h' (W.pack X' e' (Fr.snoc X' hN (hsf a ha).1) (Nat.le_of_eq Wh.size.symm) (fun H => H.wrStep Wh (hsf a ha).2.2) (fun x hx => Or.inl hx)) Wh (F.set Wh hf))

theorem k_bastore (W : WS p l e R s m args below meth c Z a0 EL nw n0 y code maxL ret T h sf cells slots) {a : Addr} {vs : List Value} {j x z : Int32} (i : Nat) (dd : D code pc (.bastore) 1 pc') (ha : a ∈ sf) (F : Av Z h a .byte vs) (hj : Ix j i) (hi : i < vs.length) (hz : nar .byte x = z) (hf : fits .byte (.int z) = true)
    (k : ∀ T' h', WS p l e R s m args below meth c Z a0 EL nw n0 y code maxL ret T' h' sf cells slots → Wr h h' a i (.int z) → Av Z h' a .byte (vs.set i (.int z)) → WP p e below Φ T' (mkF m pc' L (S))) : WP p e below Φ T (mkF m pc L (.int x :: .int j :: .ref a :: S)) := by
  obtain ⟨locs, X, eT, hS, hZ, hown, hC, hN, hn, hsf, hE, hWm, b1, b2, b3, b4, b5, b6⟩ := id W
  obtain ⟨cl, A, r1, r2, r3⟩ := id F
  have hsz : cl.slots.size = vs.length := by rw [← r1]; simp
  obtain ⟨T', h', X', e', Wh, st⟩ := stB X W.hx hZ eT A (j := j) (x := x) (hj.ok (by rw [hsz]; exact hi)) (g := mkF m pc L (.int x :: .int j :: .ref a :: S)) rfl rfl (W.hd dd)
  rw [hj.2] at X' Wh
  subst hz
  obtain ⟨hd, rfl⟩ := dd
  exact WP.st (fun t q => st t q) (k T' h' (W.pack X' e' (Fr.snoc X' hN (hsf a ha).1) (Nat.le_of_eq Wh.size.symm) (fun H => H.wrStep Wh (hsf a ha).2.2) (fun x hx => Or.inl hx)) Wh (F.set Wh hf))

theorem k_iastore (W : WS p l e R s m args below meth c Z a0 EL nw n0 y code maxL ret T h sf cells slots) {a : Addr} {vs : List Value} {j x z : Int32} (i : Nat) (dd : D code pc (.iastore) 1 pc') (ha : a ∈ sf) (F : Av Z h a .int vs) (hj : Ix j i) (hi : i < vs.length) (hz : x = z) (hf : fits .int (.int z) = true)
    (k : ∀ T' h', WS p l e R s m args below meth c Z a0 EL nw n0 y code maxL ret T' h' sf cells slots → Wr h h' a i (.int z) → Av Z h' a .int (vs.set i (.int z)) → WP p e below Φ T' (mkF m pc' L (S))) : WP p e below Φ T (mkF m pc L (.int x :: .int j :: .ref a :: S)) := by
  obtain ⟨locs, X, eT, hS, hZ, hown, hC, hN, hn, hsf, hE, hWm, b1, b2, b3, b4, b5, b6⟩ := id W
  obtain ⟨cl, A, r1, r2, r3⟩ := id F
  have hsz : cl.slots.size = vs.length := by rw [← r1]; simp
  obtain ⟨T', h', X', e', Wh, st⟩ := stI X W.hx hZ eT A (j := j) (x := x) (hj.ok (by rw [hsz]; exact hi)) (g := mkF m pc L (.int x :: .int j :: .ref a :: S)) rfl rfl (W.hd dd)
  rw [hj.2] at X' Wh
  subst hz
  obtain ⟨hd, rfl⟩ := dd
  exact WP.st (fun t q => st t q) (k T' h' (W.pack X' e' (Fr.snoc X' hN (hsf a ha).1) (Nat.le_of_eq Wh.size.symm) (fun H => H.wrStep Wh (hsf a ha).2.2) (fun x hx => Or.inl hx)) Wh (F.set Wh hf))

theorem k_sastore (W : WS p l e R s m args below meth c Z a0 EL nw n0 y code maxL ret T h sf cells slots) {a : Addr} {vs : List Value} {j x z : Int32} (i : Nat) (dd : D code pc (.sastore) 1 pc') (ha : a ∈ sf) (F : Av Z h a .short vs) (hj : Ix j i) (hi : i < vs.length) (hz : nar .short x = z) (hf : fits .short (.int z) = true)
    (k : ∀ T' h', WS p l e R s m args below meth c Z a0 EL nw n0 y code maxL ret T' h' sf cells slots → Wr h h' a i (.int z) → Av Z h' a .short (vs.set i (.int z)) → WP p e below Φ T' (mkF m pc' L (S))) : WP p e below Φ T (mkF m pc L (.int x :: .int j :: .ref a :: S)) := by
  obtain ⟨locs, X, eT, hS, hZ, hown, hC, hN, hn, hsf, hE, hWm, b1, b2, b3, b4, b5, b6⟩ := id W
  obtain ⟨cl, A, r1, r2, r3⟩ := id F
  have hsz : cl.slots.size = vs.length := by rw [← r1]; simp
  obtain ⟨T', h', X', e', Wh, st⟩ := stS X W.hx hZ eT A (j := j) (x := x) (hj.ok (by rw [hsz]; exact hi)) (g := mkF m pc L (.int x :: .int j :: .ref a :: S)) rfl rfl (W.hd dd)
  rw [hj.2] at X' Wh
  subst hz
  obtain ⟨hd, rfl⟩ := dd
  exact WP.st (fun t q => st t q) (k T' h' (W.pack X' e' (Fr.snoc X' hN (hsf a ha).1) (Nat.le_of_eq Wh.size.symm) (fun H => H.wrStep Wh (hsf a ha).2.2) (fun x hx => Or.inl hx)) Wh (F.set Wh hf))

theorem k_zastore (W : WS p l e R s m args below meth c Z a0 EL nw n0 y code maxL ret T h sf cells slots) {a : Addr} {vs : List Value} {j x z : Int32} (i : Nat) (dd : D code pc (.bastore) 1 pc') (ha : a ∈ sf) (F : Av Z h a .boolean vs) (hj : Ix j i) (hi : i < vs.length) (hz : nar .boolean x = z) (hf : fits .boolean (.int z) = true)
    (k : ∀ T' h', WS p l e R s m args below meth c Z a0 EL nw n0 y code maxL ret T' h' sf cells slots → Wr h h' a i (.int z) → Av Z h' a .boolean (vs.set i (.int z)) → WP p e below Φ T' (mkF m pc' L (S))) : WP p e below Φ T (mkF m pc L (.int x :: .int j :: .ref a :: S)) := by
  obtain ⟨locs, X, eT, hS, hZ, hown, hC, hN, hn, hsf, hE, hWm, b1, b2, b3, b4, b5, b6⟩ := id W
  obtain ⟨cl, A, r1, r2, r3⟩ := id F
  have hsz : cl.slots.size = vs.length := by rw [← r1]; simp
  obtain ⟨T', h', X', e', Wh, st⟩ := stZ X W.hx hZ eT A (j := j) (x := x) (hj.ok (by rw [hsz]; exact hi)) (g := mkF m pc L (.int x :: .int j :: .ref a :: S)) rfl rfl (W.hd dd)
  rw [hj.2] at X' Wh
  subst hz
  obtain ⟨hd, rfl⟩ := dd
  exact WP.st (fun t q => st t q) (k T' h' (W.pack X' e' (Fr.snoc X' hN (hsf a ha).1) (Nat.le_of_eq Wh.size.symm) (fun H => H.wrStep Wh (hsf a ha).2.2) (fun x hx => Or.inl hx)) Wh (F.set Wh hf))

theorem k_caload (W : WS p l e R s m args below meth c Z a0 EL nw n0 y code maxL ret T h sf cells slots) {a : Addr} {vs : List Value} {j : Int32} {v : Value} (i : Nat) (dd : D code pc (.caload) 1 pc') (F : Av Z h a .char vs) (hj : Ix j i) (hi : vs[i]? = some v)
    (w : WP p e below Φ T (mkF m pc' L (v :: S))) : WP p e below Φ T (mkF m pc L (.int j :: .ref a :: S)) := by
  obtain ⟨locs, X, eT, hS, hZ, hown, hC, hN, hn, hsf, hE, hWm, b1, b2, b3, b4, b5, b6⟩ := id W
  obtain ⟨cl, A, r1, r2, r3⟩ := id F
  have hsz : cl.slots.size = vs.length := by rw [← r1]; simp
  have hlt : i < vs.length := (List.getElem?_eq_some_iff.mp hi).1
  have hv : cl.slots[j.toNatClampNeg]? = some v := by rw [hj.2, ← Array.getElem?_toList, r1]; exact hi
  have hA : (s.setVm T.vm).isArrayOf cl .char := State.isArrayOf_alike hZ.alike A.2.1
  obtain ⟨hd, rfl⟩ := id dd
  exact WP.st (fun t q => X.caload W.hx (by rw [eT]; exact A.1) hA A.2.2 (hj.ok (by rw [hsz]; exact hlt)) hv (g := mkF m pc L (.int j :: .ref a :: S)) rfl rfl (W.hd dd) _ q) w

theorem k_iaload (W : WS p l e R s m args below meth c Z a0 EL nw n0 y code maxL ret T h sf cells slots) {a : Addr} {vs : List Value} {j : Int32} {v : Value} (i : Nat) (dd : D code pc (.iaload) 1 pc') (F : Av Z h a .int vs) (hj : Ix j i) (hi : vs[i]? = some v)
    (w : WP p e below Φ T (mkF m pc' L (v :: S))) : WP p e below Φ T (mkF m pc L (.int j :: .ref a :: S)) := by
  obtain ⟨locs, X, eT, hS, hZ, hown, hC, hN, hn, hsf, hE, hWm, b1, b2, b3, b4, b5, b6⟩ := id W
  obtain ⟨cl, A, r1, r2, r3⟩ := id F
  have hsz : cl.slots.size = vs.length := by rw [← r1]; simp
  have hlt : i < vs.length := (List.getElem?_eq_some_iff.mp hi).1
  have hv : cl.slots[j.toNatClampNeg]? = some v := by rw [hj.2, ← Array.getElem?_toList, r1]; exact hi
  have hA : (s.setVm T.vm).isArrayOf cl .int := State.isArrayOf_alike hZ.alike A.2.1
  obtain ⟨hd, rfl⟩ := id dd
  exact WP.st (fun t q => X.iaload W.hx (by rw [eT]; exact A.1) hA A.2.2 (hj.ok (by rw [hsz]; exact hlt)) hv (g := mkF m pc L (.int j :: .ref a :: S)) rfl rfl (W.hd dd) _ q) w

theorem k_baload (W : WS p l e R s m args below meth c Z a0 EL nw n0 y code maxL ret T h sf cells slots) {a : Addr} {vs : List Value} {j : Int32} {v : Value} (i : Nat) (dd : D code pc (.baload) 1 pc') (F : Av Z h a .byte vs) (hj : Ix j i) (hi : vs[i]? = some v)
    (w : WP p e below Φ T (mkF m pc' L (v :: S))) : WP p e below Φ T (mkF m pc L (.int j :: .ref a :: S)) := by
  obtain ⟨locs, X, eT, hS, hZ, hown, hC, hN, hn, hsf, hE, hWm, b1, b2, b3, b4, b5, b6⟩ := id W
  obtain ⟨cl, A, r1, r2, r3⟩ := id F
  have hsz : cl.slots.size = vs.length := by rw [← r1]; simp
  have hlt : i < vs.length := (List.getElem?_eq_some_iff.mp hi).1
  have hv : cl.slots[j.toNatClampNeg]? = some v := by rw [hj.2, ← Array.getElem?_toList, r1]; exact hi
  have hA : (s.setVm T.vm).isArrayOf cl .byte := State.isArrayOf_alike hZ.alike A.2.1
  obtain ⟨hd, rfl⟩ := id dd
  exact WP.st (fun t q => X.baloadBytes W.hx (by rw [eT]; exact A.1) hA A.2.2 (hj.ok (by rw [hsz]; exact hlt)) hv (g := mkF m pc L (.int j :: .ref a :: S)) rfl rfl (W.hd dd) _ q) w

theorem k_aaload (W : WS p l e R s m args below meth c Z a0 EL nw n0 y code maxL ret T h sf cells slots) {a : Addr} {vs : List Value} {ty : FieldType} {j : Int32} {v : Value} (i : Nat) (dd : D code pc .aaload 1 pc') (F : Av Z h a ty vs) (hty : ty.isReference = true) (hj : Ix j i) (hi : vs[i]? = some v)
    (w : WP p e below Φ T (mkF m pc' L (v :: S))) : WP p e below Φ T (mkF m pc L (.int j :: .ref a :: S)) := by
  obtain ⟨locs, X, eT, hS, hZ, hown, hC, hN, hn, hsf, hE, hWm, b1, b2, b3, b4, b5, b6⟩ := id W
  obtain ⟨cl, A, r1, r2, r3⟩ := id F
  have hsz : cl.slots.size = vs.length := by rw [← r1]; simp
  have hlt : i < vs.length := (List.getElem?_eq_some_iff.mp hi).1
  have hv : cl.slots[j.toNatClampNeg]? = some v := by rw [hj.2, ← Array.getElem?_toList, r1]; exact hi
  have hA : (s.setVm T.vm).isArrayOf cl ty := State.isArrayOf_alike hZ.alike A.2.1
  obtain ⟨hd, rfl⟩ := id dd
  exact WP.st (fun t q => X.aaload W.hx (by rw [eT]; exact A.1) hA hty A.2.2 (hj.ok (by rw [hsz]; exact hlt)) hv (g := mkF m pc L (.int j :: .ref a :: S)) rfl rfl (W.hd dd) _ q) w

theorem k_arraylength (W : WS p l e R s m args below meth c Z a0 EL nw n0 y code maxL ret T h sf cells slots) {a : Addr} {ty : FieldType} {vs : List Value} {z : Int32} (dd : D code pc .arraylength 1 pc') (F : Av Z h a ty vs) (hz : vs.length.toInt32 = z) (w : WP p e below Φ T (mkF m pc' L (.int z :: S))) : WP p e below Φ T (mkF m pc L (.ref a :: S)) := by
  obtain ⟨locs, X, eT, hS, hZ, hown, hC, hN, hn, hsf, hE, hWm, b1, b2, b3, b4, b5, b6⟩ := id W
  obtain ⟨cl, A, r1, r2, r3⟩ := id F
  have hsz : cl.slots.size = vs.length := by rw [← r1]; simp
  have hA : (s.setVm T.vm).isArrayOf cl ty := State.isArrayOf_alike hZ.alike A.2.1
  obtain ⟨hd, rfl⟩ := id dd
  exact WP.st (fun t q => X.arraylength W.hx (by rw [eT]; exact A.1) hA (g := mkF m pc L (.ref a :: S)) rfl rfl (W.hd dd) _ (by rw [hsz, hz]; exact q)) w

theorem k_cast (W : WS p l e R s m args below meth c Z a0 EL nw n0 y code maxL ret T h sf cells slots) {index : Nat} {K : String} {a : Addr} (dd : D code pc (.checkcast index) 3 pc') (w : (Cond.classLink y.cls index K).before a0 Z = true) (F : Ins Z h a K true)
    (k : ∀ T', WS p l e R s m args below meth c Z a0 EL nw n0 y code maxL ret T' h sf cells slots → WP p e below Φ T' (mkF m pc' L (.ref a :: S))) : WP p e below Φ T (mkF m pc L (.ref a :: S)) := by
  obtain ⟨locs, X, eT, hS, hZ, hown, hC, hN, hn, hsf, hE, hWm, b1, b2, b3, b4, b5, b6⟩ := id W
  obtain ⟨T', X', e', st⟩ := castY X W.hx hZ hown w eT F (g := mkF m pc L (.ref a :: S)) rfl rfl (W.hd dd)
  obtain ⟨hd, rfl⟩ := dd
  exact WP.st (fun t q => st t q) (k T' (W.pack X' e' hN (Nat.le_refl _) (fun H => ⟨H, fun _ q => q⟩) (fun x hx => Or.inl hx)))
theorem k_instY (W : WS p l e R s m args below meth c Z a0 EL nw n0 y code maxL ret T h sf cells slots) {index : Nat} {K : String} {a : Addr} (dd : D code pc (.instanceof index) 3 pc') (w : (Cond.classLink y.cls index K).before a0 Z = true) (F : Ins Z h a K true)
    (k : ∀ T', WS p l e R s m args below meth c Z a0 EL nw n0 y code maxL ret T' h sf cells slots → WP p e below Φ T' (mkF m pc' L (.int 1 :: S))) : WP p e below Φ T (mkF m pc L (.ref a :: S)) := by
  obtain ⟨locs, X, eT, hS, hZ, hown, hC, hN, hn, hsf, hE, hWm, b1, b2, b3, b4, b5, b6⟩ := id W
  obtain ⟨T', X', e', st⟩ := instY X W.hx hZ hown w eT F (g := mkF m pc L (.ref a :: S)) rfl rfl (W.hd dd)
  obtain ⟨hd, rfl⟩ := dd
  exact WP.st (fun t q => st t q) (k T' (W.pack X' e' hN (Nat.le_refl _) (fun H => ⟨H, fun _ q => q⟩) (fun x hx => Or.inl hx)))

theorem nsRoot {O K : String} {n : Nat} (w : (Cond.noSuperclass O).before a0 Z = true) (wk : (Cond.instantiable K n).before a0 Z = true) (hn : O ≠ K) : NS Z O K := by
  obtain ⟨c, k, h1, h2, h3, -, -⟩ := Cond.noSuperclass_spec w
  obtain ⟨t, -, g1, -⟩ := Cond.instantiable_spec wk
  have ne := ids_ne h1 g1 hn
  refine ⟨c, t, h1, g1, fun fuel => ?_⟩
  cases fuel with
  | zero => rfl
  | succ f => simp [Vm.isSubclassAux, ne, h2, h3]
theorem nsNo {C S K : String} {n : Nat} (w : (Cond.superclass C S).before a0 Z = true) (wk : (Cond.instantiable K n).before a0 Z = true) (q : NS Z C K) (hn : C ≠ K) : ∃ c t, Z.vm.findClass C = some c ∧ Z.vm.findClass K = some t ∧ Z.vm.assignable c t = false := by
  obtain ⟨c, t, h0, g0, n3⟩ := q
  obtain ⟨p, k, kp, h1, h2, h3, h4, h5, -, h7⟩ := Cond.superclass_spec h0 w
  obtain ⟨t', k', g1, g2, g3, g4, -⟩ := Cond.instantiable_spec wk
  cases g0.symm.trans g1
  have g5 : k'.isInterface = false := by cases hh : k'.isInterface <;> simp [hh] at g4 ⊢
  have ne := ids_ne h0 g0 hn
  refine ⟨c, t, h0, g0, ?_⟩
  show Z.vm.assignableAux (255 + 1) c t = false
  simp [Vm.assignableAux, ne, h2, g2, h5, g3, g5, Vm.isSubclass, n3]
theorem k_instN (W : WS p l e R s m args below meth c Z a0 EL nw n0 y code maxL ret T h sf cells slots) {index : Nat} {K C : String} {a : Addr} (dd : D code pc (.instanceof index) 3 pc') (w : (Cond.classLink y.cls index K).before a0 Z = true) (E : Exa Z h a C) (F : ∃ c t, Z.vm.findClass C = some c ∧ Z.vm.findClass K = some t ∧ Z.vm.assignable c t = false)
    (k : ∀ T', WS p l e R s m args below meth c Z a0 EL nw n0 y code maxL ret T' h sf cells slots → WP p e below Φ T' (mkF m pc' L (.int 0 :: S))) : WP p e below Φ T (mkF m pc L (.ref a :: S)) := by
  obtain ⟨locs, X, eT, hS, hZ, hown, hC, hN, hn, hsf, hE, hWm, b1, b2, b3, b4, b5, b6⟩ := id W
  obtain ⟨T', X', e', st⟩ := instNo X W.hx hZ hown w eT E F (g := mkF m pc L (.ref a :: S)) rfl rfl (W.hd dd)
  obtain ⟨hd, rfl⟩ := dd
  exact WP.st (fun t q => st t q) (k T' (W.pack X' e' hN (Nat.le_refl _) (fun H => ⟨H, fun _ q => q⟩) (fun x hx => Or.inl hx)))
theorem k_instNull (W : WS p l e R s m args below meth c Z a0 EL nw n0 y code maxL ret T h sf cells slots) {index : Nat} (dd : D code pc (.instanceof index) 3 pc') (w : WP p e below Φ T (mkF m pc' L (.int 0 :: S))) : WP p e below Φ T (mkF m pc L (.null :: S)) := by
  obtain ⟨locs, X, eT, hS, hZ, hown, hC, hN, hn, hsf, hE, hWm, b1, b2, b3, b4, b5, b6⟩ := id W
  obtain ⟨hd, rfl⟩ := id dd
  exact WP.st (fun t q => X.instanceofNull W.hx (g := mkF m pc L (.null :: S)) rfl rfl (W.hd dd) _ q) w
theorem k_castNull (W : WS p l e R s m args below meth c Z a0 EL nw n0 y code maxL ret T h sf cells slots) {index : Nat} (dd : D code pc (.checkcast index) 3 pc') (w : WP p e below Φ T (mkF m pc' L (.null :: S))) : WP p e below Φ T (mkF m pc L (.null :: S)) := by
  obtain ⟨locs, X, eT, hS, hZ, hown, hC, hN, hn, hsf, hE, hWm, b1, b2, b3, b4, b5, b6⟩ := id W
  obtain ⟨hd, rfl⟩ := id dd
  exact WP.st (fun t q => X.checkcastNull W.hx (g := mkF m pc L (.null :: S)) rfl rfl (W.hd dd) _ q) w

theorem k_ldcI (W : WS p l e R s m args below meth c Z a0 EL nw n0 y code maxL ret T h sf cells slots) {index : Nat} {v : Int32} (dd : D code pc (.ldc index) 2 pc') (w : (Cond.constant y.cls index v).before a0 Z = true) (k : WP p e below Φ T (mkF m pc' L (.int v :: S))) : WP p e below Φ T (mkF m pc L (S)) := by
  obtain ⟨locs, X, eT, hS, hZ, hown, hC, hN, hn, hsf, hE, hWm, b1, b2, b3, b4, b5, b6⟩ := id W
  obtain ⟨hd, rfl⟩ := id dd
  exact WP.st (fun t q => Jvm.Stand.ldcI X W.hx hown (mv (s := s.setVm T.vm) hZ w) (g := mkF m pc L S) rfl (W.hd dd) q) k
theorem k_ldc2J (W : WS p l e R s m args below meth c Z a0 EL nw n0 y code maxL ret T h sf cells slots) {index : Nat} {v : Int64} (dd : D code pc (.ldc2_w index) 3 pc') (w : (Cond.constantLong y.cls index v).before a0 Z = true) (k : WP p e below Φ T (mkF m pc' L (.long v :: S))) : WP p e below Φ T (mkF m pc L (S)) := by
  obtain ⟨locs, X, eT, hS, hZ, hown, hC, hN, hn, hsf, hE, hWm, b1, b2, b3, b4, b5, b6⟩ := id W
  obtain ⟨hd, rfl⟩ := id dd
  exact WP.st (fun t q => Jvm.Stand.ldc2J X W.hx hown (mv (s := s.setVm T.vm) hZ w) (g := mkF m pc L S) rfl (W.hd dd) q) k

theorem k_initO (W : WS p l e R s m args below meth c Z a0 EL nw n0 y code maxL ret T h sf cells slots) {index : Nat} {a : Addr} (Wd : Nat) (dd : D code pc (.invokespecial index) 3 pc') (w1 : (Cond.methodLink y.cls index Lib.objectInit).before a0 Z = true) (w2 : (Cond.instanceMethod Lib.objectInit).before a0 Z = true) (w3 : (Cond.code Lib.objectInit ⟨#[0xb1]⟩ 1 none).before a0 Z = true)
    (hL : L.size = maxL) (hW : catS S ≤ Wd) (hf : 1 ≤ R.frames) (hl : Wd + 12 ≤ R.locals) (k : ∀ T', WS p l e R s m args below meth c Z a0 EL nw n0 y code maxL ret T' h sf cells slots → WP p e below Φ T' (mkF m pc' L (S))) : WP p e below Φ T (mkF m pc L (.ref a :: S)) := by
  obtain ⟨locs, X, eT, hS, hZ, hown, hC, hN, hn, hsf, hE, hWm, b1, b2, b3, b4, b5, b6⟩ := id W
  obtain ⟨T', X', e', st⟩ := initO X W.hx hZ hown w1 w2 w3 eT (g := mkF m pc L (.ref a :: S)) rfl (hL.trans b5.symm) rfl (W.hd dd) hf (W := Wd) (by show 2 * 0 + _ ≤ _; rw [Nat.mul_zero, Nat.zero_add]; exact hW) hl
  obtain ⟨hd, rfl⟩ := dd
  exact WP.st (fun t q => st t q) (k T' (W.pack X' e' hN (Nat.le_refl _) (fun H => ⟨H, fun _ q => q⟩) (fun x hx => Or.inl hx)))

theorem k_getClass (W : WS p l e R s m args below meth c Z a0 EL nw n0 y code maxL ret T h sf cells slots) {index : Nat} {C : String} {a mr : Addr} (Wd : Nat) (dd : D code pc (.invokevirtual index) 3 pc') (w1 : (Cond.methodLink y.cls index ⟨"java/lang/Object", "getClass", "()Ljava/lang/Class;"⟩).before a0 Z = true) (w2 : (Cond.declares ⟨"java/lang/Object", "getClass", "()Ljava/lang/Class;"⟩).before a0 Z = true) (w4 : (Cond.selects C ⟨"java/lang/Object", "getClass", "()Ljava/lang/Class;"⟩ ⟨"java/lang/Object", "getClass", "()Ljava/lang/Class;"⟩).before a0 Z = true)
    (w5 : (Cond.instanceMethod ⟨"java/lang/Object", "getClass", "()Ljava/lang/Class;"⟩).before a0 Z = true) (w6 : (Cond.native ⟨"java/lang/Object", "getClass", "()Ljava/lang/Class;"⟩).before a0 Z = true) (E : Exa Z h a C) (M : Mir Z C mr)
    (hL : L.size = maxL) (hW : catS S ≤ Wd) (hf : 1 ≤ R.frames) (hlo : Wd + 14 ≤ R.locals) (k : ∀ T', WS p l e R s m args below meth c Z a0 EL nw n0 y code maxL ret T' h sf cells slots → WP p e below Φ T' (mkF m pc' L (.ref mr :: S))) : WP p e below Φ T (mkF m pc L (.ref a :: S)) := by
  obtain ⟨locs, X, eT, hS, hZ, hown, hC, hN, hn, hsf, hE, hWm, b1, b2, b3, b4, b5, b6⟩ := id W
  obtain ⟨cB, kB, i1, i2, i3⟩ := isOf (s := s.setVm T.vm) hZ eT E
  obtain ⟨cc, kc, m1, m2, m3, -⟩ := M
  have i1 : T.vm.findClass C = some cB := i1
  rw [hZ.alike.findClass (vm := Z.vm)] at i1
  cases i1.symm.trans m1
  obtain ⟨k', q, ek⟩ := hZ.alike.2.2 _ _ m2
  obtain ⟨vm', X', st⟩ := X.getClassOf W.hx hown (mvT (s := s.setVm T.vm) hZ w1) (mvT (s := s.setVm T.vm) hZ w2) (notFace_of_selects (args := #[]) (mvT (s := s.setVm T.vm) hZ w4)) (mvT (s := s.setVm T.vm) hZ w4) (mvT (s := s.setVm T.vm) hZ w5) (mvT (s := s.setVm T.vm) hZ w6) (show T.vm.findClass C = some _ by rw [hZ.alike.findClass (vm := Z.vm)]; exact m1) i3 q (by rw [ek]; exact m3) (g := mkF m pc L (.ref a :: S)) rfl (hL.trans b5.symm) rfl (W.hd dd) hf (by show 2 * 0 + _ + 14 ≤ _; rw [Nat.mul_zero, Nat.zero_add]; exact Nat.le_trans (Nat.add_le_add_right hW 14) hlo)
  obtain ⟨hd, rfl⟩ := dd
  exact WP.st (fun t q => st t q) (k _ (W.pack X' eT hN (Nat.le_refl _) (fun H => ⟨H, fun _ q => q⟩) (fun x hx => Or.inl hx)))

theorem k_clone (W : WS p l e R s m args below meth c Z a0 EL nw n0 y code maxL ret T h sf cells slots) {index : Nat} {ad : String} {a : Addr} {vs : List Value} {ty : FieldType} (Wd n c' s' : Nat) (dd : D code pc (.invokevirtual index) 3 pc') (w1 : (Cond.methodLink y.cls index ⟨ad, "clone", "()Ljava/lang/Object;"⟩).before a0 Z = true) (w2 : (Cond.sameMethod ad "java/lang/Object" "clone" "()Ljava/lang/Object;").before a0 Z = true) (w3 : (Cond.native ⟨"java/lang/Object", "clone", "()Ljava/lang/Object;"⟩).before a0 Z = true)
    (w4 : (Cond.instanceMethod ⟨"java/lang/Object", "clone", "()Ljava/lang/Object;"⟩).before a0 Z = true) (w5 : (Cond.selects ad ⟨ad, "clone", "()Ljava/lang/Object;"⟩ ⟨"java/lang/Object", "clone", "()Ljava/lang/Object;"⟩).before a0 Z = true) (w6 : (Cond.castable ad "java/lang/Cloneable").before a0 Z = true) (F : Av Z h a ty vs) (E : Exa Z h a ad) (hn : vs.length ≤ n)
    (hL : L.size = maxL) (hW : catS S ≤ Wd) (hf : 1 ≤ R.frames) (hlo : Wd + 14 ≤ R.locals) (hc : cells + 1 = c' ∧ c' ≤ R.cells) (hl : slots + n = s' ∧ s' ≤ R.slots)
    (k : ∀ T' h' b, b = h.size → WS p l e R s m args below meth c Z a0 EL nw n0 y code maxL ret T' h' (b :: sf) c' s' → Ext h h' → Av Z h' b ty vs → Exa Z h' b ad → WP p e below Φ T' (mkF m pc' L (.ref b :: S))) : WP p e below Φ T (mkF m pc L (.ref a :: S)) := by
  obtain ⟨locs, X, eT, hS, hZ, hown, hC, hN, hn, hsf, hE, hWm, b1, b2, b3, b4, b5, b6⟩ := id W
  obtain ⟨rfl, hc⟩ := hc
  obtain ⟨rfl, hl⟩ := hl
  obtain ⟨cl, A, r1, r2, r3⟩ := id F
  have hsz : cl.slots.size = vs.length := by rw [← r1]; simp
  obtain ⟨T', h', X', e', Eh, B, E', st⟩ := cloneA X W.hx hZ hown w1 w2 w3 w4 w5 w6 eT A E (Av.fitc A r1 r3) (g := mkF m pc L (.ref a :: S)) rfl (hL.trans b5.symm) rfl (W.hd dd) hf (W := Wd) (cap := n) (by show 2 * 0 + _ ≤ _; rw [Nat.mul_zero, Nat.zero_add]; exact hW) hlo (by omega) hc hl
  obtain ⟨hd, rfl⟩ := dd
  exact WP.st (fun t q => st t q) (k T' h' _ rfl (W.pack X' e' hN Eh.1 (fun H => H.step fun _ _ _ q => Eh.2 _ _ q) (fun x hx => (List.mem_cons.mp hx).elim (fun q => Or.inr (by subst q; exact ⟨Nat.le_refl _, B.lt⟩)) Or.inl)) Eh ⟨_, B, r1, r2, r3⟩ E')

theorem k_acopy (W : WS p l e R s m args below meth c Z a0 EL nw n0 y code maxL ret T h sf cells slots) {index : Nat} {a b : Addr} {vs ud : List Value} {ty : FieldType} {sp dp nn : Int32} (Wd i j n : Nat) (dd : D code pc (.invokestatic index) 3 pc') (w1 : (Cond.methodLink y.cls index Jvm.Stand.acN).before a0 Z = true) (w2 : (Cond.native Jvm.Stand.acN).before a0 Z = true) (w3 : (Cond.static Jvm.Stand.acN).before a0 Z = true) (w4 : (Cond.initialized "java/lang/System").before a0 Z = true)
    (F : Av Z h a ty vs) (G : Av Z h b ty ud) (hty : refKind ty = false) (hb' : b ∈ sf) (h1 : Ix sp i) (h2 : Ix dp j) (h3 : Ix nn n) (h4 : i + n ≤ vs.length) (h5 : j + n ≤ ud.length)
    (hL : L.size = maxL) (hW : catS S ≤ Wd) (hf : 1 ≤ R.frames) (hlo : Wd + 18 ≤ R.locals)
    (k : ∀ T' h', WS p l e R s m args below meth c Z a0 EL nw n0 y code maxL ret T' h' sf cells slots → Keep h h' [b] → Av Z h' b ty (ud.take j ++ (vs.drop i).take n ++ ud.drop (j + n)) → WP p e below Φ T' (mkF m pc' L (S))) : WP p e below Φ T (mkF m pc L (.int nn :: .int dp :: .ref b :: .int sp :: .ref a :: S)) := by
  obtain ⟨locs, X, eT, hS, hZ, hown, hC, hN, hn, hsf, hE, hWm, b1, b2, b3, b4, b5, b6⟩ := id W
  obtain ⟨k1, A⟩ := F.arv (defaultValue ty)
  obtain ⟨k2, B⟩ := G.arv (defaultValue ty)
  have hx1 := ix_of F.len
  have hx2 := ix_of G.len
  have hus : (vs.drop i).take n = (List.range nn.toNatClampNeg).map fun q => vs.getD (sp.toNatClampNeg + q) (defaultValue ty) := by
    rw [h1.2, h3.2]
    apply List.ext_getElem?; intro q
    by_cases hq : q < n
    · rw [List.getElem?_take_of_lt hq, List.getElem?_drop, List.getElem?_map, List.getElem?_range hq]
      show _ = some (vs.getD (i + q) (defaultValue ty))
      rw [List.getD_eq_getElem?_getD, List.getElem?_eq_getElem (by omega)]; rfl
    · rw [List.getElem?_eq_none (by rw [List.length_take]; omega), List.getElem?_eq_none (by simp; omega)]
  obtain ⟨T', h', L', X', e', N', K', B', st⟩ := cpA X W.hx hZ hown w1 w2 w3 w4 eT A B (Or.inl ⟨rfl, hty⟩) h1.1 h2.1 h3.1 (by rw [h1.2, h3.2, hx1.2]; exact h4) (by rw [h2.2, h3.2, hx2.2]; exact h5) hus (by rw [h2.2, h3.2]; exact h5) hN (hsf b hb').1 (g := mkF m pc L (.int nn :: .int dp :: .ref b :: .int sp :: .ref a :: S)) rfl (hL.trans b5.symm) rfl (W.hd dd) hf (W := Wd) (by show 2 * 0 + _ ≤ _; rw [Nat.mul_zero, Nat.zero_add]; exact hW) hlo
  rw [h2.2, h3.2] at B'
  obtain ⟨hd, rfl⟩ := dd
  exact WP.st (fun t q => st t q) (k T' h' (W.pack X' e' N' K'.1 (fun H => H.step fun z hz c q => K'.2.1 z c q (fun u => (hsf b hb').2.2 ((List.mem_singleton.mp u) ▸ hz))) (fun x hx => Or.inl hx)) K' (Av.of_arv B' (by rw [hx2.2]; simp; omega)))

theorem k_ldcO (W : WS p l e R s m args below meth c Z a0 EL nw n0 y code maxL ret T h sf cells slots) {index : Nat} {text : String} (n c' s' : Nat) (hnw : nw = false) (dd : D code pc (.ldc index) 2 pc') (w : (Cond.stringLink y.cls index text).before a0 Z = true) (wS : ∀ a ∈ Bundle.stringAtoms, a.before a0 Z = true) (hn1 : 4 * text.toList.length ≤ n ∧ n ≤ 536870912) (hc : cells + 2 = c' ∧ c' ≤ R.cells) (hl : slots + (n + 4) = s' ∧ s' ≤ R.slots)
    (k : ∀ T' h' a, WS p l e R s m args below meth c Z a0 EL nw n0 y code maxL ret T' h' sf c' s' → Ext h h' → WP p e below Φ T' (mkF m pc' L (.ref a :: S))) : WP p e below Φ T (mkF m pc L (S)) := by
  obtain ⟨locs, X, eT, hS, hZ, hown, hC, hN, hn, hsf, hE, hWm, b1, b2, b3, b4, b5, b6⟩ := id W
  obtain ⟨rfl, hc⟩ := hc
  obtain ⟨rfl, hl⟩ := hl
  obtain ⟨a, T', h', k1, X', e', E, hS', hk', hW', hown', hC', -, st⟩ := ldcOH (EL := EL) X W.hx hZ hown w wS eT hS (Nat.le_refl _) hE hC.1 (g := mkF m pc L S) rfl (W.hd dd) hn1.1 hn1.2 hc hl
  obtain ⟨hd, rfl⟩ := dd
  refine WP.st (fun t q => st t q) (k T' h' a ⟨locs, X', e', ⟨hS'.1, fun j p u v => ⟨(hS'.2 j p u v).1, Nat.lt_of_lt_of_le (hS'.2 j p u v).2 hk'⟩⟩, hW', hown', hC.trans hC', hN, Nat.le_trans hn E.1, fun x hx => ?_, hE, fun u => by (rw [hnw] at u; cases u), b1, b2, b3, b4, b5, b6⟩ E)
  obtain ⟨g1, g2, g3⟩ := hsf x hx
  exact ⟨g1, Nat.lt_of_lt_of_le g2 E.1, hC'.safe g2 g3⟩
theorem k_ldcS (W : WS p l e R s m args below meth c Z a0 EL nw n0 y code maxL ret T h sf cells slots) {index : Nat} {text : String} (bs : List Int32) (n c' s' : Nat) (hnw : nw = false) (dd : D code pc (.ldc index) 2 pc') (w : (Cond.stringLink y.cls index text).before a0 Z = true) (wS : ∀ a ∈ Bundle.stringAtoms, a.before a0 Z = true) (hmem : (y.cls, index) ∈ EL)
    (ht : (∀ c ∈ text.toList, c.toNat < 256) ∧ text.toList.map (fun c => Value.int (Jvm.Lit.byteI c.toNat.toUInt16)) = bs.map Value.int) (hlen : bs.length < 2147483648) (hn1 : 4 * text.toList.length ≤ n ∧ n ≤ 536870912) (hc : cells + 2 = c' ∧ c' ≤ R.cells) (hl : slots + (n + 4) = s' ∧ s' ≤ R.slots)
    (k : ∀ T' h' a b, WS p l e R s m args below meth c Z a0 EL nw n0 y code maxL ret T' h' sf c' s' → Ext h h' → St Z h' a b bs → (∀ x ∈ sf, x ≠ a ∧ x ≠ b) → WP p e below Φ T' (mkF m pc' L (.ref a :: S))) : WP p e below Φ T (mkF m pc L (S)) := by
  obtain ⟨locs, X, eT, hS, hZ, hown, hC, hN, hn, hsf, hE, hWm, b1, b2, b3, b4, b5, b6⟩ := id W
  obtain ⟨rfl, hc⟩ := hc
  obtain ⟨rfl, hl⟩ := hl
  have hzz : (Int32.ofNat bs.length).toNatClampNeg = (bs.map Value.int).length := by
    rw [List.length_map]; unfold Int32.toNatClampNeg; rw [Int32.toInt_ofNat_of_lt (by simpa using hlen)]; rfl
  have hz0 : ¬ Int32.ofNat bs.length < 0 := by
    rw [Int32.lt_iff_toInt_lt, Int32.toInt_ofNat_of_lt (by simpa using hlen)]; simp
  obtain ⟨a, T', h', k1, b, kk, X', e', E, hS', hk', hW', hown', G1, G2, G3, G4, -, -, hC', -, hne, st⟩ := ldcCH (EL := EL) X W.hx hZ hown w wS eT hS (Nat.le_refl _) hE hmem hC.1 (vs := bs.map Value.int) (z := Int32.ofNat bs.length) ht hz0 hzz (g := mkF m pc L S) rfl (W.hd dd) hn1.1 hn1.2 hc hl
  obtain ⟨hd, rfl⟩ := dd
  have hsf' : ∀ x ∈ sf, n0 ≤ x ∧ x < h'.size ∧ Safe Z EL T'.vm h' x := fun x hx => by
    obtain ⟨g1, g2, g3⟩ := hsf x hx
    exact ⟨g1, Nat.lt_of_lt_of_le g2 E.1, hC'.safe g2 g3⟩
  exact WP.st (fun t q => st t q) (k T' h' a b ⟨locs, X', e', ⟨hS'.1, fun j p u v => ⟨(hS'.2 j p u v).1, Nat.lt_of_lt_of_le (hS'.2 j p u v).2 hk'⟩⟩, hW', hown', hC.trans hC', hN, Nat.le_trans hn E.1, hsf', hE, fun u => by (rw [hnw] at u; cases u), b1, b2, b3, b4, b5, b6⟩ E ⟨G1, G2, G3, Av.of_arv G4 hzz⟩ (fun x hx => hne x (hsf' x hx).2.2))
end Steps

/-! ## calls by contract -/
section Calls
variable {p : Program} {l : Launch} {e : Env} {R : Room} {s : State} {m : MethodId} {args : Array Value} {below : List Frame} {meth : Method} {c : Code} {Z : State} {EL : List (String × Nat)} {nw : Bool} {n0 : Nat} {y : MethodName} {code : ByteArray} {maxL : Nat} {ret : Option FieldType} {T : State} {h : Heap} {sf : List Addr} {cells slots : Nat} {Φ : Outcome → State → Prop} {a0 : Array Value} {pc pc' : Nat} {L : Array Slot} {S : List Value}
theorem backCt {z : MethodName} {bytes : ByteArray} {mL : Nat} {rt : Option FieldType} {rm : Room} {as' : Array Value} {sfc : List Addr} {Q : Option Value → Heap → List Addr → Prop} {len Wd : Nat} {vm0 : Vm}
    (hM : Ct l Z a0 EL nw z bytes mL rt rm as' h sfc n0 Q) (hZ : Z.Warmed39 vm0) (wc : (Cond.code z bytes mL rt).before a0 Z = true) (wz : (Cond.initialized z.cls).before a0 Z = true) (hf : rm.frames + 1 ≤ R.frames) (hl : Wd + (mL + 11) + rm.locals ≤ R.locals) (hE : EW Z a0 EL) (hn : n0 ≤ h.size) (H : CHv Z EL vm0 h) (hsf : ∀ x ∈ sfc, n0 ≤ x ∧ x < h.size ∧ Safe Z EL vm0 h x) :
    BackS l R p e below (s.setVm vm0) args z len Wd (fun A a => a = as' ∧ A.U.heap = h ∧ A.cells + rm.cells ≤ R.cells ∧ A.slots + rm.slots ≤ R.slots)
      (fun A _ v B => ∃ L so, Q v B.U.heap so ∧ Fr n0 L ∧ B.locs = A.locs ++ L ∧ B.cells = A.cells + rm.cells ∧ B.slots = A.slots + rm.slots ∧ CHr Z EL vm0 h B.U.vm B.U.heap ∧ (nw = true → (s.setVm vm0).WarmedH B.U.vm) ∧ ∀ x ∈ so, n0 ≤ x ∧ x < B.U.heap.size ∧ Safe Z EL B.U.vm B.U.heap x) := by
  refine BackS.of_freeW (bytes := bytes) (maxL := mL) (ret := rt) (E := fun _ first o t L k n => k = rm.cells ∧ n = rm.slots ∧ ∃ v so, o = .returned v ∧ Q v t.heap so ∧ Fr n0 L ∧ CHr Z EL first.vm first.heap t.vm t.heap ∧ (nw = true → first.WarmedH t.vm) ∧ ∀ x ∈ so, n0 ≤ x ∧ x < t.heap.size ∧ Safe Z EL t.vm t.heap x) (hM []) hf hl ?_ ?_ (fun _ _ _ _ _ _ _ _ _ => trivial) ?_ ?_
  · intro m meth c A a Y hp
    have hU : Z.Warmed39 A.U.vm := wtrans (s := s.setVm vm0) hZ Y.warmed
    exact ⟨by show (Cond.and _ .tt).before a A.U = true; rw [Cond.before_and, mv hU wc]; rfl, mv hU wc, mv hU wz, hp.2.2.1, hp.2.2.2⟩
  · intro m meth c A a g mk Y hp
    have C := CHv.at Y hZ hE H
    refine ⟨hp.1, wtrans (s := s.setVm vm0) hZ Y.warmed, hp.2.1, C.1, hn, hE, fun x hx => ?_⟩
    obtain ⟨q1, q2, q3⟩ := hsf x hx
    exact ⟨q1, q2, C.safe q2 q3⟩
  · rintro a first o t ⟨v, L, so, q1, q2, q3, q4, q5, qw, q6⟩
    exact ⟨L, _, _, q6, rfl, rfl, v, so, q1, q2, q3, q4, qw, q5⟩
  · rintro m meth c A a g mk v t L k n Y hp - - ⟨rfl, rfl, v', so, q1, q2, q3, q4, qw, q5⟩
    cases q1
    refine ⟨L, so, q2, q3, rfl, rfl, rfl, (CHv.at Y hZ hE H).trans ?_, fun u => State.WarmedH.trans Y.warmed (qw u), q5⟩
    rw [← hp.2.1]; exact q4

theorem k_callS (W : WS p l e R s m args below meth c Z a0 EL nw n0 y code maxL ret T h sf cells slots) {z : MethodName} {bytes : ByteArray} {mL : Nat} {rt : Option FieldType} {rm : Room} {sfc : List Addr} {Q : Option Value → Heap → List Addr → Prop} (Wd c' s' : Nat) {argsL rest : List Value} {index : Nat} (dd : D code pc (.invokestatic index) 3 pc') (w1 : (Cond.methodLink y.cls index z).before a0 Z = true) (w2 : (Cond.static z).before a0 Z = true) (hy : z.cls ≠ "java/lang/invoke/MethodHandle" ∧ z.cls ≠ "java/lang/invoke/VarHandle") (hlen : ∀ sig, parseMethodDescriptor z.desc = some sig → argsL.length = sig.parameters.length) (hC : Ct l Z a0 EL nw z bytes mL rt rm argsL.toArray h sfc n0 Q) (w4 : (Cond.code z bytes mL rt).before a0 Z = true) (w3 : (Cond.initialized z.cls).before a0 Z = true) (hsfc : ∀ x ∈ sfc, x ∈ sf) (hL : L.size = maxL) (hW : catS rest ≤ Wd) (hf : rm.frames + 1 ≤ R.frames) (hl : Wd + (mL + 11) + rm.locals ≤ R.locals) (hc : cells + rm.cells = c' ∧ c' ≤ R.cells) (hs : slots + rm.slots = s' ∧ s' ≤ R.slots) (hst : S = argsL.reverse ++ rest) (hnv : ∀ h so, ¬ Q none h so)
    (k : ∀ T' h' (v : Value) so, WS p l e R s m args below meth c Z a0 EL nw n0 y code maxL ret T' h' sf c' s' → Q (some v) h' so → WP p e below Φ T' (mkF m pc' L (v :: rest))) : WP p e below Φ T (mkF m pc L S) := by
  obtain ⟨locs, X, eT, hS, hZ, hown, hC0, hN, hn, hsf, hE, hWm, b1, b2, b3, b4, b5, b6⟩ := id W
  obtain ⟨rfl, hc⟩ := hc
  obtain ⟨rfl, hs⟩ := hs
  have hB := backCt (R := R) (p := p) (e := e) (below := below) (s := s) (args := args) (len := 3) (Wd := Wd) hC hZ w4 w3 hf hl hE hn hC0.1 (fun x hx => hsf x (hsfc x hx))
  obtain ⟨v, vm₁, ⟨U', L', c1, s1⟩, -, X', hS', hg, hpost, st⟩ := callSS X W.hx hown (mvT (s := s.setVm T.vm) hZ w1) (mvT (s := s.setVm T.vm) hZ w2) (mvT (s := s.setVm T.vm) hZ w3) (mvT (s := s.setVm T.vm) hZ w4) hy hB (g := mkF m pc L S) rfl (hL.trans b5.symm) (argsL := argsL) (rest := rest) hlen hst (by show 2 * 0 + _ ≤ _; rw [Nat.mul_zero, Nat.zero_add]; exact hW) (W.hd dd) (fun vm₁ _ => ⟨rfl, eT, hc, hs⟩)
  obtain ⟨L1, so, q1, q2, q3, q4, q5, q6, qw, q7⟩ := hpost
  dsimp only [Pt.U, Pt.locs, Pt.cells, Pt.slots] at X' hS' hg q1 q2 q3 q4 q5 q6 qw q7 st
  subst q3 q4 q5
  obtain ⟨hd, rfl⟩ := dd
  have WW : WS p l e R s m args below meth c Z a0 EL nw n0 y code maxL ret U' U'.heap (so ++ sf) (cells + rm.cells) (slots + rm.slots) := by
    refine ⟨_, X', rfl, hS.trans hS' (by rw [← eT]; exact hg), State.Warmed39.trans (t := s.setVm T.vm) hZ hS'.1, by rw [hS'.1.alike.findClass]; exact hown, hC0.trans q6, hN.app q2, Nat.le_trans hn (by rw [← eT]; exact hg), fun x hx => ?_, hE, fun u => State.WarmedH.trans (t := s.setVm T.vm) (hWm u) (qw u), b1, b2, b3, b4, b5, b6⟩
    rcases List.mem_append.mp hx with u | u
    · exact q7 x u
    · obtain ⟨g1, g2, g3⟩ := hsf x u
      exact ⟨g1, Nat.lt_of_lt_of_le g2 (by rw [← eT]; exact hg), q6.safe g2 g3⟩
  cases v with
  | none => exact absurd q1 (hnv _ _)
  | some v =>
  refine WP.steps st (k _ _ v so (WS.mono (sf' := sf) WW (Nat.le_refl _) (Nat.le_refl _) (fun x hx => List.mem_append_right _ hx)) q1)

theorem k_callS0 (W : WS p l e R s m args below meth c Z a0 EL nw n0 y code maxL ret T h sf cells slots) {z : MethodName} {bytes : ByteArray} {mL : Nat} {rt : Option FieldType} {rm : Room} {sfc : List Addr} {Q : Option Value → Heap → List Addr → Prop} (Wd c' s' : Nat) {argsL rest : List Value} {index : Nat} (dd : D code pc (.invokestatic index) 3 pc') (w1 : (Cond.methodLink y.cls index z).before a0 Z = true) (w2 : (Cond.static z).before a0 Z = true) (hy : z.cls ≠ "java/lang/invoke/MethodHandle" ∧ z.cls ≠ "java/lang/invoke/VarHandle") (hlen : ∀ sig, parseMethodDescriptor z.desc = some sig → argsL.length = sig.parameters.length) (hC : Ct l Z a0 EL nw z bytes mL rt rm argsL.toArray h sfc n0 Q) (w4 : (Cond.code z bytes mL rt).before a0 Z = true) (w3 : (Cond.initialized z.cls).before a0 Z = true) (hsfc : ∀ x ∈ sfc, x ∈ sf) (hL : L.size = maxL) (hW : catS rest ≤ Wd) (hf : rm.frames + 1 ≤ R.frames) (hl : Wd + (mL + 11) + rm.locals ≤ R.locals) (hc : cells + rm.cells = c' ∧ c' ≤ R.cells) (hs : slots + rm.slots = s' ∧ s' ≤ R.slots) (hst : S = argsL.reverse ++ rest) (hnv : ∀ v h so, ¬ Q (some v) h so)
    (k : ∀ T' h'  so, WS p l e R s m args below meth c Z a0 EL nw n0 y code maxL ret T' h' sf c' s' → Q none h' so → WP p e below Φ T' (mkF m pc' L rest)) : WP p e below Φ T (mkF m pc L S) := by
  obtain ⟨locs, X, eT, hS, hZ, hown, hC0, hN, hn, hsf, hE, hWm, b1, b2, b3, b4, b5, b6⟩ := id W
  obtain ⟨rfl, hc⟩ := hc
  obtain ⟨rfl, hs⟩ := hs
  have hB := backCt (R := R) (p := p) (e := e) (below := below) (s := s) (args := args) (len := 3) (Wd := Wd) hC hZ w4 w3 hf hl hE hn hC0.1 (fun x hx => hsf x (hsfc x hx))
  obtain ⟨v, vm₁, ⟨U', L', c1, s1⟩, -, X', hS', hg, hpost, st⟩ := callSS X W.hx hown (mvT (s := s.setVm T.vm) hZ w1) (mvT (s := s.setVm T.vm) hZ w2) (mvT (s := s.setVm T.vm) hZ w3) (mvT (s := s.setVm T.vm) hZ w4) hy hB (g := mkF m pc L S) rfl (hL.trans b5.symm) (argsL := argsL) (rest := rest) hlen hst (by show 2 * 0 + _ ≤ _; rw [Nat.mul_zero, Nat.zero_add]; exact hW) (W.hd dd) (fun vm₁ _ => ⟨rfl, eT, hc, hs⟩)
  obtain ⟨L1, so, q1, q2, q3, q4, q5, q6, qw, q7⟩ := hpost
  dsimp only [Pt.U, Pt.locs, Pt.cells, Pt.slots] at X' hS' hg q1 q2 q3 q4 q5 q6 qw q7 st
  subst q3 q4 q5
  obtain ⟨hd, rfl⟩ := dd
  have WW : WS p l e R s m args below meth c Z a0 EL nw n0 y code maxL ret U' U'.heap (so ++ sf) (cells + rm.cells) (slots + rm.slots) := by
    refine ⟨_, X', rfl, hS.trans hS' (by rw [← eT]; exact hg), State.Warmed39.trans (t := s.setVm T.vm) hZ hS'.1, by rw [hS'.1.alike.findClass]; exact hown, hC0.trans q6, hN.app q2, Nat.le_trans hn (by rw [← eT]; exact hg), fun x hx => ?_, hE, fun u => State.WarmedH.trans (t := s.setVm T.vm) (hWm u) (qw u), b1, b2, b3, b4, b5, b6⟩
    rcases List.mem_append.mp hx with u | u
    · exact q7 x u
    · obtain ⟨g1, g2, g3⟩ := hsf x u
      exact ⟨g1, Nat.lt_of_lt_of_le g2 (by rw [← eT]; exact hg), q6.safe g2 g3⟩
  cases v with
  | some v => exact absurd q1 (hnv _ _ _)
  | none =>
  refine WP.steps st (k _ _ so (WS.mono (sf' := sf) WW (Nat.le_refl _) (Nat.le_refl _) (fun x hx => List.mem_append_right _ hx)) q1)

theorem k_callSn (W : WS p l e R s m args below meth c Z a0 EL nw n0 y code maxL ret T h sf cells slots) {z : MethodName} {bytes : ByteArray} {mL : Nat} {rt : Option FieldType} {rm : Room} {sfc : List Addr} {Q : Option Value → Heap → List Addr → Prop} (Wd c' s' : Nat) {argsL rest : List Value} {index : Nat} (dd : D code pc (.invokestatic index) 3 pc') (w1 : (Cond.methodLink y.cls index z).before a0 Z = true) (w2 : (Cond.static z).before a0 Z = true) (hy : z.cls ≠ "java/lang/invoke/MethodHandle" ∧ z.cls ≠ "java/lang/invoke/VarHandle") (hlen : ∀ sig, parseMethodDescriptor z.desc = some sig → argsL.length = sig.parameters.length) (hC : Ct l Z a0 EL nw z bytes mL rt rm argsL.toArray h sfc n0 Q) (w4 : (Cond.code z bytes mL rt).before a0 Z = true) (w3 : (Cond.initialized z.cls).before a0 Z = true) (hsfc : ∀ x ∈ sfc, x ∈ sf) (hL : L.size = maxL) (hW : catS rest ≤ Wd) (hf : rm.frames + 1 ≤ R.frames) (hl : Wd + (mL + 11) + rm.locals ≤ R.locals) (hc : cells + rm.cells = c' ∧ c' ≤ R.cells) (hs : slots + rm.slots = s' ∧ s' ≤ R.slots) (hst : S = argsL.reverse ++ rest) (hnv : ∀ h so, ¬ Q none h so)
    (k : ∀ T' h' (v : Value) so, WS p l e R s m args below meth c Z a0 EL nw n0 y code maxL ret T' h' (so ++ sf) c' s' → Q (some v) h' so → WP p e below Φ T' (mkF m pc' L (v :: rest))) : WP p e below Φ T (mkF m pc L S) := by
  obtain ⟨locs, X, eT, hS, hZ, hown, hC0, hN, hn, hsf, hE, hWm, b1, b2, b3, b4, b5, b6⟩ := id W
  obtain ⟨rfl, hc⟩ := hc
  obtain ⟨rfl, hs⟩ := hs
  have hB := backCt (R := R) (p := p) (e := e) (below := below) (s := s) (args := args) (len := 3) (Wd := Wd) hC hZ w4 w3 hf hl hE hn hC0.1 (fun x hx => hsf x (hsfc x hx))
  obtain ⟨v, vm₁, ⟨U', L', c1, s1⟩, -, X', hS', hg, hpost, st⟩ := callSS X W.hx hown (mvT (s := s.setVm T.vm) hZ w1) (mvT (s := s.setVm T.vm) hZ w2) (mvT (s := s.setVm T.vm) hZ w3) (mvT (s := s.setVm T.vm) hZ w4) hy hB (g := mkF m pc L S) rfl (hL.trans b5.symm) (argsL := argsL) (rest := rest) hlen hst (by show 2 * 0 + _ ≤ _; rw [Nat.mul_zero, Nat.zero_add]; exact hW) (W.hd dd) (fun vm₁ _ => ⟨rfl, eT, hc, hs⟩)
  obtain ⟨L1, so, q1, q2, q3, q4, q5, q6, qw, q7⟩ := hpost
  dsimp only [Pt.U, Pt.locs, Pt.cells, Pt.slots] at X' hS' hg q1 q2 q3 q4 q5 q6 qw q7 st
  subst q3 q4 q5
  obtain ⟨hd, rfl⟩ := dd
  have WW : WS p l e R s m args below meth c Z a0 EL nw n0 y code maxL ret U' U'.heap (so ++ sf) (cells + rm.cells) (slots + rm.slots) := by
    refine ⟨_, X', rfl, hS.trans hS' (by rw [← eT]; exact hg), State.Warmed39.trans (t := s.setVm T.vm) hZ hS'.1, by rw [hS'.1.alike.findClass]; exact hown, hC0.trans q6, hN.app q2, Nat.le_trans hn (by rw [← eT]; exact hg), fun x hx => ?_, hE, fun u => State.WarmedH.trans (t := s.setVm T.vm) (hWm u) (qw u), b1, b2, b3, b4, b5, b6⟩
    rcases List.mem_append.mp hx with u | u
    · exact q7 x u
    · obtain ⟨g1, g2, g3⟩ := hsf x u
      exact ⟨g1, Nat.lt_of_lt_of_le g2 (by rw [← eT]; exact hg), q6.safe g2 g3⟩
  cases v with
  | none => exact absurd q1 (hnv _ _)
  | some v =>
  refine WP.steps st (k _ _ v so WW q1)

theorem k_callI0 (W : WS p l e R s m args below meth c Z a0 EL nw n0 y code maxL ret T h sf cells slots) {z : MethodName} {bytes : ByteArray} {mL : Nat} {rt : Option FieldType} {rm : Room} {sfc : List Addr} {Q : Option Value → Heap → List Addr → Prop} (Wd c' s' : Nat) {argsL rest : List Value} {index : Nat} {a : Addr} (dd : D code pc (.invokespecial index) 3 pc') (hrt : rt = none) (hz : z.name = "<init>") (w1 : (Cond.methodLink y.cls index z).before a0 Z = true) (w2 : (Cond.instanceMethod z).before a0 Z = true) (hy : z.cls ≠ "java/lang/invoke/MethodHandle" ∧ z.cls ≠ "java/lang/invoke/VarHandle") (hlen : ∀ sig, parseMethodDescriptor z.desc = some sig → argsL.length = sig.parameters.length) (hC : Ct l Z a0 EL nw z bytes mL rt rm (.ref a :: argsL).toArray h sfc n0 Q) (w4 : (Cond.code z bytes mL rt).before a0 Z = true) (w3 : (Cond.initialized z.cls).before a0 Z = true) (hsfc : ∀ x ∈ sfc, x ∈ sf) (hL : L.size = maxL) (hW : catS rest ≤ Wd) (hf : rm.frames + 1 ≤ R.frames) (hl : Wd + (mL + 11) + rm.locals ≤ R.locals) (hc : cells + rm.cells = c' ∧ c' ≤ R.cells) (hs : slots + rm.slots = s' ∧ s' ≤ R.slots) (hst : S = argsL.reverse ++ .ref a :: rest) (hnv : ∀ v h so, ¬ Q (some v) h so)
    (k : ∀ T' h'  so, WS p l e R s m args below meth c Z a0 EL nw n0 y code maxL ret T' h' sf c' s' → Q none h' so → WP p e below Φ T' (mkF m pc' L rest)) : WP p e below Φ T (mkF m pc L S) := by
  obtain ⟨locs, X, eT, hS, hZ, hown, hC0, hN, hn, hsf, hE, hWm, b1, b2, b3, b4, b5, b6⟩ := id W
  obtain ⟨rfl, hc⟩ := hc
  obtain ⟨rfl, hs⟩ := hs
  have hB := backCt (R := R) (p := p) (e := e) (below := below) (s := s) (args := args) (len := 3) (Wd := Wd) hC hZ w4 w3 hf hl hE hn hC0.1 (fun x hx => hsf x (hsfc x hx))
  subst hrt
  obtain ⟨v, vm₁, ⟨U', L', c1, s1⟩, -, X', hS', hg, hpost, st⟩ := X.specialBackS W.hx (y := z) hz hown (mvT (s := s.setVm T.vm) hZ w1) (mvT (s := s.setVm T.vm) hZ w2) (mvT (s := s.setVm T.vm) hZ w4) hy hB (g := mkF m pc L S) rfl (hL.trans b5.symm) (Steps.refl _) (a := a) (argsL := argsL) (rest := rest) hlen hst (by show 2 * 0 + _ ≤ _; rw [Nat.mul_zero, Nat.zero_add]; exact hW) (W.hd dd) (fun vm₁ _ => ⟨rfl, eT, hc, hs⟩)
  obtain ⟨L1, so, q1, q2, q3, q4, q5, q6, qw, q7⟩ := hpost
  dsimp only [Pt.U, Pt.locs, Pt.cells, Pt.slots] at X' hS' hg q1 q2 q3 q4 q5 q6 qw q7 st
  subst q3 q4 q5
  obtain ⟨hd, rfl⟩ := dd
  have WW : WS p l e R s m args below meth c Z a0 EL nw n0 y code maxL ret U' U'.heap (so ++ sf) (cells + rm.cells) (slots + rm.slots) := by
    refine ⟨_, X', rfl, hS.trans hS' (by rw [← eT]; exact hg), State.Warmed39.trans (t := s.setVm T.vm) hZ hS'.1, by rw [hS'.1.alike.findClass]; exact hown, hC0.trans q6, hN.app q2, Nat.le_trans hn (by rw [← eT]; exact hg), fun x hx => ?_, hE, fun u => State.WarmedH.trans (t := s.setVm T.vm) (hWm u) (qw u), b1, b2, b3, b4, b5, b6⟩
    rcases List.mem_append.mp hx with u | u
    · exact q7 x u
    · obtain ⟨g1, g2, g3⟩ := hsf x u
      exact ⟨g1, Nat.lt_of_lt_of_le g2 (by rw [← eT]; exact hg), q6.safe g2 g3⟩
  cases v with
  | some v => exact absurd q1 (hnv _ _ _)
  | none =>
  refine WP.steps st (k _ _ so (WS.mono (sf' := sf) WW (Nat.le_refl _) (Nat.le_refl _) (fun x hx => List.mem_append_right _ hx)) q1)

theorem k_callV (W : WS p l e R s m args below meth c Z a0 EL nw n0 y code maxL ret T h sf cells slots) {z : MethodName} {bytes : ByteArray} {mL : Nat} {rt : Option FieldType} {rm : Room} {sfc : List Addr} {Q : Option Value → Heap → List Addr → Prop} (Wd c' s' : Nat) {argsL rest : List Value} {index : Nat} {a : Addr} {C : String} {z0 : MethodName} (dd : D code pc (.invokevirtual index) 3 pc') (w1 : (Cond.methodLink y.cls index z0).before a0 Z = true) (w2 : (Cond.declares z0).before a0 Z = true) (nf : ∀ s' : State, Z.Warmed39 s'.vm → NotFace s' z0) (w5 : (Cond.selects C z0 z).before a0 Z = true) (w6 : (Cond.instanceMethod z).before a0 Z = true) (hy : z0.cls ≠ "java/lang/invoke/MethodHandle" ∧ z0.cls ≠ "java/lang/invoke/VarHandle") (hlen : ∀ sig, parseMethodDescriptor z0.desc = some sig → argsL.length = sig.parameters.length) (E : Exa Z h a C) (hC : Ct l Z a0 EL nw z bytes mL rt rm (.ref a :: argsL).toArray h sfc n0 Q) (w4 : (Cond.code z bytes mL rt).before a0 Z = true) (w3 : (Cond.initialized z.cls).before a0 Z = true) (hsfc : ∀ x ∈ sfc, x ∈ sf) (hL : L.size = maxL) (hW : catS rest ≤ Wd) (hf : rm.frames + 1 ≤ R.frames) (hl : Wd + (mL + 11) + rm.locals ≤ R.locals) (hc : cells + rm.cells = c' ∧ c' ≤ R.cells) (hs : slots + rm.slots = s' ∧ s' ≤ R.slots) (hst : S = argsL.reverse ++ .ref a :: rest) (hnv : ∀ h so, ¬ Q none h so)
    (k : ∀ T' h' (v : Value) so, WS p l e R s m args below meth c Z a0 EL nw n0 y code maxL ret T' h' sf c' s' → Q (some v) h' so → WP p e below Φ T' (mkF m pc' L (v :: rest))) : WP p e below Φ T (mkF m pc L S) := by
  obtain ⟨locs, X, eT, hS, hZ, hown, hC0, hN, hn, hsf, hE, hWm, b1, b2, b3, b4, b5, b6⟩ := id W
  obtain ⟨rfl, hc⟩ := hc
  obtain ⟨rfl, hs⟩ := hs
  have hB := backCt (R := R) (p := p) (e := e) (below := below) (s := s) (args := args) (len := 3) (Wd := Wd) hC hZ w4 w3 hf hl hE hn hC0.1 (fun x hx => hsf x (hsfc x hx))
  obtain ⟨cq, kq, qa, qb, qc⟩ := isOf (s := s.setVm T.vm) hZ eT E
  obtain ⟨v, vm₁, ⟨U', L', c1, s1⟩, -, X', hS', hg, hpost, st⟩ := X.virtualBackS W.hx (y := z0) (z := z) hown (mvT (s := s.setVm T.vm) hZ w1) (mvT (s := s.setVm T.vm) hZ w2) (nf (s.setVm T.vm) hZ) (mvT (s := s.setVm T.vm) hZ w5) (mvT (s := s.setVm T.vm) hZ w6) hy hB qa qc (g := mkF m pc L S) rfl (hL.trans b5.symm) (Steps.refl _) (argsL := argsL) (rest := rest) hlen hst (by show 2 * 0 + _ ≤ _; rw [Nat.mul_zero, Nat.zero_add]; exact hW) (W.hd dd) (fun vm₁ _ => ⟨rfl, eT, hc, hs⟩)
  obtain ⟨L1, so, q1, q2, q3, q4, q5, q6, qw, q7⟩ := hpost
  dsimp only [Pt.U, Pt.locs, Pt.cells, Pt.slots] at X' hS' hg q1 q2 q3 q4 q5 q6 qw q7 st
  subst q3 q4 q5
  obtain ⟨hd, rfl⟩ := dd
  have WW : WS p l e R s m args below meth c Z a0 EL nw n0 y code maxL ret U' U'.heap (so ++ sf) (cells + rm.cells) (slots + rm.slots) := by
    refine ⟨_, X', rfl, hS.trans hS' (by rw [← eT]; exact hg), State.Warmed39.trans (t := s.setVm T.vm) hZ hS'.1, by rw [hS'.1.alike.findClass]; exact hown, hC0.trans q6, hN.app q2, Nat.le_trans hn (by rw [← eT]; exact hg), fun x hx => ?_, hE, fun u => State.WarmedH.trans (t := s.setVm T.vm) (hWm u) (qw u), b1, b2, b3, b4, b5, b6⟩
    rcases List.mem_append.mp hx with u | u
    · exact q7 x u
    · obtain ⟨g1, g2, g3⟩ := hsf x u
      exact ⟨g1, Nat.lt_of_lt_of_le g2 (by rw [← eT]; exact hg), q6.safe g2 g3⟩
  cases v with
  | none => exact absurd q1 (hnv _ _)
  | some v =>
  refine WP.steps st (k _ _ v so (WS.mono (sf' := sf) WW (Nat.le_refl _) (Nat.le_refl _) (fun x hx => List.mem_append_right _ hx)) q1)

theorem k_callV0 (W : WS p l e R s m args below meth c Z a0 EL nw n0 y code maxL ret T h sf cells slots) {z : MethodName} {bytes : ByteArray} {mL : Nat} {rt : Option FieldType} {rm : Room} {sfc : List Addr} {Q : Option Value → Heap → List Addr → Prop} (Wd c' s' : Nat) {argsL rest : List Value} {index : Nat} {a : Addr} {C : String} {z0 : MethodName} (dd : D code pc (.invokevirtual index) 3 pc') (w1 : (Cond.methodLink y.cls index z0).before a0 Z = true) (w2 : (Cond.declares z0).before a0 Z = true) (nf : ∀ s' : State, Z.Warmed39 s'.vm → NotFace s' z0) (w5 : (Cond.selects C z0 z).before a0 Z = true) (w6 : (Cond.instanceMethod z).before a0 Z = true) (hy : z0.cls ≠ "java/lang/invoke/MethodHandle" ∧ z0.cls ≠ "java/lang/invoke/VarHandle") (hlen : ∀ sig, parseMethodDescriptor z0.desc = some sig → argsL.length = sig.parameters.length) (E : Exa Z h a C) (hC : Ct l Z a0 EL nw z bytes mL rt rm (.ref a :: argsL).toArray h sfc n0 Q) (w4 : (Cond.code z bytes mL rt).before a0 Z = true) (w3 : (Cond.initialized z.cls).before a0 Z = true) (hsfc : ∀ x ∈ sfc, x ∈ sf) (hL : L.size = maxL) (hW : catS rest ≤ Wd) (hf : rm.frames + 1 ≤ R.frames) (hl : Wd + (mL + 11) + rm.locals ≤ R.locals) (hc : cells + rm.cells = c' ∧ c' ≤ R.cells) (hs : slots + rm.slots = s' ∧ s' ≤ R.slots) (hst : S = argsL.reverse ++ .ref a :: rest) (hnv : ∀ v h so, ¬ Q (some v) h so)
    (k : ∀ T' h'  so, WS p l e R s m args below meth c Z a0 EL nw n0 y code maxL ret T' h' sf c' s' → Q none h' so → WP p e below Φ T' (mkF m pc' L rest)) : WP p e below Φ T (mkF m pc L S) := by
  obtain ⟨locs, X, eT, hS, hZ, hown, hC0, hN, hn, hsf, hE, hWm, b1, b2, b3, b4, b5, b6⟩ := id W
  obtain ⟨rfl, hc⟩ := hc
  obtain ⟨rfl, hs⟩ := hs
  have hB := backCt (R := R) (p := p) (e := e) (below := below) (s := s) (args := args) (len := 3) (Wd := Wd) hC hZ w4 w3 hf hl hE hn hC0.1 (fun x hx => hsf x (hsfc x hx))
  obtain ⟨cq, kq, qa, qb, qc⟩ := isOf (s := s.setVm T.vm) hZ eT E
  obtain ⟨v, vm₁, ⟨U', L', c1, s1⟩, -, X', hS', hg, hpost, st⟩ := X.virtualBackS W.hx (y := z0) (z := z) hown (mvT (s := s.setVm T.vm) hZ w1) (mvT (s := s.setVm T.vm) hZ w2) (nf (s.setVm T.vm) hZ) (mvT (s := s.setVm T.vm) hZ w5) (mvT (s := s.setVm T.vm) hZ w6) hy hB qa qc (g := mkF m pc L S) rfl (hL.trans b5.symm) (Steps.refl _) (argsL := argsL) (rest := rest) hlen hst (by show 2 * 0 + _ ≤ _; rw [Nat.mul_zero, Nat.zero_add]; exact hW) (W.hd dd) (fun vm₁ _ => ⟨rfl, eT, hc, hs⟩)
  obtain ⟨L1, so, q1, q2, q3, q4, q5, q6, qw, q7⟩ := hpost
  dsimp only [Pt.U, Pt.locs, Pt.cells, Pt.slots] at X' hS' hg q1 q2 q3 q4 q5 q6 qw q7 st
  subst q3 q4 q5
  obtain ⟨hd, rfl⟩ := dd
  have WW : WS p l e R s m args below meth c Z a0 EL nw n0 y code maxL ret U' U'.heap (so ++ sf) (cells + rm.cells) (slots + rm.slots) := by
    refine ⟨_, X', rfl, hS.trans hS' (by rw [← eT]; exact hg), State.Warmed39.trans (t := s.setVm T.vm) hZ hS'.1, by rw [hS'.1.alike.findClass]; exact hown, hC0.trans q6, hN.app q2, Nat.le_trans hn (by rw [← eT]; exact hg), fun x hx => ?_, hE, fun u => State.WarmedH.trans (t := s.setVm T.vm) (hWm u) (qw u), b1, b2, b3, b4, b5, b6⟩
    rcases List.mem_append.mp hx with u | u
    · exact q7 x u
    · obtain ⟨g1, g2, g3⟩ := hsf x u
      exact ⟨g1, Nat.lt_of_lt_of_le g2 (by rw [← eT]; exact hg), q6.safe g2 g3⟩
  cases v with
  | some v => exact absurd q1 (hnv _ _ _)
  | none =>
  refine WP.steps st (k _ _ so (WS.mono (sf' := sf) WW (Nat.le_refl _) (Nat.le_refl _) (fun x hx => List.mem_append_right _ hx)) q1)

theorem k_callVn (W : WS p l e R s m args below meth c Z a0 EL nw n0 y code maxL ret T h sf cells slots) {z : MethodName} {bytes : ByteArray} {mL : Nat} {rt : Option FieldType} {rm : Room} {sfc : List Addr} {Q : Option Value → Heap → List Addr → Prop} (Wd c' s' : Nat) {argsL rest : List Value} {index : Nat} {a : Addr} {C : String} {z0 : MethodName} (dd : D code pc (.invokevirtual index) 3 pc') (w1 : (Cond.methodLink y.cls index z0).before a0 Z = true) (w2 : (Cond.declares z0).before a0 Z = true) (nf : ∀ s' : State, Z.Warmed39 s'.vm → NotFace s' z0) (w5 : (Cond.selects C z0 z).before a0 Z = true) (w6 : (Cond.instanceMethod z).before a0 Z = true) (hy : z0.cls ≠ "java/lang/invoke/MethodHandle" ∧ z0.cls ≠ "java/lang/invoke/VarHandle") (hlen : ∀ sig, parseMethodDescriptor z0.desc = some sig → argsL.length = sig.parameters.length) (E : Exa Z h a C) (hC : Ct l Z a0 EL nw z bytes mL rt rm (.ref a :: argsL).toArray h sfc n0 Q) (w4 : (Cond.code z bytes mL rt).before a0 Z = true) (w3 : (Cond.initialized z.cls).before a0 Z = true) (hsfc : ∀ x ∈ sfc, x ∈ sf) (hL : L.size = maxL) (hW : catS rest ≤ Wd) (hf : rm.frames + 1 ≤ R.frames) (hl : Wd + (mL + 11) + rm.locals ≤ R.locals) (hc : cells + rm.cells = c' ∧ c' ≤ R.cells) (hs : slots + rm.slots = s' ∧ s' ≤ R.slots) (hst : S = argsL.reverse ++ .ref a :: rest) (hnv : ∀ h so, ¬ Q none h so)
    (k : ∀ T' h' (v : Value) so, WS p l e R s m args below meth c Z a0 EL nw n0 y code maxL ret T' h' (so ++ sf) c' s' → Q (some v) h' so → WP p e below Φ T' (mkF m pc' L (v :: rest))) : WP p e below Φ T (mkF m pc L S) := by
  obtain ⟨locs, X, eT, hS, hZ, hown, hC0, hN, hn, hsf, hE, hWm, b1, b2, b3, b4, b5, b6⟩ := id W
  obtain ⟨rfl, hc⟩ := hc
  obtain ⟨rfl, hs⟩ := hs
  have hB := backCt (R := R) (p := p) (e := e) (below := below) (s := s) (args := args) (len := 3) (Wd := Wd) hC hZ w4 w3 hf hl hE hn hC0.1 (fun x hx => hsf x (hsfc x hx))
  obtain ⟨cq, kq, qa, qb, qc⟩ := isOf (s := s.setVm T.vm) hZ eT E
  obtain ⟨v, vm₁, ⟨U', L', c1, s1⟩, -, X', hS', hg, hpost, st⟩ := X.virtualBackS W.hx (y := z0) (z := z) hown (mvT (s := s.setVm T.vm) hZ w1) (mvT (s := s.setVm T.vm) hZ w2) (nf (s.setVm T.vm) hZ) (mvT (s := s.setVm T.vm) hZ w5) (mvT (s := s.setVm T.vm) hZ w6) hy hB qa qc (g := mkF m pc L S) rfl (hL.trans b5.symm) (Steps.refl _) (argsL := argsL) (rest := rest) hlen hst (by show 2 * 0 + _ ≤ _; rw [Nat.mul_zero, Nat.zero_add]; exact hW) (W.hd dd) (fun vm₁ _ => ⟨rfl, eT, hc, hs⟩)
  obtain ⟨L1, so, q1, q2, q3, q4, q5, q6, qw, q7⟩ := hpost
  dsimp only [Pt.U, Pt.locs, Pt.cells, Pt.slots] at X' hS' hg q1 q2 q3 q4 q5 q6 qw q7 st
  subst q3 q4 q5
  obtain ⟨hd, rfl⟩ := dd
  have WW : WS p l e R s m args below meth c Z a0 EL nw n0 y code maxL ret U' U'.heap (so ++ sf) (cells + rm.cells) (slots + rm.slots) := by
    refine ⟨_, X', rfl, hS.trans hS' (by rw [← eT]; exact hg), State.Warmed39.trans (t := s.setVm T.vm) hZ hS'.1, by rw [hS'.1.alike.findClass]; exact hown, hC0.trans q6, hN.app q2, Nat.le_trans hn (by rw [← eT]; exact hg), fun x hx => ?_, hE, fun u => State.WarmedH.trans (t := s.setVm T.vm) (hWm u) (qw u), b1, b2, b3, b4, b5, b6⟩
    rcases List.mem_append.mp hx with u | u
    · exact q7 x u
    · obtain ⟨g1, g2, g3⟩ := hsf x u
      exact ⟨g1, Nat.lt_of_lt_of_le g2 (by rw [← eT]; exact hg), q6.safe g2 g3⟩
  cases v with
  | none => exact absurd q1 (hnv _ _)
  | some v =>
  refine WP.steps st (k _ _ v so WW q1)

theorem k_callP (W : WS p l e R s m args below meth c Z a0 EL nw n0 y code maxL ret T h sf cells slots) {z : MethodName} {bytes : ByteArray} {mL : Nat} {rt : Option FieldType} {rm : Room} {sfc : List Addr} {Q : Option Value → Heap → List Addr → Prop} (Wd c' s' : Nat) {argsL rest : List Value} {index : Nat} {a : Addr} {C : String} (dd : D code pc (.invokevirtual index) 3 pc') (w1 : (Cond.methodLink y.cls index z).before a0 Z = true) (w2 : (Cond.instanceMethod z).before a0 Z = true) (w5 : (Cond.selects z.cls z z).before a0 Z = true) (w6 : (Cond.privateMethod z).before a0 Z = true) (hy : z.cls ≠ "java/lang/invoke/MethodHandle" ∧ z.cls ≠ "java/lang/invoke/VarHandle") (hlen : ∀ sig, parseMethodDescriptor z.desc = some sig → argsL.length = sig.parameters.length) (E : Exa Z h a C) (hC : Ct l Z a0 EL nw z bytes mL rt rm (.ref a :: argsL).toArray h sfc n0 Q) (w4 : (Cond.code z bytes mL rt).before a0 Z = true) (w3 : (Cond.initialized z.cls).before a0 Z = true) (hsfc : ∀ x ∈ sfc, x ∈ sf) (hL : L.size = maxL) (hW : catS rest ≤ Wd) (hf : rm.frames + 1 ≤ R.frames) (hl : Wd + (mL + 11) + rm.locals ≤ R.locals) (hc : cells + rm.cells = c' ∧ c' ≤ R.cells) (hs : slots + rm.slots = s' ∧ s' ≤ R.slots) (hst : S = argsL.reverse ++ .ref a :: rest) (hnv : ∀ h so, ¬ Q none h so)
    (k : ∀ T' h' (v : Value) so, WS p l e R s m args below meth c Z a0 EL nw n0 y code maxL ret T' h' sf c' s' → Q (some v) h' so → WP p e below Φ T' (mkF m pc' L (v :: rest))) : WP p e below Φ T (mkF m pc L S) := by
  obtain ⟨locs, X, eT, hS, hZ, hown, hC0, hN, hn, hsf, hE, hWm, b1, b2, b3, b4, b5, b6⟩ := id W
  obtain ⟨rfl, hc⟩ := hc
  obtain ⟨rfl, hs⟩ := hs
  have hB := backCt (R := R) (p := p) (e := e) (below := below) (s := s) (args := args) (len := 3) (Wd := Wd) hC hZ w4 w3 hf hl hE hn hC0.1 (fun x hx => hsf x (hsfc x hx))
  obtain ⟨cc, hc1, hc2⟩ := E.cell
  obtain ⟨v, vm₁, ⟨U', L', c1, s1⟩, -, X', hS', hg, hpost, st⟩ := X.privateBackS W.hx (y := z) hown (mvT (s := s.setVm T.vm) hZ w1) (mvT (s := s.setVm T.vm) hZ w2) (mvT (s := s.setVm T.vm) hZ w5) (Cond.privateMethod_at (mvP (s := s.setVm T.vm) hZ w6 (args := #[]))) (mvT (s := s.setVm T.vm) hZ w4) hy hB (g := mkF m pc L S) rfl (hL.trans b5.symm) (Steps.refl _) (a := a) (by rw [eT]; exact hc1) hc2 (argsL := argsL) (rest := rest) hlen hst (by show 2 * 0 + _ ≤ _; rw [Nat.mul_zero, Nat.zero_add]; exact hW) (W.hd dd) (fun vm₁ _ => ⟨rfl, eT, hc, hs⟩)
  obtain ⟨L1, so, q1, q2, q3, q4, q5, q6, qw, q7⟩ := hpost
  dsimp only [Pt.U, Pt.locs, Pt.cells, Pt.slots] at X' hS' hg q1 q2 q3 q4 q5 q6 qw q7 st
  subst q3 q4 q5
  obtain ⟨hd, rfl⟩ := dd
  have WW : WS p l e R s m args below meth c Z a0 EL nw n0 y code maxL ret U' U'.heap (so ++ sf) (cells + rm.cells) (slots + rm.slots) := by
    refine ⟨_, X', rfl, hS.trans hS' (by rw [← eT]; exact hg), State.Warmed39.trans (t := s.setVm T.vm) hZ hS'.1, by rw [hS'.1.alike.findClass]; exact hown, hC0.trans q6, hN.app q2, Nat.le_trans hn (by rw [← eT]; exact hg), fun x hx => ?_, hE, fun u => State.WarmedH.trans (t := s.setVm T.vm) (hWm u) (qw u), b1, b2, b3, b4, b5, b6⟩
    rcases List.mem_append.mp hx with u | u
    · exact q7 x u
    · obtain ⟨g1, g2, g3⟩ := hsf x u
      exact ⟨g1, Nat.lt_of_lt_of_le g2 (by rw [← eT]; exact hg), q6.safe g2 g3⟩
  cases v with
  | none => exact absurd q1 (hnv _ _)
  | some v =>
  refine WP.steps st (k _ _ v so (WS.mono (sf' := sf) WW (Nat.le_refl _) (Nat.le_refl _) (fun x hx => List.mem_append_right _ hx)) q1)

theorem k_callP0 (W : WS p l e R s m args below meth c Z a0 EL nw n0 y code maxL ret T h sf cells slots) {z : MethodName} {bytes : ByteArray} {mL : Nat} {rt : Option FieldType} {rm : Room} {sfc : List Addr} {Q : Option Value → Heap → List Addr → Prop} (Wd c' s' : Nat) {argsL rest : List Value} {index : Nat} {a : Addr} {C : String} (dd : D code pc (.invokevirtual index) 3 pc') (w1 : (Cond.methodLink y.cls index z).before a0 Z = true) (w2 : (Cond.instanceMethod z).before a0 Z = true) (w5 : (Cond.selects z.cls z z).before a0 Z = true) (w6 : (Cond.privateMethod z).before a0 Z = true) (hy : z.cls ≠ "java/lang/invoke/MethodHandle" ∧ z.cls ≠ "java/lang/invoke/VarHandle") (hlen : ∀ sig, parseMethodDescriptor z.desc = some sig → argsL.length = sig.parameters.length) (E : Exa Z h a C) (hC : Ct l Z a0 EL nw z bytes mL rt rm (.ref a :: argsL).toArray h sfc n0 Q) (w4 : (Cond.code z bytes mL rt).before a0 Z = true) (w3 : (Cond.initialized z.cls).before a0 Z = true) (hsfc : ∀ x ∈ sfc, x ∈ sf) (hL : L.size = maxL) (hW : catS rest ≤ Wd) (hf : rm.frames + 1 ≤ R.frames) (hl : Wd + (mL + 11) + rm.locals ≤ R.locals) (hc : cells + rm.cells = c' ∧ c' ≤ R.cells) (hs : slots + rm.slots = s' ∧ s' ≤ R.slots) (hst : S = argsL.reverse ++ .ref a :: rest) (hnv : ∀ v h so, ¬ Q (some v) h so)
    (k : ∀ T' h'  so, WS p l e R s m args below meth c Z a0 EL nw n0 y code maxL ret T' h' sf c' s' → Q none h' so → WP p e below Φ T' (mkF m pc' L rest)) : WP p e below Φ T (mkF m pc L S) := by
  obtain ⟨locs, X, eT, hS, hZ, hown, hC0, hN, hn, hsf, hE, hWm, b1, b2, b3, b4, b5, b6⟩ := id W
  obtain ⟨rfl, hc⟩ := hc
  obtain ⟨rfl, hs⟩ := hs
  have hB := backCt (R := R) (p := p) (e := e) (below := below) (s := s) (args := args) (len := 3) (Wd := Wd) hC hZ w4 w3 hf hl hE hn hC0.1 (fun x hx => hsf x (hsfc x hx))
  obtain ⟨cc, hc1, hc2⟩ := E.cell
  obtain ⟨v, vm₁, ⟨U', L', c1, s1⟩, -, X', hS', hg, hpost, st⟩ := X.privateBackS W.hx (y := z) hown (mvT (s := s.setVm T.vm) hZ w1) (mvT (s := s.setVm T.vm) hZ w2) (mvT (s := s.setVm T.vm) hZ w5) (Cond.privateMethod_at (mvP (s := s.setVm T.vm) hZ w6 (args := #[]))) (mvT (s := s.setVm T.vm) hZ w4) hy hB (g := mkF m pc L S) rfl (hL.trans b5.symm) (Steps.refl _) (a := a) (by rw [eT]; exact hc1) hc2 (argsL := argsL) (rest := rest) hlen hst (by show 2 * 0 + _ ≤ _; rw [Nat.mul_zero, Nat.zero_add]; exact hW) (W.hd dd) (fun vm₁ _ => ⟨rfl, eT, hc, hs⟩)
  obtain ⟨L1, so, q1, q2, q3, q4, q5, q6, qw, q7⟩ := hpost
  dsimp only [Pt.U, Pt.locs, Pt.cells, Pt.slots] at X' hS' hg q1 q2 q3 q4 q5 q6 qw q7 st
  subst q3 q4 q5
  obtain ⟨hd, rfl⟩ := dd
  have WW : WS p l e R s m args below meth c Z a0 EL nw n0 y code maxL ret U' U'.heap (so ++ sf) (cells + rm.cells) (slots + rm.slots) := by
    refine ⟨_, X', rfl, hS.trans hS' (by rw [← eT]; exact hg), State.Warmed39.trans (t := s.setVm T.vm) hZ hS'.1, by rw [hS'.1.alike.findClass]; exact hown, hC0.trans q6, hN.app q2, Nat.le_trans hn (by rw [← eT]; exact hg), fun x hx => ?_, hE, fun u => State.WarmedH.trans (t := s.setVm T.vm) (hWm u) (qw u), b1, b2, b3, b4, b5, b6⟩
    rcases List.mem_append.mp hx with u | u
    · exact q7 x u
    · obtain ⟨g1, g2, g3⟩ := hsf x u
      exact ⟨g1, Nat.lt_of_lt_of_le g2 (by rw [← eT]; exact hg), q6.safe g2 g3⟩
  cases v with
  | some v => exact absurd q1 (hnv _ _ _)
  | none =>
  refine WP.steps st (k _ _ so (WS.mono (sf' := sf) WW (Nat.le_refl _) (Nat.le_refl _) (fun x hx => List.mem_append_right _ hx)) q1)

theorem k_callPn (W : WS p l e R s m args below meth c Z a0 EL nw n0 y code maxL ret T h sf cells slots) {z : MethodName} {bytes : ByteArray} {mL : Nat} {rt : Option FieldType} {rm : Room} {sfc : List Addr} {Q : Option Value → Heap → List Addr → Prop} (Wd c' s' : Nat) {argsL rest : List Value} {index : Nat} {a : Addr} {C : String} (dd : D code pc (.invokevirtual index) 3 pc') (w1 : (Cond.methodLink y.cls index z).before a0 Z = true) (w2 : (Cond.instanceMethod z).before a0 Z = true) (w5 : (Cond.selects z.cls z z).before a0 Z = true) (w6 : (Cond.privateMethod z).before a0 Z = true) (hy : z.cls ≠ "java/lang/invoke/MethodHandle" ∧ z.cls ≠ "java/lang/invoke/VarHandle") (hlen : ∀ sig, parseMethodDescriptor z.desc = some sig → argsL.length = sig.parameters.length) (E : Exa Z h a C) (hC : Ct l Z a0 EL nw z bytes mL rt rm (.ref a :: argsL).toArray h sfc n0 Q) (w4 : (Cond.code z bytes mL rt).before a0 Z = true) (w3 : (Cond.initialized z.cls).before a0 Z = true) (hsfc : ∀ x ∈ sfc, x ∈ sf) (hL : L.size = maxL) (hW : catS rest ≤ Wd) (hf : rm.frames + 1 ≤ R.frames) (hl : Wd + (mL + 11) + rm.locals ≤ R.locals) (hc : cells + rm.cells = c' ∧ c' ≤ R.cells) (hs : slots + rm.slots = s' ∧ s' ≤ R.slots) (hst : S = argsL.reverse ++ .ref a :: rest) (hnv : ∀ h so, ¬ Q none h so)
    (k : ∀ T' h' (v : Value) so, WS p l e R s m args below meth c Z a0 EL nw n0 y code maxL ret T' h' (so ++ sf) c' s' → Q (some v) h' so → WP p e below Φ T' (mkF m pc' L (v :: rest))) : WP p e below Φ T (mkF m pc L S) := by
  obtain ⟨locs, X, eT, hS, hZ, hown, hC0, hN, hn, hsf, hE, hWm, b1, b2, b3, b4, b5, b6⟩ := id W
  obtain ⟨rfl, hc⟩ := hc
  obtain ⟨rfl, hs⟩ := hs
  have hB := backCt (R := R) (p := p) (e := e) (below := below) (s := s) (args := args) (len := 3) (Wd := Wd) hC hZ w4 w3 hf hl hE hn hC0.1 (fun x hx => hsf x (hsfc x hx))
  obtain ⟨cc, hc1, hc2⟩ := E.cell
  obtain ⟨v, vm₁, ⟨U', L', c1, s1⟩, -, X', hS', hg, hpost, st⟩ := X.privateBackS W.hx (y := z) hown (mvT (s := s.setVm T.vm) hZ w1) (mvT (s := s.setVm T.vm) hZ w2) (mvT (s := s.setVm T.vm) hZ w5) (Cond.privateMethod_at (mvP (s := s.setVm T.vm) hZ w6 (args := #[]))) (mvT (s := s.setVm T.vm) hZ w4) hy hB (g := mkF m pc L S) rfl (hL.trans b5.symm) (Steps.refl _) (a := a) (by rw [eT]; exact hc1) hc2 (argsL := argsL) (rest := rest) hlen hst (by show 2 * 0 + _ ≤ _; rw [Nat.mul_zero, Nat.zero_add]; exact hW) (W.hd dd) (fun vm₁ _ => ⟨rfl, eT, hc, hs⟩)
  obtain ⟨L1, so, q1, q2, q3, q4, q5, q6, qw, q7⟩ := hpost
  dsimp only [Pt.U, Pt.locs, Pt.cells, Pt.slots] at X' hS' hg q1 q2 q3 q4 q5 q6 qw q7 st
  subst q3 q4 q5
  obtain ⟨hd, rfl⟩ := dd
  have WW : WS p l e R s m args below meth c Z a0 EL nw n0 y code maxL ret U' U'.heap (so ++ sf) (cells + rm.cells) (slots + rm.slots) := by
    refine ⟨_, X', rfl, hS.trans hS' (by rw [← eT]; exact hg), State.Warmed39.trans (t := s.setVm T.vm) hZ hS'.1, by rw [hS'.1.alike.findClass]; exact hown, hC0.trans q6, hN.app q2, Nat.le_trans hn (by rw [← eT]; exact hg), fun x hx => ?_, hE, fun u => State.WarmedH.trans (t := s.setVm T.vm) (hWm u) (qw u), b1, b2, b3, b4, b5, b6⟩
    rcases List.mem_append.mp hx with u | u
    · exact q7 x u
    · obtain ⟨g1, g2, g3⟩ := hsf x u
      exact ⟨g1, Nat.lt_of_lt_of_le g2 (by rw [← eT]; exact hg), q6.safe g2 g3⟩
  cases v with
  | none => exact absurd q1 (hnv _ _)
  | some v =>
  refine WP.steps st (k _ _ v so WW q1)

theorem nfSel {C : String} {z0 : MethodName} (w : (Cond.selects C z0 z0).before a0 Z = true) (s' : State) (hZ : Z.Warmed39 s'.vm) : NotFace s' z0 := notFace_of_selects (args := #[]) (mvT hZ w)
theorem nfSel2 {C : String} {z1 z0 : MethodName} (w : (Cond.selects C z1 z1).before a0 Z = true) (hc : z0.cls = z1.cls) (s' : State) (hZ : Z.Warmed39 s'.vm) : NotFace s' z0 := fun r0 h0 => by
  obtain ⟨c2, r2, m2, q1, q2, q3, q4, kP, hkP, hkPi⟩ := Cond.selects_spec (args := #[]) (mvT hZ w)
  have e1 := findClass_of_methodNamed h0
  have e2 := findClass_of_methodNamed q3
  rw [hc] at e1
  have e3 := Option.some.inj (e1.symm.trans e2)
  exact ⟨kP, by rw [e3]; exact hkP, hkPi⟩
end Calls

/-! ## facts out of the case's words -/
section Start
variable {args : Array Value} {Z : State} {t u : Term} {a : Addr} {C n d : String} {v : Value} {ty : FieldType} {z : Int32} {vs : List Value}
theorem eq_start (h : (Cond.eq t (Term.int z)).value args Z none Z [] = some true) : t.eval args Z none [] Z = some (.int z) := by
  have hz : (Term.int z).eval args Z none [] Z = some (.int z) := rfl
  simp only [Cond.value, hz] at h
  cases ht : t.eval args Z none [] Z with
  | none => rw [ht] at h; cases h
  | some w => cases w <;> simp [ht] at h; rw [h]
theorem eqR_start (h : (Cond.eq t u).value args Z none Z [] = some true) (hu : u.eval args Z none [] Z = some (.ref a)) : t.eval args Z none [] Z = some (.ref a) := by
  simp only [Cond.value, hu] at h
  cases ht : t.eval args Z none [] Z with
  | none => rw [ht] at h; cases h
  | some w => cases w <;> simp [ht] at h; rw [h]
theorem exa_start (h : (Cond.exactly t C).value args Z none Z [] = some true) : ∃ a, t.eval args Z none [] Z = some (.ref a) ∧ Exa Z Z.heap a C := by
  obtain ⟨a', c', cell, k, e1, e2, e3, e4, e5, rfl, e7⟩ := Cond.exactly_spec (Cond.before_iff.mpr h)
  exact ⟨a', e1, cell, k, e3, e2, e4, e5, e7⟩
theorem fld_start (ht : t.eval args Z none [] Z = some (.ref a)) (hf : (Term.field t C n d).eval args Z none [] Z = some v) : Fld Z Z.heap a C n d v := Fld.start (by simpa [Term.eval, ht] using hf)
def Els (t : Term) (args : Array Value) (Z : State) : Nat → List Value → Prop
  | _, [] => True
  | i, v :: vs => (Term.elem t (Term.int (Int32.ofNat i))).eval args Z none [] Z = some v ∧ Els t args Z (i + 1) vs
theorem Els.get : ∀ {vs : List Value} {k : Nat}, Els t args Z k vs → ∀ i, i < vs.length → (Term.elem t (Term.int (Int32.ofNat (k + i)))).eval args Z none [] Z = vs[i]?
  | [], _, _, i, hi => by simp at hi
  | v :: vs, k, h, 0, _ => by simpa using h.1
  | v :: vs, k, h, i + 1, hi => by
    have := Els.get h.2 i (by simpa using hi)
    rw [show k + (i + 1) = k + 1 + i by omega]; simpa using this
theorem ref_of_arr (h : (Cond.arrayOf t ty).value args Z none Z [] = some true) : ∃ a, t.eval args Z none [] Z = some (.ref a) := by
  simp only [Cond.value] at h
  split at h
  · cases h
  · cases ht : t.eval args Z none [] Z with
    | none => rw [ht] at h; cases h
    | some w => cases w <;> simp [ht] at h <;> exact ⟨_, rfl⟩
theorem av_start (hf : Fit Z) (ht : t.eval args Z none [] Z = some (.ref a)) (h : (Cond.arrayOf t ty).value args Z none Z [] = some true) (hl : (Term.length t).eval args Z none [] Z = some (.int z)) (hz : Int32.ofNat vs.length = z) (hv : vs.length < 2147483648) (he : Els t args Z 0 vs) : Av Z Z.heap a ty vs := by
  obtain ⟨c, A⟩ := Arr.start ht h
  have hA : Z.arrayAt? a = some c := A.fin (Vm.Alike.refl _)
  have hs : c.slots.size = vs.length := by
    simp only [Term.eval, ht, Option.bind_eq_bind, Option.bind_some, hA, Option.pure_def] at hl
    split at hl
    · rename_i hlt
      have e1 : c.slots.size.toInt32 = z := by simpa using hl
      exact of_inj (by simpa using hlt) hv (e1.trans hz.symm)
    · cases hl
  have hg : ∀ i, i < vs.length → c.slots[i]? = vs[i]? := fun i hi => by
    have q := he.get i hi
    have hx := ix_of (i := i) (by omega)
    rw [Nat.zero_add] at q
    simp only [Term.eval, ht, Option.bind_eq_bind, Option.bind_some, hA, if_neg hx.1, hx.2] at q
    exact q
  have e : c.slots.toList = vs := by
    apply List.ext_getElem?; intro i
    by_cases hi : i < vs.length
    · rw [Array.getElem?_toList]; exact hg i hi
    · rw [Array.getElem?_toList, Array.getElem?_eq_none (by omega), List.getElem?_eq_none (by omega)]
  refine ⟨c, A, e, hv, fun w hw => ?_⟩
  obtain ⟨i, hi, rfl⟩ := List.mem_iff_getElem.mp hw
  have hx := ix_of (i := i) (by omega)
  obtain ⟨w', q1, q2⟩ := elem_fit hf A (j := Int32.ofNat i) (by rintro (u | u); exact hx.1 u; rw [hx.2] at u; omega)
  rw [hx.2, hg i hi, List.getElem?_eq_getElem hi] at q1
  cases q1; exact q2
theorem exa_any {idx : List Nat} (h : (Cond.exactly t C).value args Z none Z idx = some true) : ∃ a, t.eval args Z none idx Z = some (.ref a) ∧ Exa Z Z.heap a C := by
  obtain ⟨a', c', cell, k, e1, e2, e3, e4, e5, rfl, e7⟩ := Cond.exactly_spec (args := args) (first := Z) (o := none) (s := Z) (idx := idx) (t := t) (cls := C) (by simp [Cond.holds, h])
  exact ⟨a', e1, cell, k, e3, e2, e4, e5, e7⟩
theorem all_get {c : Cond} {cell : Cell} (h : (Cond.all t c).value args Z none Z [] = some true) (ht : t.eval args Z none [] Z = some (.ref a)) (hA : Z.arrayAt? a = some cell) : ∀ i, i < cell.slots.size → c.value args Z none Z [i] = some true := by
  simp only [Cond.value, ht, hA] at h
  have key : ∀ (l : List Nat) (acc : Option Bool), l.foldl (fun acc i => match acc with | some true => c.value args Z none Z [i] | x => x) acc = some true → acc = some true ∧ ∀ i ∈ l, c.value args Z none Z [i] = some true := by
    intro l
    induction l with
    | nil => intro acc q; exact ⟨q, fun i hi => nomatch hi⟩
    | cons j l ih =>
      intro acc q
      obtain ⟨q1, q2⟩ := ih _ q
      have ha : acc = some true := by
        cases acc with
        | none => simp at q1
        | some b => cases b <;> simp at q1 ⊢
      refine ⟨ha, fun i hi => ?_⟩
      subst ha
      rcases List.mem_cons.mp hi with rfl | hi
      · exact q1
      · exact q2 i hi
  exact fun i hi => (key _ _ h).2 i (List.mem_range.mpr hi)
theorem cache_start {c2 : Cond} {C1 n1 d1 : String} (hf : Fit Z) (ht : (Term.static C1 n1 d1).eval args Z none [] Z = some (.ref a)) (h : (Cond.arrayOf (Term.static C1 n1 d1) ty).value args Z none Z [] = some true) (hl : (Term.length (Term.static C1 n1 d1)).eval args Z none [] Z = some (.int z))
    (hall : (Cond.all (Term.static C1 n1 d1) (Cond.and (Cond.exactly (Term.elem (Term.static C1 n1 d1) (Term.index 0)) C) c2)).value args Z none Z [] = some true) : ∃ vs, Av Z Z.heap a ty vs ∧ Int32.ofNat vs.length = z ∧ AllExa Z Z.heap C vs := by
  obtain ⟨c, A⟩ := Arr.start ht h
  have hA : Z.arrayAt? a = some c := A.fin (Vm.Alike.refl _)
  have hs : c.slots.size < 2147483648 ∧ c.slots.size.toInt32 = z := by
    simp only [Term.eval] at hl
    simp only [Term.eval] at ht
    rw [ht] at hl
    simp only [Option.bind_eq_bind, Option.bind_some, hA, Option.pure_def] at hl
    split at hl
    · rename_i hlt; exact ⟨by simpa using hlt, by simpa using hl⟩
    · cases hl
  refine ⟨c.slots.toList, ⟨c, A, rfl, by simpa using hs.1, fun w hw => ?_⟩, by simpa using hs.2, fun v hv => ?_⟩
  · obtain ⟨i, hi, rfl⟩ := List.mem_iff_getElem.mp hw
    have hi' : i < c.slots.size := by simpa using hi
    have hx := ix_of (i := i) (by omega)
    obtain ⟨w', q1, q2⟩ := elem_fit hf A (j := Int32.ofNat i) (by rintro (u | u); exact hx.1 u; rw [hx.2] at u; omega)
    rw [hx.2, Array.getElem?_eq_getElem hi'] at q1
    cases q1; simpa using q2
  · obtain ⟨i, hi, rfl⟩ := List.mem_iff_getElem.mp hv
    have hi' : i < c.slots.size := by simpa using hi
    obtain ⟨r, q1, q2⟩ := exa_any (and_e (all_get hall ht hA i hi')).1
    have hx := ix_of (i := i) (by omega)
    have ht2 : (Term.static C1 n1 d1).eval args Z none [i] Z = some (.ref a) := ht
    have hi2 : (Term.index 0).eval args Z none [i] Z = some (.int (Int32.ofNat i)) := rfl
    have q3 : (Term.elem (Term.static C1 n1 d1) (Term.index 0)).eval args Z none [i] Z = c.slots[i]? := by
      show (do
        let .ref a ← (Term.static C1 n1 d1).eval args Z none [i] Z | none
        let .int j ← (Term.index 0).eval args Z none [i] Z | none
        if j < 0 then none else (← Z.arrayAt? a).slots[j.toNatClampNeg]?) = _
      rw [ht2, hi2]
      simp only [Option.bind_eq_bind, Option.bind_some, hA, if_neg hx.1, hx.2]
    rw [q3, Array.getElem?_eq_getElem hi'] at q1
    exact ⟨r, by simpa using q1, q2⟩
end Start

end Jvm.OwnK
namespace Jvm.Pilot.@@N@@
open Jvm Jvm.ClassFile Sem Op Lib Jvm.Free Jvm.Stand Jvm.LawKit Jvm.RoadKit Bundle Jvm.OwnK Jvm.Pilot.@@N@@.Jvm.D
def own_EL : List (String × Nat) := []
theorem w0 {Z : State} {a0 : Array Value} (hw : ∀ d ∈ tables_1, d.before a0 Z = true) : (Jvm.Cond.methodLink "com/example/kourier/kourier/outbox/OutboxEventWithIdPinLaw" (20 : Nat) ({ cls := "com/example/kourier/kourier/outbox/OutboxEventWithIdPinLaw", name := "mk", desc := "(JI)Ljava/lang/String;" } : Jvm.MethodName)).before a0 Z = true := hw _ (List.mem_of_getElem? (i := 0) rfl)
theorem w1 {Z : State} {a0 : Array Value} (hw : ∀ d ∈ tables_1, d.before a0 Z = true) : (Jvm.Cond.static ({ cls := "com/example/kourier/kourier/outbox/OutboxEventWithIdPinLaw", name := "mk", desc := "(JI)Ljava/lang/String;" } : Jvm.MethodName)).before a0 Z = true := hw _ (List.mem_of_getElem? (i := 1) rfl)
theorem w2 {Z : State} {a0 : Array Value} (hw : ∀ d ∈ tables_1, d.before a0 Z = true) : (Jvm.Cond.initialized "com/example/kourier/kourier/outbox/OutboxEventWithIdPinLaw").before a0 Z = true := hw _ (List.mem_of_getElem? (i := 2) rfl)
theorem w3 {Z : State} {a0 : Array Value} (hw : ∀ d ∈ tables_1, d.before a0 Z = true) : (Jvm.Cond.code ({ cls := "com/example/kourier/kourier/outbox/OutboxEventWithIdPinLaw", name := "mk", desc := "(JI)Ljava/lang/String;" } : Jvm.MethodName) method_3_code (6 : Nat) (Option.some (Jvm.ClassFile.FieldType.object "java/lang/String"))).before a0 Z = true := hw _ (List.mem_of_getElem? (i := 3) rfl)
theorem w4 {Z : State} {a0 : Array Value} (hw : ∀ d ∈ tables_1, d.before a0 Z = true) : (Jvm.Cond.constantLong "com/example/kourier/kourier/outbox/OutboxEventWithIdPinLaw" (13 : Nat) (255 : Int64)).before a0 Z = true := hw _ (List.mem_of_getElem? (i := 4) rfl)
theorem w5 {Z : State} {a0 : Array Value} (hw : ∀ d ∈ tables_1, d.before a0 Z = true) : (Jvm.Cond.constantLong "com/example/kourier/kourier/outbox/OutboxEventWithIdPinLaw" (15 : Nat) (94 : Int64)).before a0 Z = true := hw _ (List.mem_of_getElem? (i := 5) rfl)
theorem w6 {Z : State} {a0 : Array Value} (hw : ∀ d ∈ tables_1, d.before a0 Z = true) : (Jvm.Cond.classLink "com/example/kourier/kourier/outbox/OutboxEventWithIdPinLaw" (8 : Nat) "java/lang/String").before a0 Z = true := hw _ (List.mem_of_getElem? (i := 6) rfl)
theorem w7 {Z : State} {a0 : Array Value} (hw : ∀ d ∈ tables_1, d.before a0 Z = true) : (Jvm.Cond.instantiable "java/lang/String" (4 : Nat)).before a0 Z = true := hw _ (List.mem_of_getElem? (i := 7) rfl)
theorem w8 {Z : State} {a0 : Array Value} (hw : ∀ d ∈ tables_1, d.before a0 Z = true) : (Jvm.Cond.initialized "java/lang/String").before a0 Z = true := hw _ (List.mem_of_getElem? (i := 8) rfl)
theorem w9 {Z : State} {a0 : Array Value} (hw : ∀ d ∈ tables_1, d.before a0 Z = true) : (Jvm.Cond.arrayClass Jvm.ClassFile.FieldType.char).before a0 Z = true := hw _ (List.mem_of_getElem? (i := 9) rfl)
theorem w10 {Z : State} {a0 : Array Value} (hw : ∀ d ∈ tables_1, d.before a0 Z = true) : (Jvm.Cond.methodLink "com/example/kourier/kourier/outbox/OutboxEventWithIdPinLaw" (17 : Nat) ({ cls := "java/lang/String", name := "<init>", desc := "([C)V" } : Jvm.MethodName)).before a0 Z = true := hw _ (List.mem_of_getElem? (i := 10) rfl)
theorem w11 {Z : State} {a0 : Array Value} (hw : ∀ d ∈ tables_1, d.before a0 Z = true) : (Jvm.Cond.instanceMethod ({ cls := "java/lang/String", name := "<init>", desc := "([C)V" } : Jvm.MethodName)).before a0 Z = true := hw _ (List.mem_of_getElem? (i := 11) rfl)
theorem w12 {Z : State} {a0 : Array Value} (hw : ∀ d ∈ tables_1, d.before a0 Z = true) : (Jvm.Cond.code ({ cls := "java/lang/String", name := "<init>", desc := "([C)V" } : Jvm.MethodName) jdk_42_method_3_code (2 : Nat) (Option.none : Option Jvm.ClassFile.FieldType)).before a0 Z = true := hw _ (List.mem_of_getElem? (i := 12) rfl)
theorem w13 {Z : State} {a0 : Array Value} (hw : ∀ d ∈ tables_1, d.before a0 Z = true) : (Jvm.Cond.methodLink "java/lang/String" (27 : Nat) ({ cls := "java/lang/String", name := "<init>", desc := "([CIILjava/lang/Void;)V" } : Jvm.MethodName)).before a0 Z = true := hw _ (List.mem_of_getElem? (i := 13) rfl)
theorem w14 {Z : State} {a0 : Array Value} (hw : ∀ d ∈ tables_1, d.before a0 Z = true) : (Jvm.Cond.instanceMethod ({ cls := "java/lang/String", name := "<init>", desc := "([CIILjava/lang/Void;)V" } : Jvm.MethodName)).before a0 Z = true := hw _ (List.mem_of_getElem? (i := 14) rfl)
theorem w16 {Z : State} {a0 : Array Value} (hw : ∀ d ∈ tables_1, d.before a0 Z = true) : (Jvm.Cond.code ({ cls := "java/lang/String", name := "<init>", desc := "([CIILjava/lang/Void;)V" } : Jvm.MethodName) jdk_42_method_149_code (6 : Nat) (Option.none : Option Jvm.ClassFile.FieldType)).before a0 Z = true := hw _ (List.mem_of_getElem? (i := 16) rfl)
theorem w17 {Z : State} {a0 : Array Value} (hw : ∀ d ∈ tables_1, d.before a0 Z = true) : (Jvm.Cond.methodLink "java/lang/String" (1 : Nat) ({ cls := "java/lang/Object", name := "<init>", desc := "()V" } : Jvm.MethodName)).before a0 Z = true := hw _ (List.mem_of_getElem? (i := 17) rfl)
theorem w18 {Z : State} {a0 : Array Value} (hw : ∀ d ∈ tables_1, d.before a0 Z = true) : (Jvm.Cond.instanceMethod ({ cls := "java/lang/Object", name := "<init>", desc := "()V" } : Jvm.MethodName)).before a0 Z = true := hw _ (List.mem_of_getElem? (i := 18) rfl)
theorem w19 {Z : State} {a0 : Array Value} (hw : ∀ d ∈ tables_1, d.before a0 Z = true) : (Jvm.Cond.code ({ cls := "java/lang/Object", name := "<init>", desc := "()V" } : Jvm.MethodName) object_method_1_code (1 : Nat) (Option.none : Option Jvm.ClassFile.FieldType)).before a0 Z = true := hw _ (List.mem_of_getElem? (i := 19) rfl)
theorem w20 {Z : State} {a0 : Array Value} (hw : ∀ d ∈ tables_1, d.before a0 Z = true) : (Jvm.Cond.fieldLink "java/lang/String" (38 : Nat) "java/lang/String" "COMPACT_STRINGS" "Z").before a0 Z = true := hw _ (List.mem_of_getElem? (i := 20) rfl)
theorem w21 {Z : State} {a0 : Array Value} (hw : ∀ d ∈ tables_1, d.before a0 Z = true) : (Jvm.Cond.methodLink "java/lang/String" (177 : Nat) ({ cls := "java/lang/StringUTF16", name := "compress", desc := "([CII)[B" } : Jvm.MethodName)).before a0 Z = true := hw _ (List.mem_of_getElem? (i := 21) rfl)
theorem w22 {Z : State} {a0 : Array Value} (hw : ∀ d ∈ tables_1, d.before a0 Z = true) : (Jvm.Cond.static ({ cls := "java/lang/StringUTF16", name := "compress", desc := "([CII)[B" } : Jvm.MethodName)).before a0 Z = true := hw _ (List.mem_of_getElem? (i := 22) rfl)
theorem w23 {Z : State} {a0 : Array Value} (hw : ∀ d ∈ tables_1, d.before a0 Z = true) : (Jvm.Cond.initialized "java/lang/StringUTF16").before a0 Z = true := hw _ (List.mem_of_getElem? (i := 23) rfl)
theorem w24 {Z : State} {a0 : Array Value} (hw : ∀ d ∈ tables_1, d.before a0 Z = true) : (Jvm.Cond.code ({ cls := "java/lang/StringUTF16", name := "compress", desc := "([CII)[B" } : Jvm.MethodName) jdk_52_method_16_code (6 : Nat) (Option.some (Jvm.ClassFile.FieldType.array Jvm.ClassFile.FieldType.byte))).before a0 Z = true := hw _ (List.mem_of_getElem? (i := 24) rfl)
theorem w25 {Z : State} {a0 : Array Value} (hw : ∀ d ∈ tables_1, d.before a0 Z = true) : (Jvm.Cond.arrayClass Jvm.ClassFile.FieldType.byte).before a0 Z = true := hw _ (List.mem_of_getElem? (i := 25) rfl)
theorem w26 {Z : State} {a0 : Array Value} (hw : ∀ d ∈ tables_1, d.before a0 Z = true) : (Jvm.Cond.methodLink "java/lang/StringUTF16" (115 : Nat) ({ cls := "java/lang/StringUTF16", name := "compress", desc := "([CI[BII)I" } : Jvm.MethodName)).before a0 Z = true := hw _ (List.mem_of_getElem? (i := 26) rfl)
theorem w27 {Z : State} {a0 : Array Value} (hw : ∀ d ∈ tables_1, d.before a0 Z = true) : (Jvm.Cond.static ({ cls := "java/lang/StringUTF16", name := "compress", desc := "([CI[BII)I" } : Jvm.MethodName)).before a0 Z = true := hw _ (List.mem_of_getElem? (i := 27) rfl)
theorem w28 {Z : State} {a0 : Array Value} (hw : ∀ d ∈ tables_1, d.before a0 Z = true) : (Jvm.Cond.code ({ cls := "java/lang/StringUTF16", name := "compress", desc := "([CI[BII)I" } : Jvm.MethodName) jdk_52_method_21_code (7 : Nat) (Option.some Jvm.ClassFile.FieldType.int)).before a0 Z = true := hw _ (List.mem_of_getElem? (i := 28) rfl)
theorem w29 {Z : State} {a0 : Array Value} (hw : ∀ d ∈ tables_1, d.before a0 Z = true) : (Jvm.Cond.methodLink "java/lang/String" (47 : Nat) ({ cls := "java/lang/StringUTF16", name := "coderFromArrayLen", desc := "([BI)B" } : Jvm.MethodName)).before a0 Z = true := hw _ (List.mem_of_getElem? (i := 29) rfl)
theorem w30 {Z : State} {a0 : Array Value} (hw : ∀ d ∈ tables_1, d.before a0 Z = true) : (Jvm.Cond.static ({ cls := "java/lang/StringUTF16", name := "coderFromArrayLen", desc := "([BI)B" } : Jvm.MethodName)).before a0 Z = true := hw _ (List.mem_of_getElem? (i := 30) rfl)
theorem w31 {Z : State} {a0 : Array Value} (hw : ∀ d ∈ tables_1, d.before a0 Z = true) : (Jvm.Cond.code ({ cls := "java/lang/StringUTF16", name := "coderFromArrayLen", desc := "([BI)B" } : Jvm.MethodName) jdk_52_method_15_code (2 : Nat) (Option.some Jvm.ClassFile.FieldType.byte)).before a0 Z = true := hw _ (List.mem_of_getElem? (i := 31) rfl)
theorem w32 {Z : State} {a0 : Array Value} (hw : ∀ d ∈ tables_1, d.before a0 Z = true) : (Jvm.Cond.fieldLink "java/lang/String" (15 : Nat) "java/lang/String" "coder" "B").before a0 Z = true := hw _ (List.mem_of_getElem? (i := 32) rfl)
theorem w33 {Z : State} {a0 : Array Value} (hw : ∀ d ∈ tables_1, d.before a0 Z = true) : (Jvm.Cond.laysFinal "java/lang/String" "java/lang/String" "coder" "B").before a0 Z = true := hw _ (List.mem_of_getElem? (i := 33) rfl)
theorem w34 {Z : State} {a0 : Array Value} (hw : ∀ d ∈ tables_1, d.before a0 Z = true) : (Jvm.Cond.fieldLink "java/lang/String" (9 : Nat) "java/lang/String" "value" "[B").before a0 Z = true := hw _ (List.mem_of_getElem? (i := 34) rfl)
theorem w35 {Z : State} {a0 : Array Value} (hw : ∀ d ∈ tables_1, d.before a0 Z = true) : (Jvm.Cond.laysFinal "java/lang/String" "java/lang/String" "value" "[B").before a0 Z = true := hw _ (List.mem_of_getElem? (i := 35) rfl)
theorem w36 {Z : State} {a0 : Array Value} (hw : ∀ d ∈ tables_1, d.before a0 Z = true) : (Jvm.Cond.methodLink "com/example/kourier/kourier/outbox/OutboxEventWithIdPinLaw" (26 : Nat) ({ cls := "com/example/kourier/kourier/outbox/OutboxEventWithIdPinLaw", name := "text", desc := "(I)Ljava/lang/String;" } : Jvm.MethodName)).before a0 Z = true := hw _ (List.mem_of_getElem? (i := 36) rfl)
theorem w37 {Z : State} {a0 : Array Value} (hw : ∀ d ∈ tables_1, d.before a0 Z = true) : (Jvm.Cond.static ({ cls := "com/example/kourier/kourier/outbox/OutboxEventWithIdPinLaw", name := "text", desc := "(I)Ljava/lang/String;" } : Jvm.MethodName)).before a0 Z = true := hw _ (List.mem_of_getElem? (i := 37) rfl)
theorem w38 {Z : State} {a0 : Array Value} (hw : ∀ d ∈ tables_1, d.before a0 Z = true) : (Jvm.Cond.code ({ cls := "com/example/kourier/kourier/outbox/OutboxEventWithIdPinLaw", name := "text", desc := "(I)Ljava/lang/String;" } : Jvm.MethodName) method_2_code (1 : Nat) (Option.some (Jvm.ClassFile.FieldType.object "java/lang/String"))).before a0 Z = true := hw _ (List.mem_of_getElem? (i := 38) rfl)
theorem w39 {Z : State} {a0 : Array Value} (hw : ∀ d ∈ tables_1, d.before a0 Z = true) : (Jvm.Cond.methodLink "com/example/kourier/kourier/outbox/OutboxEventWithIdPinLaw" (7 : Nat) ({ cls := "java/lang/String", name := "valueOf", desc := "(C)Ljava/lang/String;" } : Jvm.MethodName)).before a0 Z = true := hw _ (List.mem_of_getElem? (i := 39) rfl)
theorem w40 {Z : State} {a0 : Array Value} (hw : ∀ d ∈ tables_1, d.before a0 Z = true) : (Jvm.Cond.static ({ cls := "java/lang/String", name := "valueOf", desc := "(C)Ljava/lang/String;" } : Jvm.MethodName)).before a0 Z = true := hw _ (List.mem_of_getElem? (i := 40) rfl)
theorem w41 {Z : State} {a0 : Array Value} (hw : ∀ d ∈ tables_1, d.before a0 Z = true) : (Jvm.Cond.code ({ cls := "java/lang/String", name := "valueOf", desc := "(C)Ljava/lang/String;" } : Jvm.MethodName) jdk_42_method_139_code (1 : Nat) (Option.some (Jvm.ClassFile.FieldType.object "java/lang/String"))).before a0 Z = true := hw _ (List.mem_of_getElem? (i := 41) rfl)
theorem w42 {Z : State} {a0 : Array Value} (hw : ∀ d ∈ tables_1, d.before a0 Z = true) : (Jvm.Cond.methodLink "java/lang/String" (1015 : Nat) ({ cls := "java/lang/StringLatin1", name := "canEncode", desc := "(C)Z" } : Jvm.MethodName)).before a0 Z = true := hw _ (List.mem_of_getElem? (i := 42) rfl)
theorem w43 {Z : State} {a0 : Array Value} (hw : ∀ d ∈ tables_1, d.before a0 Z = true) : (Jvm.Cond.static ({ cls := "java/lang/StringLatin1", name := "canEncode", desc := "(C)Z" } : Jvm.MethodName)).before a0 Z = true := hw _ (List.mem_of_getElem? (i := 43) rfl)
theorem w44 {Z : State} {a0 : Array Value} (hw : ∀ d ∈ tables_1, d.before a0 Z = true) : (Jvm.Cond.initialized "java/lang/StringLatin1").before a0 Z = true := hw _ (List.mem_of_getElem? (i := 44) rfl)
theorem w45 {Z : State} {a0 : Array Value} (hw : ∀ d ∈ tables_1, d.before a0 Z = true) : (Jvm.Cond.code ({ cls := "java/lang/StringLatin1", name := "canEncode", desc := "(C)Z" } : Jvm.MethodName) jdk_43_method_3_code (1 : Nat) (Option.some Jvm.ClassFile.FieldType.boolean)).before a0 Z = true := hw _ (List.mem_of_getElem? (i := 45) rfl)
theorem w46 {Z : State} {a0 : Array Value} (hw : ∀ d ∈ tables_1, d.before a0 Z = true) : (Jvm.Cond.classLink "java/lang/String" (10 : Nat) "java/lang/String").before a0 Z = true := hw _ (List.mem_of_getElem? (i := 46) rfl)
theorem w47 {Z : State} {a0 : Array Value} (hw : ∀ d ∈ tables_1, d.before a0 Z = true) : (Jvm.Cond.methodLink "java/lang/String" (1018 : Nat) ({ cls := "java/lang/StringLatin1", name := "toBytes", desc := "(C)[B" } : Jvm.MethodName)).before a0 Z = true := hw _ (List.mem_of_getElem? (i := 47) rfl)
theorem w48 {Z : State} {a0 : Array Value} (hw : ∀ d ∈ tables_1, d.before a0 Z = true) : (Jvm.Cond.static ({ cls := "java/lang/StringLatin1", name := "toBytes", desc := "(C)[B" } : Jvm.MethodName)).before a0 Z = true := hw _ (List.mem_of_getElem? (i := 48) rfl)
theorem w49 {Z : State} {a0 : Array Value} (hw : ∀ d ∈ tables_1, d.before a0 Z = true) : (Jvm.Cond.code ({ cls := "java/lang/StringLatin1", name := "toBytes", desc := "(C)[B" } : Jvm.MethodName) jdk_43_method_46_code (1 : Nat) (Option.some (Jvm.ClassFile.FieldType.array Jvm.ClassFile.FieldType.byte))).before a0 Z = true := hw _ (List.mem_of_getElem? (i := 49) rfl)
theorem w50 {Z : State} {a0 : Array Value} (hw : ∀ d ∈ tables_1, d.before a0 Z = true) : (Jvm.Cond.methodLink "java/lang/String" (209 : Nat) ({ cls := "java/lang/String", name := "<init>", desc := "([BB)V" } : Jvm.MethodName)).before a0 Z = true := hw _ (List.mem_of_getElem? (i := 50) rfl)
theorem w51 {Z : State} {a0 : Array Value} (hw : ∀ d ∈ tables_1, d.before a0 Z = true) : (Jvm.Cond.instanceMethod ({ cls := "java/lang/String", name := "<init>", desc := "([BB)V" } : Jvm.MethodName)).before a0 Z = true := hw _ (List.mem_of_getElem? (i := 51) rfl)
theorem w52 {Z : State} {a0 : Array Value} (hw : ∀ d ∈ tables_1, d.before a0 Z = true) : (Jvm.Cond.code ({ cls := "java/lang/String", name := "<init>", desc := "([BB)V" } : Jvm.MethodName) jdk_42_method_151_code (3 : Nat) (Option.none : Option Jvm.ClassFile.FieldType)).before a0 Z = true := hw _ (List.mem_of_getElem? (i := 52) rfl)
theorem w53 {Z : State} {a0 : Array Value} (hw : ∀ d ∈ tables_1, d.before a0 Z = true) : (Jvm.Cond.classLink "com/example/kourier/kourier/outbox/OutboxEventWithIdPinLaw" (30 : Nat) "com/example/kourier/kourier/outbox/OutboxEvent").before a0 Z = true := hw _ (List.mem_of_getElem? (i := 53) rfl)
theorem w54 {Z : State} {a0 : Array Value} (hw : ∀ d ∈ tables_1, d.before a0 Z = true) : (Jvm.Cond.instantiable "com/example/kourier/kourier/outbox/OutboxEvent" (5 : Nat)).before a0 Z = true := hw _ (List.mem_of_getElem? (i := 54) rfl)
theorem w55 {Z : State} {a0 : Array Value} (hw : ∀ d ∈ tables_1, d.before a0 Z = true) : (Jvm.Cond.initialized "com/example/kourier/kourier/outbox/OutboxEvent").before a0 Z = true := hw _ (List.mem_of_getElem? (i := 55) rfl)
theorem w56 {Z : State} {a0 : Array Value} (hw : ∀ d ∈ tables_1, d.before a0 Z = true) : (Jvm.Cond.methodLink "com/example/kourier/kourier/outbox/OutboxEventWithIdPinLaw" (32 : Nat) ({ cls := "com/example/kourier/kourier/outbox/OutboxEvent", name := "<init>", desc := "(Ljava/lang/String;Ljava/lang/String;Ljava/lang/String;[B)V" } : Jvm.MethodName)).before a0 Z = true := hw _ (List.mem_of_getElem? (i := 56) rfl)
theorem w57 {Z : State} {a0 : Array Value} (hw : ∀ d ∈ tables_1, d.before a0 Z = true) : (Jvm.Cond.instanceMethod ({ cls := "com/example/kourier/kourier/outbox/OutboxEvent", name := "<init>", desc := "(Ljava/lang/String;Ljava/lang/String;Ljava/lang/String;[B)V" } : Jvm.MethodName)).before a0 Z = true := hw _ (List.mem_of_getElem? (i := 57) rfl)
theorem w58 {Z : State} {a0 : Array Value} (hw : ∀ d ∈ tables_1, d.before a0 Z = true) : (Jvm.Cond.code ({ cls := "com/example/kourier/kourier/outbox/OutboxEvent", name := "<init>", desc := "(Ljava/lang/String;Ljava/lang/String;Ljava/lang/String;[B)V" } : Jvm.MethodName) prog_10_method_1_code (5 : Nat) (Option.none : Option Jvm.ClassFile.FieldType)).before a0 Z = true := hw _ (List.mem_of_getElem? (i := 58) rfl)
theorem w59 {Z : State} {a0 : Array Value} (hw : ∀ d ∈ tables_1, d.before a0 Z = true) : (Jvm.Cond.methodLink "com/example/kourier/kourier/outbox/OutboxEvent" (1 : Nat) ({ cls := "com/example/kourier/kourier/outbox/OutboxEvent", name := "<init>", desc := "(Ljava/lang/String;Ljava/lang/String;Ljava/lang/String;Ljava/lang/String;[B)V" } : Jvm.MethodName)).before a0 Z = true := hw _ (List.mem_of_getElem? (i := 59) rfl)
theorem w60 {Z : State} {a0 : Array Value} (hw : ∀ d ∈ tables_1, d.before a0 Z = true) : (Jvm.Cond.instanceMethod ({ cls := "com/example/kourier/kourier/outbox/OutboxEvent", name := "<init>", desc := "(Ljava/lang/String;Ljava/lang/String;Ljava/lang/String;Ljava/lang/String;[B)V" } : Jvm.MethodName)).before a0 Z = true := hw _ (List.mem_of_getElem? (i := 60) rfl)
theorem w61 {Z : State} {a0 : Array Value} (hw : ∀ d ∈ tables_1, d.before a0 Z = true) : (Jvm.Cond.code ({ cls := "com/example/kourier/kourier/outbox/OutboxEvent", name := "<init>", desc := "(Ljava/lang/String;Ljava/lang/String;Ljava/lang/String;Ljava/lang/String;[B)V" } : Jvm.MethodName) prog_10_method_2_code (6 : Nat) (Option.none : Option Jvm.ClassFile.FieldType)).before a0 Z = true := hw _ (List.mem_of_getElem? (i := 61) rfl)
theorem w62 {Z : State} {a0 : Array Value} (hw : ∀ d ∈ tables_1, d.before a0 Z = true) : (Jvm.Cond.methodLink "com/example/kourier/kourier/outbox/OutboxEvent" (7 : Nat) ({ cls := "java/lang/Object", name := "<init>", desc := "()V" } : Jvm.MethodName)).before a0 Z = true := hw _ (List.mem_of_getElem? (i := 62) rfl)
theorem w63 {Z : State} {a0 : Array Value} (hw : ∀ d ∈ tables_1, d.before a0 Z = true) : (Jvm.Cond.fieldLink "com/example/kourier/kourier/outbox/OutboxEvent" (12 : Nat) "com/example/kourier/kourier/outbox/OutboxEvent" "id" "Ljava/lang/String;").before a0 Z = true := hw _ (List.mem_of_getElem? (i := 63) rfl)
theorem w64 {Z : State} {a0 : Array Value} (hw : ∀ d ∈ tables_1, d.before a0 Z = true) : (Jvm.Cond.laysFinal "com/example/kourier/kourier/outbox/OutboxEvent" "com/example/kourier/kourier/outbox/OutboxEvent" "id" "Ljava/lang/String;").before a0 Z = true := hw _ (List.mem_of_getElem? (i := 64) rfl)
theorem w65 {Z : State} {a0 : Array Value} (hw : ∀ d ∈ tables_1, d.before a0 Z = true) : (Jvm.Cond.stringLink "com/example/kourier/kourier/outbox/OutboxEvent" (16 : Nat) "destination").before a0 Z = true := hw _ (List.mem_of_getElem? (i := 65) rfl)
theorem w68 {Z : State} {a0 : Array Value} (hw : ∀ d ∈ tables_1, d.before a0 Z = true) : (Jvm.Cond.methodLink "com/example/kourier/kourier/outbox/OutboxEvent" (18 : Nat) ({ cls := "com/example/kourier/kourier/outbox/OutboxEvent", name := "requireText", desc := "(Ljava/lang/String;Ljava/lang/String;)Ljava/lang/String;" } : Jvm.MethodName)).before a0 Z = true := hw _ (List.mem_of_getElem? (i := 68) rfl)
theorem w69 {Z : State} {a0 : Array Value} (hw : ∀ d ∈ tables_1, d.before a0 Z = true) : (Jvm.Cond.static ({ cls := "com/example/kourier/kourier/outbox/OutboxEvent", name := "requireText", desc := "(Ljava/lang/String;Ljava/lang/String;)Ljava/lang/String;" } : Jvm.MethodName)).before a0 Z = true := hw _ (List.mem_of_getElem? (i := 69) rfl)
theorem w70 {Z : State} {a0 : Array Value} (hw : ∀ d ∈ tables_1, d.before a0 Z = true) : (Jvm.Cond.code ({ cls := "com/example/kourier/kourier/outbox/OutboxEvent", name := "requireText", desc := "(Ljava/lang/String;Ljava/lang/String;)Ljava/lang/String;" } : Jvm.MethodName) prog_10_method_12_code (2 : Nat) (Option.some (Jvm.ClassFile.FieldType.object "java/lang/String"))).before a0 Z = true := hw _ (List.mem_of_getElem? (i := 70) rfl)
theorem w71 {Z : State} {a0 : Array Value} (hw : ∀ d ∈ tables_1, d.before a0 Z = true) : (Jvm.Cond.methodLink "com/example/kourier/kourier/outbox/OutboxEvent" (34 : Nat) ({ cls := "java/util/Objects", name := "requireNonNull", desc := "(Ljava/lang/Object;Ljava/lang/String;)Ljava/lang/Object;" } : Jvm.MethodName)).before a0 Z = true := hw _ (List.mem_of_getElem? (i := 71) rfl)
theorem w72 {Z : State} {a0 : Array Value} (hw : ∀ d ∈ tables_1, d.before a0 Z = true) : (Jvm.Cond.static ({ cls := "java/util/Objects", name := "requireNonNull", desc := "(Ljava/lang/Object;Ljava/lang/String;)Ljava/lang/Object;" } : Jvm.MethodName)).before a0 Z = true := hw _ (List.mem_of_getElem? (i := 72) rfl)
theorem w73 {Z : State} {a0 : Array Value} (hw : ∀ d ∈ tables_1, d.before a0 Z = true) : (Jvm.Cond.initialized "java/util/Objects").before a0 Z = true := hw _ (List.mem_of_getElem? (i := 73) rfl)
theorem w74 {Z : State} {a0 : Array Value} (hw : ∀ d ∈ tables_1, d.before a0 Z = true) : (Jvm.Cond.code ({ cls := "java/util/Objects", name := "requireNonNull", desc := "(Ljava/lang/Object;Ljava/lang/String;)Ljava/lang/Object;" } : Jvm.MethodName) jdk_31_method_11_code (2 : Nat) (Option.some (Jvm.ClassFile.FieldType.object "java/lang/Object"))).before a0 Z = true := hw _ (List.mem_of_getElem? (i := 74) rfl)
theorem w75 {Z : State} {a0 : Array Value} (hw : ∀ d ∈ tables_1, d.before a0 Z = true) : (Jvm.Cond.methodLink "com/example/kourier/kourier/outbox/OutboxEvent" (93 : Nat) ({ cls := "java/lang/String", name := "isBlank", desc := "()Z" } : Jvm.MethodName)).before a0 Z = true := hw _ (List.mem_of_getElem? (i := 75) rfl)
theorem w76 {Z : State} {a0 : Array Value} (hw : ∀ d ∈ tables_1, d.before a0 Z = true) : (Jvm.Cond.declares ({ cls := "java/lang/String", name := "isBlank", desc := "()Z" } : Jvm.MethodName)).before a0 Z = true := hw _ (List.mem_of_getElem? (i := 76) rfl)
theorem w77 {Z : State} {a0 : Array Value} (hw : ∀ d ∈ tables_1, d.before a0 Z = true) : (Jvm.Cond.instanceMethod ({ cls := "java/lang/String", name := "isBlank", desc := "()Z" } : Jvm.MethodName)).before a0 Z = true := hw _ (List.mem_of_getElem? (i := 77) rfl)
theorem w78 {Z : State} {a0 : Array Value} (hw : ∀ d ∈ tables_1, d.before a0 Z = true) : (Jvm.Cond.selects "java/lang/String" ({ cls := "java/lang/String", name := "isBlank", desc := "()Z" } : Jvm.MethodName) ({ cls := "java/lang/String", name := "isBlank", desc := "()Z" } : Jvm.MethodName)).before a0 Z = true := hw _ (List.mem_of_getElem? (i := 78) rfl)
theorem w79 {Z : State} {a0 : Array Value} (hw : ∀ d ∈ tables_1, d.before a0 Z = true) : (Jvm.Cond.code ({ cls := "java/lang/String", name := "isBlank", desc := "()Z" } : Jvm.MethodName) jdk_42_method_117_code (1 : Nat) (Option.some Jvm.ClassFile.FieldType.boolean)).before a0 Z = true := hw _ (List.mem_of_getElem? (i := 79) rfl)
theorem w80 {Z : State} {a0 : Array Value} (hw : ∀ d ∈ tables_1, d.before a0 Z = true) : (Jvm.Cond.methodLink "java/lang/String" (876 : Nat) ({ cls := "java/lang/String", name := "indexOfNonWhitespace", desc := "()I" } : Jvm.MethodName)).before a0 Z = true := hw _ (List.mem_of_getElem? (i := 80) rfl)
theorem w81 {Z : State} {a0 : Array Value} (hw : ∀ d ∈ tables_1, d.before a0 Z = true) : (Jvm.Cond.instanceMethod ({ cls := "java/lang/String", name := "indexOfNonWhitespace", desc := "()I" } : Jvm.MethodName)).before a0 Z = true := hw _ (List.mem_of_getElem? (i := 81) rfl)
theorem w82 {Z : State} {a0 : Array Value} (hw : ∀ d ∈ tables_1, d.before a0 Z = true) : (Jvm.Cond.privateMethod ({ cls := "java/lang/String", name := "indexOfNonWhitespace", desc := "()I" } : Jvm.MethodName)).before a0 Z = true := hw _ (List.mem_of_getElem? (i := 82) rfl)
theorem w83 {Z : State} {a0 : Array Value} (hw : ∀ d ∈ tables_1, d.before a0 Z = true) : (Jvm.Cond.selects "java/lang/String" ({ cls := "java/lang/String", name := "indexOfNonWhitespace", desc := "()I" } : Jvm.MethodName) ({ cls := "java/lang/String", name := "indexOfNonWhitespace", desc := "()I" } : Jvm.MethodName)).before a0 Z = true := hw _ (List.mem_of_getElem? (i := 83) rfl)
theorem w84 {Z : State} {a0 : Array Value} (hw : ∀ d ∈ tables_1, d.before a0 Z = true) : (Jvm.Cond.code ({ cls := "java/lang/String", name := "indexOfNonWhitespace", desc := "()I" } : Jvm.MethodName) jdk_42_method_120_code (1 : Nat) (Option.some Jvm.ClassFile.FieldType.int)).before a0 Z = true := hw _ (List.mem_of_getElem? (i := 84) rfl)
theorem w85 {Z : State} {a0 : Array Value} (hw : ∀ d ∈ tables_1, d.before a0 Z = true) : (Jvm.Cond.methodLink "java/lang/String" (492 : Nat) ({ cls := "java/lang/String", name := "isLatin1", desc := "()Z" } : Jvm.MethodName)).before a0 Z = true := hw _ (List.mem_of_getElem? (i := 85) rfl)
theorem w86 {Z : State} {a0 : Array Value} (hw : ∀ d ∈ tables_1, d.before a0 Z = true) : (Jvm.Cond.declares ({ cls := "java/lang/String", name := "isLatin1", desc := "()Z" } : Jvm.MethodName)).before a0 Z = true := hw _ (List.mem_of_getElem? (i := 86) rfl)
theorem w87 {Z : State} {a0 : Array Value} (hw : ∀ d ∈ tables_1, d.before a0 Z = true) : (Jvm.Cond.instanceMethod ({ cls := "java/lang/String", name := "isLatin1", desc := "()Z" } : Jvm.MethodName)).before a0 Z = true := hw _ (List.mem_of_getElem? (i := 87) rfl)
theorem w88 {Z : State} {a0 : Array Value} (hw : ∀ d ∈ tables_1, d.before a0 Z = true) : (Jvm.Cond.selects "java/lang/String" ({ cls := "java/lang/String", name := "isLatin1", desc := "()Z" } : Jvm.MethodName) ({ cls := "java/lang/String", name := "isLatin1", desc := "()Z" } : Jvm.MethodName)).before a0 Z = true := hw _ (List.mem_of_getElem? (i := 88) rfl)
theorem w89 {Z : State} {a0 : Array Value} (hw : ∀ d ∈ tables_1, d.before a0 Z = true) : (Jvm.Cond.code ({ cls := "java/lang/String", name := "isLatin1", desc := "()Z" } : Jvm.MethodName) jdk_42_method_154_code (1 : Nat) (Option.some Jvm.ClassFile.FieldType.boolean)).before a0 Z = true := hw _ (List.mem_of_getElem? (i := 89) rfl)
theorem w90 {Z : State} {a0 : Array Value} (hw : ∀ d ∈ tables_1, d.before a0 Z = true) : (Jvm.Cond.methodLink "java/lang/String" (924 : Nat) ({ cls := "java/lang/StringLatin1", name := "indexOfNonWhitespace", desc := "([B)I" } : Jvm.MethodName)).before a0 Z = true := hw _ (List.mem_of_getElem? (i := 90) rfl)
theorem w91 {Z : State} {a0 : Array Value} (hw : ∀ d ∈ tables_1, d.before a0 Z = true) : (Jvm.Cond.static ({ cls := "java/lang/StringLatin1", name := "indexOfNonWhitespace", desc := "([B)I" } : Jvm.MethodName)).before a0 Z = true := hw _ (List.mem_of_getElem? (i := 91) rfl)
theorem w92 {Z : State} {a0 : Array Value} (hw : ∀ d ∈ tables_1, d.before a0 Z = true) : (Jvm.Cond.code ({ cls := "java/lang/StringLatin1", name := "indexOfNonWhitespace", desc := "([B)I" } : Jvm.MethodName) jdk_43_method_37_code (4 : Nat) (Option.some Jvm.ClassFile.FieldType.int)).before a0 Z = true := hw _ (List.mem_of_getElem? (i := 92) rfl)
theorem w93 {Z : State} {a0 : Array Value} (hw : ∀ d ∈ tables_1, d.before a0 Z = true) : (Jvm.Cond.methodLink "java/lang/StringLatin1" (50 : Nat) ({ cls := "java/lang/StringLatin1", name := "getChar", desc := "([BI)C" } : Jvm.MethodName)).before a0 Z = true := hw _ (List.mem_of_getElem? (i := 93) rfl)
theorem w94 {Z : State} {a0 : Array Value} (hw : ∀ d ∈ tables_1, d.before a0 Z = true) : (Jvm.Cond.static ({ cls := "java/lang/StringLatin1", name := "getChar", desc := "([BI)C" } : Jvm.MethodName)).before a0 Z = true := hw _ (List.mem_of_getElem? (i := 94) rfl)
theorem w95 {Z : State} {a0 : Array Value} (hw : ∀ d ∈ tables_1, d.before a0 Z = true) : (Jvm.Cond.code ({ cls := "java/lang/StringLatin1", name := "getChar", desc := "([BI)C" } : Jvm.MethodName) jdk_43_method_44_code (2 : Nat) (Option.some Jvm.ClassFile.FieldType.char)).before a0 Z = true := hw _ (List.mem_of_getElem? (i := 95) rfl)
theorem w96 {Z : State} {a0 : Array Value} (hw : ∀ d ∈ tables_1, d.before a0 Z = true) : (Jvm.Cond.fieldLink "java/lang/StringLatin1" (66 : Nat) "java/lang/CharacterDataLatin1" "instance" "Ljava/lang/CharacterDataLatin1;").before a0 Z = true := hw _ (List.mem_of_getElem? (i := 96) rfl)
theorem w97 {Z : State} {a0 : Array Value} (hw : ∀ d ∈ tables_1, d.before a0 Z = true) : (Jvm.Cond.initialized "java/lang/CharacterDataLatin1").before a0 Z = true := hw _ (List.mem_of_getElem? (i := 97) rfl)
theorem w98 {Z : State} {a0 : Array Value} (hw : ∀ d ∈ tables_1, d.before a0 Z = true) : (Jvm.Cond.methodLink "java/lang/StringLatin1" (211 : Nat) ({ cls := "java/lang/CharacterDataLatin1", name := "isWhitespace", desc := "(I)Z" } : Jvm.MethodName)).before a0 Z = true := hw _ (List.mem_of_getElem? (i := 98) rfl)
theorem w99 {Z : State} {a0 : Array Value} (hw : ∀ d ∈ tables_1, d.before a0 Z = true) : (Jvm.Cond.declares ({ cls := "java/lang/CharacterDataLatin1", name := "isWhitespace", desc := "(I)Z" } : Jvm.MethodName)).before a0 Z = true := hw _ (List.mem_of_getElem? (i := 99) rfl)
theorem w100 {Z : State} {a0 : Array Value} (hw : ∀ d ∈ tables_1, d.before a0 Z = true) : (Jvm.Cond.instanceMethod ({ cls := "java/lang/CharacterDataLatin1", name := "isWhitespace", desc := "(I)Z" } : Jvm.MethodName)).before a0 Z = true := hw _ (List.mem_of_getElem? (i := 100) rfl)
theorem w101 {Z : State} {a0 : Array Value} (hw : ∀ d ∈ tables_1, d.before a0 Z = true) : (Jvm.Cond.selects "java/lang/CharacterDataLatin1" ({ cls := "java/lang/CharacterDataLatin1", name := "isWhitespace", desc := "(I)Z" } : Jvm.MethodName) ({ cls := "java/lang/CharacterDataLatin1", name := "isWhitespace", desc := "(I)Z" } : Jvm.MethodName)).before a0 Z = true := hw _ (List.mem_of_getElem? (i := 101) rfl)
theorem w102 {Z : State} {a0 : Array Value} (hw : ∀ d ∈ tables_1, d.before a0 Z = true) : (Jvm.Cond.code ({ cls := "java/lang/CharacterDataLatin1", name := "isWhitespace", desc := "(I)Z" } : Jvm.MethodName) jdk_116_method_26_code (3 : Nat) (Option.some Jvm.ClassFile.FieldType.boolean)).before a0 Z = true := hw _ (List.mem_of_getElem? (i := 102) rfl)
theorem w103 {Z : State} {a0 : Array Value} (hw : ∀ d ∈ tables_1, d.before a0 Z = true) : (Jvm.Cond.methodLink "java/lang/CharacterDataLatin1" (15 : Nat) ({ cls := "java/lang/CharacterDataLatin1", name := "getProperties", desc := "(I)I" } : Jvm.MethodName)).before a0 Z = true := hw _ (List.mem_of_getElem? (i := 103) rfl)
theorem w104 {Z : State} {a0 : Array Value} (hw : ∀ d ∈ tables_1, d.before a0 Z = true) : (Jvm.Cond.declares ({ cls := "java/lang/CharacterDataLatin1", name := "getProperties", desc := "(I)I" } : Jvm.MethodName)).before a0 Z = true := hw _ (List.mem_of_getElem? (i := 104) rfl)
theorem w105 {Z : State} {a0 : Array Value} (hw : ∀ d ∈ tables_1, d.before a0 Z = true) : (Jvm.Cond.instanceMethod ({ cls := "java/lang/CharacterDataLatin1", name := "getProperties", desc := "(I)I" } : Jvm.MethodName)).before a0 Z = true := hw _ (List.mem_of_getElem? (i := 105) rfl)
theorem w106 {Z : State} {a0 : Array Value} (hw : ∀ d ∈ tables_1, d.before a0 Z = true) : (Jvm.Cond.selects "java/lang/CharacterDataLatin1" ({ cls := "java/lang/CharacterDataLatin1", name := "getProperties", desc := "(I)I" } : Jvm.MethodName) ({ cls := "java/lang/CharacterDataLatin1", name := "getProperties", desc := "(I)I" } : Jvm.MethodName)).before a0 Z = true := hw _ (List.mem_of_getElem? (i := 106) rfl)
theorem w107 {Z : State} {a0 : Array Value} (hw : ∀ d ∈ tables_1, d.before a0 Z = true) : (Jvm.Cond.code ({ cls := "java/lang/CharacterDataLatin1", name := "getProperties", desc := "(I)I" } : Jvm.MethodName) jdk_116_method_1_code (4 : Nat) (Option.some Jvm.ClassFile.FieldType.int)).before a0 Z = true := hw _ (List.mem_of_getElem? (i := 107) rfl)
theorem w108 {Z : State} {a0 : Array Value} (hw : ∀ d ∈ tables_1, d.before a0 Z = true) : (Jvm.Cond.fieldLink "java/lang/CharacterDataLatin1" (1 : Nat) "java/lang/CharacterDataLatin1" "A" "[I").before a0 Z = true := hw _ (List.mem_of_getElem? (i := 108) rfl)
theorem w109 {Z : State} {a0 : Array Value} (hw : ∀ d ∈ tables_1, d.before a0 Z = true) : (Jvm.Cond.methodLink "java/lang/String" (505 : Nat) ({ cls := "java/lang/String", name := "length", desc := "()I" } : Jvm.MethodName)).before a0 Z = true := hw _ (List.mem_of_getElem? (i := 109) rfl)
theorem w110 {Z : State} {a0 : Array Value} (hw : ∀ d ∈ tables_1, d.before a0 Z = true) : (Jvm.Cond.declares ({ cls := "java/lang/String", name := "length", desc := "()I" } : Jvm.MethodName)).before a0 Z = true := hw _ (List.mem_of_getElem? (i := 110) rfl)
theorem w111 {Z : State} {a0 : Array Value} (hw : ∀ d ∈ tables_1, d.before a0 Z = true) : (Jvm.Cond.instanceMethod ({ cls := "java/lang/String", name := "length", desc := "()I" } : Jvm.MethodName)).before a0 Z = true := hw _ (List.mem_of_getElem? (i := 111) rfl)
theorem w112 {Z : State} {a0 : Array Value} (hw : ∀ d ∈ tables_1, d.before a0 Z = true) : (Jvm.Cond.selects "java/lang/String" ({ cls := "java/lang/String", name := "length", desc := "()I" } : Jvm.MethodName) ({ cls := "java/lang/String", name := "length", desc := "()I" } : Jvm.MethodName)).before a0 Z = true := hw _ (List.mem_of_getElem? (i := 112) rfl)
theorem w113 {Z : State} {a0 : Array Value} (hw : ∀ d ∈ tables_1, d.before a0 Z = true) : (Jvm.Cond.code ({ cls := "java/lang/String", name := "length", desc := "()I" } : Jvm.MethodName) jdk_42_method_54_code (1 : Nat) (Option.some Jvm.ClassFile.FieldType.int)).before a0 Z = true := hw _ (List.mem_of_getElem? (i := 113) rfl)
theorem w114 {Z : State} {a0 : Array Value} (hw : ∀ d ∈ tables_1, d.before a0 Z = true) : (Jvm.Cond.methodLink "java/lang/String" (335 : Nat) ({ cls := "java/lang/String", name := "coder", desc := "()B" } : Jvm.MethodName)).before a0 Z = true := hw _ (List.mem_of_getElem? (i := 114) rfl)
theorem w115 {Z : State} {a0 : Array Value} (hw : ∀ d ∈ tables_1, d.before a0 Z = true) : (Jvm.Cond.declares ({ cls := "java/lang/String", name := "coder", desc := "()B" } : Jvm.MethodName)).before a0 Z = true := hw _ (List.mem_of_getElem? (i := 115) rfl)
theorem w116 {Z : State} {a0 : Array Value} (hw : ∀ d ∈ tables_1, d.before a0 Z = true) : (Jvm.Cond.instanceMethod ({ cls := "java/lang/String", name := "coder", desc := "()B" } : Jvm.MethodName)).before a0 Z = true := hw _ (List.mem_of_getElem? (i := 116) rfl)
theorem w117 {Z : State} {a0 : Array Value} (hw : ∀ d ∈ tables_1, d.before a0 Z = true) : (Jvm.Cond.selects "java/lang/String" ({ cls := "java/lang/String", name := "coder", desc := "()B" } : Jvm.MethodName) ({ cls := "java/lang/String", name := "coder", desc := "()B" } : Jvm.MethodName)).before a0 Z = true := hw _ (List.mem_of_getElem? (i := 117) rfl)
theorem w118 {Z : State} {a0 : Array Value} (hw : ∀ d ∈ tables_1, d.before a0 Z = true) : (Jvm.Cond.code ({ cls := "java/lang/String", name := "coder", desc := "()B" } : Jvm.MethodName) jdk_42_method_152_code (1 : Nat) (Option.some Jvm.ClassFile.FieldType.byte)).before a0 Z = true := hw _ (List.mem_of_getElem? (i := 118) rfl)
theorem w119 {Z : State} {a0 : Array Value} (hw : ∀ d ∈ tables_1, d.before a0 Z = true) : (Jvm.Cond.fieldLink "com/example/kourier/kourier/outbox/OutboxEvent" (22 : Nat) "com/example/kourier/kourier/outbox/OutboxEvent" "destination" "Ljava/lang/String;").before a0 Z = true := hw _ (List.mem_of_getElem? (i := 119) rfl)
theorem w120 {Z : State} {a0 : Array Value} (hw : ∀ d ∈ tables_1, d.before a0 Z = true) : (Jvm.Cond.laysFinal "com/example/kourier/kourier/outbox/OutboxEvent" "com/example/kourier/kourier/outbox/OutboxEvent" "destination" "Ljava/lang/String;").before a0 Z = true := hw _ (List.mem_of_getElem? (i := 120) rfl)
theorem w121 {Z : State} {a0 : Array Value} (hw : ∀ d ∈ tables_1, d.before a0 Z = true) : (Jvm.Cond.stringLink "com/example/kourier/kourier/outbox/OutboxEvent" (24 : Nat) "key").before a0 Z = true := hw _ (List.mem_of_getElem? (i := 121) rfl)
theorem w122 {Z : State} {a0 : Array Value} (hw : ∀ d ∈ tables_1, d.before a0 Z = true) : (Jvm.Cond.fieldLink "com/example/kourier/kourier/outbox/OutboxEvent" (26 : Nat) "com/example/kourier/kourier/outbox/OutboxEvent" "key" "Ljava/lang/String;").before a0 Z = true := hw _ (List.mem_of_getElem? (i := 122) rfl)
theorem w123 {Z : State} {a0 : Array Value} (hw : ∀ d ∈ tables_1, d.before a0 Z = true) : (Jvm.Cond.laysFinal "com/example/kourier/kourier/outbox/OutboxEvent" "com/example/kourier/kourier/outbox/OutboxEvent" "key" "Ljava/lang/String;").before a0 Z = true := hw _ (List.mem_of_getElem? (i := 123) rfl)
theorem w124 {Z : State} {a0 : Array Value} (hw : ∀ d ∈ tables_1, d.before a0 Z = true) : (Jvm.Cond.stringLink "com/example/kourier/kourier/outbox/OutboxEvent" (28 : Nat) "type").before a0 Z = true := hw _ (List.mem_of_getElem? (i := 124) rfl)
theorem w125 {Z : State} {a0 : Array Value} (hw : ∀ d ∈ tables_1, d.before a0 Z = true) : (Jvm.Cond.fieldLink "com/example/kourier/kourier/outbox/OutboxEvent" (30 : Nat) "com/example/kourier/kourier/outbox/OutboxEvent" "type" "Ljava/lang/String;").before a0 Z = true := hw _ (List.mem_of_getElem? (i := 125) rfl)
theorem w126 {Z : State} {a0 : Array Value} (hw : ∀ d ∈ tables_1, d.before a0 Z = true) : (Jvm.Cond.laysFinal "com/example/kourier/kourier/outbox/OutboxEvent" "com/example/kourier/kourier/outbox/OutboxEvent" "type" "Ljava/lang/String;").before a0 Z = true := hw _ (List.mem_of_getElem? (i := 126) rfl)
theorem w127 {Z : State} {a0 : Array Value} (hw : ∀ d ∈ tables_1, d.before a0 Z = true) : (Jvm.Cond.stringLink "com/example/kourier/kourier/outbox/OutboxEvent" (32 : Nat) "payload").before a0 Z = true := hw _ (List.mem_of_getElem? (i := 127) rfl)
theorem w128 {Z : State} {a0 : Array Value} (hw : ∀ d ∈ tables_1, d.before a0 Z = true) : (Jvm.Cond.classLink "com/example/kourier/kourier/outbox/OutboxEvent" (40 : Nat) "[B").before a0 Z = true := hw _ (List.mem_of_getElem? (i := 128) rfl)
theorem w130 {Z : State} {a0 : Array Value} (hw : ∀ d ∈ tables_1, d.before a0 Z = true) : (Jvm.Cond.methodLink "com/example/kourier/kourier/outbox/OutboxEvent" (42 : Nat) ({ cls := "[B", name := "clone", desc := "()Ljava/lang/Object;" } : Jvm.MethodName)).before a0 Z = true := hw _ (List.mem_of_getElem? (i := 130) rfl)
theorem w131 {Z : State} {a0 : Array Value} (hw : ∀ d ∈ tables_1, d.before a0 Z = true) : (Jvm.Cond.sameMethod "[B" "java/lang/Object" "clone" "()Ljava/lang/Object;").before a0 Z = true := hw _ (List.mem_of_getElem? (i := 131) rfl)
theorem w133 {Z : State} {a0 : Array Value} (hw : ∀ d ∈ tables_1, d.before a0 Z = true) : (Jvm.Cond.instanceMethod ({ cls := "java/lang/Object", name := "clone", desc := "()Ljava/lang/Object;" } : Jvm.MethodName)).before a0 Z = true := hw _ (List.mem_of_getElem? (i := 133) rfl)
theorem w134 {Z : State} {a0 : Array Value} (hw : ∀ d ∈ tables_1, d.before a0 Z = true) : (Jvm.Cond.selects "[B" ({ cls := "[B", name := "clone", desc := "()Ljava/lang/Object;" } : Jvm.MethodName) ({ cls := "java/lang/Object", name := "clone", desc := "()Ljava/lang/Object;" } : Jvm.MethodName)).before a0 Z = true := hw _ (List.mem_of_getElem? (i := 134) rfl)
theorem w135 {Z : State} {a0 : Array Value} (hw : ∀ d ∈ tables_1, d.before a0 Z = true) : (Jvm.Cond.native ({ cls := "java/lang/Object", name := "clone", desc := "()Ljava/lang/Object;" } : Jvm.MethodName)).before a0 Z = true := hw _ (List.mem_of_getElem? (i := 135) rfl)
theorem w136 {Z : State} {a0 : Array Value} (hw : ∀ d ∈ tables_1, d.before a0 Z = true) : (Jvm.Cond.castable "[B" "java/lang/Cloneable").before a0 Z = true := hw _ (List.mem_of_getElem? (i := 136) rfl)
theorem w137 {Z : State} {a0 : Array Value} (hw : ∀ d ∈ tables_1, d.before a0 Z = true) : (Jvm.Cond.fieldLink "com/example/kourier/kourier/outbox/OutboxEvent" (46 : Nat) "com/example/kourier/kourier/outbox/OutboxEvent" "payload" "[B").before a0 Z = true := hw _ (List.mem_of_getElem? (i := 137) rfl)
theorem w138 {Z : State} {a0 : Array Value} (hw : ∀ d ∈ tables_1, d.before a0 Z = true) : (Jvm.Cond.laysFinal "com/example/kourier/kourier/outbox/OutboxEvent" "com/example/kourier/kourier/outbox/OutboxEvent" "payload" "[B").before a0 Z = true := hw _ (List.mem_of_getElem? (i := 138) rfl)
theorem w139 {Z : State} {a0 : Array Value} (hw : ∀ d ∈ tables_1, d.before a0 Z = true) : (Jvm.Cond.methodLink "com/example/kourier/kourier/outbox/OutboxEventWithIdPinLaw" (35 : Nat) ({ cls := "com/example/kourier/kourier/outbox/OutboxEvent", name := "withId", desc := "(Ljava/lang/String;)Lcom/example/kourier/kourier/outbox/OutboxEvent;" } : Jvm.MethodName)).before a0 Z = true := hw _ (List.mem_of_getElem? (i := 139) rfl)
theorem w140 {Z : State} {a0 : Array Value} (hw : ∀ d ∈ tables_1, d.before a0 Z = true) : (Jvm.Cond.declares ({ cls := "com/example/kourier/kourier/outbox/OutboxEvent", name := "withId", desc := "(Ljava/lang/String;)Lcom/example/kourier/kourier/outbox/OutboxEvent;" } : Jvm.MethodName)).before a0 Z = true := hw _ (List.mem_of_getElem? (i := 140) rfl)
theorem w141 {Z : State} {a0 : Array Value} (hw : ∀ d ∈ tables_1, d.before a0 Z = true) : (Jvm.Cond.instanceMethod ({ cls := "com/example/kourier/kourier/outbox/OutboxEvent", name := "withId", desc := "(Ljava/lang/String;)Lcom/example/kourier/kourier/outbox/OutboxEvent;" } : Jvm.MethodName)).before a0 Z = true := hw _ (List.mem_of_getElem? (i := 141) rfl)
theorem w142 {Z : State} {a0 : Array Value} (hw : ∀ d ∈ tables_1, d.before a0 Z = true) : (Jvm.Cond.selects "com/example/kourier/kourier/outbox/OutboxEvent" ({ cls := "com/example/kourier/kourier/outbox/OutboxEvent", name := "withId", desc := "(Ljava/lang/String;)Lcom/example/kourier/kourier/outbox/OutboxEvent;" } : Jvm.MethodName) ({ cls := "com/example/kourier/kourier/outbox/OutboxEvent", name := "withId", desc := "(Ljava/lang/String;)Lcom/example/kourier/kourier/outbox/OutboxEvent;" } : Jvm.MethodName)).before a0 Z = true := hw _ (List.mem_of_getElem? (i := 142) rfl)
theorem w143 {Z : State} {a0 : Array Value} (hw : ∀ d ∈ tables_1, d.before a0 Z = true) : (Jvm.Cond.code ({ cls := "com/example/kourier/kourier/outbox/OutboxEvent", name := "withId", desc := "(Ljava/lang/String;)Lcom/example/kourier/kourier/outbox/OutboxEvent;" } : Jvm.MethodName) prog_10_method_3_code (2 : Nat) (Option.some (Jvm.ClassFile.FieldType.object "com/example/kourier/kourier/outbox/OutboxEvent"))).before a0 Z = true := hw _ (List.mem_of_getElem? (i := 143) rfl)
theorem w144 {Z : State} {a0 : Array Value} (hw : ∀ d ∈ tables_1, d.before a0 Z = true) : (Jvm.Cond.classLink "com/example/kourier/kourier/outbox/OutboxEvent" (2 : Nat) "com/example/kourier/kourier/outbox/OutboxEvent").before a0 Z = true := hw _ (List.mem_of_getElem? (i := 144) rfl)
theorem w145 {Z : State} {a0 : Array Value} (hw : ∀ d ∈ tables_1, d.before a0 Z = true) : (Jvm.Cond.stringLink "com/example/kourier/kourier/outbox/OutboxEvent" (48 : Nat) "id").before a0 Z = true := hw _ (List.mem_of_getElem? (i := 145) rfl)
theorem w146 {Z : State} {a0 : Array Value} (hw : ∀ d ∈ tables_1, d.before a0 Z = true) : (Jvm.Cond.methodLink "com/example/kourier/kourier/outbox/OutboxEventWithIdPinLaw" (39 : Nat) ({ cls := "com/example/kourier/kourier/outbox/OutboxEvent", name := "equals", desc := "(Ljava/lang/Object;)Z" } : Jvm.MethodName)).before a0 Z = true := hw _ (List.mem_of_getElem? (i := 146) rfl)
theorem w147 {Z : State} {a0 : Array Value} (hw : ∀ d ∈ tables_1, d.before a0 Z = true) : (Jvm.Cond.declares ({ cls := "com/example/kourier/kourier/outbox/OutboxEvent", name := "equals", desc := "(Ljava/lang/Object;)Z" } : Jvm.MethodName)).before a0 Z = true := hw _ (List.mem_of_getElem? (i := 147) rfl)
theorem w148 {Z : State} {a0 : Array Value} (hw : ∀ d ∈ tables_1, d.before a0 Z = true) : (Jvm.Cond.instanceMethod ({ cls := "com/example/kourier/kourier/outbox/OutboxEvent", name := "equals", desc := "(Ljava/lang/Object;)Z" } : Jvm.MethodName)).before a0 Z = true := hw _ (List.mem_of_getElem? (i := 148) rfl)
theorem w149 {Z : State} {a0 : Array Value} (hw : ∀ d ∈ tables_1, d.before a0 Z = true) : (Jvm.Cond.selects "com/example/kourier/kourier/outbox/OutboxEvent" ({ cls := "com/example/kourier/kourier/outbox/OutboxEvent", name := "equals", desc := "(Ljava/lang/Object;)Z" } : Jvm.MethodName) ({ cls := "com/example/kourier/kourier/outbox/OutboxEvent", name := "equals", desc := "(Ljava/lang/Object;)Z" } : Jvm.MethodName)).before a0 Z = true := hw _ (List.mem_of_getElem? (i := 149) rfl)
theorem w150 {Z : State} {a0 : Array Value} (hw : ∀ d ∈ tables_1, d.before a0 Z = true) : (Jvm.Cond.code ({ cls := "com/example/kourier/kourier/outbox/OutboxEvent", name := "equals", desc := "(Ljava/lang/Object;)Z" } : Jvm.MethodName) prog_10_method_9_code (3 : Nat) (Option.some Jvm.ClassFile.FieldType.boolean)).before a0 Z = true := hw _ (List.mem_of_getElem? (i := 150) rfl)
theorem w151 {Z : State} {a0 : Array Value} (hw : ∀ d ∈ tables_1, d.before a0 Z = true) : (Jvm.Cond.methodLink "com/example/kourier/kourier/outbox/OutboxEvent" (55 : Nat) ({ cls := "java/lang/Object", name := "getClass", desc := "()Ljava/lang/Class;" } : Jvm.MethodName)).before a0 Z = true := hw _ (List.mem_of_getElem? (i := 151) rfl)
theorem w152 {Z : State} {a0 : Array Value} (hw : ∀ d ∈ tables_1, d.before a0 Z = true) : (Jvm.Cond.declares ({ cls := "java/lang/Object", name := "getClass", desc := "()Ljava/lang/Class;" } : Jvm.MethodName)).before a0 Z = true := hw _ (List.mem_of_getElem? (i := 152) rfl)
theorem w153 {Z : State} {a0 : Array Value} (hw : ∀ d ∈ tables_1, d.before a0 Z = true) : (Jvm.Cond.instanceMethod ({ cls := "java/lang/Object", name := "getClass", desc := "()Ljava/lang/Class;" } : Jvm.MethodName)).before a0 Z = true := hw _ (List.mem_of_getElem? (i := 153) rfl)
theorem w154 {Z : State} {a0 : Array Value} (hw : ∀ d ∈ tables_1, d.before a0 Z = true) : (Jvm.Cond.selects "com/example/kourier/kourier/outbox/OutboxEvent" ({ cls := "java/lang/Object", name := "getClass", desc := "()Ljava/lang/Class;" } : Jvm.MethodName) ({ cls := "java/lang/Object", name := "getClass", desc := "()Ljava/lang/Class;" } : Jvm.MethodName)).before a0 Z = true := hw _ (List.mem_of_getElem? (i := 154) rfl)
theorem w155 {Z : State} {a0 : Array Value} (hw : ∀ d ∈ tables_1, d.before a0 Z = true) : (Jvm.Cond.native ({ cls := "java/lang/Object", name := "getClass", desc := "()Ljava/lang/Class;" } : Jvm.MethodName)).before a0 Z = true := hw _ (List.mem_of_getElem? (i := 155) rfl)
theorem w157 {Z : State} {a0 : Array Value} (hw : ∀ d ∈ tables_1, d.before a0 Z = true) : (Jvm.Cond.methodLink "com/example/kourier/kourier/outbox/OutboxEvent" (59 : Nat) ({ cls := "java/util/Objects", name := "equals", desc := "(Ljava/lang/Object;Ljava/lang/Object;)Z" } : Jvm.MethodName)).before a0 Z = true := hw _ (List.mem_of_getElem? (i := 157) rfl)
theorem w158 {Z : State} {a0 : Array Value} (hw : ∀ d ∈ tables_1, d.before a0 Z = true) : (Jvm.Cond.static ({ cls := "java/util/Objects", name := "equals", desc := "(Ljava/lang/Object;Ljava/lang/Object;)Z" } : Jvm.MethodName)).before a0 Z = true := hw _ (List.mem_of_getElem? (i := 158) rfl)
theorem w159 {Z : State} {a0 : Array Value} (hw : ∀ d ∈ tables_1, d.before a0 Z = true) : (Jvm.Cond.code ({ cls := "java/util/Objects", name := "equals", desc := "(Ljava/lang/Object;Ljava/lang/Object;)Z" } : Jvm.MethodName) jdk_31_method_2_code (2 : Nat) (Option.some Jvm.ClassFile.FieldType.boolean)).before a0 Z = true := hw _ (List.mem_of_getElem? (i := 159) rfl)
theorem w160 {Z : State} {a0 : Array Value} (hw : ∀ d ∈ tables_1, d.before a0 Z = true) : (Jvm.Cond.methodLink "java/util/Objects" (14 : Nat) ({ cls := "java/lang/Object", name := "equals", desc := "(Ljava/lang/Object;)Z" } : Jvm.MethodName)).before a0 Z = true := hw _ (List.mem_of_getElem? (i := 160) rfl)
theorem w161 {Z : State} {a0 : Array Value} (hw : ∀ d ∈ tables_1, d.before a0 Z = true) : (Jvm.Cond.declares ({ cls := "java/lang/Object", name := "equals", desc := "(Ljava/lang/Object;)Z" } : Jvm.MethodName)).before a0 Z = true := hw _ (List.mem_of_getElem? (i := 161) rfl)
theorem w163 {Z : State} {a0 : Array Value} (hw : ∀ d ∈ tables_1, d.before a0 Z = true) : (Jvm.Cond.selects "java/lang/String" ({ cls := "java/lang/Object", name := "equals", desc := "(Ljava/lang/Object;)Z" } : Jvm.MethodName) ({ cls := "java/lang/String", name := "equals", desc := "(Ljava/lang/Object;)Z" } : Jvm.MethodName)).before a0 Z = true := hw _ (List.mem_of_getElem? (i := 163) rfl)
theorem w164 {Z : State} {a0 : Array Value} (hw : ∀ d ∈ tables_1, d.before a0 Z = true) : (Jvm.Cond.instanceMethod ({ cls := "java/lang/String", name := "equals", desc := "(Ljava/lang/Object;)Z" } : Jvm.MethodName)).before a0 Z = true := hw _ (List.mem_of_getElem? (i := 164) rfl)
theorem w165 {Z : State} {a0 : Array Value} (hw : ∀ d ∈ tables_1, d.before a0 Z = true) : (Jvm.Cond.code ({ cls := "java/lang/String", name := "equals", desc := "(Ljava/lang/Object;)Z" } : Jvm.MethodName) jdk_42_method_66_code (3 : Nat) (Option.some Jvm.ClassFile.FieldType.boolean)).before a0 Z = true := hw _ (List.mem_of_getElem? (i := 165) rfl)
theorem w166 {Z : State} {a0 : Array Value} (hw : ∀ d ∈ tables_1, d.before a0 Z = true) : (Jvm.Cond.methodLink "com/example/kourier/kourier/outbox/OutboxEventWithIdPinLaw" (43 : Nat) ({ cls := "com/example/kourier/kourier/outbox/OutboxEvent", name := "destination", desc := "()Ljava/lang/String;" } : Jvm.MethodName)).before a0 Z = true := hw _ (List.mem_of_getElem? (i := 166) rfl)
theorem w167 {Z : State} {a0 : Array Value} (hw : ∀ d ∈ tables_1, d.before a0 Z = true) : (Jvm.Cond.declares ({ cls := "com/example/kourier/kourier/outbox/OutboxEvent", name := "destination", desc := "()Ljava/lang/String;" } : Jvm.MethodName)).before a0 Z = true := hw _ (List.mem_of_getElem? (i := 167) rfl)
theorem w168 {Z : State} {a0 : Array Value} (hw : ∀ d ∈ tables_1, d.before a0 Z = true) : (Jvm.Cond.instanceMethod ({ cls := "com/example/kourier/kourier/outbox/OutboxEvent", name := "destination", desc := "()Ljava/lang/String;" } : Jvm.MethodName)).before a0 Z = true := hw _ (List.mem_of_getElem? (i := 168) rfl)
theorem w169 {Z : State} {a0 : Array Value} (hw : ∀ d ∈ tables_1, d.before a0 Z = true) : (Jvm.Cond.selects "com/example/kourier/kourier/outbox/OutboxEvent" ({ cls := "com/example/kourier/kourier/outbox/OutboxEvent", name := "destination", desc := "()Ljava/lang/String;" } : Jvm.MethodName) ({ cls := "com/example/kourier/kourier/outbox/OutboxEvent", name := "destination", desc := "()Ljava/lang/String;" } : Jvm.MethodName)).before a0 Z = true := hw _ (List.mem_of_getElem? (i := 169) rfl)
theorem w170 {Z : State} {a0 : Array Value} (hw : ∀ d ∈ tables_1, d.before a0 Z = true) : (Jvm.Cond.code ({ cls := "com/example/kourier/kourier/outbox/OutboxEvent", name := "destination", desc := "()Ljava/lang/String;" } : Jvm.MethodName) prog_10_method_5_code (1 : Nat) (Option.some (Jvm.ClassFile.FieldType.object "java/lang/String"))).before a0 Z = true := hw _ (List.mem_of_getElem? (i := 170) rfl)
theorem w171 {Z : State} {a0 : Array Value} (hw : ∀ d ∈ tables_1, d.before a0 Z = true) : (Jvm.Cond.methodLink "com/example/kourier/kourier/outbox/OutboxEventWithIdPinLaw" (47 : Nat) ({ cls := "java/lang/String", name := "equals", desc := "(Ljava/lang/Object;)Z" } : Jvm.MethodName)).before a0 Z = true := hw _ (List.mem_of_getElem? (i := 171) rfl)
theorem w172 {Z : State} {a0 : Array Value} (hw : ∀ d ∈ tables_1, d.before a0 Z = true) : (Jvm.Cond.declares ({ cls := "java/lang/String", name := "equals", desc := "(Ljava/lang/Object;)Z" } : Jvm.MethodName)).before a0 Z = true := hw _ (List.mem_of_getElem? (i := 172) rfl)
theorem w173 {Z : State} {a0 : Array Value} (hw : ∀ d ∈ tables_1, d.before a0 Z = true) : (Jvm.Cond.selects "java/lang/String" ({ cls := "java/lang/String", name := "equals", desc := "(Ljava/lang/Object;)Z" } : Jvm.MethodName) ({ cls := "java/lang/String", name := "equals", desc := "(Ljava/lang/Object;)Z" } : Jvm.MethodName)).before a0 Z = true := hw _ (List.mem_of_getElem? (i := 173) rfl)
theorem w174 {Z : State} {a0 : Array Value} (hw : ∀ d ∈ tables_1, d.before a0 Z = true) : (Jvm.Cond.methodLink "com/example/kourier/kourier/outbox/OutboxEventWithIdPinLaw" (48 : Nat) ({ cls := "com/example/kourier/kourier/outbox/OutboxEvent", name := "key", desc := "()Ljava/lang/String;" } : Jvm.MethodName)).before a0 Z = true := hw _ (List.mem_of_getElem? (i := 174) rfl)
theorem w175 {Z : State} {a0 : Array Value} (hw : ∀ d ∈ tables_1, d.before a0 Z = true) : (Jvm.Cond.declares ({ cls := "com/example/kourier/kourier/outbox/OutboxEvent", name := "key", desc := "()Ljava/lang/String;" } : Jvm.MethodName)).before a0 Z = true := hw _ (List.mem_of_getElem? (i := 175) rfl)
theorem w176 {Z : State} {a0 : Array Value} (hw : ∀ d ∈ tables_1, d.before a0 Z = true) : (Jvm.Cond.instanceMethod ({ cls := "com/example/kourier/kourier/outbox/OutboxEvent", name := "key", desc := "()Ljava/lang/String;" } : Jvm.MethodName)).before a0 Z = true := hw _ (List.mem_of_getElem? (i := 176) rfl)
theorem w177 {Z : State} {a0 : Array Value} (hw : ∀ d ∈ tables_1, d.before a0 Z = true) : (Jvm.Cond.selects "com/example/kourier/kourier/outbox/OutboxEvent" ({ cls := "com/example/kourier/kourier/outbox/OutboxEvent", name := "key", desc := "()Ljava/lang/String;" } : Jvm.MethodName) ({ cls := "com/example/kourier/kourier/outbox/OutboxEvent", name := "key", desc := "()Ljava/lang/String;" } : Jvm.MethodName)).before a0 Z = true := hw _ (List.mem_of_getElem? (i := 177) rfl)
theorem w178 {Z : State} {a0 : Array Value} (hw : ∀ d ∈ tables_1, d.before a0 Z = true) : (Jvm.Cond.code ({ cls := "com/example/kourier/kourier/outbox/OutboxEvent", name := "key", desc := "()Ljava/lang/String;" } : Jvm.MethodName) prog_10_method_6_code (1 : Nat) (Option.some (Jvm.ClassFile.FieldType.object "java/lang/String"))).before a0 Z = true := hw _ (List.mem_of_getElem? (i := 178) rfl)
theorem w179 {Z : State} {a0 : Array Value} (hw : ∀ d ∈ tables_1, d.before a0 Z = true) : (Jvm.Cond.methodLink "com/example/kourier/kourier/outbox/OutboxEventWithIdPinLaw" (51 : Nat) ({ cls := "com/example/kourier/kourier/outbox/OutboxEvent", name := "type", desc := "()Ljava/lang/String;" } : Jvm.MethodName)).before a0 Z = true := hw _ (List.mem_of_getElem? (i := 179) rfl)
theorem w180 {Z : State} {a0 : Array Value} (hw : ∀ d ∈ tables_1, d.before a0 Z = true) : (Jvm.Cond.declares ({ cls := "com/example/kourier/kourier/outbox/OutboxEvent", name := "type", desc := "()Ljava/lang/String;" } : Jvm.MethodName)).before a0 Z = true := hw _ (List.mem_of_getElem? (i := 180) rfl)
theorem w181 {Z : State} {a0 : Array Value} (hw : ∀ d ∈ tables_1, d.before a0 Z = true) : (Jvm.Cond.instanceMethod ({ cls := "com/example/kourier/kourier/outbox/OutboxEvent", name := "type", desc := "()Ljava/lang/String;" } : Jvm.MethodName)).before a0 Z = true := hw _ (List.mem_of_getElem? (i := 181) rfl)
theorem w182 {Z : State} {a0 : Array Value} (hw : ∀ d ∈ tables_1, d.before a0 Z = true) : (Jvm.Cond.selects "com/example/kourier/kourier/outbox/OutboxEvent" ({ cls := "com/example/kourier/kourier/outbox/OutboxEvent", name := "type", desc := "()Ljava/lang/String;" } : Jvm.MethodName) ({ cls := "com/example/kourier/kourier/outbox/OutboxEvent", name := "type", desc := "()Ljava/lang/String;" } : Jvm.MethodName)).before a0 Z = true := hw _ (List.mem_of_getElem? (i := 182) rfl)
theorem w183 {Z : State} {a0 : Array Value} (hw : ∀ d ∈ tables_1, d.before a0 Z = true) : (Jvm.Cond.code ({ cls := "com/example/kourier/kourier/outbox/OutboxEvent", name := "type", desc := "()Ljava/lang/String;" } : Jvm.MethodName) prog_10_method_7_code (1 : Nat) (Option.some (Jvm.ClassFile.FieldType.object "java/lang/String"))).before a0 Z = true := hw _ (List.mem_of_getElem? (i := 183) rfl)
theorem w184 {Z : State} {a0 : Array Value} (hw : ∀ d ∈ tables_1, d.before a0 Z = true) : (Jvm.Cond.methodLink "com/example/kourier/kourier/outbox/OutboxEventWithIdPinLaw" (54 : Nat) ({ cls := "com/example/kourier/kourier/outbox/OutboxEvent", name := "payload", desc := "()[B" } : Jvm.MethodName)).before a0 Z = true := hw _ (List.mem_of_getElem? (i := 184) rfl)
theorem w185 {Z : State} {a0 : Array Value} (hw : ∀ d ∈ tables_1, d.before a0 Z = true) : (Jvm.Cond.declares ({ cls := "com/example/kourier/kourier/outbox/OutboxEvent", name := "payload", desc := "()[B" } : Jvm.MethodName)).before a0 Z = true := hw _ (List.mem_of_getElem? (i := 185) rfl)
theorem w186 {Z : State} {a0 : Array Value} (hw : ∀ d ∈ tables_1, d.before a0 Z = true) : (Jvm.Cond.instanceMethod ({ cls := "com/example/kourier/kourier/outbox/OutboxEvent", name := "payload", desc := "()[B" } : Jvm.MethodName)).before a0 Z = true := hw _ (List.mem_of_getElem? (i := 186) rfl)
theorem w187 {Z : State} {a0 : Array Value} (hw : ∀ d ∈ tables_1, d.before a0 Z = true) : (Jvm.Cond.selects "com/example/kourier/kourier/outbox/OutboxEvent" ({ cls := "com/example/kourier/kourier/outbox/OutboxEvent", name := "payload", desc := "()[B" } : Jvm.MethodName) ({ cls := "com/example/kourier/kourier/outbox/OutboxEvent", name := "payload", desc := "()[B" } : Jvm.MethodName)).before a0 Z = true := hw _ (List.mem_of_getElem? (i := 187) rfl)
theorem w188 {Z : State} {a0 : Array Value} (hw : ∀ d ∈ tables_1, d.before a0 Z = true) : (Jvm.Cond.code ({ cls := "com/example/kourier/kourier/outbox/OutboxEvent", name := "payload", desc := "()[B" } : Jvm.MethodName) prog_10_method_8_code (1 : Nat) (Option.some (Jvm.ClassFile.FieldType.array Jvm.ClassFile.FieldType.byte))).before a0 Z = true := hw _ (List.mem_of_getElem? (i := 188) rfl)
theorem w189 {Z : State} {a0 : Array Value} (hw : ∀ d ∈ tables_1, d.before a0 Z = true) : (Jvm.Cond.methodLink "java/lang/String" (541 : Nat) ({ cls := "java/lang/StringLatin1", name := "equals", desc := "([B[B)Z" } : Jvm.MethodName)).before a0 Z = true := hw _ (List.mem_of_getElem? (i := 189) rfl)
theorem w190 {Z : State} {a0 : Array Value} (hw : ∀ d ∈ tables_1, d.before a0 Z = true) : (Jvm.Cond.static ({ cls := "java/lang/StringLatin1", name := "equals", desc := "([B[B)Z" } : Jvm.MethodName)).before a0 Z = true := hw _ (List.mem_of_getElem? (i := 190) rfl)
theorem w191 {Z : State} {a0 : Array Value} (hw : ∀ d ∈ tables_1, d.before a0 Z = true) : (Jvm.Cond.code ({ cls := "java/lang/StringLatin1", name := "equals", desc := "([B[B)Z" } : Jvm.MethodName) jdk_43_method_13_code (3 : Nat) (Option.some Jvm.ClassFile.FieldType.boolean)).before a0 Z = true := hw _ (List.mem_of_getElem? (i := 191) rfl)
theorem w192 {Z : State} {a0 : Array Value} (hw : ∀ d ∈ tables_1, d.before a0 Z = true) : (Jvm.Cond.methodLink "com/example/kourier/kourier/outbox/OutboxEvent" (63 : Nat) ({ cls := "java/lang/String", name := "equals", desc := "(Ljava/lang/Object;)Z" } : Jvm.MethodName)).before a0 Z = true := hw _ (List.mem_of_getElem? (i := 192) rfl)
theorem w193 {Z : State} {a0 : Array Value} (hw : ∀ d ∈ tables_1, d.before a0 Z = true) : (Jvm.Cond.methodLink "com/example/kourier/kourier/outbox/OutboxEvent" (68 : Nat) ({ cls := "java/util/Arrays", name := "equals", desc := "([B[B)Z" } : Jvm.MethodName)).before a0 Z = true := hw _ (List.mem_of_getElem? (i := 193) rfl)
theorem w194 {Z : State} {a0 : Array Value} (hw : ∀ d ∈ tables_1, d.before a0 Z = true) : (Jvm.Cond.static ({ cls := "java/util/Arrays", name := "equals", desc := "([B[B)Z" } : Jvm.MethodName)).before a0 Z = true := hw _ (List.mem_of_getElem? (i := 194) rfl)
theorem w195 {Z : State} {a0 : Array Value} (hw : ∀ d ∈ tables_1, d.before a0 Z = true) : (Jvm.Cond.initialized "java/util/Arrays").before a0 Z = true := hw _ (List.mem_of_getElem? (i := 195) rfl)
theorem w196 {Z : State} {a0 : Array Value} (hw : ∀ d ∈ tables_1, d.before a0 Z = true) : (Jvm.Cond.code ({ cls := "java/util/Arrays", name := "equals", desc := "([B[B)Z" } : Jvm.MethodName) jdk_65_method_89_code (3 : Nat) (Option.some Jvm.ClassFile.FieldType.boolean)).before a0 Z = true := hw _ (List.mem_of_getElem? (i := 196) rfl)
theorem w197 {Z : State} {a0 : Array Value} (hw : ∀ d ∈ tables_1, d.before a0 Z = true) : (Jvm.Cond.methodLink "java/util/Arrays" (272 : Nat) ({ cls := "jdk/internal/util/ArraysSupport", name := "mismatch", desc := "([B[BI)I" } : Jvm.MethodName)).before a0 Z = true := hw _ (List.mem_of_getElem? (i := 197) rfl)
theorem w198 {Z : State} {a0 : Array Value} (hw : ∀ d ∈ tables_1, d.before a0 Z = true) : (Jvm.Cond.static ({ cls := "jdk/internal/util/ArraysSupport", name := "mismatch", desc := "([B[BI)I" } : Jvm.MethodName)).before a0 Z = true := hw _ (List.mem_of_getElem? (i := 198) rfl)
theorem w199 {Z : State} {a0 : Array Value} (hw : ∀ d ∈ tables_1, d.before a0 Z = true) : (Jvm.Cond.initialized "jdk/internal/util/ArraysSupport").before a0 Z = true := hw _ (List.mem_of_getElem? (i := 199) rfl)
theorem w200 {Z : State} {a0 : Array Value} (hw : ∀ d ∈ tables_1, d.before a0 Z = true) : (Jvm.Cond.code ({ cls := "jdk/internal/util/ArraysSupport", name := "mismatch", desc := "([B[BI)I" } : Jvm.MethodName) jdk_48_method_13_code (4 : Nat) (Option.some Jvm.ClassFile.FieldType.int)).before a0 Z = true := hw _ (List.mem_of_getElem? (i := 200) rfl)
theorem d_jdk_52_21_0 : D jdk_52_method_21_code 0 (.iconst 0) 1 1 := And.intro (by decide +kernel) rfl
theorem d_jdk_52_21_1 : D jdk_52_method_21_code 1 (.istore 5) 2 3 := And.intro (by decide +kernel) rfl
theorem d_jdk_52_21_3 : D jdk_52_method_21_code 3 (.iload 5) 2 5 := And.intro (by decide +kernel) rfl
theorem d_jdk_52_21_5 : D jdk_52_method_21_code 5 (.iload 4) 2 7 := And.intro (by decide +kernel) rfl
theorem d_jdk_52_21_7 : D jdk_52_method_21_code 7 (.if_icmp .ge 37) 3 10 := And.intro (by decide +kernel) rfl
theorem d_jdk_52_21_44 : D jdk_52_method_21_code 44 (.iload 4) 2 46 := And.intro (by decide +kernel) rfl
theorem d_jdk_52_21_46 : D jdk_52_method_21_code 46 (.ireturn) 1 47 := And.intro (by decide +kernel) rfl
theorem d_jdk_52_21_10 : D jdk_52_method_21_code 10 (.aload_n 0) 1 11 := And.intro (by decide +kernel) rfl
theorem d_jdk_52_21_11 : D jdk_52_method_21_code 11 (.iload_n 1) 1 12 := And.intro (by decide +kernel) rfl
theorem d_jdk_52_21_12 : D jdk_52_method_21_code 12 (.caload) 1 13 := And.intro (by decide +kernel) rfl
theorem d_jdk_52_21_13 : D jdk_52_method_21_code 13 (.istore 6) 2 15 := And.intro (by decide +kernel) rfl
theorem d_jdk_52_21_15 : D jdk_52_method_21_code 15 (.iload 6) 2 17 := And.intro (by decide +kernel) rfl
theorem d_jdk_52_21_17 : D jdk_52_method_21_code 17 (.sipush 255) 3 20 := And.intro (by decide +kernel) rfl
theorem d_jdk_52_21_20 : D jdk_52_method_21_code 20 (.if_icmp .le 6) 3 23 := And.intro (by decide +kernel) rfl
theorem d_jdk_52_21_26 : D jdk_52_method_21_code 26 (.aload_n 2) 1 27 := And.intro (by decide +kernel) rfl
theorem d_jdk_52_21_27 : D jdk_52_method_21_code 27 (.iload_n 3) 1 28 := And.intro (by decide +kernel) rfl
theorem d_jdk_52_21_28 : D jdk_52_method_21_code 28 (.iload 6) 2 30 := And.intro (by decide +kernel) rfl
theorem d_jdk_52_21_30 : D jdk_52_method_21_code 30 (.i2b) 1 31 := And.intro (by decide +kernel) rfl
theorem d_jdk_52_21_31 : D jdk_52_method_21_code 31 (.bastore) 1 32 := And.intro (by decide +kernel) rfl
theorem d_jdk_52_21_32 : D jdk_52_method_21_code 32 (.iinc 1 1) 3 35 := And.intro (by decide +kernel) rfl
theorem d_jdk_52_21_35 : D jdk_52_method_21_code 35 (.iinc 3 1) 3 38 := And.intro (by decide +kernel) rfl
theorem d_jdk_52_21_38 : D jdk_52_method_21_code 38 (.iinc 5 1) 3 41 := And.intro (by decide +kernel) rfl
theorem d_jdk_52_21_41 : D jdk_52_method_21_code 41 (.goto (-38)) 3 44 := And.intro (by decide +kernel) rfl
theorem pn0 : plainName "java/lang/StringUTF16" = true := by first | (simp [plainName, overriddenIn]; done) | decide +kernel
theorem d_jdk_52_16_0 : D jdk_52_method_16_code 0 (.iload_n 2) 1 1 := And.intro (by decide +kernel) rfl
theorem d_jdk_52_16_1 : D jdk_52_method_16_code 1 (.newarray .byte) 2 3 := And.intro (by decide +kernel) rfl
theorem d_jdk_52_16_3 : D jdk_52_method_16_code 3 (.astore_n 3) 1 4 := And.intro (by decide +kernel) rfl
theorem d_jdk_52_16_4 : D jdk_52_method_16_code 4 (.aload_n 0) 1 5 := And.intro (by decide +kernel) rfl
theorem d_jdk_52_16_5 : D jdk_52_method_16_code 5 (.iload_n 1) 1 6 := And.intro (by decide +kernel) rfl
theorem d_jdk_52_16_6 : D jdk_52_method_16_code 6 (.aload_n 3) 1 7 := And.intro (by decide +kernel) rfl
theorem d_jdk_52_16_7 : D jdk_52_method_16_code 7 (.iconst 0) 1 8 := And.intro (by decide +kernel) rfl
theorem d_jdk_52_16_8 : D jdk_52_method_16_code 8 (.iload_n 2) 1 9 := And.intro (by decide +kernel) rfl
theorem d_jdk_52_16_9 : D jdk_52_method_16_code 9 (.invokestatic 115) 3 12 := And.intro (by decide +kernel) rfl
theorem pd0 : parseMethodDescriptor "([CI[BII)I" = some ⟨[(.array .char), .int, (.array .byte), .int, .int], some .int⟩ := by decide +kernel
theorem d_jdk_52_16_12 : D jdk_52_method_16_code 12 (.istore 4) 2 14 := And.intro (by decide +kernel) rfl
theorem d_jdk_52_16_14 : D jdk_52_method_16_code 14 (.iload 4) 2 16 := And.intro (by decide +kernel) rfl
theorem d_jdk_52_16_16 : D jdk_52_method_16_code 16 (.iload_n 2) 1 17 := And.intro (by decide +kernel) rfl
theorem d_jdk_52_16_17 : D jdk_52_method_16_code 17 (.if_icmp .eq 40) 3 20 := And.intro (by decide +kernel) rfl
theorem d_jdk_52_16_57 : D jdk_52_method_16_code 57 (.aload_n 3) 1 58 := And.intro (by decide +kernel) rfl
theorem d_jdk_52_16_58 : D jdk_52_method_16_code 58 (.areturn) 1 59 := And.intro (by decide +kernel) rfl
theorem d_jdk_52_15_0 : D jdk_52_method_15_code 0 (.iload_n 1) 1 1 := And.intro (by decide +kernel) rfl
theorem d_jdk_52_15_1 : D jdk_52_method_15_code 1 (.aload_n 0) 1 2 := And.intro (by decide +kernel) rfl
theorem d_jdk_52_15_2 : D jdk_52_method_15_code 2 (.arraylength) 1 3 := And.intro (by decide +kernel) rfl
theorem d_jdk_52_15_3 : D jdk_52_method_15_code 3 (.isub) 1 4 := And.intro (by decide +kernel) rfl
theorem d_jdk_52_15_4 : D jdk_52_method_15_code 4 (.bipush 31) 2 6 := And.intro (by decide +kernel) rfl
theorem d_jdk_52_15_6 : D jdk_52_method_15_code 6 (.iushr) 1 7 := And.intro (by decide +kernel) rfl
theorem d_jdk_52_15_7 : D jdk_52_method_15_code 7 (.i2b) 1 8 := And.intro (by decide +kernel) rfl
theorem d_jdk_52_15_8 : D jdk_52_method_15_code 8 (.ireturn) 1 9 := And.intro (by decide +kernel) rfl
theorem d_jdk_42_149_0 : D jdk_42_method_149_code 0 (.aload_n 0) 1 1 := And.intro (by decide +kernel) rfl
theorem d_jdk_42_149_1 : D jdk_42_method_149_code 1 (.invokespecial 1) 3 4 := And.intro (by decide +kernel) rfl
theorem d_jdk_42_149_4 : D jdk_42_method_149_code 4 (.iload_n 3) 1 5 := And.intro (by decide +kernel) rfl
theorem d_jdk_42_149_5 : D jdk_42_method_149_code 5 (.ifCond .ne 22) 3 8 := And.intro (by decide +kernel) rfl
theorem d_jdk_42_149_27 : D jdk_42_method_149_code 27 (.getstatic 38) 3 30 := And.intro (by decide +kernel) rfl
theorem d_jdk_42_149_30 : D jdk_42_method_149_code 30 (.ifCond .eq 28) 3 33 := And.intro (by decide +kernel) rfl
theorem d_jdk_42_149_33 : D jdk_42_method_149_code 33 (.aload_n 1) 1 34 := And.intro (by decide +kernel) rfl
theorem d_jdk_42_149_34 : D jdk_42_method_149_code 34 (.iload_n 2) 1 35 := And.intro (by decide +kernel) rfl
theorem d_jdk_42_149_35 : D jdk_42_method_149_code 35 (.iload_n 3) 1 36 := And.intro (by decide +kernel) rfl
theorem d_jdk_42_149_36 : D jdk_42_method_149_code 36 (.invokestatic 177) 3 39 := And.intro (by decide +kernel) rfl
theorem pd1 : parseMethodDescriptor "([CII)[B" = some ⟨[(.array .char), .int, .int], some (.array .byte)⟩ := by decide +kernel
theorem d_jdk_42_149_39 : D jdk_42_method_149_code 39 (.astore 5) 2 41 := And.intro (by decide +kernel) rfl
theorem d_jdk_42_149_41 : D jdk_42_method_149_code 41 (.aload_n 0) 1 42 := And.intro (by decide +kernel) rfl
theorem d_jdk_42_149_42 : D jdk_42_method_149_code 42 (.aload 5) 2 44 := And.intro (by decide +kernel) rfl
theorem d_jdk_42_149_44 : D jdk_42_method_149_code 44 (.iload_n 3) 1 45 := And.intro (by decide +kernel) rfl
theorem d_jdk_42_149_45 : D jdk_42_method_149_code 45 (.invokestatic 47) 3 48 := And.intro (by decide +kernel) rfl
theorem pd2 : parseMethodDescriptor "([BI)B" = some ⟨[(.array .byte), .int], some .byte⟩ := by decide +kernel
theorem d_jdk_42_149_48 : D jdk_42_method_149_code 48 (.putfield 15) 3 51 := And.intro (by decide +kernel) rfl
theorem d_jdk_42_149_51 : D jdk_42_method_149_code 51 (.aload_n 0) 1 52 := And.intro (by decide +kernel) rfl
theorem d_jdk_42_149_52 : D jdk_42_method_149_code 52 (.aload 5) 2 54 := And.intro (by decide +kernel) rfl
theorem d_jdk_42_149_54 : D jdk_42_method_149_code 54 (.putfield 9) 3 57 := And.intro (by decide +kernel) rfl
theorem d_jdk_42_149_57 : D jdk_42_method_149_code 57 (.return_) 1 58 := And.intro (by decide +kernel) rfl
theorem pn1 : plainName "java/lang/String" = true := by first | (simp [plainName, overriddenIn]; done) | decide +kernel
theorem d_jdk_42_3_0 : D jdk_42_method_3_code 0 (.aload_n 0) 1 1 := And.intro (by decide +kernel) rfl
theorem d_jdk_42_3_1 : D jdk_42_method_3_code 1 (.aload_n 1) 1 2 := And.intro (by decide +kernel) rfl
theorem d_jdk_42_3_2 : D jdk_42_method_3_code 2 (.iconst 0) 1 3 := And.intro (by decide +kernel) rfl
theorem d_jdk_42_3_3 : D jdk_42_method_3_code 3 (.aload_n 1) 1 4 := And.intro (by decide +kernel) rfl
theorem d_jdk_42_3_4 : D jdk_42_method_3_code 4 (.arraylength) 1 5 := And.intro (by decide +kernel) rfl
theorem d_jdk_42_3_5 : D jdk_42_method_3_code 5 (.aconst_null) 1 6 := And.intro (by decide +kernel) rfl
theorem d_jdk_42_3_6 : D jdk_42_method_3_code 6 (.invokespecial 27) 3 9 := And.intro (by decide +kernel) rfl
theorem pd3 : parseMethodDescriptor "([CIILjava/lang/Void;)V" = some ⟨[(.array .char), .int, .int, (.object "java/lang/Void")], none⟩ := by decide +kernel
theorem d_jdk_42_3_9 : D jdk_42_method_3_code 9 (.return_) 1 10 := And.intro (by decide +kernel) rfl
theorem d_jdk_43_13_0 : D jdk_43_method_13_code 0 (.aload_n 0) 1 1 := And.intro (by decide +kernel) rfl
theorem d_jdk_43_13_1 : D jdk_43_method_13_code 1 (.arraylength) 1 2 := And.intro (by decide +kernel) rfl
theorem d_jdk_43_13_2 : D jdk_43_method_13_code 2 (.aload_n 1) 1 3 := And.intro (by decide +kernel) rfl
theorem d_jdk_43_13_3 : D jdk_43_method_13_code 3 (.arraylength) 1 4 := And.intro (by decide +kernel) rfl
theorem d_jdk_43_13_4 : D jdk_43_method_13_code 4 (.if_icmp .ne 30) 3 7 := And.intro (by decide +kernel) rfl
theorem d_jdk_43_13_34 : D jdk_43_method_13_code 34 (.iconst 0) 1 35 := And.intro (by decide +kernel) rfl
theorem d_jdk_43_13_35 : D jdk_43_method_13_code 35 (.ireturn) 1 36 := And.intro (by decide +kernel) rfl
theorem d_jdk_43_13_7 : D jdk_43_method_13_code 7 (.iconst 0) 1 8 := And.intro (by decide +kernel) rfl
theorem d_jdk_43_13_8 : D jdk_43_method_13_code 8 (.istore_n 2) 1 9 := And.intro (by decide +kernel) rfl
theorem d_jdk_43_13_9 : D jdk_43_method_13_code 9 (.iload_n 2) 1 10 := And.intro (by decide +kernel) rfl
theorem d_jdk_43_13_10 : D jdk_43_method_13_code 10 (.aload_n 0) 1 11 := And.intro (by decide +kernel) rfl
theorem d_jdk_43_13_11 : D jdk_43_method_13_code 11 (.arraylength) 1 12 := And.intro (by decide +kernel) rfl
theorem d_jdk_43_13_12 : D jdk_43_method_13_code 12 (.if_icmp .ge 20) 3 15 := And.intro (by decide +kernel) rfl
theorem d_jdk_43_13_32 : D jdk_43_method_13_code 32 (.iconst 1) 1 33 := And.intro (by decide +kernel) rfl
theorem d_jdk_43_13_33 : D jdk_43_method_13_code 33 (.ireturn) 1 34 := And.intro (by decide +kernel) rfl
theorem d_jdk_43_13_15 : D jdk_43_method_13_code 15 (.aload_n 0) 1 16 := And.intro (by decide +kernel) rfl
theorem d_jdk_43_13_16 : D jdk_43_method_13_code 16 (.iload_n 2) 1 17 := And.intro (by decide +kernel) rfl
theorem d_jdk_43_13_17 : D jdk_43_method_13_code 17 (.baload) 1 18 := And.intro (by decide +kernel) rfl
theorem d_jdk_43_13_18 : D jdk_43_method_13_code 18 (.aload_n 1) 1 19 := And.intro (by decide +kernel) rfl
theorem d_jdk_43_13_19 : D jdk_43_method_13_code 19 (.iload_n 2) 1 20 := And.intro (by decide +kernel) rfl
theorem d_jdk_43_13_20 : D jdk_43_method_13_code 20 (.baload) 1 21 := And.intro (by decide +kernel) rfl
theorem d_jdk_43_13_21 : D jdk_43_method_13_code 21 (.if_icmp .eq 5) 3 24 := And.intro (by decide +kernel) rfl
theorem d_jdk_43_13_26 : D jdk_43_method_13_code 26 (.iinc 2 1) 3 29 := And.intro (by decide +kernel) rfl
theorem d_jdk_43_13_29 : D jdk_43_method_13_code 29 (.goto (-20)) 3 32 := And.intro (by decide +kernel) rfl
theorem d_jdk_43_13_24 : D jdk_43_method_13_code 24 (.iconst 0) 1 25 := And.intro (by decide +kernel) rfl
theorem d_jdk_43_13_25 : D jdk_43_method_13_code 25 (.ireturn) 1 26 := And.intro (by decide +kernel) rfl
theorem pn2 : plainName "java/lang/StringLatin1" = true := by first | (simp [plainName, overriddenIn]; done) | decide +kernel
theorem d_jdk_42_66_0 : D jdk_42_method_66_code 0 (.aload_n 0) 1 1 := And.intro (by decide +kernel) rfl
theorem d_jdk_42_66_1 : D jdk_42_method_66_code 1 (.aload_n 1) 1 2 := And.intro (by decide +kernel) rfl
theorem d_jdk_42_66_2 : D jdk_42_method_66_code 2 (.if_acmp .ne 5) 3 5 := And.intro (by decide +kernel) rfl
theorem d_jdk_42_66_7 : D jdk_42_method_66_code 7 (.aload_n 1) 1 8 := And.intro (by decide +kernel) rfl
theorem d_jdk_42_66_8 : D jdk_42_method_66_code 8 (.instanceof 10) 3 11 := And.intro (by decide +kernel) rfl
theorem d_jdk_42_66_11 : D jdk_42_method_66_code 11 (.ifCond .eq 43) 3 14 := And.intro (by decide +kernel) rfl
theorem d_jdk_42_66_14 : D jdk_42_method_66_code 14 (.aload_n 1) 1 15 := And.intro (by decide +kernel) rfl
theorem d_jdk_42_66_15 : D jdk_42_method_66_code 15 (.checkcast 10) 3 18 := And.intro (by decide +kernel) rfl
theorem d_jdk_42_66_18 : D jdk_42_method_66_code 18 (.astore_n 2) 1 19 := And.intro (by decide +kernel) rfl
theorem d_jdk_42_66_19 : D jdk_42_method_66_code 19 (.getstatic 38) 3 22 := And.intro (by decide +kernel) rfl
theorem d_jdk_42_66_22 : D jdk_42_method_66_code 22 (.ifCond .eq 14) 3 25 := And.intro (by decide +kernel) rfl
theorem d_jdk_42_66_25 : D jdk_42_method_66_code 25 (.aload_n 0) 1 26 := And.intro (by decide +kernel) rfl
theorem d_jdk_42_66_26 : D jdk_42_method_66_code 26 (.getfield 15) 3 29 := And.intro (by decide +kernel) rfl
theorem d_jdk_42_66_29 : D jdk_42_method_66_code 29 (.aload_n 2) 1 30 := And.intro (by decide +kernel) rfl
theorem d_jdk_42_66_30 : D jdk_42_method_66_code 30 (.getfield 15) 3 33 := And.intro (by decide +kernel) rfl
theorem d_jdk_42_66_33 : D jdk_42_method_66_code 33 (.if_icmp .ne 21) 3 36 := And.intro (by decide +kernel) rfl
theorem d_jdk_42_66_36 : D jdk_42_method_66_code 36 (.aload_n 0) 1 37 := And.intro (by decide +kernel) rfl
theorem d_jdk_42_66_37 : D jdk_42_method_66_code 37 (.getfield 9) 3 40 := And.intro (by decide +kernel) rfl
theorem d_jdk_42_66_40 : D jdk_42_method_66_code 40 (.aload_n 2) 1 41 := And.intro (by decide +kernel) rfl
theorem d_jdk_42_66_41 : D jdk_42_method_66_code 41 (.getfield 9) 3 44 := And.intro (by decide +kernel) rfl
theorem d_jdk_42_66_44 : D jdk_42_method_66_code 44 (.invokestatic 541) 3 47 := And.intro (by decide +kernel) rfl
theorem pd4 : parseMethodDescriptor "([B[B)Z" = some ⟨[(.array .byte), (.array .byte)], some .boolean⟩ := by decide +kernel
theorem d_jdk_42_66_47 : D jdk_42_method_66_code 47 (.ifCond .eq 7) 3 50 := And.intro (by decide +kernel) rfl
theorem d_jdk_42_66_50 : D jdk_42_method_66_code 50 (.iconst 1) 1 51 := And.intro (by decide +kernel) rfl
theorem d_jdk_42_66_51 : D jdk_42_method_66_code 51 (.goto 4) 3 54 := And.intro (by decide +kernel) rfl
theorem d_jdk_42_66_55 : D jdk_42_method_66_code 55 (.ireturn) 1 56 := And.intro (by decide +kernel) rfl
theorem d_jdk_42_66_54 : D jdk_42_method_66_code 54 (.iconst 0) 1 55 := And.intro (by decide +kernel) rfl
theorem d_jdk_42_66_5 : D jdk_42_method_66_code 5 (.iconst 1) 1 6 := And.intro (by decide +kernel) rfl
theorem d_jdk_42_66_6 : D jdk_42_method_66_code 6 (.ireturn) 1 7 := And.intro (by decide +kernel) rfl
theorem d_jdk_42_154_0 : D jdk_42_method_154_code 0 (.getstatic 38) 3 3 := And.intro (by decide +kernel) rfl
theorem d_jdk_42_154_3 : D jdk_42_method_154_code 3 (.ifCond .eq 14) 3 6 := And.intro (by decide +kernel) rfl
theorem d_jdk_42_154_6 : D jdk_42_method_154_code 6 (.aload_n 0) 1 7 := And.intro (by decide +kernel) rfl
theorem d_jdk_42_154_7 : D jdk_42_method_154_code 7 (.getfield 15) 3 10 := And.intro (by decide +kernel) rfl
theorem d_jdk_42_154_10 : D jdk_42_method_154_code 10 (.ifCond .ne 7) 3 13 := And.intro (by decide +kernel) rfl
theorem d_jdk_42_154_13 : D jdk_42_method_154_code 13 (.iconst 1) 1 14 := And.intro (by decide +kernel) rfl
theorem d_jdk_42_154_14 : D jdk_42_method_154_code 14 (.goto 4) 3 17 := And.intro (by decide +kernel) rfl
theorem d_jdk_42_154_18 : D jdk_42_method_154_code 18 (.ireturn) 1 19 := And.intro (by decide +kernel) rfl
theorem d_jdk_42_152_0 : D jdk_42_method_152_code 0 (.getstatic 38) 3 3 := And.intro (by decide +kernel) rfl
theorem d_jdk_42_152_3 : D jdk_42_method_152_code 3 (.ifCond .eq 10) 3 6 := And.intro (by decide +kernel) rfl
theorem d_jdk_42_152_6 : D jdk_42_method_152_code 6 (.aload_n 0) 1 7 := And.intro (by decide +kernel) rfl
theorem d_jdk_42_152_7 : D jdk_42_method_152_code 7 (.getfield 15) 3 10 := And.intro (by decide +kernel) rfl
theorem d_jdk_42_152_10 : D jdk_42_method_152_code 10 (.goto 4) 3 13 := And.intro (by decide +kernel) rfl
theorem d_jdk_42_152_14 : D jdk_42_method_152_code 14 (.ireturn) 1 15 := And.intro (by decide +kernel) rfl
theorem d_jdk_42_54_0 : D jdk_42_method_54_code 0 (.aload_n 0) 1 1 := And.intro (by decide +kernel) rfl
theorem d_jdk_42_54_1 : D jdk_42_method_54_code 1 (.getfield 9) 3 4 := And.intro (by decide +kernel) rfl
theorem d_jdk_42_54_4 : D jdk_42_method_54_code 4 (.arraylength) 1 5 := And.intro (by decide +kernel) rfl
theorem d_jdk_42_54_5 : D jdk_42_method_54_code 5 (.aload_n 0) 1 6 := And.intro (by decide +kernel) rfl
theorem d_jdk_42_54_6 : D jdk_42_method_54_code 6 (.invokevirtual 335) 3 9 := And.intro (by decide +kernel) rfl
theorem pd5 : parseMethodDescriptor "()B" = some ⟨[], some .byte⟩ := by decide +kernel
theorem d_jdk_42_54_9 : D jdk_42_method_54_code 9 (.ishr) 1 10 := And.intro (by decide +kernel) rfl
theorem d_jdk_42_54_10 : D jdk_42_method_54_code 10 (.ireturn) 1 11 := And.intro (by decide +kernel) rfl
theorem d_jdk_116_1_0 : D jdk_116_method_1_code 0 (.iload_n 1) 1 1 := And.intro (by decide +kernel) rfl
theorem d_jdk_116_1_1 : D jdk_116_method_1_code 1 (.i2c) 1 2 := And.intro (by decide +kernel) rfl
theorem d_jdk_116_1_2 : D jdk_116_method_1_code 2 (.istore_n 2) 1 3 := And.intro (by decide +kernel) rfl
theorem d_jdk_116_1_3 : D jdk_116_method_1_code 3 (.getstatic 1) 3 6 := And.intro (by decide +kernel) rfl
theorem d_jdk_116_1_6 : D jdk_116_method_1_code 6 (.iload_n 2) 1 7 := And.intro (by decide +kernel) rfl
theorem d_jdk_116_1_7 : D jdk_116_method_1_code 7 (.iaload) 1 8 := And.intro (by decide +kernel) rfl
theorem d_jdk_116_1_8 : D jdk_116_method_1_code 8 (.istore_n 3) 1 9 := And.intro (by decide +kernel) rfl
theorem d_jdk_116_1_9 : D jdk_116_method_1_code 9 (.iload_n 3) 1 10 := And.intro (by decide +kernel) rfl
theorem d_jdk_116_1_10 : D jdk_116_method_1_code 10 (.ireturn) 1 11 := And.intro (by decide +kernel) rfl
theorem pn3 : plainName "java/lang/CharacterDataLatin1" = true := by first | (simp [plainName, overriddenIn]; done) | decide +kernel
theorem d_jdk_116_26_0 : D jdk_116_method_26_code 0 (.aload_n 0) 1 1 := And.intro (by decide +kernel) rfl
theorem d_jdk_116_26_1 : D jdk_116_method_26_code 1 (.iload_n 1) 1 2 := And.intro (by decide +kernel) rfl
theorem d_jdk_116_26_2 : D jdk_116_method_26_code 2 (.invokevirtual 15) 3 5 := And.intro (by decide +kernel) rfl
theorem pd6 : parseMethodDescriptor "(I)I" = some ⟨[.int], some .int⟩ := by decide +kernel
theorem d_jdk_116_26_5 : D jdk_116_method_26_code 5 (.istore_n 2) 1 6 := And.intro (by decide +kernel) rfl
theorem d_jdk_116_26_6 : D jdk_116_method_26_code 6 (.iload_n 2) 1 7 := And.intro (by decide +kernel) rfl
theorem d_jdk_116_26_7 : D jdk_116_method_26_code 7 (.sipush 28672) 3 10 := And.intro (by decide +kernel) rfl
theorem d_jdk_116_26_10 : D jdk_116_method_26_code 10 (.iand) 1 11 := And.intro (by decide +kernel) rfl
theorem d_jdk_116_26_11 : D jdk_116_method_26_code 11 (.sipush 16384) 3 14 := And.intro (by decide +kernel) rfl
theorem d_jdk_116_26_14 : D jdk_116_method_26_code 14 (.if_icmp .ne 7) 3 17 := And.intro (by decide +kernel) rfl
theorem d_jdk_116_26_21 : D jdk_116_method_26_code 21 (.iconst 0) 1 22 := And.intro (by decide +kernel) rfl
theorem d_jdk_116_26_22 : D jdk_116_method_26_code 22 (.ireturn) 1 23 := And.intro (by decide +kernel) rfl
theorem d_jdk_116_26_17 : D jdk_116_method_26_code 17 (.iconst 1) 1 18 := And.intro (by decide +kernel) rfl
theorem d_jdk_116_26_18 : D jdk_116_method_26_code 18 (.goto 4) 3 21 := And.intro (by decide +kernel) rfl
theorem d_jdk_43_44_0 : D jdk_43_method_44_code 0 (.aload_n 0) 1 1 := And.intro (by decide +kernel) rfl
theorem d_jdk_43_44_1 : D jdk_43_method_44_code 1 (.iload_n 1) 1 2 := And.intro (by decide +kernel) rfl
theorem d_jdk_43_44_2 : D jdk_43_method_44_code 2 (.baload) 1 3 := And.intro (by decide +kernel) rfl
theorem d_jdk_43_44_3 : D jdk_43_method_44_code 3 (.sipush 255) 3 6 := And.intro (by decide +kernel) rfl
theorem d_jdk_43_44_6 : D jdk_43_method_44_code 6 (.iand) 1 7 := And.intro (by decide +kernel) rfl
theorem d_jdk_43_44_7 : D jdk_43_method_44_code 7 (.i2c) 1 8 := And.intro (by decide +kernel) rfl
theorem d_jdk_43_44_8 : D jdk_43_method_44_code 8 (.ireturn) 1 9 := And.intro (by decide +kernel) rfl
theorem d_jdk_43_37_0 : D jdk_43_method_37_code 0 (.aload_n 0) 1 1 := And.intro (by decide +kernel) rfl
theorem d_jdk_43_37_1 : D jdk_43_method_37_code 1 (.arraylength) 1 2 := And.intro (by decide +kernel) rfl
theorem d_jdk_43_37_2 : D jdk_43_method_37_code 2 (.istore_n 1) 1 3 := And.intro (by decide +kernel) rfl
theorem d_jdk_43_37_3 : D jdk_43_method_37_code 3 (.iconst 0) 1 4 := And.intro (by decide +kernel) rfl
theorem d_jdk_43_37_4 : D jdk_43_method_37_code 4 (.istore_n 2) 1 5 := And.intro (by decide +kernel) rfl
theorem d_jdk_43_37_5 : D jdk_43_method_37_code 5 (.iload_n 2) 1 6 := And.intro (by decide +kernel) rfl
theorem d_jdk_43_37_6 : D jdk_43_method_37_code 6 (.iload_n 1) 1 7 := And.intro (by decide +kernel) rfl
theorem d_jdk_43_37_7 : D jdk_43_method_37_code 7 (.if_icmp .ge 40) 3 10 := And.intro (by decide +kernel) rfl
theorem d_jdk_43_37_10 : D jdk_43_method_37_code 10 (.aload_n 0) 1 11 := And.intro (by decide +kernel) rfl
theorem d_jdk_43_37_11 : D jdk_43_method_37_code 11 (.iload_n 2) 1 12 := And.intro (by decide +kernel) rfl
theorem d_jdk_43_37_12 : D jdk_43_method_37_code 12 (.invokestatic 50) 3 15 := And.intro (by decide +kernel) rfl
theorem pd7 : parseMethodDescriptor "([BI)C" = some ⟨[(.array .byte), .int], some .char⟩ := by decide +kernel
theorem d_jdk_43_37_15 : D jdk_43_method_37_code 15 (.istore_n 3) 1 16 := And.intro (by decide +kernel) rfl
theorem d_jdk_43_37_16 : D jdk_43_method_37_code 16 (.iload_n 3) 1 17 := And.intro (by decide +kernel) rfl
theorem d_jdk_43_37_17 : D jdk_43_method_37_code 17 (.bipush 32) 2 19 := And.intro (by decide +kernel) rfl
theorem d_jdk_43_37_19 : D jdk_43_method_37_code 19 (.if_icmp .eq 22) 3 22 := And.intro (by decide +kernel) rfl
theorem d_jdk_43_37_22 : D jdk_43_method_37_code 22 (.iload_n 3) 1 23 := And.intro (by decide +kernel) rfl
theorem d_jdk_43_37_23 : D jdk_43_method_37_code 23 (.bipush 9) 2 25 := And.intro (by decide +kernel) rfl
theorem d_jdk_43_37_25 : D jdk_43_method_37_code 25 (.if_icmp .eq 16) 3 28 := And.intro (by decide +kernel) rfl
theorem d_jdk_43_37_28 : D jdk_43_method_37_code 28 (.getstatic 66) 3 31 := And.intro (by decide +kernel) rfl
theorem d_jdk_43_37_31 : D jdk_43_method_37_code 31 (.iload_n 3) 1 32 := And.intro (by decide +kernel) rfl
theorem d_jdk_43_37_32 : D jdk_43_method_37_code 32 (.invokevirtual 211) 3 35 := And.intro (by decide +kernel) rfl
theorem pd8 : parseMethodDescriptor "(I)Z" = some ⟨[.int], some .boolean⟩ := by decide +kernel
theorem d_jdk_43_37_35 : D jdk_43_method_37_code 35 (.ifCond .ne 6) 3 38 := And.intro (by decide +kernel) rfl
theorem d_jdk_43_37_38 : D jdk_43_method_37_code 38 (.goto 9) 3 41 := And.intro (by decide +kernel) rfl
theorem d_jdk_43_37_47 : D jdk_43_method_37_code 47 (.iload_n 2) 1 48 := And.intro (by decide +kernel) rfl
theorem d_jdk_43_37_48 : D jdk_43_method_37_code 48 (.ireturn) 1 49 := And.intro (by decide +kernel) rfl
theorem d_jdk_43_37_41 : D jdk_43_method_37_code 41 (.iinc 2 1) 3 44 := And.intro (by decide +kernel) rfl
theorem d_jdk_43_37_44 : D jdk_43_method_37_code 44 (.goto (-39)) 3 47 := And.intro (by decide +kernel) rfl
theorem d_jdk_42_120_0 : D jdk_42_method_120_code 0 (.aload_n 0) 1 1 := And.intro (by decide +kernel) rfl
theorem d_jdk_42_120_1 : D jdk_42_method_120_code 1 (.invokevirtual 492) 3 4 := And.intro (by decide +kernel) rfl
theorem pd9 : parseMethodDescriptor "()Z" = some ⟨[], some .boolean⟩ := by decide +kernel
theorem d_jdk_42_120_4 : D jdk_42_method_120_code 4 (.ifCond .eq 13) 3 7 := And.intro (by decide +kernel) rfl
theorem d_jdk_42_120_7 : D jdk_42_method_120_code 7 (.aload_n 0) 1 8 := And.intro (by decide +kernel) rfl
theorem d_jdk_42_120_8 : D jdk_42_method_120_code 8 (.getfield 9) 3 11 := And.intro (by decide +kernel) rfl
theorem d_jdk_42_120_11 : D jdk_42_method_120_code 11 (.invokestatic 924) 3 14 := And.intro (by decide +kernel) rfl
theorem pd10 : parseMethodDescriptor "([B)I" = some ⟨[(.array .byte)], some .int⟩ := by decide +kernel
theorem d_jdk_42_120_14 : D jdk_42_method_120_code 14 (.goto 10) 3 17 := And.intro (by decide +kernel) rfl
theorem d_jdk_42_120_24 : D jdk_42_method_120_code 24 (.ireturn) 1 25 := And.intro (by decide +kernel) rfl
theorem d_jdk_42_117_0 : D jdk_42_method_117_code 0 (.aload_n 0) 1 1 := And.intro (by decide +kernel) rfl
theorem d_jdk_42_117_1 : D jdk_42_method_117_code 1 (.invokevirtual 876) 3 4 := And.intro (by decide +kernel) rfl
theorem pd11 : parseMethodDescriptor "()I" = some ⟨[], some .int⟩ := by decide +kernel
theorem d_jdk_42_117_4 : D jdk_42_method_117_code 4 (.aload_n 0) 1 5 := And.intro (by decide +kernel) rfl
theorem d_jdk_42_117_5 : D jdk_42_method_117_code 5 (.invokevirtual 505) 3 8 := And.intro (by decide +kernel) rfl
theorem d_jdk_42_117_8 : D jdk_42_method_117_code 8 (.if_icmp .ne 7) 3 11 := And.intro (by decide +kernel) rfl
theorem d_jdk_42_117_15 : D jdk_42_method_117_code 15 (.iconst 0) 1 16 := And.intro (by decide +kernel) rfl
theorem d_jdk_42_117_16 : D jdk_42_method_117_code 16 (.ireturn) 1 17 := And.intro (by decide +kernel) rfl
theorem d_jdk_31_11_0 : D jdk_31_method_11_code 0 (.aload_n 0) 1 1 := And.intro (by decide +kernel) rfl
theorem d_jdk_31_11_1 : D jdk_31_method_11_code 1 (.ifnonnull 12) 3 4 := And.intro (by decide +kernel) rfl
theorem d_jdk_31_11_13 : D jdk_31_method_11_code 13 (.aload_n 0) 1 14 := And.intro (by decide +kernel) rfl
theorem d_jdk_31_11_14 : D jdk_31_method_11_code 14 (.areturn) 1 15 := And.intro (by decide +kernel) rfl
theorem pn4 : plainName "java/util/Objects" = true := by first | (simp [plainName, overriddenIn]; done) | decide +kernel
theorem d_jdk_42_151_0 : D jdk_42_method_151_code 0 (.aload_n 0) 1 1 := And.intro (by decide +kernel) rfl
theorem d_jdk_42_151_1 : D jdk_42_method_151_code 1 (.invokespecial 1) 3 4 := And.intro (by decide +kernel) rfl
theorem d_jdk_42_151_4 : D jdk_42_method_151_code 4 (.aload_n 0) 1 5 := And.intro (by decide +kernel) rfl
theorem d_jdk_42_151_5 : D jdk_42_method_151_code 5 (.aload_n 1) 1 6 := And.intro (by decide +kernel) rfl
theorem d_jdk_42_151_6 : D jdk_42_method_151_code 6 (.putfield 9) 3 9 := And.intro (by decide +kernel) rfl
theorem d_jdk_42_151_9 : D jdk_42_method_151_code 9 (.aload_n 0) 1 10 := And.intro (by decide +kernel) rfl
theorem d_jdk_42_151_10 : D jdk_42_method_151_code 10 (.iload_n 2) 1 11 := And.intro (by decide +kernel) rfl
theorem d_jdk_42_151_11 : D jdk_42_method_151_code 11 (.putfield 15) 3 14 := And.intro (by decide +kernel) rfl
theorem d_jdk_42_151_14 : D jdk_42_method_151_code 14 (.return_) 1 15 := And.intro (by decide +kernel) rfl
theorem d_jdk_43_3_0 : D jdk_43_method_3_code 0 (.iload_n 0) 1 1 := And.intro (by decide +kernel) rfl
theorem d_jdk_43_3_1 : D jdk_43_method_3_code 1 (.sipush 255) 3 4 := And.intro (by decide +kernel) rfl
theorem d_jdk_43_3_4 : D jdk_43_method_3_code 4 (.if_icmp .gt 7) 3 7 := And.intro (by decide +kernel) rfl
theorem d_jdk_43_3_7 : D jdk_43_method_3_code 7 (.iconst 1) 1 8 := And.intro (by decide +kernel) rfl
theorem d_jdk_43_3_8 : D jdk_43_method_3_code 8 (.goto 4) 3 11 := And.intro (by decide +kernel) rfl
theorem d_jdk_43_3_12 : D jdk_43_method_3_code 12 (.ireturn) 1 13 := And.intro (by decide +kernel) rfl
theorem d_jdk_43_46_0 : D jdk_43_method_46_code 0 (.iconst 1) 1 1 := And.intro (by decide +kernel) rfl
theorem d_jdk_43_46_1 : D jdk_43_method_46_code 1 (.newarray .byte) 2 3 := And.intro (by decide +kernel) rfl
theorem d_jdk_43_46_3 : D jdk_43_method_46_code 3 (.dup) 1 4 := And.intro (by decide +kernel) rfl
theorem d_jdk_43_46_4 : D jdk_43_method_46_code 4 (.iconst 0) 1 5 := And.intro (by decide +kernel) rfl
theorem d_jdk_43_46_5 : D jdk_43_method_46_code 5 (.iload_n 0) 1 6 := And.intro (by decide +kernel) rfl
theorem d_jdk_43_46_6 : D jdk_43_method_46_code 6 (.i2b) 1 7 := And.intro (by decide +kernel) rfl
theorem d_jdk_43_46_7 : D jdk_43_method_46_code 7 (.bastore) 1 8 := And.intro (by decide +kernel) rfl
theorem d_jdk_43_46_8 : D jdk_43_method_46_code 8 (.areturn) 1 9 := And.intro (by decide +kernel) rfl
theorem d_jdk_42_139_0 : D jdk_42_method_139_code 0 (.getstatic 38) 3 3 := And.intro (by decide +kernel) rfl
theorem d_jdk_42_139_3 : D jdk_42_method_139_code 3 (.ifCond .eq 23) 3 6 := And.intro (by decide +kernel) rfl
theorem d_jdk_42_139_6 : D jdk_42_method_139_code 6 (.iload_n 0) 1 7 := And.intro (by decide +kernel) rfl
theorem d_jdk_42_139_7 : D jdk_42_method_139_code 7 (.invokestatic 1015) 3 10 := And.intro (by decide +kernel) rfl
theorem pd12 : parseMethodDescriptor "(C)Z" = some ⟨[.char], some .boolean⟩ := by decide +kernel
theorem d_jdk_42_139_10 : D jdk_42_method_139_code 10 (.ifCond .eq 16) 3 13 := And.intro (by decide +kernel) rfl
theorem d_jdk_42_139_13 : D jdk_42_method_139_code 13 (.new 10) 3 16 := And.intro (by decide +kernel) rfl
theorem d_jdk_42_139_16 : D jdk_42_method_139_code 16 (.dup) 1 17 := And.intro (by decide +kernel) rfl
theorem d_jdk_42_139_17 : D jdk_42_method_139_code 17 (.iload_n 0) 1 18 := And.intro (by decide +kernel) rfl
theorem d_jdk_42_139_18 : D jdk_42_method_139_code 18 (.invokestatic 1018) 3 21 := And.intro (by decide +kernel) rfl
theorem pd13 : parseMethodDescriptor "(C)[B" = some ⟨[.char], some (.array .byte)⟩ := by decide +kernel
theorem d_jdk_42_139_21 : D jdk_42_method_139_code 21 (.iconst 0) 1 22 := And.intro (by decide +kernel) rfl
theorem d_jdk_42_139_22 : D jdk_42_method_139_code 22 (.invokespecial 209) 3 25 := And.intro (by decide +kernel) rfl
theorem pd14 : parseMethodDescriptor "([BB)V" = some ⟨[(.array .byte), .byte], none⟩ := by decide +kernel
theorem d_jdk_42_139_25 : D jdk_42_method_139_code 25 (.areturn) 1 26 := And.intro (by decide +kernel) rfl
theorem d_prog_10_12_0 : D prog_10_method_12_code 0 (.aload_n 0) 1 1 := And.intro (by decide +kernel) rfl
theorem d_prog_10_12_1 : D prog_10_method_12_code 1 (.aload_n 1) 1 2 := And.intro (by decide +kernel) rfl
theorem d_prog_10_12_2 : D prog_10_method_12_code 2 (.invokestatic 34) 3 5 := And.intro (by decide +kernel) rfl
theorem pd15 : parseMethodDescriptor "(Ljava/lang/Object;Ljava/lang/String;)Ljava/lang/Object;" = some ⟨[(.object "java/lang/Object"), (.object "java/lang/String")], some (.object "java/lang/Object")⟩ := by decide +kernel
theorem d_prog_10_12_5 : D prog_10_method_12_code 5 (.pop) 1 6 := And.intro (by decide +kernel) rfl
theorem d_prog_10_12_6 : D prog_10_method_12_code 6 (.aload_n 0) 1 7 := And.intro (by decide +kernel) rfl
theorem d_prog_10_12_7 : D prog_10_method_12_code 7 (.invokevirtual 93) 3 10 := And.intro (by decide +kernel) rfl
theorem d_prog_10_12_10 : D prog_10_method_12_code 10 (.ifCond .eq 17) 3 13 := And.intro (by decide +kernel) rfl
theorem d_prog_10_12_27 : D prog_10_method_12_code 27 (.aload_n 0) 1 28 := And.intro (by decide +kernel) rfl
theorem d_prog_10_12_28 : D prog_10_method_12_code 28 (.areturn) 1 29 := And.intro (by decide +kernel) rfl
theorem pn5 : plainName "com/example/kourier/kourier/outbox/OutboxEvent" = true := by first | (simp [plainName, overriddenIn]; done) | decide +kernel
theorem d_prog_10_2_0 : D prog_10_method_2_code 0 (.aload_n 0) 1 1 := And.intro (by decide +kernel) rfl
theorem d_prog_10_2_1 : D prog_10_method_2_code 1 (.invokespecial 7) 3 4 := And.intro (by decide +kernel) rfl
theorem d_prog_10_2_4 : D prog_10_method_2_code 4 (.aload_n 0) 1 5 := And.intro (by decide +kernel) rfl
theorem d_prog_10_2_5 : D prog_10_method_2_code 5 (.aload_n 1) 1 6 := And.intro (by decide +kernel) rfl
theorem d_prog_10_2_6 : D prog_10_method_2_code 6 (.putfield 12) 3 9 := And.intro (by decide +kernel) rfl
theorem d_prog_10_2_9 : D prog_10_method_2_code 9 (.aload_n 0) 1 10 := And.intro (by decide +kernel) rfl
theorem d_prog_10_2_10 : D prog_10_method_2_code 10 (.aload_n 2) 1 11 := And.intro (by decide +kernel) rfl
theorem d_prog_10_2_11 : D prog_10_method_2_code 11 (.ldc 16) 2 13 := And.intro (by decide +kernel) rfl
theorem d_prog_10_2_13 : D prog_10_method_2_code 13 (.invokestatic 18) 3 16 := And.intro (by decide +kernel) rfl
theorem pd16 : parseMethodDescriptor "(Ljava/lang/String;Ljava/lang/String;)Ljava/lang/String;" = some ⟨[(.object "java/lang/String"), (.object "java/lang/String")], some (.object "java/lang/String")⟩ := by decide +kernel
theorem d_prog_10_2_16 : D prog_10_method_2_code 16 (.putfield 22) 3 19 := And.intro (by decide +kernel) rfl
theorem d_prog_10_2_19 : D prog_10_method_2_code 19 (.aload_n 0) 1 20 := And.intro (by decide +kernel) rfl
theorem d_prog_10_2_20 : D prog_10_method_2_code 20 (.aload_n 3) 1 21 := And.intro (by decide +kernel) rfl
theorem d_prog_10_2_21 : D prog_10_method_2_code 21 (.ldc 24) 2 23 := And.intro (by decide +kernel) rfl
theorem d_prog_10_2_23 : D prog_10_method_2_code 23 (.invokestatic 18) 3 26 := And.intro (by decide +kernel) rfl
theorem d_prog_10_2_26 : D prog_10_method_2_code 26 (.putfield 26) 3 29 := And.intro (by decide +kernel) rfl
theorem d_prog_10_2_29 : D prog_10_method_2_code 29 (.aload_n 0) 1 30 := And.intro (by decide +kernel) rfl
theorem d_prog_10_2_30 : D prog_10_method_2_code 30 (.aload 4) 2 32 := And.intro (by decide +kernel) rfl
theorem d_prog_10_2_32 : D prog_10_method_2_code 32 (.ldc 28) 2 34 := And.intro (by decide +kernel) rfl
theorem d_prog_10_2_34 : D prog_10_method_2_code 34 (.invokestatic 18) 3 37 := And.intro (by decide +kernel) rfl
theorem d_prog_10_2_37 : D prog_10_method_2_code 37 (.putfield 30) 3 40 := And.intro (by decide +kernel) rfl
theorem d_prog_10_2_40 : D prog_10_method_2_code 40 (.aload_n 0) 1 41 := And.intro (by decide +kernel) rfl
theorem d_prog_10_2_41 : D prog_10_method_2_code 41 (.aload 5) 2 43 := And.intro (by decide +kernel) rfl
theorem d_prog_10_2_43 : D prog_10_method_2_code 43 (.ldc 32) 2 45 := And.intro (by decide +kernel) rfl
theorem d_prog_10_2_45 : D prog_10_method_2_code 45 (.invokestatic 34) 3 48 := And.intro (by decide +kernel) rfl
theorem d_prog_10_2_48 : D prog_10_method_2_code 48 (.checkcast 40) 3 51 := And.intro (by decide +kernel) rfl
theorem d_prog_10_2_51 : D prog_10_method_2_code 51 (.invokevirtual 42) 3 54 := And.intro (by decide +kernel) rfl
theorem d_prog_10_2_54 : D prog_10_method_2_code 54 (.checkcast 40) 3 57 := And.intro (by decide +kernel) rfl
theorem d_prog_10_2_57 : D prog_10_method_2_code 57 (.putfield 46) 3 60 := And.intro (by decide +kernel) rfl
theorem d_prog_10_2_60 : D prog_10_method_2_code 60 (.return_) 1 61 := And.intro (by decide +kernel) rfl
theorem d_prog_10_1_0 : D prog_10_method_1_code 0 (.aload_n 0) 1 1 := And.intro (by decide +kernel) rfl
theorem d_prog_10_1_1 : D prog_10_method_1_code 1 (.aconst_null) 1 2 := And.intro (by decide +kernel) rfl
theorem d_prog_10_1_2 : D prog_10_method_1_code 2 (.aload_n 1) 1 3 := And.intro (by decide +kernel) rfl
theorem d_prog_10_1_3 : D prog_10_method_1_code 3 (.aload_n 2) 1 4 := And.intro (by decide +kernel) rfl
theorem d_prog_10_1_4 : D prog_10_method_1_code 4 (.aload_n 3) 1 5 := And.intro (by decide +kernel) rfl
theorem d_prog_10_1_5 : D prog_10_method_1_code 5 (.aload 4) 2 7 := And.intro (by decide +kernel) rfl
theorem d_prog_10_1_7 : D prog_10_method_1_code 7 (.invokespecial 1) 3 10 := And.intro (by decide +kernel) rfl
theorem pd17 : parseMethodDescriptor "(Ljava/lang/String;Ljava/lang/String;Ljava/lang/String;Ljava/lang/String;[B)V" = some ⟨[(.object "java/lang/String"), (.object "java/lang/String"), (.object "java/lang/String"), (.object "java/lang/String"), (.array .byte)], none⟩ := by decide +kernel
theorem d_prog_10_1_10 : D prog_10_method_1_code 10 (.return_) 1 11 := And.intro (by decide +kernel) rfl
theorem d_prog_10_3_0 : D prog_10_method_3_code 0 (.new 2) 3 3 := And.intro (by decide +kernel) rfl
theorem d_prog_10_3_3 : D prog_10_method_3_code 3 (.dup) 1 4 := And.intro (by decide +kernel) rfl
theorem d_prog_10_3_4 : D prog_10_method_3_code 4 (.aload_n 1) 1 5 := And.intro (by decide +kernel) rfl
theorem d_prog_10_3_5 : D prog_10_method_3_code 5 (.ldc 48) 2 7 := And.intro (by decide +kernel) rfl
theorem d_prog_10_3_7 : D prog_10_method_3_code 7 (.invokestatic 18) 3 10 := And.intro (by decide +kernel) rfl
theorem d_prog_10_3_10 : D prog_10_method_3_code 10 (.aload_n 0) 1 11 := And.intro (by decide +kernel) rfl
theorem d_prog_10_3_11 : D prog_10_method_3_code 11 (.getfield 22) 3 14 := And.intro (by decide +kernel) rfl
theorem d_prog_10_3_14 : D prog_10_method_3_code 14 (.aload_n 0) 1 15 := And.intro (by decide +kernel) rfl
theorem d_prog_10_3_15 : D prog_10_method_3_code 15 (.getfield 26) 3 18 := And.intro (by decide +kernel) rfl
theorem d_prog_10_3_18 : D prog_10_method_3_code 18 (.aload_n 0) 1 19 := And.intro (by decide +kernel) rfl
theorem d_prog_10_3_19 : D prog_10_method_3_code 19 (.getfield 30) 3 22 := And.intro (by decide +kernel) rfl
theorem d_prog_10_3_22 : D prog_10_method_3_code 22 (.aload_n 0) 1 23 := And.intro (by decide +kernel) rfl
theorem d_prog_10_3_23 : D prog_10_method_3_code 23 (.getfield 46) 3 26 := And.intro (by decide +kernel) rfl
theorem d_prog_10_3_26 : D prog_10_method_3_code 26 (.invokespecial 1) 3 29 := And.intro (by decide +kernel) rfl
theorem d_prog_10_3_29 : D prog_10_method_3_code 29 (.areturn) 1 30 := And.intro (by decide +kernel) rfl
theorem d_prog_10_5_0 : D prog_10_method_5_code 0 (.aload_n 0) 1 1 := And.intro (by decide +kernel) rfl
theorem d_prog_10_5_1 : D prog_10_method_5_code 1 (.getfield 22) 3 4 := And.intro (by decide +kernel) rfl
theorem d_prog_10_5_4 : D prog_10_method_5_code 4 (.areturn) 1 5 := And.intro (by decide +kernel) rfl
theorem d_prog_10_6_0 : D prog_10_method_6_code 0 (.aload_n 0) 1 1 := And.intro (by decide +kernel) rfl
theorem d_prog_10_6_1 : D prog_10_method_6_code 1 (.getfield 26) 3 4 := And.intro (by decide +kernel) rfl
theorem d_prog_10_6_4 : D prog_10_method_6_code 4 (.areturn) 1 5 := And.intro (by decide +kernel) rfl
theorem d_prog_10_7_0 : D prog_10_method_7_code 0 (.aload_n 0) 1 1 := And.intro (by decide +kernel) rfl
theorem d_prog_10_7_1 : D prog_10_method_7_code 1 (.getfield 30) 3 4 := And.intro (by decide +kernel) rfl
theorem d_prog_10_7_4 : D prog_10_method_7_code 4 (.areturn) 1 5 := And.intro (by decide +kernel) rfl
theorem d_prog_10_8_0 : D prog_10_method_8_code 0 (.aload_n 0) 1 1 := And.intro (by decide +kernel) rfl
theorem d_prog_10_8_1 : D prog_10_method_8_code 1 (.getfield 46) 3 4 := And.intro (by decide +kernel) rfl
theorem d_prog_10_8_4 : D prog_10_method_8_code 4 (.invokevirtual 42) 3 7 := And.intro (by decide +kernel) rfl
theorem d_prog_10_8_7 : D prog_10_method_8_code 7 (.checkcast 40) 3 10 := And.intro (by decide +kernel) rfl
theorem d_prog_10_8_10 : D prog_10_method_8_code 10 (.areturn) 1 11 := And.intro (by decide +kernel) rfl
theorem d_jdk_31_2_0 : D jdk_31_method_2_code 0 (.aload_n 0) 1 1 := And.intro (by decide +kernel) rfl
theorem d_jdk_31_2_1 : D jdk_31_method_2_code 1 (.aload_n 1) 1 2 := And.intro (by decide +kernel) rfl
theorem d_jdk_31_2_2 : D jdk_31_method_2_code 2 (.if_acmp .eq 15) 3 5 := And.intro (by decide +kernel) rfl
theorem d_jdk_31_2_17 : D jdk_31_method_2_code 17 (.iconst 1) 1 18 := And.intro (by decide +kernel) rfl
theorem d_jdk_31_2_18 : D jdk_31_method_2_code 18 (.goto 4) 3 21 := And.intro (by decide +kernel) rfl
theorem d_jdk_31_2_22 : D jdk_31_method_2_code 22 (.ireturn) 1 23 := And.intro (by decide +kernel) rfl
theorem d_jdk_31_2_5 : D jdk_31_method_2_code 5 (.aload_n 0) 1 6 := And.intro (by decide +kernel) rfl
theorem d_jdk_31_2_6 : D jdk_31_method_2_code 6 (.ifnull 15) 3 9 := And.intro (by decide +kernel) rfl
theorem d_jdk_31_2_9 : D jdk_31_method_2_code 9 (.aload_n 0) 1 10 := And.intro (by decide +kernel) rfl
theorem d_jdk_31_2_10 : D jdk_31_method_2_code 10 (.aload_n 1) 1 11 := And.intro (by decide +kernel) rfl
theorem d_jdk_31_2_11 : D jdk_31_method_2_code 11 (.invokevirtual 14) 3 14 := And.intro (by decide +kernel) rfl
theorem pd18 : parseMethodDescriptor "(Ljava/lang/Object;)Z" = some ⟨[(.object "java/lang/Object")], some .boolean⟩ := by decide +kernel
theorem d_jdk_31_2_14 : D jdk_31_method_2_code 14 (.ifCond .eq 7) 3 17 := And.intro (by decide +kernel) rfl
theorem d_jdk_31_2_21 : D jdk_31_method_2_code 21 (.iconst 0) 1 22 := And.intro (by decide +kernel) rfl
theorem d_jdk_48_13_0 : D jdk_48_method_13_code 0 (.iconst 0) 1 1 := And.intro (by decide +kernel) rfl
theorem d_jdk_48_13_1 : D jdk_48_method_13_code 1 (.istore_n 3) 1 2 := And.intro (by decide +kernel) rfl
theorem d_jdk_48_13_2 : D jdk_48_method_13_code 2 (.iload_n 2) 1 3 := And.intro (by decide +kernel) rfl
theorem d_jdk_48_13_3 : D jdk_48_method_13_code 3 (.bipush 7) 2 5 := And.intro (by decide +kernel) rfl
theorem d_jdk_48_13_5 : D jdk_48_method_13_code 5 (.if_icmp .le 44) 3 8 := And.intro (by decide +kernel) rfl
theorem d_jdk_48_13_49 : D jdk_48_method_13_code 49 (.iload_n 3) 1 50 := And.intro (by decide +kernel) rfl
theorem d_jdk_48_13_50 : D jdk_48_method_13_code 50 (.iload_n 2) 1 51 := And.intro (by decide +kernel) rfl
theorem d_jdk_48_13_51 : D jdk_48_method_13_code 51 (.if_icmp .ge 20) 3 54 := And.intro (by decide +kernel) rfl
theorem d_jdk_48_13_71 : D jdk_48_method_13_code 71 (.iconst (-1)) 1 72 := And.intro (by decide +kernel) rfl
theorem d_jdk_48_13_72 : D jdk_48_method_13_code 72 (.ireturn) 1 73 := And.intro (by decide +kernel) rfl
theorem d_jdk_48_13_54 : D jdk_48_method_13_code 54 (.aload_n 0) 1 55 := And.intro (by decide +kernel) rfl
theorem d_jdk_48_13_55 : D jdk_48_method_13_code 55 (.iload_n 3) 1 56 := And.intro (by decide +kernel) rfl
theorem d_jdk_48_13_56 : D jdk_48_method_13_code 56 (.baload) 1 57 := And.intro (by decide +kernel) rfl
theorem d_jdk_48_13_57 : D jdk_48_method_13_code 57 (.aload_n 1) 1 58 := And.intro (by decide +kernel) rfl
theorem d_jdk_48_13_58 : D jdk_48_method_13_code 58 (.iload_n 3) 1 59 := And.intro (by decide +kernel) rfl
theorem d_jdk_48_13_59 : D jdk_48_method_13_code 59 (.baload) 1 60 := And.intro (by decide +kernel) rfl
theorem d_jdk_48_13_60 : D jdk_48_method_13_code 60 (.if_icmp .eq 5) 3 63 := And.intro (by decide +kernel) rfl
theorem d_jdk_48_13_65 : D jdk_48_method_13_code 65 (.iinc 3 1) 3 68 := And.intro (by decide +kernel) rfl
theorem d_jdk_48_13_68 : D jdk_48_method_13_code 68 (.goto (-19)) 3 71 := And.intro (by decide +kernel) rfl
theorem pn6 : plainName "jdk/internal/util/ArraysSupport" = true := by first | (simp [plainName, overriddenIn]; done) | decide +kernel
theorem d_jdk_65_89_0 : D jdk_65_method_89_code 0 (.aload_n 0) 1 1 := And.intro (by decide +kernel) rfl
theorem d_jdk_65_89_1 : D jdk_65_method_89_code 1 (.aload_n 1) 1 2 := And.intro (by decide +kernel) rfl
theorem d_jdk_65_89_2 : D jdk_65_method_89_code 2 (.if_acmp .ne 5) 3 5 := And.intro (by decide +kernel) rfl
theorem d_jdk_65_89_7 : D jdk_65_method_89_code 7 (.aload_n 0) 1 8 := And.intro (by decide +kernel) rfl
theorem d_jdk_65_89_8 : D jdk_65_method_89_code 8 (.ifnull 7) 3 11 := And.intro (by decide +kernel) rfl
theorem d_jdk_65_89_11 : D jdk_65_method_89_code 11 (.aload_n 1) 1 12 := And.intro (by decide +kernel) rfl
theorem d_jdk_65_89_12 : D jdk_65_method_89_code 12 (.ifnonnull 5) 3 15 := And.intro (by decide +kernel) rfl
theorem d_jdk_65_89_17 : D jdk_65_method_89_code 17 (.aload_n 0) 1 18 := And.intro (by decide +kernel) rfl
theorem d_jdk_65_89_18 : D jdk_65_method_89_code 18 (.arraylength) 1 19 := And.intro (by decide +kernel) rfl
theorem d_jdk_65_89_19 : D jdk_65_method_89_code 19 (.istore_n 2) 1 20 := And.intro (by decide +kernel) rfl
theorem d_jdk_65_89_20 : D jdk_65_method_89_code 20 (.aload_n 1) 1 21 := And.intro (by decide +kernel) rfl
theorem d_jdk_65_89_21 : D jdk_65_method_89_code 21 (.arraylength) 1 22 := And.intro (by decide +kernel) rfl
theorem d_jdk_65_89_22 : D jdk_65_method_89_code 22 (.iload_n 2) 1 23 := And.intro (by decide +kernel) rfl
theorem d_jdk_65_89_23 : D jdk_65_method_89_code 23 (.if_icmp .eq 5) 3 26 := And.intro (by decide +kernel) rfl
theorem d_jdk_65_89_28 : D jdk_65_method_89_code 28 (.aload_n 0) 1 29 := And.intro (by decide +kernel) rfl
theorem d_jdk_65_89_29 : D jdk_65_method_89_code 29 (.aload_n 1) 1 30 := And.intro (by decide +kernel) rfl
theorem d_jdk_65_89_30 : D jdk_65_method_89_code 30 (.iload_n 2) 1 31 := And.intro (by decide +kernel) rfl
theorem d_jdk_65_89_31 : D jdk_65_method_89_code 31 (.invokestatic 272) 3 34 := And.intro (by decide +kernel) rfl
theorem pd19 : parseMethodDescriptor "([B[BI)I" = some ⟨[(.array .byte), (.array .byte), .int], some .int⟩ := by decide +kernel
theorem d_jdk_65_89_34 : D jdk_65_method_89_code 34 (.ifCond .ge 7) 3 37 := And.intro (by decide +kernel) rfl
theorem d_jdk_65_89_37 : D jdk_65_method_89_code 37 (.iconst 1) 1 38 := And.intro (by decide +kernel) rfl
theorem d_jdk_65_89_38 : D jdk_65_method_89_code 38 (.goto 4) 3 41 := And.intro (by decide +kernel) rfl
theorem d_jdk_65_89_42 : D jdk_65_method_89_code 42 (.ireturn) 1 43 := And.intro (by decide +kernel) rfl
theorem pn7 : plainName "java/util/Arrays" = true := by first | (simp [plainName, overriddenIn]; done) | decide +kernel
theorem d_prog_10_9_0 : D prog_10_method_9_code 0 (.aload_n 0) 1 1 := And.intro (by decide +kernel) rfl
theorem d_prog_10_9_1 : D prog_10_method_9_code 1 (.aload_n 1) 1 2 := And.intro (by decide +kernel) rfl
theorem d_prog_10_9_2 : D prog_10_method_9_code 2 (.if_acmp .ne 5) 3 5 := And.intro (by decide +kernel) rfl
theorem d_prog_10_9_7 : D prog_10_method_9_code 7 (.aload_n 1) 1 8 := And.intro (by decide +kernel) rfl
theorem d_prog_10_9_8 : D prog_10_method_9_code 8 (.ifnull 14) 3 11 := And.intro (by decide +kernel) rfl
theorem d_prog_10_9_11 : D prog_10_method_9_code 11 (.aload_n 1) 1 12 := And.intro (by decide +kernel) rfl
theorem d_prog_10_9_12 : D prog_10_method_9_code 12 (.invokevirtual 55) 3 15 := And.intro (by decide +kernel) rfl
theorem d_prog_10_9_15 : D prog_10_method_9_code 15 (.aload_n 0) 1 16 := And.intro (by decide +kernel) rfl
theorem d_prog_10_9_16 : D prog_10_method_9_code 16 (.invokevirtual 55) 3 19 := And.intro (by decide +kernel) rfl
theorem d_prog_10_9_19 : D prog_10_method_9_code 19 (.if_acmp .eq 5) 3 22 := And.intro (by decide +kernel) rfl
theorem d_prog_10_9_24 : D prog_10_method_9_code 24 (.aload_n 1) 1 25 := And.intro (by decide +kernel) rfl
theorem d_prog_10_9_25 : D prog_10_method_9_code 25 (.checkcast 2) 3 28 := And.intro (by decide +kernel) rfl
theorem d_prog_10_9_28 : D prog_10_method_9_code 28 (.astore_n 2) 1 29 := And.intro (by decide +kernel) rfl
theorem d_prog_10_9_29 : D prog_10_method_9_code 29 (.aload_n 0) 1 30 := And.intro (by decide +kernel) rfl
theorem d_prog_10_9_30 : D prog_10_method_9_code 30 (.getfield 12) 3 33 := And.intro (by decide +kernel) rfl
theorem d_prog_10_9_33 : D prog_10_method_9_code 33 (.aload_n 2) 1 34 := And.intro (by decide +kernel) rfl
theorem d_prog_10_9_34 : D prog_10_method_9_code 34 (.getfield 12) 3 37 := And.intro (by decide +kernel) rfl
theorem d_prog_10_9_37 : D prog_10_method_9_code 37 (.invokestatic 59) 3 40 := And.intro (by decide +kernel) rfl
theorem pd20 : parseMethodDescriptor "(Ljava/lang/Object;Ljava/lang/Object;)Z" = some ⟨[(.object "java/lang/Object"), (.object "java/lang/Object")], some .boolean⟩ := by decide +kernel
theorem d_prog_10_9_40 : D prog_10_method_9_code 40 (.ifCond .eq 63) 3 43 := And.intro (by decide +kernel) rfl
theorem d_prog_10_9_103 : D prog_10_method_9_code 103 (.iconst 0) 1 104 := And.intro (by decide +kernel) rfl
theorem d_prog_10_9_104 : D prog_10_method_9_code 104 (.ireturn) 1 105 := And.intro (by decide +kernel) rfl
theorem d_prog_10_9_43 : D prog_10_method_9_code 43 (.aload_n 0) 1 44 := And.intro (by decide +kernel) rfl
theorem d_prog_10_9_44 : D prog_10_method_9_code 44 (.getfield 22) 3 47 := And.intro (by decide +kernel) rfl
theorem d_prog_10_9_47 : D prog_10_method_9_code 47 (.aload_n 2) 1 48 := And.intro (by decide +kernel) rfl
theorem d_prog_10_9_48 : D prog_10_method_9_code 48 (.getfield 22) 3 51 := And.intro (by decide +kernel) rfl
theorem d_prog_10_9_51 : D prog_10_method_9_code 51 (.invokevirtual 63) 3 54 := And.intro (by decide +kernel) rfl
theorem d_prog_10_9_54 : D prog_10_method_9_code 54 (.ifCond .eq 49) 3 57 := And.intro (by decide +kernel) rfl
theorem d_prog_10_9_57 : D prog_10_method_9_code 57 (.aload_n 0) 1 58 := And.intro (by decide +kernel) rfl
theorem d_prog_10_9_58 : D prog_10_method_9_code 58 (.getfield 26) 3 61 := And.intro (by decide +kernel) rfl
theorem d_prog_10_9_61 : D prog_10_method_9_code 61 (.aload_n 2) 1 62 := And.intro (by decide +kernel) rfl
theorem d_prog_10_9_62 : D prog_10_method_9_code 62 (.getfield 26) 3 65 := And.intro (by decide +kernel) rfl
theorem d_prog_10_9_65 : D prog_10_method_9_code 65 (.invokevirtual 63) 3 68 := And.intro (by decide +kernel) rfl
theorem d_prog_10_9_68 : D prog_10_method_9_code 68 (.ifCond .eq 35) 3 71 := And.intro (by decide +kernel) rfl
theorem d_prog_10_9_71 : D prog_10_method_9_code 71 (.aload_n 0) 1 72 := And.intro (by decide +kernel) rfl
theorem d_prog_10_9_72 : D prog_10_method_9_code 72 (.getfield 30) 3 75 := And.intro (by decide +kernel) rfl
theorem d_prog_10_9_75 : D prog_10_method_9_code 75 (.aload_n 2) 1 76 := And.intro (by decide +kernel) rfl
theorem d_prog_10_9_76 : D prog_10_method_9_code 76 (.getfield 30) 3 79 := And.intro (by decide +kernel) rfl
theorem d_prog_10_9_79 : D prog_10_method_9_code 79 (.invokevirtual 63) 3 82 := And.intro (by decide +kernel) rfl
theorem d_prog_10_9_82 : D prog_10_method_9_code 82 (.ifCond .eq 21) 3 85 := And.intro (by decide +kernel) rfl
theorem d_prog_10_9_85 : D prog_10_method_9_code 85 (.aload_n 0) 1 86 := And.intro (by decide +kernel) rfl
theorem d_prog_10_9_86 : D prog_10_method_9_code 86 (.getfield 46) 3 89 := And.intro (by decide +kernel) rfl
theorem d_prog_10_9_89 : D prog_10_method_9_code 89 (.aload_n 2) 1 90 := And.intro (by decide +kernel) rfl
theorem d_prog_10_9_90 : D prog_10_method_9_code 90 (.getfield 46) 3 93 := And.intro (by decide +kernel) rfl
theorem d_prog_10_9_93 : D prog_10_method_9_code 93 (.invokestatic 68) 3 96 := And.intro (by decide +kernel) rfl
theorem d_prog_10_9_96 : D prog_10_method_9_code 96 (.ifCond .eq 7) 3 99 := And.intro (by decide +kernel) rfl
theorem d_prog_10_9_99 : D prog_10_method_9_code 99 (.iconst 1) 1 100 := And.intro (by decide +kernel) rfl
theorem d_prog_10_9_100 : D prog_10_method_9_code 100 (.goto 4) 3 103 := And.intro (by decide +kernel) rfl
theorem d_method_2_0 : D method_2_code 0 (.bipush 33) 2 2 := And.intro (by decide +kernel) rfl
theorem d_method_2_2 : D method_2_code 2 (.iload_n 0) 1 3 := And.intro (by decide +kernel) rfl
theorem d_method_2_3 : D method_2_code 3 (.sipush 255) 3 6 := And.intro (by decide +kernel) rfl
theorem d_method_2_6 : D method_2_code 6 (.iand) 1 7 := And.intro (by decide +kernel) rfl
theorem d_method_2_7 : D method_2_code 7 (.bipush 94) 2 9 := And.intro (by decide +kernel) rfl
theorem d_method_2_9 : D method_2_code 9 (.irem) 1 10 := And.intro (by decide +kernel) rfl
theorem d_method_2_10 : D method_2_code 10 (.iadd) 1 11 := And.intro (by decide +kernel) rfl
theorem d_method_2_11 : D method_2_code 11 (.i2c) 1 12 := And.intro (by decide +kernel) rfl
theorem d_method_2_12 : D method_2_code 12 (.invokestatic 7) 3 15 := And.intro (by decide +kernel) rfl
theorem pd21 : parseMethodDescriptor "(C)Ljava/lang/String;" = some ⟨[.char], some (.object "java/lang/String")⟩ := by decide +kernel
theorem d_method_2_15 : D method_2_code 15 (.areturn) 1 16 := And.intro (by decide +kernel) rfl
theorem pn8 : plainName "com/example/kourier/kourier/outbox/OutboxEventWithIdPinLaw" = true := by first | (simp [plainName, overriddenIn]; done) | decide +kernel
theorem d_method_3_0 : D method_3_code 0 (.bipush 33) 2 2 := And.intro (by decide +kernel) rfl
theorem d_method_3_2 : D method_3_code 2 (.lload_n 0) 1 3 := And.intro (by decide +kernel) rfl
theorem d_method_3_3 : D method_3_code 3 (.ldc2_w 13) 3 6 := And.intro (by decide +kernel) rfl
theorem d_method_3_6 : D method_3_code 6 (.land) 1 7 := And.intro (by decide +kernel) rfl
theorem d_method_3_7 : D method_3_code 7 (.ldc2_w 15) 3 10 := And.intro (by decide +kernel) rfl
theorem d_method_3_10 : D method_3_code 10 (.lrem) 1 11 := And.intro (by decide +kernel) rfl
theorem d_method_3_11 : D method_3_code 11 (.l2i) 1 12 := And.intro (by decide +kernel) rfl
theorem d_method_3_12 : D method_3_code 12 (.iadd) 1 13 := And.intro (by decide +kernel) rfl
theorem d_method_3_13 : D method_3_code 13 (.i2c) 1 14 := And.intro (by decide +kernel) rfl
theorem d_method_3_14 : D method_3_code 14 (.istore_n 3) 1 15 := And.intro (by decide +kernel) rfl
theorem d_method_3_15 : D method_3_code 15 (.lload_n 0) 1 16 := And.intro (by decide +kernel) rfl
theorem d_method_3_16 : D method_3_code 16 (.bipush 8) 2 18 := And.intro (by decide +kernel) rfl
theorem d_method_3_18 : D method_3_code 18 (.lushr) 1 19 := And.intro (by decide +kernel) rfl
theorem d_method_3_19 : D method_3_code 19 (.ldc2_w 13) 3 22 := And.intro (by decide +kernel) rfl
theorem d_method_3_22 : D method_3_code 22 (.land) 1 23 := And.intro (by decide +kernel) rfl
theorem d_method_3_23 : D method_3_code 23 (.l2i) 1 24 := And.intro (by decide +kernel) rfl
theorem d_method_3_24 : D method_3_code 24 (.i2c) 1 25 := And.intro (by decide +kernel) rfl
theorem d_method_3_25 : D method_3_code 25 (.istore 4) 2 27 := And.intro (by decide +kernel) rfl
theorem d_method_3_27 : D method_3_code 27 (.lload_n 0) 1 28 := And.intro (by decide +kernel) rfl
theorem d_method_3_28 : D method_3_code 28 (.bipush 16) 2 30 := And.intro (by decide +kernel) rfl
theorem d_method_3_30 : D method_3_code 30 (.lushr) 1 31 := And.intro (by decide +kernel) rfl
theorem d_method_3_31 : D method_3_code 31 (.ldc2_w 13) 3 34 := And.intro (by decide +kernel) rfl
theorem d_method_3_34 : D method_3_code 34 (.land) 1 35 := And.intro (by decide +kernel) rfl
theorem d_method_3_35 : D method_3_code 35 (.l2i) 1 36 := And.intro (by decide +kernel) rfl
theorem d_method_3_36 : D method_3_code 36 (.i2c) 1 37 := And.intro (by decide +kernel) rfl
theorem d_method_3_37 : D method_3_code 37 (.istore 5) 2 39 := And.intro (by decide +kernel) rfl
theorem d_method_3_39 : D method_3_code 39 (.iload_n 2) 1 40 := And.intro (by decide +kernel) rfl
theorem d_method_3_40 : D method_3_code 40 (.ifCond .ne 18) 3 43 := And.intro (by decide +kernel) rfl
theorem d_method_3_58 : D method_3_code 58 (.iload_n 2) 1 59 := And.intro (by decide +kernel) rfl
theorem d_method_3_59 : D method_3_code 59 (.iconst 1) 1 60 := And.intro (by decide +kernel) rfl
theorem d_method_3_60 : D method_3_code 60 (.if_icmp .ne 23) 3 63 := And.intro (by decide +kernel) rfl
theorem d_method_3_83 : D method_3_code 83 (.new 8) 3 86 := And.intro (by decide +kernel) rfl
theorem d_method_3_86 : D method_3_code 86 (.dup) 1 87 := And.intro (by decide +kernel) rfl
theorem d_method_3_87 : D method_3_code 87 (.iconst 3) 1 88 := And.intro (by decide +kernel) rfl
theorem d_method_3_88 : D method_3_code 88 (.newarray .char) 2 90 := And.intro (by decide +kernel) rfl
theorem d_method_3_90 : D method_3_code 90 (.dup) 1 91 := And.intro (by decide +kernel) rfl
theorem d_method_3_91 : D method_3_code 91 (.iconst 0) 1 92 := And.intro (by decide +kernel) rfl
theorem d_method_3_92 : D method_3_code 92 (.iload_n 3) 1 93 := And.intro (by decide +kernel) rfl
theorem d_method_3_93 : D method_3_code 93 (.castore) 1 94 := And.intro (by decide +kernel) rfl
theorem d_method_3_94 : D method_3_code 94 (.dup) 1 95 := And.intro (by decide +kernel) rfl
theorem d_method_3_95 : D method_3_code 95 (.iconst 1) 1 96 := And.intro (by decide +kernel) rfl
theorem d_method_3_96 : D method_3_code 96 (.iload 4) 2 98 := And.intro (by decide +kernel) rfl
theorem d_method_3_98 : D method_3_code 98 (.castore) 1 99 := And.intro (by decide +kernel) rfl
theorem d_method_3_99 : D method_3_code 99 (.dup) 1 100 := And.intro (by decide +kernel) rfl
theorem d_method_3_100 : D method_3_code 100 (.iconst 2) 1 101 := And.intro (by decide +kernel) rfl
theorem d_method_3_101 : D method_3_code 101 (.iload 5) 2 103 := And.intro (by decide +kernel) rfl
theorem d_method_3_103 : D method_3_code 103 (.castore) 1 104 := And.intro (by decide +kernel) rfl
theorem d_method_3_104 : D method_3_code 104 (.invokespecial 17) 3 107 := And.intro (by decide +kernel) rfl
theorem pd22 : parseMethodDescriptor "([C)V" = some ⟨[(.array .char)], none⟩ := by decide +kernel
theorem d_method_3_107 : D method_3_code 107 (.areturn) 1 108 := And.intro (by decide +kernel) rfl
theorem d_method_3_63 : D method_3_code 63 (.new 8) 3 66 := And.intro (by decide +kernel) rfl
theorem d_method_3_66 : D method_3_code 66 (.dup) 1 67 := And.intro (by decide +kernel) rfl
theorem d_method_3_67 : D method_3_code 67 (.iconst 2) 1 68 := And.intro (by decide +kernel) rfl
theorem d_method_3_68 : D method_3_code 68 (.newarray .char) 2 70 := And.intro (by decide +kernel) rfl
theorem d_method_3_70 : D method_3_code 70 (.dup) 1 71 := And.intro (by decide +kernel) rfl
theorem d_method_3_71 : D method_3_code 71 (.iconst 0) 1 72 := And.intro (by decide +kernel) rfl
theorem d_method_3_72 : D method_3_code 72 (.iload_n 3) 1 73 := And.intro (by decide +kernel) rfl
theorem d_method_3_73 : D method_3_code 73 (.castore) 1 74 := And.intro (by decide +kernel) rfl
theorem d_method_3_74 : D method_3_code 74 (.dup) 1 75 := And.intro (by decide +kernel) rfl
theorem d_method_3_75 : D method_3_code 75 (.iconst 1) 1 76 := And.intro (by decide +kernel) rfl
theorem d_method_3_76 : D method_3_code 76 (.iload 4) 2 78 := And.intro (by decide +kernel) rfl
theorem d_method_3_78 : D method_3_code 78 (.castore) 1 79 := And.intro (by decide +kernel) rfl
theorem d_method_3_79 : D method_3_code 79 (.invokespecial 17) 3 82 := And.intro (by decide +kernel) rfl
theorem d_method_3_82 : D method_3_code 82 (.areturn) 1 83 := And.intro (by decide +kernel) rfl
theorem d_method_3_43 : D method_3_code 43 (.new 8) 3 46 := And.intro (by decide +kernel) rfl
theorem d_method_3_46 : D method_3_code 46 (.dup) 1 47 := And.intro (by decide +kernel) rfl
theorem d_method_3_47 : D method_3_code 47 (.iconst 1) 1 48 := And.intro (by decide +kernel) rfl
theorem d_method_3_48 : D method_3_code 48 (.newarray .char) 2 50 := And.intro (by decide +kernel) rfl
theorem d_method_3_50 : D method_3_code 50 (.dup) 1 51 := And.intro (by decide +kernel) rfl
theorem d_method_3_51 : D method_3_code 51 (.iconst 0) 1 52 := And.intro (by decide +kernel) rfl
theorem d_method_3_52 : D method_3_code 52 (.iload_n 3) 1 53 := And.intro (by decide +kernel) rfl
theorem d_method_3_53 : D method_3_code 53 (.castore) 1 54 := And.intro (by decide +kernel) rfl
theorem d_method_3_54 : D method_3_code 54 (.invokespecial 17) 3 57 := And.intro (by decide +kernel) rfl
theorem d_method_3_57 : D method_3_code 57 (.areturn) 1 58 := And.intro (by decide +kernel) rfl
theorem d_code_0 : D code 0 (.iload 6) 2 2 := And.intro at_0 rfl
theorem d_code_2 : D code 2 (.iconst 1) 1 3 := And.intro at_2 rfl
theorem d_code_3 : D code 3 (.iand) 1 4 := And.intro at_3 rfl
theorem d_code_4 : D code 4 (.ifCond .eq 7) 3 7 := And.intro at_4 rfl
theorem d_code_11 : D code 11 (.iconst 0) 1 12 := And.intro at_11 rfl
theorem d_code_7 : D code 7 (.iconst 1) 1 8 := And.intro at_7 rfl
theorem d_code_8 : D code 8 (.goto 4) 3 11 := And.intro at_8 rfl
theorem d_code_12 : D code 12 (.istore 7) 2 14 := And.intro at_12 rfl
theorem d_code_14 : D code 14 (.iload 6) 2 16 := And.intro at_14 rfl
theorem d_code_16 : D code 16 (.iconst 1) 1 17 := And.intro at_16 rfl
theorem d_code_17 : D code 17 (.iushr) 1 18 := And.intro at_17 rfl
theorem d_code_18 : D code 18 (.iconst 3) 1 19 := And.intro at_18 rfl
theorem d_code_19 : D code 19 (.iand) 1 20 := And.intro at_19 rfl
theorem d_code_20 : D code 20 (.iconst 3) 1 21 := And.intro at_20 rfl
theorem d_code_21 : D code 21 (.irem) 1 22 := And.intro at_21 rfl
theorem d_code_22 : D code 22 (.istore 8) 2 24 := And.intro at_22 rfl
theorem d_code_24 : D code 24 (.iload 6) 2 26 := And.intro at_24 rfl
theorem d_code_26 : D code 26 (.iconst 3) 1 27 := And.intro at_26 rfl
theorem d_code_27 : D code 27 (.iushr) 1 28 := And.intro at_27 rfl
theorem d_code_28 : D code 28 (.iconst 3) 1 29 := And.intro at_28 rfl
theorem d_code_29 : D code 29 (.iand) 1 30 := And.intro at_29 rfl
theorem d_code_30 : D code 30 (.iconst 3) 1 31 := And.intro at_30 rfl
theorem d_code_31 : D code 31 (.irem) 1 32 := And.intro at_31 rfl
theorem d_code_32 : D code 32 (.istore 9) 2 34 := And.intro at_32 rfl
theorem d_code_34 : D code 34 (.iload 6) 2 36 := And.intro at_34 rfl
theorem d_code_36 : D code 36 (.iconst 5) 1 37 := And.intro at_36 rfl
theorem d_code_37 : D code 37 (.iushr) 1 38 := And.intro at_37 rfl
theorem d_code_38 : D code 38 (.iconst 3) 1 39 := And.intro at_38 rfl
theorem d_code_39 : D code 39 (.iand) 1 40 := And.intro at_39 rfl
theorem d_code_40 : D code 40 (.iconst 3) 1 41 := And.intro at_40 rfl
theorem d_code_41 : D code 41 (.irem) 1 42 := And.intro at_41 rfl
theorem d_code_42 : D code 42 (.istore 10) 2 44 := And.intro at_42 rfl
theorem d_code_44 : D code 44 (.lload_n 0) 1 45 := And.intro at_44 rfl
theorem d_code_45 : D code 45 (.iload 8) 2 47 := And.intro at_45 rfl
theorem d_code_47 : D code 47 (.invokestatic 20) 3 50 := And.intro at_47 rfl
theorem pd23 : parseMethodDescriptor "(JI)Ljava/lang/String;" = some ⟨[.long, .int], some (.object "java/lang/String")⟩ := by decide +kernel
theorem d_code_50 : D code 50 (.astore 11) 2 52 := And.intro at_50 rfl
theorem d_code_52 : D code 52 (.iload 7) 2 54 := And.intro at_52 rfl
theorem d_code_54 : D code 54 (.ifCond .eq 12) 3 57 := And.intro at_54 rfl
theorem d_code_66 : D code 66 (.lload_n 2) 1 67 := And.intro at_66 rfl
theorem d_code_67 : D code 67 (.iload 10) 2 69 := And.intro at_67 rfl
theorem d_code_69 : D code 69 (.invokestatic 20) 3 72 := And.intro at_69 rfl
theorem d_code_72 : D code 72 (.astore 12) 2 74 := And.intro at_72 rfl
theorem d_code_74 : D code 74 (.iload 4) 2 76 := And.intro at_74 rfl
theorem d_code_76 : D code 76 (.invokestatic 26) 3 79 := And.intro at_76 rfl
theorem pd24 : parseMethodDescriptor "(I)Ljava/lang/String;" = some ⟨[.int], some (.object "java/lang/String")⟩ := by decide +kernel
theorem d_code_79 : D code 79 (.astore 13) 2 81 := And.intro at_79 rfl
theorem d_code_81 : D code 81 (.iload 4) 2 83 := And.intro at_81 rfl
theorem d_code_83 : D code 83 (.bipush 8) 2 85 := And.intro at_83 rfl
theorem d_code_85 : D code 85 (.iushr) 1 86 := And.intro at_85 rfl
theorem d_code_86 : D code 86 (.invokestatic 26) 3 89 := And.intro at_86 rfl
theorem d_code_89 : D code 89 (.astore 14) 2 91 := And.intro at_89 rfl
theorem d_code_91 : D code 91 (.iload 4) 2 93 := And.intro at_91 rfl
theorem d_code_93 : D code 93 (.bipush 16) 2 95 := And.intro at_93 rfl
theorem d_code_95 : D code 95 (.iushr) 1 96 := And.intro at_95 rfl
theorem d_code_96 : D code 96 (.invokestatic 26) 3 99 := And.intro at_96 rfl
theorem d_code_99 : D code 99 (.astore 15) 2 101 := And.intro at_99 rfl
theorem d_code_101 : D code 101 (.iload 5) 2 103 := And.intro at_101 rfl
theorem d_code_103 : D code 103 (.i2b) 1 104 := And.intro at_103 rfl
theorem d_code_104 : D code 104 (.istore 16) 2 106 := And.intro at_104 rfl
theorem d_code_106 : D code 106 (.iload 5) 2 108 := And.intro at_106 rfl
theorem d_code_108 : D code 108 (.bipush 8) 2 110 := And.intro at_108 rfl
theorem d_code_110 : D code 110 (.iushr) 1 111 := And.intro at_110 rfl
theorem d_code_111 : D code 111 (.i2b) 1 112 := And.intro at_111 rfl
theorem d_code_112 : D code 112 (.istore 17) 2 114 := And.intro at_112 rfl
theorem d_code_114 : D code 114 (.iload 9) 2 116 := And.intro at_114 rfl
theorem d_code_116 : D code 116 (.ifCond .ne 11) 3 119 := And.intro at_116 rfl
theorem d_code_119 : D code 119 (.iconst 0) 1 120 := And.intro at_119 rfl
theorem d_code_120 : D code 120 (.newarray .byte) 2 122 := And.intro at_120 rfl
theorem d_code_122 : D code 122 (.astore 18) 2 124 := And.intro at_122 rfl
theorem d_code_124 : D code 124 (.goto 37) 3 127 := And.intro at_124 rfl
theorem d_code_161 : D code 161 (.new 30) 3 164 := And.intro at_161 rfl
theorem d_code_164 : D code 164 (.dup) 1 165 := And.intro at_164 rfl
theorem d_code_165 : D code 165 (.aload 13) 2 167 := And.intro at_165 rfl
theorem d_code_167 : D code 167 (.aload 14) 2 169 := And.intro at_167 rfl
theorem d_code_169 : D code 169 (.aload 15) 2 171 := And.intro at_169 rfl
theorem d_code_171 : D code 171 (.aload 18) 2 173 := And.intro at_171 rfl
theorem d_code_173 : D code 173 (.invokespecial 32) 3 176 := And.intro at_173 rfl
theorem pd25 : parseMethodDescriptor "(Ljava/lang/String;Ljava/lang/String;Ljava/lang/String;[B)V" = some ⟨[(.object "java/lang/String"), (.object "java/lang/String"), (.object "java/lang/String"), (.array .byte)], none⟩ := by decide +kernel
theorem d_code_176 : D code 176 (.astore 19) 2 178 := And.intro at_176 rfl
theorem d_code_178 : D code 178 (.aload 19) 2 180 := And.intro at_178 rfl
theorem d_code_180 : D code 180 (.aload 11) 2 182 := And.intro at_180 rfl
theorem d_code_182 : D code 182 (.invokevirtual 35) 3 185 := And.intro at_182 rfl
theorem pd26 : parseMethodDescriptor "(Ljava/lang/String;)Lcom/example/kourier/kourier/outbox/OutboxEvent;" = some ⟨[(.object "java/lang/String")], some (.object "com/example/kourier/kourier/outbox/OutboxEvent")⟩ := by decide +kernel
theorem d_code_185 : D code 185 (.astore 20) 2 187 := And.intro at_185 rfl
theorem d_code_187 : D code 187 (.aload 19) 2 189 := And.intro at_187 rfl
theorem d_code_189 : D code 189 (.aload 12) 2 191 := And.intro at_189 rfl
theorem d_code_191 : D code 191 (.invokevirtual 35) 3 194 := And.intro at_191 rfl
theorem d_code_194 : D code 194 (.astore 21) 2 196 := And.intro at_194 rfl
theorem d_code_196 : D code 196 (.aload 20) 2 198 := And.intro at_196 rfl
theorem d_code_198 : D code 198 (.aload 12) 2 200 := And.intro at_198 rfl
theorem d_code_200 : D code 200 (.invokevirtual 35) 3 203 := And.intro at_200 rfl
theorem d_code_203 : D code 203 (.astore 22) 2 205 := And.intro at_203 rfl
theorem d_code_205 : D code 205 (.aload 20) 2 207 := And.intro at_205 rfl
theorem d_code_207 : D code 207 (.aload 19) 2 209 := And.intro at_207 rfl
theorem d_code_209 : D code 209 (.invokevirtual 39) 3 212 := And.intro at_209 rfl
theorem d_code_212 : D code 212 (.ifCond .eq 5) 3 215 := And.intro at_212 rfl
theorem d_code_217 : D code 217 (.aload 13) 2 219 := And.intro at_217 rfl
theorem d_code_219 : D code 219 (.aload 20) 2 221 := And.intro at_219 rfl
theorem d_code_221 : D code 221 (.invokevirtual 43) 3 224 := And.intro at_221 rfl
theorem pd27 : parseMethodDescriptor "()Ljava/lang/String;" = some ⟨[], some (.object "java/lang/String")⟩ := by decide +kernel
theorem d_code_224 : D code 224 (.invokevirtual 47) 3 227 := And.intro at_224 rfl
theorem d_code_227 : D code 227 (.ifCond .ne 5) 3 230 := And.intro at_227 rfl
theorem d_code_232 : D code 232 (.aload 14) 2 234 := And.intro at_232 rfl
theorem d_code_234 : D code 234 (.aload 20) 2 236 := And.intro at_234 rfl
theorem d_code_236 : D code 236 (.invokevirtual 48) 3 239 := And.intro at_236 rfl
theorem d_code_239 : D code 239 (.invokevirtual 47) 3 242 := And.intro at_239 rfl
theorem d_code_242 : D code 242 (.ifCond .ne 5) 3 245 := And.intro at_242 rfl
theorem d_code_247 : D code 247 (.aload 15) 2 249 := And.intro at_247 rfl
theorem d_code_249 : D code 249 (.aload 20) 2 251 := And.intro at_249 rfl
theorem d_code_251 : D code 251 (.invokevirtual 51) 3 254 := And.intro at_251 rfl
theorem d_code_254 : D code 254 (.invokevirtual 47) 3 257 := And.intro at_254 rfl
theorem d_code_257 : D code 257 (.ifCond .ne 5) 3 260 := And.intro at_257 rfl
theorem d_code_262 : D code 262 (.aload 20) 2 264 := And.intro at_262 rfl
theorem d_code_264 : D code 264 (.invokevirtual 54) 3 267 := And.intro at_264 rfl
theorem pd28 : parseMethodDescriptor "()[B" = some ⟨[], some (.array .byte)⟩ := by decide +kernel
theorem d_code_267 : D code 267 (.astore 23) 2 269 := And.intro at_267 rfl
theorem d_code_269 : D code 269 (.aload 23) 2 271 := And.intro at_269 rfl
theorem d_code_271 : D code 271 (.arraylength) 1 272 := And.intro at_271 rfl
theorem d_code_272 : D code 272 (.iload 9) 2 274 := And.intro at_272 rfl
theorem d_code_274 : D code 274 (.if_icmp .eq 5) 3 277 := And.intro at_274 rfl
theorem d_code_279 : D code 279 (.iload 9) 2 281 := And.intro at_279 rfl
theorem d_code_281 : D code 281 (.iconst 1) 1 282 := And.intro at_281 rfl
theorem d_code_282 : D code 282 (.if_icmp .lt 14) 3 285 := And.intro at_282 rfl
theorem d_code_296 : D code 296 (.iload 9) 2 298 := And.intro at_296 rfl
theorem d_code_298 : D code 298 (.iconst 2) 1 299 := And.intro at_298 rfl
theorem d_code_299 : D code 299 (.if_icmp .ne 14) 3 302 := And.intro at_299 rfl
theorem d_code_313 : D code 313 (.aload 20) 2 315 := And.intro at_313 rfl
theorem d_code_315 : D code 315 (.aload 21) 2 317 := And.intro at_315 rfl
theorem d_code_317 : D code 317 (.invokevirtual 39) 3 320 := And.intro at_317 rfl
theorem d_code_320 : D code 320 (.aload 11) 2 322 := And.intro at_320 rfl
theorem d_code_322 : D code 322 (.aload 12) 2 324 := And.intro at_322 rfl
theorem d_code_324 : D code 324 (.invokevirtual 47) 3 327 := And.intro at_324 rfl
theorem d_code_327 : D code 327 (.if_icmp .eq 5) 3 330 := And.intro at_327 rfl
theorem d_code_332 : D code 332 (.aload 22) 2 334 := And.intro at_332 rfl
theorem d_code_334 : D code 334 (.aload 21) 2 336 := And.intro at_334 rfl
theorem d_code_336 : D code 336 (.invokevirtual 39) 3 339 := And.intro at_336 rfl
theorem d_code_339 : D code 339 (.ireturn) 1 340 := And.intro at_339 rfl
theorem d_code_127 : D code 127 (.iload 9) 2 129 := And.intro at_127 rfl
theorem d_code_129 : D code 129 (.iconst 1) 1 130 := And.intro at_129 rfl
theorem d_code_130 : D code 130 (.if_icmp .ne 16) 3 133 := And.intro at_130 rfl
theorem d_code_133 : D code 133 (.iconst 1) 1 134 := And.intro at_133 rfl
theorem d_code_134 : D code 134 (.newarray .byte) 2 136 := And.intro at_134 rfl
theorem d_code_136 : D code 136 (.dup) 1 137 := And.intro at_136 rfl
theorem d_code_137 : D code 137 (.iconst 0) 1 138 := And.intro at_137 rfl
theorem d_code_138 : D code 138 (.iload 16) 2 140 := And.intro at_138 rfl
theorem d_code_140 : D code 140 (.bastore) 1 141 := And.intro at_140 rfl
theorem d_code_141 : D code 141 (.astore 18) 2 143 := And.intro at_141 rfl
theorem d_code_143 : D code 143 (.goto 18) 3 146 := And.intro at_143 rfl
theorem d_code_285 : D code 285 (.aload 23) 2 287 := And.intro at_285 rfl
theorem d_code_287 : D code 287 (.iconst 0) 1 288 := And.intro at_287 rfl
theorem d_code_288 : D code 288 (.baload) 1 289 := And.intro at_288 rfl
theorem d_code_289 : D code 289 (.iload 16) 2 291 := And.intro at_289 rfl
theorem d_code_291 : D code 291 (.if_icmp .eq 5) 3 294 := And.intro at_291 rfl
theorem d_code_146 : D code 146 (.iconst 2) 1 147 := And.intro at_146 rfl
theorem d_code_147 : D code 147 (.newarray .byte) 2 149 := And.intro at_147 rfl
theorem d_code_149 : D code 149 (.dup) 1 150 := And.intro at_149 rfl
theorem d_code_150 : D code 150 (.iconst 0) 1 151 := And.intro at_150 rfl
theorem d_code_151 : D code 151 (.iload 16) 2 153 := And.intro at_151 rfl
theorem d_code_153 : D code 153 (.bastore) 1 154 := And.intro at_153 rfl
theorem d_code_154 : D code 154 (.dup) 1 155 := And.intro at_154 rfl
theorem d_code_155 : D code 155 (.iconst 1) 1 156 := And.intro at_155 rfl
theorem d_code_156 : D code 156 (.iload 17) 2 158 := And.intro at_156 rfl
theorem d_code_158 : D code 158 (.bastore) 1 159 := And.intro at_158 rfl
theorem d_code_159 : D code 159 (.astore 18) 2 161 := And.intro at_159 rfl
theorem d_code_302 : D code 302 (.aload 23) 2 304 := And.intro at_302 rfl
theorem d_code_304 : D code 304 (.iconst 1) 1 305 := And.intro at_304 rfl
theorem d_code_305 : D code 305 (.baload) 1 306 := And.intro at_305 rfl
theorem d_code_306 : D code 306 (.iload 17) 2 308 := And.intro at_306 rfl
theorem d_code_308 : D code 308 (.if_icmp .eq 5) 3 311 := And.intro at_308 rfl
theorem d_code_57 : D code 57 (.lload_n 0) 1 58 := And.intro at_57 rfl
theorem d_code_58 : D code 58 (.iload 8) 2 60 := And.intro at_58 rfl
theorem d_code_60 : D code 60 (.invokestatic 20) 3 63 := And.intro at_60 rfl
theorem d_code_63 : D code 63 (.goto 9) 3 66 := And.intro at_63 rfl
theorem own_EW {Z : State} {a0 : Array Value} (hw : ∀ d ∈ tables_1, d.before a0 Z = true) : EW Z a0 own_EL := EW.nil
theorem wS {Z : State} {a0 : Array Value} (hw : ∀ d ∈ tables_1, d.before a0 Z = true) : ∀ a ∈ Bundle.stringAtoms, a.before a0 Z = true := fun a ha => hw a ((by decide +kernel : ∀ a ∈ Bundle.stringAtoms, a ∈ tables_1) a ha)
set_option maxRecDepth 65536 in
set_option maxHeartbeats 40000000 in
theorem ct_cmp5 (l : Launch) (Z : State) (a0 : Array Value) (hw : ∀ d ∈ tables_1, d.before a0 Z = true) (n0 : Nat) (h0 : Heap) (a b : Addr) (cs : List Int32) (vs : List Value) (A0 : Av Z h0 a .char (cs.map Value.int)) (B0 : Av Z h0 b .byte vs) (hlen : vs.length = cs.length) (hR : ∀ c ∈ cs, Rg c 256) : Ct l Z a0 own_EL false (⟨"java/lang/StringUTF16", "compress", "([CI[BII)I"⟩ : MethodName) jdk_52_method_21_code 7 (Option.some Jvm.ClassFile.FieldType.int) ({ frames := 0, cells := 0, slots := 0, locals := 0 } : Room) #[(.ref a), (.int (0 : Int32)), (.ref b), (.int (0 : Int32)), (.int (Int32.ofNat cs.length))] h0 [b] n0 (fun v h so => v = some (.int (Int32.ofNat cs.length)) ∧ Keep h0 h [b] ∧ Av Z h b .byte ((cs.map i2b).map Value.int)) := by
  refine Ct.body (plainFor_of_name pn0) ?_
  intro p e s m below meth c T W
  refine WP.cast (g' := (mkF m 0 #[.val (.ref a), .val (.int (0 : Int32)), .val (.ref b), .val (.int (0 : Int32)), .val (.int (Int32.ofNat cs.length)), .unset, .unset] [])) (by simp [entryFrame, mkF, argsToLocals, cat_i, cat_l, cat_r, cat_n]) ?_
  have hN : cs.length < 2147483648 := by have := A0.len; simpa using this
  have hab : a ≠ b := ne_av A0 B0 (by decide)
  refine k_iconst W d_jdk_52_21_0 (z := (0 : Int32)) rfl ?_
  refine k_istore W d_jdk_52_21_1 (L' := #[.val (.ref a), .val (.int (0 : Int32)), .val (.ref b), .val (.int (0 : Int32)), .val (.int (Int32.ofNat cs.length)), .val (.int (0 : Int32)), .unset]) rfl ?_
  have loop : ∀ (k i : Nat) (T : State) (h : Heap) (s6 : Slot), i + k = cs.length → (s6 = .unset ∨ ∃ w, s6 = .val w ∧ w.category = 1) → WS p l e ({ frames := 0, cells := 0, slots := 0, locals := 0 } : Room) s m #[(.ref a), (.int (0 : Int32)), (.ref b), (.int (0 : Int32)), (.int (Int32.ofNat cs.length))] below meth c Z a0 own_EL false n0 (⟨"java/lang/StringUTF16", "compress", "([CI[BII)I"⟩ : MethodName) jdk_52_method_21_code 7 (Option.some Jvm.ClassFile.FieldType.int) T h [b] 0 0 → Keep h0 h [b] → Av Z h b .byte (((cs.take i).map i2b).map Value.int ++ vs.drop i) → WP p e below (Fne s n0 Z own_EL false ({ frames := 0, cells := 0, slots := 0, locals := 0 } : Room) (fun v h so => v = some (.int (Int32.ofNat cs.length)) ∧ Keep h0 h [b] ∧ Av Z h b .byte ((cs.map i2b).map Value.int))) T (mkF m 3 #[.val (.ref a), .val (.int (Int32.ofNat i)), .val (.ref b), .val (.int (Int32.ofNat i)), .val (.int (Int32.ofNat cs.length)), .val (.int (Int32.ofNat i)), s6] []) := by
    intro k
    induction k with
    | zero =>
      intro i T h s6 hi h6 W KB AB
      obtain rfl : i = cs.length := by omega
      refine k_iload W d_jdk_52_21_3 rfl ?_
      refine k_iload W d_jdk_52_21_5 rfl ?_
      refine k_icY W 44 d_jdk_52_21_7 (by decide) (show ¬ (Int32.ofNat cs.length) < (Int32.ofNat cs.length) from (of_ge (Nat.le_refl _) hN)) ?_
      refine k_iload W d_jdk_52_21_44 rfl ?_
      exact k_ireturn W d_jdk_52_21_46 rfl [] (fun x hx => nomatch hx) (Nat.le_of_ble_eq_true rfl) (Nat.le_of_ble_eq_true rfl) ⟨rfl, KB, by rw [List.take_length, List.drop_eq_nil_of_le (by omega), List.append_nil] at AB; exact AB⟩
    | succ k ih =>
      intro i T h s6 hi h6 W KB AB
      have hlt : i < cs.length := by omega
      obtain ⟨ci, hci⟩ : ∃ c, cs[i]? = some c := ⟨_, List.getElem?_eq_getElem hlt⟩
      have hRi : Rg ci 256 := hR _ (List.mem_of_getElem? hci)
      refine k_iload W d_jdk_52_21_3 rfl ?_
      refine k_iload W d_jdk_52_21_5 rfl ?_
      refine k_icN W d_jdk_52_21_7 (show ¬ (¬ (Int32.ofNat i) < (Int32.ofNat cs.length)) from (fun q => q (of_lt hlt hN))) ?_
      refine k_aloadN W d_jdk_52_21_10 rfl rfl ?_
      refine k_iloadN W d_jdk_52_21_11 rfl ?_
      refine k_caload W (v := (.int ci)) i d_jdk_52_21_12 (A0.keep KB (nin1 hab)) (ix_of (by omega)) (by simp [hci]) ?_
      refine k_istore W d_jdk_52_21_13 (L' := #[.val (.ref a), .val (.int (Int32.ofNat i)), .val (.ref b), .val (.int (Int32.ofNat i)), .val (.int (Int32.ofNat cs.length)), .val (.int (Int32.ofNat i)), .val (.int ci)]) (XS.store1 rfl h6 rfl) ?_
      refine k_iload W d_jdk_52_21_15 rfl ?_
      refine k_sipush W d_jdk_52_21_17 (z := (255 : Int32)) rfl ?_
      refine k_icY W 26 d_jdk_52_21_20 (by decide) (show ¬ (255 : Int32) < ci from (Rg.le255 hRi)) ?_
      refine k_aloadN W d_jdk_52_21_26 rfl rfl ?_
      refine k_iloadN W d_jdk_52_21_27 rfl ?_
      refine k_iload W d_jdk_52_21_28 rfl ?_
      refine k_i2b W d_jdk_52_21_30 (z := (i2b ci)) rfl ?_
      refine k_bastore W (z := (i2b ci)) i d_jdk_52_21_31 (List.mem_of_getElem? (i := 0) rfl) AB (ix_of (by omega)) (by simp; omega) (nar_i2b _) (fits_i2b _) fun T h1 W Wr1 A1 => ?_
      have K1 : Keep h h1 [b] := Keep.of_wr Wr1
      refine k_iinc W d_jdk_52_21_32 rfl (z := (Int32.ofNat (i + 1))) (of_succ i) (L' := #[.val (.ref a), .val (.int (Int32.ofNat (i + 1))), .val (.ref b), .val (.int (Int32.ofNat i)), .val (.int (Int32.ofNat cs.length)), .val (.int (Int32.ofNat i)), .val (.int ci)]) rfl ?_
      refine k_iinc W d_jdk_52_21_35 rfl (z := (Int32.ofNat (i + 1))) (of_succ i) (L' := #[.val (.ref a), .val (.int (Int32.ofNat (i + 1))), .val (.ref b), .val (.int (Int32.ofNat (i + 1))), .val (.int (Int32.ofNat cs.length)), .val (.int (Int32.ofNat i)), .val (.int ci)]) rfl ?_
      refine k_iinc W d_jdk_52_21_38 rfl (z := (Int32.ofNat (i + 1))) (of_succ i) (L' := #[.val (.ref a), .val (.int (Int32.ofNat (i + 1))), .val (.ref b), .val (.int (Int32.ofNat (i + 1))), .val (.int (Int32.ofNat cs.length)), .val (.int (Int32.ofNat (i + 1))), .val (.int ci)]) rfl ?_
      refine k_goto W 3 d_jdk_52_21_41 (by decide) ?_
      refine ih (i + 1) T h1 _ (by omega) (Or.inr ⟨_, rfl, rfl⟩) W (KB.trans K1 (fun x hx => Or.inl hx)) ?_
      have hh := A1
      rw [cmp_step hci hlen] at hh; exact hh
  exact loop cs.length 0 T h0 .unset (by omega) (Or.inl rfl) W (Keep.refl _ _) (by simpa using B0)
set_option maxRecDepth 65536 in
set_option maxHeartbeats 40000000 in
theorem ct_cmp3 (l : Launch) (Z : State) (a0 : Array Value) (hw : ∀ d ∈ tables_1, d.before a0 Z = true) (n0 : Nat) (h0 : Heap) (a : Addr) (cs : List Int32) (N : Nat) (A0 : Av Z h0 a .char (cs.map Value.int)) (hR : ∀ c ∈ cs, Rg c 256) (hN : cs.length ≤ N) (hN2 : N ≤ 67108864) : Ct l Z a0 own_EL false (⟨"java/lang/StringUTF16", "compress", "([CII)[B"⟩ : MethodName) jdk_52_method_16_code 6 (Option.some (Jvm.ClassFile.FieldType.array Jvm.ClassFile.FieldType.byte)) ({ frames := 1, cells := 1, slots := N, locals := 18 } : Room) #[(.ref a), (.int (0 : Int32)), (.int (Int32.ofNat cs.length))] h0 [] n0 (fun v h so => ∃ b, v = some (.ref b) ∧ h0.size ≤ b ∧ Keep h0 h [] ∧ Av Z h b .byte ((cs.map i2b).map Value.int)) := by
  refine Ct.body (plainFor_of_name pn0) ?_
  intro p e s m below meth c T W
  refine WP.cast (g' := (mkF m 0 #[.val (.ref a), .val (.int (0 : Int32)), .val (.int (Int32.ofNat cs.length)), .unset, .unset, .unset] [])) (by simp [entryFrame, mkF, argsToLocals, cat_i, cat_l, cat_r, cat_n]) ?_
  refine k_iloadN W d_jdk_52_16_0 rfl ?_
  refine k_newarrE W cs.length 1 (0 + cs.length) "[B" (by decide) d_jdk_52_16_1 (w25 hw) (ix_of (by omega)) (by omega) ⟨rfl, Nat.le_of_ble_eq_true rfl⟩ ⟨rfl, (by show 0 + cs.length ≤ N; omega)⟩ fun T h2 a3 g3 W E3 A3 X3 => ?_
  have K3 : Keep h0 h2 [] := keep_ext E3 []
  have A3 : Av Z h2 a3 .byte (List.replicate cs.length (defaultValue .byte)) := A3
  refine k_astoreN W d_jdk_52_16_3 rfl (L' := #[.val (.ref a), .val (.int (0 : Int32)), .val (.int (Int32.ofNat cs.length)), .val (.ref a3), .unset, .unset]) rfl ?_
  refine k_aloadN W d_jdk_52_16_4 rfl rfl ?_
  refine k_iloadN W d_jdk_52_16_5 rfl ?_
  refine k_aloadN W d_jdk_52_16_6 rfl rfl ?_
  refine k_iconst W d_jdk_52_16_7 (z := (0 : Int32)) rfl ?_
  refine k_iloadN W d_jdk_52_16_8 rfl ?_
  have f4 := (A0.keep K3 nin0)
  refine k_callS W 0 1 ((0 + cs.length) + 0) (argsL := [(.ref a), (.int (0 : Int32)), (.ref a3), (.int (0 : Int32)), (.int (Int32.ofNat cs.length))]) (rest := []) d_jdk_52_16_9 (w26 hw) (w27 hw) (by decide) (lenOf pd0 rfl) (ct_cmp5 l Z a0 hw n0 h2 a a3 cs (List.replicate cs.length (defaultValue .byte)) f4 A3 (by simp) hR) (w28 hw) (w23 hw) (fun x hx => hx) rfl (Nat.le_of_eq rfl) (Nat.le_of_ble_eq_true rfl) (Nat.le_of_ble_eq_true rfl) ⟨rfl, Nat.le_of_ble_eq_true rfl⟩ ⟨rfl, (by show 0 + cs.length ≤ N; omega)⟩ rfl (fun _ _ q => nomatch q.1) fun T h5 v so W hQ => ?_
  obtain ⟨hv, K5, B5⟩ := hQ
  obtain rfl := Option.some.inj hv
  refine k_istore W d_jdk_52_16_12 (L' := #[.val (.ref a), .val (.int (0 : Int32)), .val (.int (Int32.ofNat cs.length)), .val (.ref a3), .val (.int (Int32.ofNat cs.length)), .unset]) rfl ?_
  refine k_iload W d_jdk_52_16_14 rfl ?_
  refine k_iloadN W d_jdk_52_16_16 rfl ?_
  refine k_icY W 57 d_jdk_52_16_17 (by decide) (show (Int32.ofNat cs.length) = (Int32.ofNat cs.length) from rfl) ?_
  refine k_aloadN W d_jdk_52_16_57 rfl rfl ?_
  have KK6 : Keep h0 h2 [] := (Keep.refl h0 []).trans K3 all0
  have KK7 : Keep h0 h5 [] := KK6.trans K5 (allS (Or.inr (Nat.le_of_eq g3.symm)) all0)
  exact k_areturn W d_jdk_52_16_58 rfl rfl rfl [] (fun x hx => nomatch hx) (Nat.le_of_ble_eq_true rfl) (by show 0 + cs.length + 0 ≤ N; omega) ⟨_, rfl, (Nat.le_of_eq g3.symm), KK7, B5⟩
set_option maxRecDepth 65536 in
set_option maxHeartbeats 40000000 in
theorem ct_cfal (l : Launch) (Z : State) (a0 : Array Value) (hw : ∀ d ∈ tables_1, d.before a0 Z = true) (n0 : Nat) (h0 : Heap) (b : Addr) (vs : List Value) (B0 : Av Z h0 b .byte vs) : Ct l Z a0 own_EL false (⟨"java/lang/StringUTF16", "coderFromArrayLen", "([BI)B"⟩ : MethodName) jdk_52_method_15_code 2 (Option.some Jvm.ClassFile.FieldType.byte) ({ frames := 0, cells := 0, slots := 0, locals := 0 } : Room) #[(.ref b), (.int (Int32.ofNat vs.length))] h0 [] n0 (fun v h so => v = some (.int (0 : Int32)) ∧ h0 = h ∧ so = []) := by
  refine Ct.body (plainFor_of_name pn0) ?_
  intro p e s m below meth c T W
  refine WP.cast (g' := (mkF m 0 #[.val (.ref b), .val (.int (Int32.ofNat vs.length))] [])) (by simp [entryFrame, mkF, argsToLocals, cat_i, cat_l, cat_r, cat_n]) ?_
  refine k_iloadN W d_jdk_52_15_0 rfl ?_
  refine k_aloadN W d_jdk_52_15_1 rfl rfl ?_
  refine k_arraylength W (z := (Int32.ofNat vs.length)) d_jdk_52_15_2 B0 rfl ?_
  refine k_isub W d_jdk_52_15_3 (z := ((Int32.ofNat vs.length) - (Int32.ofNat vs.length))) rfl ?_
  refine k_bipush W d_jdk_52_15_4 (z := (31 : Int32)) rfl ?_
  obtain ⟨v8, ev8⟩ : ∃ z : Int32, z = (XT.ushr ((Int32.ofNat vs.length) - (Int32.ofNat vs.length)) (31 : Int32)) := ⟨_, rfl⟩
  refine k_iushr W d_jdk_52_15_6 ev8.symm ?_
  refine k_i2b W d_jdk_52_15_7 (z := (i2b v8)) rfl ?_
  exact k_retN W (t := .byte) (z' := (0 : Int32)) d_jdk_52_15_8 rfl (by simp) (by subst_vars; rw [Int32.sub_self]; decide) [] (fun x hx => nomatch hx) (Nat.le_of_ble_eq_true rfl) (Nat.le_of_ble_eq_true rfl) ⟨rfl, rfl, rfl⟩
set_option maxRecDepth 65536 in
set_option maxHeartbeats 40000000 in
theorem ct_sinit4 (l : Launch) (Z : State) (a0 : Array Value) (hw : ∀ d ∈ tables_1, d.before a0 Z = true) (n0 : Nat) (h0 : Heap) (x a : Addr) (cs : List Int32) (N : Nat) (zc : Int32) (v0 c0 : Value) (E0 : Exa Z h0 x "java/lang/String") (V0 : Fld Z h0 x "java/lang/String" "value" "[B" v0) (C0 : Fld Z h0 x "java/lang/String" "coder" "B" c0) (A0 : Av Z h0 a .char (cs.map Value.int)) (P0 : Sta Z h0 "java/lang/String" "COMPACT_STRINGS" "Z" (.int zc)) (hzc : zc ≠ 0) (hR : ∀ c ∈ cs, Rg c 256) (hp : 0 < cs.length) (hN : cs.length ≤ N) (hN2 : N ≤ 67108864) : Ct l Z a0 own_EL false (⟨"java/lang/String", "<init>", "([CIILjava/lang/Void;)V"⟩ : MethodName) jdk_42_method_149_code 6 (Option.none : Option Jvm.ClassFile.FieldType) ({ frames := 2, cells := 1, slots := N, locals := 35 } : Room) #[(.ref x), (.ref a), (.int (0 : Int32)), (.int (Int32.ofNat cs.length)), .null] h0 [x] n0 (fun v h so => v = none ∧ ∃ b, h0.size ≤ b ∧ Keep h0 h [x] ∧ St Z h x b (cs.map i2b)) := by
  refine Ct.body (plainFor_of_name pn1) ?_
  intro p e s m below meth c T W
  refine WP.cast (g' := (mkF m 0 #[.val (.ref x), .val (.ref a), .val (.int (0 : Int32)), .val (.int (Int32.ofNat cs.length)), .val .null, .unset] [])) (by simp [entryFrame, mkF, argsToLocals, cat_i, cat_l, cat_r, cat_n]) ?_
  have hL : cs.length < 2147483648 := by omega
  have hnz : ¬ Int32.ofNat cs.length = 0 := of_ne0 hp hL
  refine k_aloadN W d_jdk_42_149_0 rfl rfl ?_
  refine k_initO W 0 d_jdk_42_149_1 (w17 hw) (w18 hw) (w19 hw) rfl (Nat.le_of_eq rfl) (Nat.le_of_ble_eq_true rfl) (Nat.le_of_ble_eq_true rfl) fun T W => ?_
  refine k_iloadN W d_jdk_42_149_4 rfl ?_
  refine k_ifY W 27 d_jdk_42_149_5 (by decide) (show ¬ (Int32.ofNat cs.length) = 0 from hnz) ?_
  refine k_getS W d_jdk_42_149_27 (w20 hw) Via.refl P0 fun T W => ?_
  refine k_ifN W d_jdk_42_149_30 (show ¬ (zc = 0) from hzc) ?_
  refine k_aloadN W d_jdk_42_149_33 rfl rfl ?_
  refine k_iloadN W d_jdk_42_149_34 rfl ?_
  refine k_iloadN W d_jdk_42_149_35 rfl ?_
  refine k_callS W 0 1 (0 + N) (argsL := [(.ref a), (.int (0 : Int32)), (.int (Int32.ofNat cs.length))]) (rest := []) d_jdk_42_149_36 (w21 hw) (w22 hw) (by decide) (lenOf pd1 rfl) (ct_cmp3 l Z a0 hw n0 h0 a cs N A0 hR hN hN2) (w24 hw) (w23 hw) (fun x hx => nomatch hx) rfl (Nat.le_of_eq rfl) (Nat.le_of_ble_eq_true rfl) (Nat.le_of_ble_eq_true rfl) ⟨rfl, Nat.le_of_ble_eq_true rfl⟩ ⟨rfl, (by show 0 + N ≤ N; omega)⟩ rfl (fun _ _ ⟨_, q, _⟩ => nomatch q) fun T h9 v so W hQ => ?_
  obtain ⟨b9, hv, g9, K9, B9⟩ := hQ
  obtain rfl := Option.some.inj hv
  refine k_astore W d_jdk_42_149_39 rfl (L' := #[.val (.ref x), .val (.ref a), .val (.int (0 : Int32)), .val (.int (Int32.ofNat cs.length)), .val .null, .val (.ref b9)]) rfl ?_
  refine k_aloadN W d_jdk_42_149_41 rfl rfl ?_
  refine k_aload W d_jdk_42_149_42 rfl rfl ?_
  refine k_iloadN W d_jdk_42_149_44 rfl ?_
  have hvl : ((cs.map i2b).map Value.int).length = cs.length := by simp
  have hqc := ct_cfal l Z a0 hw n0 h9 b9 ((cs.map i2b).map Value.int) B9
  rw [hvl] at hqc
  refine k_callS W 1 1 ((0 + N) + 0) (argsL := [(.ref b9), (.int (Int32.ofNat cs.length))]) (rest := [(.ref x)]) d_jdk_42_149_45 (w29 hw) (w30 hw) (by decide) (lenOf pd2 rfl) hqc (w31 hw) (w23 hw) (fun x hx => nomatch hx) rfl (Nat.le_of_eq rfl) (Nat.le_of_ble_eq_true rfl) (Nat.le_of_ble_eq_true rfl) ⟨rfl, Nat.le_of_ble_eq_true rfl⟩ ⟨rfl, (by show 0 + N ≤ N; omega)⟩ rfl (fun _ _ q => nomatch q.1) fun T h10 v so W hQ => ?_
  obtain ⟨hv, rfl, -⟩ := hQ
  obtain rfl := Option.some.inj hv
  have f11 := (C0.keep K9 nin0)
  have f12 := (E0.keep K9)
  refine k_putF W d_jdk_42_149_48 (w32 hw) Via.refl (v' := (.int (0 : Int32))) (List.mem_of_getElem? (i := 0) rfl) f11 f12 (Or.inr ⟨(w33 hw), rfl, rfl⟩) (w7 hw) (ty := .byte) (by decide) (by decide) (by decide) fun T h13 W Wr13 => ?_
  have K13 : Keep h9 h13 [x] := Keep.of_wr Wr13
  refine k_aloadN W d_jdk_42_149_51 rfl rfl ?_
  refine k_aload W d_jdk_42_149_52 rfl rfl ?_
  have f14 := ((V0.keep K9 nin0).other Wr13 (Or.inr (slot_ne (Or.inr (w35 hw)) (Or.inr (w33 hw)) (by decide) (t := (.array .byte)) (t' := .byte) (by decide) (by decide))))
  have f15 := (f12.keep K13)
  refine k_putF W d_jdk_42_149_54 (w34 hw) Via.refl (v' := (.ref b9)) (List.mem_of_getElem? (i := 0) rfl) f14 f15 (Or.inr ⟨(w35 hw), rfl, rfl⟩) (w7 hw) (ty := (.array .byte)) (by decide) rfl rfl fun T h16 W Wr16 => ?_
  have K16 : Keep h13 h16 [x] := Keep.of_wr Wr16
  have KK17 : Keep h0 h9 [x] := (Keep.refl h0 [x]).trans K9 all0
  have KK18 : Keep h0 h13 [x] := KK17.trans K13 (allS (Or.inl (List.mem_of_getElem? (i := 0) rfl)) all0)
  have KK19 : Keep h0 h16 [x] := KK18.trans K16 (allS (Or.inl (List.mem_of_getElem? (i := 0) rfl)) all0)
  have f20 := (f15.keep K16)
  have f21 := ((Fld.same Wr13 f11).other Wr16 (Or.inr (slot_ne (Or.inr (w33 hw)) (Or.inr (w35 hw)) (by decide) (t := .byte) (t' := (.array .byte)) (by decide) (by decide))))
  have ne22 : b9 ≠ x := (Ne.symm (Nat.ne_of_lt (Nat.lt_of_lt_of_le E0.lt g9)))
  have f23 := ((B9.keep K13 (ninS ne22 nin0)).keep K16 (ninS ne22 nin0))
  exact k_ret W d_jdk_42_149_57 rfl [] (fun x hx => nomatch hx) (Nat.le_of_ble_eq_true rfl) (by show 0 + N ≤ N; omega) ⟨rfl, _, g9, KK19, f20, f21, (Fld.same Wr16 f14), f23⟩
set_option maxRecDepth 65536 in
set_option maxHeartbeats 40000000 in
theorem ct_sinit (l : Launch) (Z : State) (a0 : Array Value) (hw : ∀ d ∈ tables_1, d.before a0 Z = true) (n0 : Nat) (h0 : Heap) (x a : Addr) (cs : List Int32) (N : Nat) (zc : Int32) (v0 c0 : Value) (E0 : Exa Z h0 x "java/lang/String") (V0 : Fld Z h0 x "java/lang/String" "value" "[B" v0) (C0 : Fld Z h0 x "java/lang/String" "coder" "B" c0) (A0 : Av Z h0 a .char (cs.map Value.int)) (P0 : Sta Z h0 "java/lang/String" "COMPACT_STRINGS" "Z" (.int zc)) (hzc : zc ≠ 0) (hR : ∀ c ∈ cs, Rg c 256) (hp : 0 < cs.length) (hN : cs.length ≤ N) (hN2 : N ≤ 67108864) : Ct l Z a0 own_EL false (⟨"java/lang/String", "<init>", "([C)V"⟩ : MethodName) jdk_42_method_3_code 2 (Option.none : Option Jvm.ClassFile.FieldType) ({ frames := 3, cells := 1, slots := N, locals := 52 } : Room) #[(.ref x), (.ref a)] h0 [x] n0 (fun v h so => v = none ∧ ∃ b, h0.size ≤ b ∧ Keep h0 h [x] ∧ St Z h x b (cs.map i2b)) := by
  refine Ct.body (plainFor_of_name pn1) ?_
  intro p e s m below meth c T W
  refine WP.cast (g' := (mkF m 0 #[.val (.ref x), .val (.ref a)] [])) (by simp [entryFrame, mkF, argsToLocals, cat_i, cat_l, cat_r, cat_n]) ?_
  refine k_aloadN W d_jdk_42_3_0 rfl rfl ?_
  refine k_aloadN W d_jdk_42_3_1 rfl rfl ?_
  refine k_iconst W d_jdk_42_3_2 (z := (0 : Int32)) rfl ?_
  refine k_aloadN W d_jdk_42_3_3 rfl rfl ?_
  refine k_arraylength W (z := (Int32.ofNat cs.length)) d_jdk_42_3_4 A0 (by first | (rw [List.length_map]; done) | (rw [List.length_map]; rfl)) ?_
  refine k_aconst W d_jdk_42_3_5 ?_
  refine k_callI0 W 0 1 (0 + N) (argsL := [(.ref a), (.int (0 : Int32)), (.int (Int32.ofNat cs.length)), .null]) (rest := []) (a := x) d_jdk_42_3_6 rfl rfl (w13 hw) (w14 hw) (by decide) (lenOf pd3 rfl) (ct_sinit4 l Z a0 hw n0 h0 x a cs N zc v0 c0 E0 V0 C0 A0 P0 hzc hR hp hN hN2) (w16 hw) (w8 hw) (fun x hx => hx) rfl (Nat.le_of_eq rfl) (Nat.le_of_ble_eq_true rfl) (Nat.le_of_ble_eq_true rfl) ⟨rfl, Nat.le_of_ble_eq_true rfl⟩ ⟨rfl, (by show 0 + N ≤ N; omega)⟩ rfl (fun _ _ _ q => nomatch q.1) fun T h24 so W hQ => ?_
  have hq24 := hQ.2
  exact k_ret W d_jdk_42_3_9 rfl [] (fun x hx => nomatch hx) (Nat.le_of_ble_eq_true rfl) (by show 0 + N ≤ N; omega) ⟨rfl, hq24⟩
set_option maxRecDepth 65536 in
set_option maxHeartbeats 40000000 in
theorem ct_leq (l : Launch) (Z : State) (a0 : Array Value) (hw : ∀ d ∈ tables_1, d.before a0 Z = true) (n0 : Nat) (h0 : Heap) (a b : Addr) (as bs : List Int32) (A0 : Av Z h0 a .byte (as.map Value.int)) (B0 : Av Z h0 b .byte (bs.map Value.int)) : Ct l Z a0 own_EL false (⟨"java/lang/StringLatin1", "equals", "([B[B)Z"⟩ : MethodName) jdk_43_method_13_code 3 (Option.some Jvm.ClassFile.FieldType.boolean) ({ frames := 0, cells := 0, slots := 0, locals := 0 } : Room) #[(.ref a), (.ref b)] h0 [] n0 (fun v h so => ((as = bs ∧ v = some (.int (1 : Int32))) ∨ (as ≠ bs ∧ v = some (.int (0 : Int32)))) ∧ h0 = h) := by
  refine Ct.body (plainFor_of_name pn2) ?_
  intro p e s m below meth c T W
  refine WP.cast (g' := (mkF m 0 #[.val (.ref a), .val (.ref b), .unset] [])) (by simp [entryFrame, mkF, argsToLocals, cat_i, cat_l, cat_r, cat_n]) ?_
  have hA : as.length < 2147483648 := by have := A0.len; simpa using this
  have hB : bs.length < 2147483648 := by have := B0.len; simpa using this
  refine k_aloadN W d_jdk_43_13_0 rfl rfl ?_
  refine k_arraylength W (z := (Int32.ofNat as.length)) d_jdk_43_13_1 A0 (by first | (rw [List.length_map]; done) | (rw [List.length_map]; rfl)) ?_
  refine k_aloadN W d_jdk_43_13_2 rfl rfl ?_
  refine k_arraylength W (z := (Int32.ofNat bs.length)) d_jdk_43_13_3 B0 (by first | (rw [List.length_map]; done) | (rw [List.length_map]; rfl)) ?_
  refine k_ic W 34 d_jdk_43_13_4 (by decide) (fun (hc25 : ¬ (Int32.ofNat as.length) = (Int32.ofNat bs.length)) => ?_) (fun (hc25 : ¬ (¬ (Int32.ofNat as.length) = (Int32.ofNat bs.length))) => ?_)
  · --
    refine k_iconst W d_jdk_43_13_34 (z := (0 : Int32)) rfl ?_
    exact k_retN W (t := .boolean) (z' := (0 : Int32)) d_jdk_43_13_35 rfl (by simp) (by decide) [] (fun x hx => nomatch hx) (Nat.le_of_ble_eq_true rfl) (Nat.le_of_ble_eq_true rfl) ⟨Or.inr ⟨fun q => hc25 (by rw [q]), rfl⟩, rfl⟩
  · --
    have hl : as.length = bs.length := of_inj hA hB (Classical.not_not.mp hc25)
    refine k_iconst W d_jdk_43_13_7 (z := (0 : Int32)) rfl ?_
    refine k_istoreN W d_jdk_43_13_8 (L' := #[.val (.ref a), .val (.ref b), .val (.int (0 : Int32))]) rfl ?_
    have loop : ∀ (k i : Nat) (T : State), i + k = as.length → as.take i = bs.take i → WS p l e ({ frames := 0, cells := 0, slots := 0, locals := 0 } : Room) s m #[(.ref a), (.ref b)] below meth c Z a0 own_EL false n0 (⟨"java/lang/StringLatin1", "equals", "([B[B)Z"⟩ : MethodName) jdk_43_method_13_code 3 (Option.some Jvm.ClassFile.FieldType.boolean) T h0 [] 0 0 → WP p e below (Fne s n0 Z own_EL false ({ frames := 0, cells := 0, slots := 0, locals := 0 } : Room) (fun v h so => ((as = bs ∧ v = some (.int (1 : Int32))) ∨ (as ≠ bs ∧ v = some (.int (0 : Int32)))) ∧ h0 = h)) T (mkF m 9 #[.val (.ref a), .val (.ref b), .val (.int (Int32.ofNat i))] []) := by
      intro k
      induction k with
      | zero =>
        intro i T hi hE W
        obtain rfl : i = as.length := by omega
        refine k_iloadN W d_jdk_43_13_9 rfl ?_
        refine k_aloadN W d_jdk_43_13_10 rfl rfl ?_
        refine k_arraylength W (z := (Int32.ofNat as.length)) d_jdk_43_13_11 A0 (by first | (rw [List.length_map]; done) | (rw [List.length_map]; rfl)) ?_
        refine k_icY W 32 d_jdk_43_13_12 (by decide) (show ¬ (Int32.ofNat as.length) < (Int32.ofNat as.length) from (of_ge (Nat.le_refl _) hA)) ?_
        refine k_iconst W d_jdk_43_13_32 (z := (1 : Int32)) rfl ?_
        exact k_retN W (t := .boolean) (z' := (1 : Int32)) d_jdk_43_13_33 rfl (by simp) (by decide) [] (fun x hx => nomatch hx) (Nat.le_of_ble_eq_true rfl) (Nat.le_of_ble_eq_true rfl) ⟨Or.inl ⟨by rw [List.take_length, hl, List.take_length] at hE; exact hE, rfl⟩, rfl⟩
      | succ k ih =>
        intro i T hi hE W
        have h1 : i < as.length := by omega
        have h2 : i < bs.length := by omega
        obtain ⟨x, hx⟩ : ∃ c, as[i]? = some c := ⟨_, List.getElem?_eq_getElem h1⟩
        obtain ⟨y, hy⟩ : ∃ c, bs[i]? = some c := ⟨_, List.getElem?_eq_getElem h2⟩
        have hs : ∀ zs : List Int32, ∀ z, zs[i]? = some z → zs.take (i + 1) = zs.take i ++ [z] := fun zs z q => by rw [List.take_succ, q]; rfl
        refine k_iloadN W d_jdk_43_13_9 rfl ?_
        refine k_aloadN W d_jdk_43_13_10 rfl rfl ?_
        refine k_arraylength W (z := (Int32.ofNat as.length)) d_jdk_43_13_11 A0 (by first | (rw [List.length_map]; done) | (rw [List.length_map]; rfl)) ?_
        refine k_icN W d_jdk_43_13_12 (show ¬ (¬ (Int32.ofNat i) < (Int32.ofNat as.length)) from (fun q => q (of_lt h1 hA))) ?_
        refine k_aloadN W d_jdk_43_13_15 rfl rfl ?_
        refine k_iloadN W d_jdk_43_13_16 rfl ?_
        refine k_baload W (v := (.int x)) i d_jdk_43_13_17 A0 (ix_of (by omega)) (by simp [hx]) ?_
        refine k_aloadN W d_jdk_43_13_18 rfl rfl ?_
        refine k_iloadN W d_jdk_43_13_19 rfl ?_
        refine k_baload W (v := (.int y)) i d_jdk_43_13_20 B0 (ix_of (by omega)) (by simp [hy]) ?_
        refine k_ic W 26 d_jdk_43_13_21 (by decide) (fun (hc26 : x = y) => ?_) (fun (hc26 : ¬ (x = y)) => ?_)
        · -- pc 26
          refine k_iinc W d_jdk_43_13_26 rfl (z := (Int32.ofNat (i + 1))) (of_succ i) (L' := #[.val (.ref a), .val (.ref b), .val (.int (Int32.ofNat (i + 1)))]) rfl ?_
          refine k_goto W 9 d_jdk_43_13_29 (by decide) ?_
          exact ih (i + 1) T (by omega) (by rw [hs as x hx, hs bs y hy, hE, hc26]) W
        · -- pc 24
          refine k_iconst W d_jdk_43_13_24 (z := (0 : Int32)) rfl ?_
          exact k_retN W (t := .boolean) (z' := (0 : Int32)) d_jdk_43_13_25 rfl (by simp) (by decide) [] (fun x hx => nomatch hx) (Nat.le_of_ble_eq_true rfl) (Nat.le_of_ble_eq_true rfl) ⟨Or.inr ⟨fun q => hc26 (by rw [q, hy] at hx; exact (Option.some.inj hx).symm), rfl⟩, rfl⟩
    exact loop as.length 0 T (by omega) (by simp) W
set_option maxRecDepth 65536 in
set_option maxHeartbeats 40000000 in
theorem ct_seq (l : Launch) (Z : State) (a0 : Array Value) (hw : ∀ d ∈ tables_1, d.before a0 Z = true) (n0 : Nat) (h0 : Heap) (x a y b : Addr) (as bs : List Int32) (zc : Int32) (hne : x ≠ y) (S0 : St Z h0 x a as) (S1 : St Z h0 y b bs) (P0 : Sta Z h0 "java/lang/String" "COMPACT_STRINGS" "Z" (.int zc)) (hzc : zc ≠ 0) : Ct l Z a0 own_EL false (⟨"java/lang/String", "equals", "(Ljava/lang/Object;)Z"⟩ : MethodName) jdk_42_method_66_code 3 (Option.some Jvm.ClassFile.FieldType.boolean) ({ frames := 1, cells := 0, slots := 0, locals := 14 } : Room) #[(.ref x), (.ref y)] h0 [] n0 (fun v h so => ((as = bs ∧ v = some (.int (1 : Int32))) ∨ (as ≠ bs ∧ v = some (.int (0 : Int32)))) ∧ h0 = h) := by
  refine Ct.body (plainFor_of_name pn1) ?_
  intro p e s m below meth c T W
  refine WP.cast (g' := (mkF m 0 #[.val (.ref x), .val (.ref y), .unset] [])) (by simp [entryFrame, mkF, argsToLocals, cat_i, cat_l, cat_r, cat_n]) ?_
  refine k_aloadN W d_jdk_42_66_0 rfl rfl ?_
  refine k_aloadN W d_jdk_42_66_1 rfl rfl ?_
  refine k_acY W 7 d_jdk_42_66_2 rfl rfl (by decide) (fun q => hne (Value.ref.inj q)) ?_
  refine k_aloadN W d_jdk_42_66_7 rfl rfl ?_
  refine k_instY W d_jdk_42_66_8 (w46 hw) (Ins.self S1.1) fun T W => ?_
  refine k_ifN W d_jdk_42_66_11 (show ¬ ((1 : Int32) = 0) by decide) ?_
  refine k_aloadN W d_jdk_42_66_14 rfl rfl ?_
  refine k_cast W d_jdk_42_66_15 (w46 hw) (Ins.self S1.1) fun T W => ?_
  refine k_astoreN W d_jdk_42_66_18 rfl (L' := #[.val (.ref x), .val (.ref y), .val (.ref y)]) rfl ?_
  refine k_getS W d_jdk_42_66_19 (w20 hw) Via.refl P0 fun T W => ?_
  refine k_ifN W d_jdk_42_66_22 (show ¬ (zc = 0) from hzc) ?_
  refine k_aloadN W d_jdk_42_66_25 rfl rfl ?_
  refine k_getF W d_jdk_42_66_26 (host := "") (Or.inl (w32 hw)) Via.refl S0.2.1 fun T W => ?_
  refine k_aloadN W d_jdk_42_66_29 rfl rfl ?_
  refine k_getF W d_jdk_42_66_30 (host := "") (Or.inl (w32 hw)) Via.refl S1.2.1 fun T W => ?_
  refine k_icN W d_jdk_42_66_33 (show ¬ (¬ (0 : Int32) = (0 : Int32)) from (fun q => q rfl)) ?_
  refine k_aloadN W d_jdk_42_66_36 rfl rfl ?_
  refine k_getF W d_jdk_42_66_37 (host := "") (Or.inl (w34 hw)) Via.refl S0.2.2.1 fun T W => ?_
  refine k_aloadN W d_jdk_42_66_40 rfl rfl ?_
  refine k_getF W d_jdk_42_66_41 (host := "") (Or.inl (w34 hw)) Via.refl S1.2.2.1 fun T W => ?_
  refine k_callS W 0 0 0 (argsL := [(.ref a), (.ref b)]) (rest := []) d_jdk_42_66_44 (w189 hw) (w190 hw) (by decide) (lenOf pd4 rfl) (ct_leq l Z a0 hw n0 h0 a b as bs S0.2.2.2 S1.2.2.2) (w191 hw) (w44 hw) (fun x hx => hx) rfl (Nat.le_of_eq rfl) (Nat.le_of_ble_eq_true rfl) (Nat.le_of_ble_eq_true rfl) ⟨rfl, Nat.le_of_ble_eq_true rfl⟩ ⟨rfl, Nat.le_of_ble_eq_true rfl⟩ rfl (fun _ _ q => by rcases q.1 with ⟨_, u⟩ | ⟨_, u⟩ <;> cases u) fun T h27 v so W hQ => ?_
  obtain ⟨hQ, rfl⟩ := hQ
  rcases hQ with ⟨he, hv⟩ | ⟨he, hv⟩
  · --
    obtain rfl := Option.some.inj hv
    refine k_ifN W d_jdk_42_66_47 (show ¬ ((1 : Int32) = 0) by decide) ?_
    refine k_iconst W d_jdk_42_66_50 (z := (1 : Int32)) rfl ?_
    refine k_goto W 55 d_jdk_42_66_51 (by decide) ?_
    exact k_retN W (t := .boolean) (z' := (1 : Int32)) d_jdk_42_66_55 rfl (by simp) (by decide) [] (fun x hx => nomatch hx) (Nat.le_of_ble_eq_true rfl) (Nat.le_of_ble_eq_true rfl) ⟨Or.inl ⟨he, rfl⟩, rfl⟩
  · --
    obtain rfl := Option.some.inj hv
    refine k_ifY W 54 d_jdk_42_66_47 (by decide) (show (0 : Int32) = 0 by decide) ?_
    refine k_iconst W d_jdk_42_66_54 (z := (0 : Int32)) rfl ?_
    exact k_retN W (t := .boolean) (z' := (0 : Int32)) d_jdk_42_66_55 rfl (by simp) (by decide) [] (fun x hx => nomatch hx) (Nat.le_of_ble_eq_true rfl) (Nat.le_of_ble_eq_true rfl) ⟨Or.inr ⟨he, rfl⟩, rfl⟩
set_option maxRecDepth 65536 in
set_option maxHeartbeats 40000000 in
theorem ct_seqI (l : Launch) (Z : State) (a0 : Array Value) (hw : ∀ d ∈ tables_1, d.before a0 Z = true) (n0 : Nat) (h0 : Heap) (x : Addr) : Ct l Z a0 own_EL false (⟨"java/lang/String", "equals", "(Ljava/lang/Object;)Z"⟩ : MethodName) jdk_42_method_66_code 3 (Option.some Jvm.ClassFile.FieldType.boolean) ({ frames := 0, cells := 0, slots := 0, locals := 0 } : Room) #[(.ref x), (.ref x)] h0 [] n0 (fun v h so => v = some (.int (1 : Int32)) ∧ h0 = h ∧ so = []) := by
  refine Ct.body (plainFor_of_name pn1) ?_
  intro p e s m below meth c T W
  refine WP.cast (g' := (mkF m 0 #[.val (.ref x), .val (.ref x), .unset] [])) (by simp [entryFrame, mkF, argsToLocals, cat_i, cat_l, cat_r, cat_n]) ?_
  refine k_aloadN W d_jdk_42_66_0 rfl rfl ?_
  refine k_aloadN W d_jdk_42_66_1 rfl rfl ?_
  refine k_acN W d_jdk_42_66_2 rfl rfl (by decide) (fun q => q rfl) ?_
  refine k_iconst W d_jdk_42_66_5 (z := (1 : Int32)) rfl ?_
  exact k_retN W (t := .boolean) (z' := (1 : Int32)) d_jdk_42_66_6 rfl (by simp) (by decide) [] (fun x hx => nomatch hx) (Nat.le_of_ble_eq_true rfl) (Nat.le_of_ble_eq_true rfl) ⟨rfl, rfl, rfl⟩
set_option maxRecDepth 65536 in
set_option maxHeartbeats 40000000 in
theorem ct_seqN (l : Launch) (Z : State) (a0 : Array Value) (hw : ∀ d ∈ tables_1, d.before a0 Z = true) (n0 : Nat) (h0 : Heap) (x : Addr) : Ct l Z a0 own_EL false (⟨"java/lang/String", "equals", "(Ljava/lang/Object;)Z"⟩ : MethodName) jdk_42_method_66_code 3 (Option.some Jvm.ClassFile.FieldType.boolean) ({ frames := 0, cells := 0, slots := 0, locals := 0 } : Room) #[(.ref x), .null] h0 [] n0 (fun v h so => v = some (.int (0 : Int32)) ∧ h0 = h ∧ so = []) := by
  refine Ct.body (plainFor_of_name pn1) ?_
  intro p e s m below meth c T W
  refine WP.cast (g' := (mkF m 0 #[.val (.ref x), .val .null, .unset] [])) (by simp [entryFrame, mkF, argsToLocals, cat_i, cat_l, cat_r, cat_n]) ?_
  refine k_aloadN W d_jdk_42_66_0 rfl rfl ?_
  refine k_aloadN W d_jdk_42_66_1 rfl rfl ?_
  refine k_acY W 7 d_jdk_42_66_2 rfl rfl (by decide) (fun q => nomatch q) ?_
  refine k_aloadN W d_jdk_42_66_7 rfl rfl ?_
  refine k_instNull W d_jdk_42_66_8 ?_
  refine k_ifY W 54 d_jdk_42_66_11 (by decide) (show (0 : Int32) = 0 by decide) ?_
  refine k_iconst W d_jdk_42_66_54 (z := (0 : Int32)) rfl ?_
  exact k_retN W (t := .boolean) (z' := (0 : Int32)) d_jdk_42_66_55 rfl (by simp) (by decide) [] (fun x hx => nomatch hx) (Nat.le_of_ble_eq_true rfl) (Nat.le_of_ble_eq_true rfl) ⟨rfl, rfl, rfl⟩
set_option maxRecDepth 65536 in
set_option maxHeartbeats 40000000 in
theorem ct_isL1 (l : Launch) (Z : State) (a0 : Array Value) (hw : ∀ d ∈ tables_1, d.before a0 Z = true) (n0 : Nat) (h0 : Heap) (x b : Addr) (bs : List Int32) (zc : Int32) (S0 : St Z h0 x b bs) (P0 : Sta Z h0 "java/lang/String" "COMPACT_STRINGS" "Z" (.int zc)) (hzc : zc ≠ 0) : Ct l Z a0 own_EL false (⟨"java/lang/String", "isLatin1", "()Z"⟩ : MethodName) jdk_42_method_154_code 1 (Option.some Jvm.ClassFile.FieldType.boolean) ({ frames := 0, cells := 0, slots := 0, locals := 0 } : Room) #[(.ref x)] h0 [] n0 (fun v h so => v = some (.int (1 : Int32)) ∧ h0 = h ∧ so = []) := by
  refine Ct.body (plainFor_of_name pn1) ?_
  intro p e s m below meth c T W
  refine WP.cast (g' := (mkF m 0 #[.val (.ref x)] [])) (by simp [entryFrame, mkF, argsToLocals, cat_i, cat_l, cat_r, cat_n]) ?_
  refine k_getS W d_jdk_42_154_0 (w20 hw) Via.refl P0 fun T W => ?_
  refine k_ifN W d_jdk_42_154_3 (show ¬ (zc = 0) from hzc) ?_
  refine k_aloadN W d_jdk_42_154_6 rfl rfl ?_
  refine k_getF W d_jdk_42_154_7 (host := "") (Or.inl (w32 hw)) Via.refl S0.2.1 fun T W => ?_
  refine k_ifN W d_jdk_42_154_10 (show ¬ (¬ (0 : Int32) = 0) by decide) ?_
  refine k_iconst W d_jdk_42_154_13 (z := (1 : Int32)) rfl ?_
  refine k_goto W 18 d_jdk_42_154_14 (by decide) ?_
  exact k_retN W (t := .boolean) (z' := (1 : Int32)) d_jdk_42_154_18 rfl (by simp) (by decide) [] (fun x hx => nomatch hx) (Nat.le_of_ble_eq_true rfl) (Nat.le_of_ble_eq_true rfl) ⟨rfl, rfl, rfl⟩
set_option maxRecDepth 65536 in
set_option maxHeartbeats 40000000 in
theorem ct_coder (l : Launch) (Z : State) (a0 : Array Value) (hw : ∀ d ∈ tables_1, d.before a0 Z = true) (n0 : Nat) (h0 : Heap) (x b : Addr) (bs : List Int32) (zc : Int32) (S0 : St Z h0 x b bs) (P0 : Sta Z h0 "java/lang/String" "COMPACT_STRINGS" "Z" (.int zc)) (hzc : zc ≠ 0) : Ct l Z a0 own_EL false (⟨"java/lang/String", "coder", "()B"⟩ : MethodName) jdk_42_method_152_code 1 (Option.some Jvm.ClassFile.FieldType.byte) ({ frames := 0, cells := 0, slots := 0, locals := 0 } : Room) #[(.ref x)] h0 [] n0 (fun v h so => v = some (.int (0 : Int32)) ∧ h0 = h ∧ so = []) := by
  refine Ct.body (plainFor_of_name pn1) ?_
  intro p e s m below meth c T W
  refine WP.cast (g' := (mkF m 0 #[.val (.ref x)] [])) (by simp [entryFrame, mkF, argsToLocals, cat_i, cat_l, cat_r, cat_n]) ?_
  refine k_getS W d_jdk_42_152_0 (w20 hw) Via.refl P0 fun T W => ?_
  refine k_ifN W d_jdk_42_152_3 (show ¬ (zc = 0) from hzc) ?_
  refine k_aloadN W d_jdk_42_152_6 rfl rfl ?_
  refine k_getF W d_jdk_42_152_7 (host := "") (Or.inl (w32 hw)) Via.refl S0.2.1 fun T W => ?_
  refine k_goto W 14 d_jdk_42_152_10 (by decide) ?_
  exact k_retN W (t := .byte) (z' := (0 : Int32)) d_jdk_42_152_14 rfl (by simp) (by decide) [] (fun x hx => nomatch hx) (Nat.le_of_ble_eq_true rfl) (Nat.le_of_ble_eq_true rfl) ⟨rfl, rfl, rfl⟩
set_option maxRecDepth 65536 in
set_option maxHeartbeats 40000000 in
theorem ct_len (l : Launch) (Z : State) (a0 : Array Value) (hw : ∀ d ∈ tables_1, d.before a0 Z = true) (n0 : Nat) (h0 : Heap) (x b : Addr) (bs : List Int32) (zc : Int32) (S0 : St Z h0 x b bs) (P0 : Sta Z h0 "java/lang/String" "COMPACT_STRINGS" "Z" (.int zc)) (hzc : zc ≠ 0) : Ct l Z a0 own_EL false (⟨"java/lang/String", "length", "()I"⟩ : MethodName) jdk_42_method_54_code 1 (Option.some Jvm.ClassFile.FieldType.int) ({ frames := 1, cells := 0, slots := 0, locals := 13 } : Room) #[(.ref x)] h0 [] n0 (fun v h so => v = some (.int (Int32.ofNat bs.length)) ∧ h0 = h ∧ so = []) := by
  refine Ct.body (plainFor_of_name pn1) ?_
  intro p e s m below meth c T W
  refine WP.cast (g' := (mkF m 0 #[.val (.ref x)] [])) (by simp [entryFrame, mkF, argsToLocals, cat_i, cat_l, cat_r, cat_n]) ?_
  refine k_aloadN W d_jdk_42_54_0 rfl rfl ?_
  refine k_getF W d_jdk_42_54_1 (host := "") (Or.inl (w34 hw)) Via.refl S0.2.2.1 fun T W => ?_
  refine k_arraylength W (z := (Int32.ofNat bs.length)) d_jdk_42_54_4 S0.2.2.2 (by first | (rw [List.length_map]; done) | (rw [List.length_map]; rfl)) ?_
  refine k_aloadN W d_jdk_42_54_5 rfl rfl ?_
  refine k_callV W 1 0 0 (argsL := []) (rest := [(.int (Int32.ofNat bs.length))]) (a := x) (C := "java/lang/String") (z0 := (⟨"java/lang/String", "coder", "()B"⟩ : MethodName)) (z := (⟨"java/lang/String", "coder", "()B"⟩ : MethodName)) d_jdk_42_54_6 (w114 hw) (w115 hw) (nfSel (w117 hw)) (w117 hw) (w116 hw) (by decide) (lenOf pd5 rfl) S0.1 (ct_coder l Z a0 hw n0 h0 x b bs zc S0 P0 hzc) (w118 hw) (w8 hw) (fun x hx => hx) rfl (Nat.le_of_eq rfl) (Nat.le_of_ble_eq_true rfl) (Nat.le_of_ble_eq_true rfl) ⟨rfl, Nat.le_of_ble_eq_true rfl⟩ ⟨rfl, Nat.le_of_ble_eq_true rfl⟩ rfl (fun _ _ q => nomatch q.1) fun T h28 v so W hQ => ?_
  obtain ⟨hv, rfl, -⟩ := hQ
  obtain rfl := Option.some.inj hv
  refine k_ishr W d_jdk_42_54_9 (z := (Int32.ofNat bs.length)) (shr0 _) ?_
  exact k_ireturn W d_jdk_42_54_10 rfl [] (fun x hx => nomatch hx) (Nat.le_of_ble_eq_true rfl) (Nat.le_of_ble_eq_true rfl) ⟨rfl, rfl, rfl⟩
def own_props : List Int32 := [1207963663, 1207963663, 1207963663, 1207963663, 1207963663, 1207963663, 1207963663, 1207963663, 1207963663, 1476411407, 1342193679, 1476411407, 1610629135, 1342193679, 1207963663, 1207963663, 1207963663, 1207963663, 1207963663, 1207963663, 1207963663, 1207963663, 1207963663, 1207963663, 1207963663, 1207963663, 1207963663, 1207963663, 1342193679, 1342193679, 1342193679, 1476411407, 1610629132, 1744830488, 1744830488, 671088664, 671113242, 671088664, 1744830488, 1744830488, -402653163, -402653162, 1744830488, 536870937, 939524120, 536870932, 939524120, 939524120, 402667017, 402667017, 402667017, 402667017, 402667017, 402667017, 402667017, 402667017, 402667017, 402667017, 939524120, 1744830488, -402653159, 1744830489, -402653159, 1744830488, 1744830488, 8552417, 8552417, 8552417, 8552417, 8552417, 8552417, 8552417, 8552417, 8552417, 8552417, 8552417, 8552417, 8552417, 8552417, 8552417, 8552417, 8552417, 8552417, 8552417, 8552417, 8552417, 8552417, 8552417, 8552417, 8552417, 8552417, -402653163, 1744830488, -402653162, 1744830491, 1744850967, 1744830491, 8486882, 8486882, 8486882, 8486882, 8486882, 8486882, 8486882, 8486882, 8486882, 8486882, 8486882, 8486882, 8486882, 8486882, 8486882, 8486882, 8486882, 8486882, 8486882, 8486882, 8486882, 8486882, 8486882, 8486882, 8486882, 8486882, -402653163, 1744830489, -402653162, 1744830489, 1207963663, 1207963663, 1207963663, 1207963663, 1207963663, 1207963663, 1342181391, 1207963663, 1207963663, 1207963663, 1207963663, 1207963663, 1207963663, 1207963663, 1207963663, 1207963663, 1207963663, 1207963663, 1207963663, 1207963663, 1207963663, 1207963663, 1207963663, 1207963663, 1207963663, 1207963663, 1207963663, 1207963663, 1207963663, 1207963663, 1207963663, 1207963663, 1207963663, 939524108, 1744830488, 671113242, 671113242, 671113242, 671113242, 1744830492, 1744830488, 1744830491, 1744830492, 28677, -402653155, 1744830489, 1207963664, 1744830492, 1744830491, 671088668, 671088665, 402654731, 402654731, 1744830491, 134049794, 1744830488, 1744830488, 1744830491, 402654475, 28677, -402653154, 1744832523, 1744832523, 1744832523, 1744830488, 8548353, 8548353, 8548353, 8548353, 8548353, 8548353, 8548353, 8548353, 8548353, 8548353, 8548353, 8548353, 8548353, 8548353, 8548353, 8548353, 8548353, 8548353, 8548353, 8548353, 8548353, 8548353, 8548353, 1744830489, 8548353, 8548353, 8548353, 8548353, 8548353, 8548353, 8548353, 134049794, 8482818, 8482818, 8482818, 8482818, 8482818, 8482818, 8482818, 8482818, 8482818, 8482818, 8482818, 8482818, 8482818, 8482818, 8482818, 8482818, 8482818, 8482818, 8482818, 8482818, 8482818, 8482818, 8482818, 1744830489, 8482818, 8482818, 8482818, 8482818, 8482818, 8482818, 8482818, 102592514]
def own_NW (c : Int32) : Prop := Rg c 256 ∧ ¬ (9 ≤ c.toInt ∧ c.toInt ≤ 13) ∧ ¬ (28 ≤ c.toInt ∧ c.toInt ≤ 32)
theorem own_plen : own_props.length = 256 := by decide +kernel
theorem own_ws : ∀ k : Fin 256, own_props.getD k.val 0 &&& 28672 = 16384 → (9 ≤ k.val ∧ k.val ≤ 13) ∨ (28 ≤ k.val ∧ k.val ≤ 32) := by decide +kernel
theorem own_nws {c : Int32} (q : own_NW c) : ¬ own_props.getD c.toNatClampNeg 0 &&& 28672 = 16384 := fun h => by
  obtain ⟨⟨q1, q2⟩, q3, q4⟩ := q
  have hn : (c.toNatClampNeg : Int) = c.toInt := by unfold Int32.toNatClampNeg; omega
  rcases own_ws ⟨c.toNatClampNeg, by omega⟩ h with u | u
  · exact q3 ⟨by have := u.1; simp only at this; omega, by have := u.2; simp only at this; omega⟩
  · exact q4 ⟨by have := u.1; simp only at this; omega, by have := u.2; simp only at this; omega⟩
theorem own_nw_of {c : Int32} (h : 33 ≤ c.toInt ∧ c.toInt < 256) : own_NW c := ⟨⟨by omega, h.2⟩, by omega, by omega⟩
theorem own_low {y : Int32} (q : Rg y 64) : 33 ≤ ((33 : Int32) + y).toInt ∧ ((33 : Int32) + y).toInt < 256 := by
  have e : ((33 : Int32) + y).toInt = 33 + y.toInt := by
    have h1 := q.1; have h2 := q.2; have h33 : (33 : Int32).toInt = 33 := by decide
    rw [Int32.toInt_add, h33, Int.bmod_eq_of_le (by omega) (by omega)]
  rw [e]; have h1 := q.1; have h2 := q.2; omega
theorem own_pget {n : Nat} (h : n < 256) : (own_props.map Value.int)[n]? = some (.int (own_props.getD n 0)) := by
  have : n < own_props.length := by rw [own_plen]; exact h
  simp [this]
theorem own_rgix {c : Int32} (q : Rg c 256) : Ix c c.toNatClampNeg := by
  refine ⟨?_, rfl⟩
  have h0 : (0 : Int32).toInt = 0 := by decide
  rw [Int32.lt_iff_toInt_lt]; have := q.1; omega
theorem own_rgn {c : Int32} (q : Rg c 256) : c.toNatClampNeg < 256 := by unfold Int32.toNatClampNeg; have := q.1; have := q.2; omega
set_option maxRecDepth 65536 in
set_option maxHeartbeats 40000000 in
theorem ct_gprop (l : Launch) (Z : State) (a0 : Array Value) (hw : ∀ d ∈ tables_1, d.before a0 Z = true) (n0 : Nat) (h0 : Heap) (cd ca : Addr) (ch : Int32) (hr : Rg ch 256) (CI : Sta Z h0 "java/lang/CharacterDataLatin1" "instance" "Ljava/lang/CharacterDataLatin1;" (.ref cd)) (CX : Exa Z h0 cd "java/lang/CharacterDataLatin1") (CA : Sta Z h0 "java/lang/CharacterDataLatin1" "A" "[I" (.ref ca)) (CV : Av Z h0 ca .int (own_props.map Value.int)) : Ct l Z a0 own_EL false (⟨"java/lang/CharacterDataLatin1", "getProperties", "(I)I"⟩ : MethodName) jdk_116_method_1_code 4 (Option.some Jvm.ClassFile.FieldType.int) ({ frames := 0, cells := 0, slots := 0, locals := 0 } : Room) #[(.ref cd), (.int ch)] h0 [] n0 (fun v h so => v = some (.int (own_props.getD ch.toNatClampNeg 0)) ∧ h0 = h ∧ so = []) := by
  refine Ct.body (plainFor_of_name pn3) ?_
  intro p e s m below meth c T W
  refine WP.cast (g' := (mkF m 0 #[.val (.ref cd), .val (.int ch), .unset, .unset] [])) (by simp [entryFrame, mkF, argsToLocals, cat_i, cat_l, cat_r, cat_n]) ?_
  refine k_iloadN W d_jdk_116_1_0 rfl ?_
  refine k_i2c W d_jdk_116_1_1 (z := ch) (Rg.c (Rg.mono hr (by decide))) ?_
  refine k_istoreN W d_jdk_116_1_2 (L' := #[.val (.ref cd), .val (.int ch), .val (.int ch), .unset]) rfl ?_
  refine k_getS W d_jdk_116_1_3 (w108 hw) Via.refl CA fun T W => ?_
  refine k_iloadN W d_jdk_116_1_6 rfl ?_
  refine k_iaload W (v := (.int (own_props.getD ch.toNatClampNeg 0))) ch.toNatClampNeg d_jdk_116_1_7 CV (own_rgix hr) (own_pget (own_rgn hr)) ?_
  refine k_istoreN W d_jdk_116_1_8 (L' := #[.val (.ref cd), .val (.int ch), .val (.int ch), .val (.int (own_props.getD ch.toNatClampNeg 0))]) rfl ?_
  refine k_iloadN W d_jdk_116_1_9 rfl ?_
  exact k_ireturn W d_jdk_116_1_10 rfl [] (fun x hx => nomatch hx) (Nat.le_of_ble_eq_true rfl) (Nat.le_of_ble_eq_true rfl) ⟨rfl, rfl, rfl⟩
set_option maxRecDepth 65536 in
set_option maxHeartbeats 40000000 in
theorem ct_isws (l : Launch) (Z : State) (a0 : Array Value) (hw : ∀ d ∈ tables_1, d.before a0 Z = true) (n0 : Nat) (h0 : Heap) (cd ca : Addr) (ch : Int32) (hr : Rg ch 256) (CI : Sta Z h0 "java/lang/CharacterDataLatin1" "instance" "Ljava/lang/CharacterDataLatin1;" (.ref cd)) (CX : Exa Z h0 cd "java/lang/CharacterDataLatin1") (CA : Sta Z h0 "java/lang/CharacterDataLatin1" "A" "[I" (.ref ca)) (CV : Av Z h0 ca .int (own_props.map Value.int)) : Ct l Z a0 own_EL false (⟨"java/lang/CharacterDataLatin1", "isWhitespace", "(I)Z"⟩ : MethodName) jdk_116_method_26_code 3 (Option.some Jvm.ClassFile.FieldType.boolean) ({ frames := 1, cells := 0, slots := 0, locals := 15 } : Room) #[(.ref cd), (.int ch)] h0 [] n0 (fun v h so => ((own_props.getD ch.toNatClampNeg 0 &&& 28672 = 16384 ∧ v = some (.int (1 : Int32))) ∨ (¬ own_props.getD ch.toNatClampNeg 0 &&& 28672 = 16384 ∧ v = some (.int (0 : Int32)))) ∧ h0 = h) := by
  refine Ct.body (plainFor_of_name pn3) ?_
  intro p e s m below meth c T W
  refine WP.cast (g' := (mkF m 0 #[.val (.ref cd), .val (.int ch), .unset] [])) (by simp [entryFrame, mkF, argsToLocals, cat_i, cat_l, cat_r, cat_n]) ?_
  refine k_aloadN W d_jdk_116_26_0 rfl rfl ?_
  refine k_iloadN W d_jdk_116_26_1 rfl ?_
  refine k_callV W 0 0 0 (argsL := [(.int ch)]) (rest := []) (a := cd) (C := "java/lang/CharacterDataLatin1") (z0 := (⟨"java/lang/CharacterDataLatin1", "getProperties", "(I)I"⟩ : MethodName)) (z := (⟨"java/lang/CharacterDataLatin1", "getProperties", "(I)I"⟩ : MethodName)) d_jdk_116_26_2 (w103 hw) (w104 hw) (nfSel (w106 hw)) (w106 hw) (w105 hw) (by decide) (lenOf pd6 rfl) CX (ct_gprop l Z a0 hw n0 h0 cd ca ch hr CI CX CA CV) (w107 hw) (w97 hw) (fun x hx => hx) rfl (Nat.le_of_eq rfl) (Nat.le_of_ble_eq_true rfl) (Nat.le_of_ble_eq_true rfl) ⟨rfl, Nat.le_of_ble_eq_true rfl⟩ ⟨rfl, Nat.le_of_ble_eq_true rfl⟩ rfl (fun _ _ q => nomatch q.1) fun T h29 v so W hQ => ?_
  obtain ⟨hv, rfl, -⟩ := hQ
  obtain rfl := Option.some.inj hv
  refine k_istoreN W d_jdk_116_26_5 (L' := #[.val (.ref cd), .val (.int ch), .val (.int (own_props.getD ch.toNatClampNeg 0))]) rfl ?_
  refine k_iloadN W d_jdk_116_26_6 rfl ?_
  refine k_sipush W d_jdk_116_26_7 (z := (28672 : Int32)) rfl ?_
  refine k_iand W d_jdk_116_26_10 (z := ((own_props.getD ch.toNatClampNeg 0) &&& (28672 : Int32))) rfl ?_
  refine k_sipush W d_jdk_116_26_11 (z := (16384 : Int32)) rfl ?_
  refine k_ic W 21 d_jdk_116_26_14 (by decide) (fun (hc30 : ¬ ((own_props.getD ch.toNatClampNeg 0) &&& (28672 : Int32)) = (16384 : Int32)) => ?_) (fun (hc30 : ¬ (¬ ((own_props.getD ch.toNatClampNeg 0) &&& (28672 : Int32)) = (16384 : Int32))) => ?_)
  · -- pc 21
    refine k_iconst W d_jdk_116_26_21 (z := (0 : Int32)) rfl ?_
    exact k_retN W (t := .boolean) (z' := (0 : Int32)) d_jdk_116_26_22 rfl (by simp) (by decide) [] (fun x hx => nomatch hx) (Nat.le_of_ble_eq_true rfl) (Nat.le_of_ble_eq_true rfl) ⟨Or.inr ⟨hc30, rfl⟩, rfl⟩
  · -- pc 17
    refine k_iconst W d_jdk_116_26_17 (z := (1 : Int32)) rfl ?_
    refine k_goto W 22 d_jdk_116_26_18 (by decide) ?_
    exact k_retN W (t := .boolean) (z' := (1 : Int32)) d_jdk_116_26_22 rfl (by simp) (by decide) [] (fun x hx => nomatch hx) (Nat.le_of_ble_eq_true rfl) (Nat.le_of_ble_eq_true rfl) ⟨Or.inl ⟨Classical.not_not.mp hc30, rfl⟩, rfl⟩
set_option maxRecDepth 65536 in
set_option maxHeartbeats 40000000 in
theorem ct_gchar (l : Launch) (Z : State) (a0 : Array Value) (hw : ∀ d ∈ tables_1, d.before a0 Z = true) (n0 : Nat) (h0 : Heap) (b : Addr) (bs : List Int32) (i : Nat) (bi : Int32) (hi : bs[i]? = some bi) (hL : bs.length < 2147483648) (B0 : Av Z h0 b .byte (bs.map Value.int)) : Ct l Z a0 own_EL false (⟨"java/lang/StringLatin1", "getChar", "([BI)C"⟩ : MethodName) jdk_43_method_44_code 2 (Option.some Jvm.ClassFile.FieldType.char) ({ frames := 0, cells := 0, slots := 0, locals := 0 } : Room) #[(.ref b), (.int (Int32.ofNat i))] h0 [] n0 (fun v h so => v = some (.int (bi &&& 255)) ∧ h0 = h ∧ so = []) := by
  refine Ct.body (plainFor_of_name pn2) ?_
  intro p e s m below meth c T W
  refine WP.cast (g' := (mkF m 0 #[.val (.ref b), .val (.int (Int32.ofNat i))] [])) (by simp [entryFrame, mkF, argsToLocals, cat_i, cat_l, cat_r, cat_n]) ?_
  have hlt : i < bs.length := (List.getElem?_eq_some_iff.mp hi).1
  refine k_aloadN W d_jdk_43_44_0 rfl rfl ?_
  refine k_iloadN W d_jdk_43_44_1 rfl ?_
  refine k_baload W (v := (.int bi)) i d_jdk_43_44_2 B0 (ix_of (Nat.lt_trans hlt hL)) (by simp [hi]) ?_
  refine k_sipush W d_jdk_43_44_3 (z := (255 : Int32)) rfl ?_
  refine k_iand W d_jdk_43_44_6 (z := (bi &&& (255 : Int32))) rfl ?_
  refine k_i2c W d_jdk_43_44_7 (z := (bi &&& (255 : Int32))) (Rg.c (Rg.mono (Rg.and (n := 256) bi (255 : Int32) (by decide)) (by decide))) ?_
  exact k_retN W (t := .char) (z' := (bi &&& (255 : Int32))) d_jdk_43_44_8 rfl (by simp) (Rg.nar (Rg.mono (Rg.and (n := 256) bi (255 : Int32) (by decide)) (by decide))) [] (fun x hx => nomatch hx) (Nat.le_of_ble_eq_true rfl) (Nat.le_of_ble_eq_true rfl) ⟨rfl, rfl, rfl⟩
set_option maxRecDepth 65536 in
set_option maxHeartbeats 40000000 in
theorem ct_lnws (l : Launch) (Z : State) (a0 : Array Value) (hw : ∀ d ∈ tables_1, d.before a0 Z = true) (n0 : Nat) (h0 : Heap) (cd ca : Addr) (b : Addr) (bs : List Int32) (j : Nat) (bj : Int32) (hj : bs[j]? = some bj) (hnw : own_NW (bj &&& 255)) (B0 : Av Z h0 b .byte (bs.map Value.int)) (CI : Sta Z h0 "java/lang/CharacterDataLatin1" "instance" "Ljava/lang/CharacterDataLatin1;" (.ref cd)) (CX : Exa Z h0 cd "java/lang/CharacterDataLatin1") (CA : Sta Z h0 "java/lang/CharacterDataLatin1" "A" "[I" (.ref ca)) (CV : Av Z h0 ca .int (own_props.map Value.int)) : Ct l Z a0 own_EL false (⟨"java/lang/StringLatin1", "indexOfNonWhitespace", "([B)I"⟩ : MethodName) jdk_43_method_37_code 4 (Option.some Jvm.ClassFile.FieldType.int) ({ frames := 2, cells := 0, slots := 0, locals := 29 } : Room) #[(.ref b)] h0 [] n0 (fun v h so => ∃ i, i < bs.length ∧ v = some (.int (Int32.ofNat i)) ∧ h0 = h) := by
  refine Ct.body (plainFor_of_name pn2) ?_
  intro p e s m below meth c T W
  refine WP.cast (g' := (mkF m 0 #[.val (.ref b), .unset, .unset, .unset] [])) (by simp [entryFrame, mkF, argsToLocals, cat_i, cat_l, cat_r, cat_n]) ?_
  have hL : bs.length < 2147483648 := by have := B0.len; simpa using this
  have hjl : j < bs.length := (List.getElem?_eq_some_iff.mp hj).1
  refine k_aloadN W d_jdk_43_37_0 rfl rfl ?_
  refine k_arraylength W (z := (Int32.ofNat bs.length)) d_jdk_43_37_1 B0 (by first | (rw [List.length_map]; done) | (rw [List.length_map]; rfl)) ?_
  refine k_istoreN W d_jdk_43_37_2 (L' := #[.val (.ref b), .val (.int (Int32.ofNat bs.length)), .unset, .unset]) rfl ?_
  refine k_iconst W d_jdk_43_37_3 (z := (0 : Int32)) rfl ?_
  refine k_istoreN W d_jdk_43_37_4 (L' := #[.val (.ref b), .val (.int (Int32.ofNat bs.length)), .val (.int (0 : Int32)), .unset]) rfl ?_
  have loop : ∀ (k i : Nat) (T : State) (s3 : Slot), i + k = j → (s3 = .unset ∨ ∃ w, s3 = .val w ∧ w.category = 1) → WS p l e ({ frames := 2, cells := 0, slots := 0, locals := 29 } : Room) s m #[(.ref b)] below meth c Z a0 own_EL false n0 (⟨"java/lang/StringLatin1", "indexOfNonWhitespace", "([B)I"⟩ : MethodName) jdk_43_method_37_code 4 (Option.some Jvm.ClassFile.FieldType.int) T h0 [] 0 0 → WP p e below (Fne s n0 Z own_EL false ({ frames := 2, cells := 0, slots := 0, locals := 29 } : Room) (fun v h so => ∃ i, i < bs.length ∧ v = some (.int (Int32.ofNat i)) ∧ h0 = h)) T (mkF m 5 #[.val (.ref b), .val (.int (Int32.ofNat bs.length)), .val (.int (Int32.ofNat i)), s3] []) := by
    intro k
    induction k with
    | zero =>
      intro i T s3 hi h3 W
      have hil : i < bs.length := by omega
      obtain ⟨bi, hbi⟩ : ∃ c, bs[i]? = some c := ⟨_, List.getElem?_eq_getElem hil⟩
      obtain rfl : i = j := by omega
      obtain rfl : bj = bi := Option.some.inj (hj.symm.trans hbi)
      have hnb := hnw
      have hb : bj = bj := rfl
      have hn32 : ¬ bj &&& 255 = 32 := fun q => by rw [q] at hnb; exact absurd hnb (by unfold own_NW; decide)
      have hn9 : ¬ bj &&& 255 = 9 := fun q => by rw [q] at hnb; exact absurd hnb (by unfold own_NW; decide)
      refine k_iloadN W d_jdk_43_37_5 rfl ?_
      refine k_iloadN W d_jdk_43_37_6 rfl ?_
      refine k_icN W d_jdk_43_37_7 (show ¬ (¬ (Int32.ofNat i) < (Int32.ofNat bs.length)) from (fun q => q (of_lt hil hL))) ?_
      refine k_aloadN W d_jdk_43_37_10 rfl rfl ?_
      refine k_iloadN W d_jdk_43_37_11 rfl ?_
      refine k_callS W 0 0 0 (argsL := [(.ref b), (.int (Int32.ofNat i))]) (rest := []) d_jdk_43_37_12 (w93 hw) (w94 hw) (by decide) (lenOf pd7 rfl) (ct_gchar l Z a0 hw n0 h0 b bs i bj hj hL B0) (w95 hw) (w44 hw) (fun x hx => hx) rfl (Nat.le_of_eq rfl) (Nat.le_of_ble_eq_true rfl) (Nat.le_of_ble_eq_true rfl) ⟨rfl, Nat.le_of_ble_eq_true rfl⟩ ⟨rfl, Nat.le_of_ble_eq_true rfl⟩ rfl (fun _ _ q => nomatch q.1) fun T h31 v so W hQ => ?_
      obtain ⟨hv, rfl, -⟩ := hQ
      obtain rfl := Option.some.inj hv
      refine k_istoreN W d_jdk_43_37_15 (L' := #[.val (.ref b), .val (.int (Int32.ofNat bs.length)), .val (.int (Int32.ofNat i)), .val (.int (bj &&& (255 : Int32)))]) (XS.store1 rfl h3 rfl) ?_
      refine k_iloadN W d_jdk_43_37_16 rfl ?_
      refine k_bipush W d_jdk_43_37_17 (z := (32 : Int32)) rfl ?_
      refine k_icN W d_jdk_43_37_19 (show ¬ ((bj &&& (255 : Int32)) = (32 : Int32)) from hn32) ?_
      refine k_iloadN W d_jdk_43_37_22 rfl ?_
      refine k_bipush W d_jdk_43_37_23 (z := (9 : Int32)) rfl ?_
      refine k_icN W d_jdk_43_37_25 (show ¬ ((bj &&& (255 : Int32)) = (9 : Int32)) from hn9) ?_
      refine k_getS W d_jdk_43_37_28 (w96 hw) Via.refl CI fun T W => ?_
      refine k_iloadN W d_jdk_43_37_31 rfl ?_
      refine k_callV W 0 0 0 (argsL := [(.int (bj &&& (255 : Int32)))]) (rest := []) (a := cd) (C := "java/lang/CharacterDataLatin1") (z0 := (⟨"java/lang/CharacterDataLatin1", "isWhitespace", "(I)Z"⟩ : MethodName)) (z := (⟨"java/lang/CharacterDataLatin1", "isWhitespace", "(I)Z"⟩ : MethodName)) d_jdk_43_37_32 (w98 hw) (w99 hw) (nfSel (w101 hw)) (w101 hw) (w100 hw) (by decide) (lenOf pd8 rfl) CX (ct_isws l Z a0 hw n0 h0 cd ca (bj &&& (255 : Int32)) (Rg.and _ _ (by decide)) CI CX CA CV) (w102 hw) (w97 hw) (fun x hx => hx) rfl (Nat.le_of_eq rfl) (Nat.le_of_ble_eq_true rfl) (Nat.le_of_ble_eq_true rfl) ⟨rfl, Nat.le_of_ble_eq_true rfl⟩ ⟨rfl, Nat.le_of_ble_eq_true rfl⟩ rfl (fun _ _ q => by rcases q.1 with ⟨_, u⟩ | ⟨_, u⟩ <;> cases u) fun T h32 v so W hQ => ?_
      obtain ⟨hQ, rfl⟩ := hQ
      rcases hQ with ⟨hws, hv⟩ | ⟨hws, hv⟩
      · --
        exact absurd hws (own_nws hnb)
      · --
        obtain rfl := Option.some.inj hv
        refine k_ifN W d_jdk_43_37_35 (show ¬ (¬ (0 : Int32) = 0) by decide) ?_
        refine k_goto W 47 d_jdk_43_37_38 (by decide) ?_
        refine k_iloadN W d_jdk_43_37_47 rfl ?_
        exact k_ireturn W d_jdk_43_37_48 rfl [] (fun x hx => nomatch hx) (Nat.le_of_ble_eq_true rfl) (Nat.le_of_ble_eq_true rfl) ⟨i, hil, rfl, rfl⟩
    | succ k ih =>
      intro i T s3 hi h3 W
      have hil : i < bs.length := by omega
      obtain ⟨bi, hbi⟩ : ∃ c, bs[i]? = some c := ⟨_, List.getElem?_eq_getElem hil⟩
      refine k_iloadN W d_jdk_43_37_5 rfl ?_
      refine k_iloadN W d_jdk_43_37_6 rfl ?_
      refine k_icN W d_jdk_43_37_7 (show ¬ (¬ (Int32.ofNat i) < (Int32.ofNat bs.length)) from (fun q => q (of_lt hil hL))) ?_
      refine k_aloadN W d_jdk_43_37_10 rfl rfl ?_
      refine k_iloadN W d_jdk_43_37_11 rfl ?_
      refine k_callS W 0 0 0 (argsL := [(.ref b), (.int (Int32.ofNat i))]) (rest := []) d_jdk_43_37_12 (w93 hw) (w94 hw) (by decide) (lenOf pd7 rfl) (ct_gchar l Z a0 hw n0 h0 b bs i bi hbi hL B0) (w95 hw) (w44 hw) (fun x hx => hx) rfl (Nat.le_of_eq rfl) (Nat.le_of_ble_eq_true rfl) (Nat.le_of_ble_eq_true rfl) ⟨rfl, Nat.le_of_ble_eq_true rfl⟩ ⟨rfl, Nat.le_of_ble_eq_true rfl⟩ rfl (fun _ _ q => nomatch q.1) fun T h33 v so W hQ => ?_
      obtain ⟨hv, rfl, -⟩ := hQ
      obtain rfl := Option.some.inj hv
      refine k_istoreN W d_jdk_43_37_15 (L' := #[.val (.ref b), .val (.int (Int32.ofNat bs.length)), .val (.int (Int32.ofNat i)), .val (.int (bi &&& (255 : Int32)))]) (XS.store1 rfl h3 rfl) ?_
      refine k_iloadN W d_jdk_43_37_16 rfl ?_
      refine k_bipush W d_jdk_43_37_17 (z := (32 : Int32)) rfl ?_
      refine k_ic W 41 d_jdk_43_37_19 (by decide) (fun (hc34 : (bi &&& (255 : Int32)) = (32 : Int32)) => ?_) (fun (hc34 : ¬ ((bi &&& (255 : Int32)) = (32 : Int32))) => ?_)
      · -- pc 41
        refine k_iinc W d_jdk_43_37_41 rfl (z := (Int32.ofNat (i + 1))) (of_succ i) (L' := #[.val (.ref b), .val (.int (Int32.ofNat bs.length)), .val (.int (Int32.ofNat (i + 1))), .val (.int (bi &&& (255 : Int32)))]) rfl ?_
        refine k_goto W 5 d_jdk_43_37_44 (by decide) ?_
        exact ih (i + 1) T _ (by omega) (Or.inr ⟨_, rfl, rfl⟩) W
      · -- pc 22
        refine k_iloadN W d_jdk_43_37_22 rfl ?_
        refine k_bipush W d_jdk_43_37_23 (z := (9 : Int32)) rfl ?_
        refine k_ic W 41 d_jdk_43_37_25 (by decide) (fun (hc35 : (bi &&& (255 : Int32)) = (9 : Int32)) => ?_) (fun (hc35 : ¬ ((bi &&& (255 : Int32)) = (9 : Int32))) => ?_)
        · -- pc 41
          refine k_iinc W d_jdk_43_37_41 rfl (z := (Int32.ofNat (i + 1))) (of_succ i) (L' := #[.val (.ref b), .val (.int (Int32.ofNat bs.length)), .val (.int (Int32.ofNat (i + 1))), .val (.int (bi &&& (255 : Int32)))]) rfl ?_
          refine k_goto W 5 d_jdk_43_37_44 (by decide) ?_
          exact ih (i + 1) T _ (by omega) (Or.inr ⟨_, rfl, rfl⟩) W
        · -- pc 28
          refine k_getS W d_jdk_43_37_28 (w96 hw) Via.refl CI fun T W => ?_
          refine k_iloadN W d_jdk_43_37_31 rfl ?_
          refine k_callV W 0 0 0 (argsL := [(.int (bi &&& (255 : Int32)))]) (rest := []) (a := cd) (C := "java/lang/CharacterDataLatin1") (z0 := (⟨"java/lang/CharacterDataLatin1", "isWhitespace", "(I)Z"⟩ : MethodName)) (z := (⟨"java/lang/CharacterDataLatin1", "isWhitespace", "(I)Z"⟩ : MethodName)) d_jdk_43_37_32 (w98 hw) (w99 hw) (nfSel (w101 hw)) (w101 hw) (w100 hw) (by decide) (lenOf pd8 rfl) CX (ct_isws l Z a0 hw n0 h0 cd ca (bi &&& (255 : Int32)) (Rg.and _ _ (by decide)) CI CX CA CV) (w102 hw) (w97 hw) (fun x hx => hx) rfl (Nat.le_of_eq rfl) (Nat.le_of_ble_eq_true rfl) (Nat.le_of_ble_eq_true rfl) ⟨rfl, Nat.le_of_ble_eq_true rfl⟩ ⟨rfl, Nat.le_of_ble_eq_true rfl⟩ rfl (fun _ _ q => by rcases q.1 with ⟨_, u⟩ | ⟨_, u⟩ <;> cases u) fun T h36 v so W hQ => ?_
          obtain ⟨hQ, rfl⟩ := hQ
          rcases hQ with ⟨hws, hv⟩ | ⟨hws, hv⟩
          · --
            obtain rfl := Option.some.inj hv
            refine k_ifY W 41 d_jdk_43_37_35 (by decide) (show ¬ (1 : Int32) = 0 by decide) ?_
            refine k_iinc W d_jdk_43_37_41 rfl (z := (Int32.ofNat (i + 1))) (of_succ i) (L' := #[.val (.ref b), .val (.int (Int32.ofNat bs.length)), .val (.int (Int32.ofNat (i + 1))), .val (.int (bi &&& (255 : Int32)))]) rfl ?_
            refine k_goto W 5 d_jdk_43_37_44 (by decide) ?_
            exact ih (i + 1) T _ (by omega) (Or.inr ⟨_, rfl, rfl⟩) W
          · --
            obtain rfl := Option.some.inj hv
            refine k_ifN W d_jdk_43_37_35 (show ¬ (¬ (0 : Int32) = 0) by decide) ?_
            refine k_goto W 47 d_jdk_43_37_38 (by decide) ?_
            refine k_iloadN W d_jdk_43_37_47 rfl ?_
            exact k_ireturn W d_jdk_43_37_48 rfl [] (fun x hx => nomatch hx) (Nat.le_of_ble_eq_true rfl) (Nat.le_of_ble_eq_true rfl) ⟨i, hil, rfl, rfl⟩
  exact loop j 0 T .unset (by omega) (Or.inl rfl) W
set_option maxRecDepth 65536 in
set_option maxHeartbeats 40000000 in
theorem ct_snws (l : Launch) (Z : State) (a0 : Array Value) (hw : ∀ d ∈ tables_1, d.before a0 Z = true) (n0 : Nat) (h0 : Heap) (cd ca : Addr) (x b : Addr) (zc : Int32) (bs : List Int32) (j : Nat) (bj : Int32) (hj : bs[j]? = some bj) (hnw : own_NW (bj &&& 255)) (S0 : St Z h0 x b bs) (P0 : Sta Z h0 "java/lang/String" "COMPACT_STRINGS" "Z" (.int zc)) (hzc : zc ≠ 0) (CI : Sta Z h0 "java/lang/CharacterDataLatin1" "instance" "Ljava/lang/CharacterDataLatin1;" (.ref cd)) (CX : Exa Z h0 cd "java/lang/CharacterDataLatin1") (CA : Sta Z h0 "java/lang/CharacterDataLatin1" "A" "[I" (.ref ca)) (CV : Av Z h0 ca .int (own_props.map Value.int)) : Ct l Z a0 own_EL false (⟨"java/lang/String", "indexOfNonWhitespace", "()I"⟩ : MethodName) jdk_42_method_120_code 1 (Option.some Jvm.ClassFile.FieldType.int) ({ frames := 3, cells := 0, slots := 0, locals := 44 } : Room) #[(.ref x)] h0 [] n0 (fun v h so => ∃ i, i < bs.length ∧ v = some (.int (Int32.ofNat i)) ∧ h0 = h) := by
  refine Ct.body (plainFor_of_name pn1) ?_
  intro p e s m below meth c T W
  refine WP.cast (g' := (mkF m 0 #[.val (.ref x)] [])) (by simp [entryFrame, mkF, argsToLocals, cat_i, cat_l, cat_r, cat_n]) ?_
  refine k_aloadN W d_jdk_42_120_0 rfl rfl ?_
  refine k_callV W 0 0 0 (argsL := []) (rest := []) (a := x) (C := "java/lang/String") (z0 := (⟨"java/lang/String", "isLatin1", "()Z"⟩ : MethodName)) (z := (⟨"java/lang/String", "isLatin1", "()Z"⟩ : MethodName)) d_jdk_42_120_1 (w85 hw) (w86 hw) (nfSel (w88 hw)) (w88 hw) (w87 hw) (by decide) (lenOf pd9 rfl) S0.1 (ct_isL1 l Z a0 hw n0 h0 x b bs zc S0 P0 hzc) (w89 hw) (w8 hw) (fun x hx => hx) rfl (Nat.le_of_eq rfl) (Nat.le_of_ble_eq_true rfl) (Nat.le_of_ble_eq_true rfl) ⟨rfl, Nat.le_of_ble_eq_true rfl⟩ ⟨rfl, Nat.le_of_ble_eq_true rfl⟩ rfl (fun _ _ q => nomatch q.1) fun T h37 v so W hQ => ?_
  obtain ⟨hv, rfl, -⟩ := hQ
  obtain rfl := Option.some.inj hv
  refine k_ifN W d_jdk_42_120_4 (show ¬ ((1 : Int32) = 0) by decide) ?_
  refine k_aloadN W d_jdk_42_120_7 rfl rfl ?_
  refine k_getF W d_jdk_42_120_8 (host := "") (Or.inl (w34 hw)) Via.refl S0.2.2.1 fun T W => ?_
  refine k_callS W 0 0 0 (argsL := [(.ref b)]) (rest := []) d_jdk_42_120_11 (w90 hw) (w91 hw) (by decide) (lenOf pd10 rfl) (ct_lnws l Z a0 hw n0 h0 cd ca b bs j bj hj hnw S0.2.2.2 CI CX CA CV) (w92 hw) (w44 hw) (fun x hx => hx) rfl (Nat.le_of_eq rfl) (Nat.le_of_ble_eq_true rfl) (Nat.le_of_ble_eq_true rfl) ⟨rfl, Nat.le_of_ble_eq_true rfl⟩ ⟨rfl, Nat.le_of_ble_eq_true rfl⟩ rfl (fun _ _ ⟨_, _, q, _⟩ => nomatch q) fun T h38 v so W hQ => ?_
  obtain ⟨i, hi, hv, rfl⟩ := hQ
  obtain rfl := Option.some.inj hv
  refine k_goto W 24 d_jdk_42_120_14 (by decide) ?_
  exact k_ireturn W d_jdk_42_120_24 rfl [] (fun x hx => nomatch hx) (Nat.le_of_ble_eq_true rfl) (Nat.le_of_ble_eq_true rfl) ⟨i, hi, rfl, rfl⟩
set_option maxRecDepth 65536 in
set_option maxHeartbeats 40000000 in
theorem ct_blank (l : Launch) (Z : State) (a0 : Array Value) (hw : ∀ d ∈ tables_1, d.before a0 Z = true) (n0 : Nat) (h0 : Heap) (cd ca : Addr) (x b : Addr) (zc : Int32) (bs : List Int32) (j : Nat) (bj : Int32) (hj : bs[j]? = some bj) (hnw : own_NW (bj &&& 255)) (S0 : St Z h0 x b bs) (P0 : Sta Z h0 "java/lang/String" "COMPACT_STRINGS" "Z" (.int zc)) (hzc : zc ≠ 0) (CI : Sta Z h0 "java/lang/CharacterDataLatin1" "instance" "Ljava/lang/CharacterDataLatin1;" (.ref cd)) (CX : Exa Z h0 cd "java/lang/CharacterDataLatin1") (CA : Sta Z h0 "java/lang/CharacterDataLatin1" "A" "[I" (.ref ca)) (CV : Av Z h0 ca .int (own_props.map Value.int)) : Ct l Z a0 own_EL false (⟨"java/lang/String", "isBlank", "()Z"⟩ : MethodName) jdk_42_method_117_code 1 (Option.some Jvm.ClassFile.FieldType.boolean) ({ frames := 4, cells := 0, slots := 0, locals := 56 } : Room) #[(.ref x)] h0 [] n0 (fun v h so => v = some (.int (0 : Int32)) ∧ h0 = h ∧ so = []) := by
  refine Ct.body (plainFor_of_name pn1) ?_
  intro p e s m below meth c T W
  refine WP.cast (g' := (mkF m 0 #[.val (.ref x)] [])) (by simp [entryFrame, mkF, argsToLocals, cat_i, cat_l, cat_r, cat_n]) ?_
  have hL : bs.length < 2147483648 := by have := S0.2.2.2.len; simpa using this
  refine k_aloadN W d_jdk_42_117_0 rfl rfl ?_
  refine k_callP W 0 0 0 (argsL := []) (rest := []) (a := x) (C := "java/lang/String") d_jdk_42_117_1 (w80 hw) (w81 hw) (w83 hw) (w82 hw) (by decide) (lenOf pd11 rfl) S0.1 (ct_snws l Z a0 hw n0 h0 cd ca x b zc bs j bj hj hnw S0 P0 hzc CI CX CA CV) (w84 hw) (w8 hw) (fun x hx => hx) rfl (Nat.le_of_eq rfl) (Nat.le_of_ble_eq_true rfl) (Nat.le_of_ble_eq_true rfl) ⟨rfl, Nat.le_of_ble_eq_true rfl⟩ ⟨rfl, Nat.le_of_ble_eq_true rfl⟩ rfl (fun _ _ ⟨_, _, q, _⟩ => nomatch q) fun T h39 v so W hQ => ?_
  obtain ⟨i, hi, hv, rfl⟩ := hQ
  obtain rfl := Option.some.inj hv
  refine k_aloadN W d_jdk_42_117_4 rfl rfl ?_
  refine k_callV W 1 0 0 (argsL := []) (rest := [(.int (Int32.ofNat i))]) (a := x) (C := "java/lang/String") (z0 := (⟨"java/lang/String", "length", "()I"⟩ : MethodName)) (z := (⟨"java/lang/String", "length", "()I"⟩ : MethodName)) d_jdk_42_117_5 (w109 hw) (w110 hw) (nfSel (w112 hw)) (w112 hw) (w111 hw) (by decide) (lenOf pd11 rfl) S0.1 (ct_len l Z a0 hw n0 h0 x b bs zc S0 P0 hzc) (w113 hw) (w8 hw) (fun x hx => hx) rfl (Nat.le_of_eq rfl) (Nat.le_of_ble_eq_true rfl) (Nat.le_of_ble_eq_true rfl) ⟨rfl, Nat.le_of_ble_eq_true rfl⟩ ⟨rfl, Nat.le_of_ble_eq_true rfl⟩ rfl (fun _ _ q => nomatch q.1) fun T h40 v so W hQ => ?_
  obtain ⟨hv, rfl, -⟩ := hQ
  obtain rfl := Option.some.inj hv
  refine k_icY W 15 d_jdk_42_117_8 (by decide) (show ¬ (Int32.ofNat i) = (Int32.ofNat bs.length) from (fun q => by have := of_inj (by omega) hL q; omega)) ?_
  refine k_iconst W d_jdk_42_117_15 (z := (0 : Int32)) rfl ?_
  exact k_retN W (t := .boolean) (z' := (0 : Int32)) d_jdk_42_117_16 rfl (by simp) (by decide) [] (fun x hx => nomatch hx) (Nat.le_of_ble_eq_true rfl) (Nat.le_of_ble_eq_true rfl) ⟨rfl, rfl, rfl⟩
set_option maxRecDepth 65536 in
set_option maxHeartbeats 40000000 in
theorem ct_rnn (l : Launch) (Z : State) (a0 : Array Value) (hw : ∀ d ∈ tables_1, d.before a0 Z = true) (n0 : Nat) (h0 : Heap) (x q : Addr) : Ct l Z a0 own_EL false (⟨"java/util/Objects", "requireNonNull", "(Ljava/lang/Object;Ljava/lang/String;)Ljava/lang/Object;"⟩ : MethodName) jdk_31_method_11_code 2 (Option.some (Jvm.ClassFile.FieldType.object "java/lang/Object")) ({ frames := 0, cells := 0, slots := 0, locals := 0 } : Room) #[(.ref x), (.ref q)] h0 [] n0 (fun v h so => v = some (.ref x) ∧ h0 = h ∧ so = []) := by
  refine Ct.body (plainFor_of_name pn4) ?_
  intro p e s m below meth c T W
  refine WP.cast (g' := (mkF m 0 #[.val (.ref x), .val (.ref q)] [])) (by simp [entryFrame, mkF, argsToLocals, cat_i, cat_l, cat_r, cat_n]) ?_
  refine k_aloadN W d_jdk_31_11_0 rfl rfl ?_
  refine k_nnY W 13 d_jdk_31_11_1 (by decide) ?_
  refine k_aloadN W d_jdk_31_11_13 rfl rfl ?_
  exact k_areturn W d_jdk_31_11_14 rfl rfl rfl [] (fun x hx => nomatch hx) (Nat.le_of_ble_eq_true rfl) (Nat.le_of_ble_eq_true rfl) ⟨rfl, rfl, rfl⟩
def own_NB (bs : List Int32) : Prop := ∃ (j : Nat) (bj : Int32), bs[j]? = some bj ∧ own_NW (bj &&& 255)
theorem own_NB1 {c : Int32} {L : List Int32} (j : Nat) (q : Rg c 256) (h : own_NW c) (hj : L[j]? = some (i2b c)) : own_NB L := ⟨j, i2b c, hj, by rw [lo_i2b q]; exact h⟩
set_option maxRecDepth 65536 in
set_option maxHeartbeats 40000000 in
theorem ct_sbb (l : Launch) (Z : State) (a0 : Array Value) (hw : ∀ d ∈ tables_1, d.before a0 Z = true) (n0 : Nat) (h0 : Heap) (x b : Addr) (bs : List Int32) (v0 c0 : Value) (E0 : Exa Z h0 x "java/lang/String") (V0 : Fld Z h0 x "java/lang/String" "value" "[B" v0) (C0 : Fld Z h0 x "java/lang/String" "coder" "B" c0) (B0 : Av Z h0 b .byte (bs.map Value.int)) : Ct l Z a0 own_EL false (⟨"java/lang/String", "<init>", "([BB)V"⟩ : MethodName) jdk_42_method_151_code 3 (Option.none : Option Jvm.ClassFile.FieldType) ({ frames := 1, cells := 0, slots := 0, locals := 12 } : Room) #[(.ref x), (.ref b), (.int (0 : Int32))] h0 [x] n0 (fun v h so => v = none ∧ Keep h0 h [x] ∧ St Z h x b bs) := by
  refine Ct.body (plainFor_of_name pn1) ?_
  intro p e s m below meth c T W
  refine WP.cast (g' := (mkF m 0 #[.val (.ref x), .val (.ref b), .val (.int (0 : Int32))] [])) (by simp [entryFrame, mkF, argsToLocals, cat_i, cat_l, cat_r, cat_n]) ?_
  refine k_aloadN W d_jdk_42_151_0 rfl rfl ?_
  refine k_initO W 0 d_jdk_42_151_1 (w17 hw) (w18 hw) (w19 hw) rfl (Nat.le_of_eq rfl) (Nat.le_of_ble_eq_true rfl) (Nat.le_of_ble_eq_true rfl) fun T W => ?_
  refine k_aloadN W d_jdk_42_151_4 rfl rfl ?_
  refine k_aloadN W d_jdk_42_151_5 rfl rfl ?_
  refine k_putF W d_jdk_42_151_6 (w34 hw) Via.refl (v' := (.ref b)) (List.mem_of_getElem? (i := 0) rfl) V0 E0 (Or.inr ⟨(w35 hw), rfl, rfl⟩) (w7 hw) (ty := (.array .byte)) (by decide) rfl rfl fun T h41 W Wr41 => ?_
  have K41 : Keep h0 h41 [x] := Keep.of_wr Wr41
  refine k_aloadN W d_jdk_42_151_9 rfl rfl ?_
  refine k_iloadN W d_jdk_42_151_10 rfl ?_
  have f42 := (C0.other Wr41 (Or.inr (slot_ne (Or.inr (w33 hw)) (Or.inr (w35 hw)) (by decide) (t := .byte) (t' := (.array .byte)) (by decide) (by decide))))
  have f43 := (E0.keep K41)
  refine k_putF W d_jdk_42_151_11 (w32 hw) Via.refl (v' := (.int (0 : Int32))) (List.mem_of_getElem? (i := 0) rfl) f42 f43 (Or.inr ⟨(w33 hw), rfl, rfl⟩) (w7 hw) (ty := .byte) (by decide) (by decide) (by decide) fun T h44 W Wr44 => ?_
  have K44 : Keep h41 h44 [x] := Keep.of_wr Wr44
  have KK45 : Keep h0 h41 [x] := (Keep.refl h0 [x]).trans K41 (allS (Or.inl (List.mem_of_getElem? (i := 0) rfl)) all0)
  have KK46 : Keep h0 h44 [x] := KK45.trans K44 (allS (Or.inl (List.mem_of_getElem? (i := 0) rfl)) all0)
  have f47 := (f43.keep K44)
  have f48 := ((Fld.same Wr41 V0).other Wr44 (Or.inr (slot_ne (Or.inr (w35 hw)) (Or.inr (w33 hw)) (by decide) (t := (.array .byte)) (t' := .byte) (by decide) (by decide))))
  have ne49 : b ≠ x := (Ne.symm (ne_exav E0 (w7 hw) B0))
  have f50 := ((B0.keep K41 (ninS ne49 nin0)).keep K44 (ninS ne49 nin0))
  exact k_ret W d_jdk_42_151_14 rfl [] (fun x hx => nomatch hx) (Nat.le_of_ble_eq_true rfl) (Nat.le_of_ble_eq_true rfl) ⟨rfl, KK46, f47, (Fld.same Wr44 f42), f48, f50⟩
set_option maxRecDepth 65536 in
set_option maxHeartbeats 40000000 in
theorem ct_cencC (l : Launch) (Z : State) (a0 : Array Value) (hw : ∀ d ∈ tables_1, d.before a0 Z = true) (n0 : Nat) (h0 : Heap) (ch : Int32) (hr : Rg ch 256) : Ct l Z a0 own_EL false (⟨"java/lang/StringLatin1", "canEncode", "(C)Z"⟩ : MethodName) jdk_43_method_3_code 1 (Option.some Jvm.ClassFile.FieldType.boolean) ({ frames := 0, cells := 0, slots := 0, locals := 0 } : Room) #[(.int ch)] h0 [] n0 (fun v h so => v = some (.int (1 : Int32)) ∧ h0 = h ∧ so = []) := by
  refine Ct.body (plainFor_of_name pn2) ?_
  intro p e s m below meth c T W
  refine WP.cast (g' := (mkF m 0 #[.val (.int ch)] [])) (by simp [entryFrame, mkF, argsToLocals, cat_i, cat_l, cat_r, cat_n]) ?_
  refine k_iloadN W d_jdk_43_3_0 rfl ?_
  refine k_sipush W d_jdk_43_3_1 (z := (255 : Int32)) rfl ?_
  refine k_icN W d_jdk_43_3_4 (show ¬ ((255 : Int32) < ch) from (Rg.le255 hr)) ?_
  refine k_iconst W d_jdk_43_3_7 (z := (1 : Int32)) rfl ?_
  refine k_goto W 12 d_jdk_43_3_8 (by decide) ?_
  exact k_retN W (t := .boolean) (z' := (1 : Int32)) d_jdk_43_3_12 rfl (by simp) (by decide) [] (fun x hx => nomatch hx) (Nat.le_of_ble_eq_true rfl) (Nat.le_of_ble_eq_true rfl) ⟨rfl, rfl, rfl⟩
set_option maxRecDepth 65536 in
set_option maxHeartbeats 40000000 in
theorem ct_toB (l : Launch) (Z : State) (a0 : Array Value) (hw : ∀ d ∈ tables_1, d.before a0 Z = true) (n0 : Nat) (h0 : Heap) (ch : Int32) : Ct l Z a0 own_EL false (⟨"java/lang/StringLatin1", "toBytes", "(C)[B"⟩ : MethodName) jdk_43_method_46_code 1 (Option.some (Jvm.ClassFile.FieldType.array Jvm.ClassFile.FieldType.byte)) ({ frames := 0, cells := 1, slots := 1, locals := 0 } : Room) #[(.int ch)] h0 [] n0 (fun v h so => ∃ x, v = some (.ref x) ∧ h0.size ≤ x ∧ Keep h0 h [] ∧ Av Z h x .byte ([i2b ch].map Value.int)) := by
  refine Ct.body (plainFor_of_name pn2) ?_
  intro p e s m below meth c T W
  refine WP.cast (g' := (mkF m 0 #[.val (.int ch)] [])) (by simp [entryFrame, mkF, argsToLocals, cat_i, cat_l, cat_r, cat_n]) ?_
  refine k_iconst W d_jdk_43_46_0 (z := (1 : Int32)) rfl ?_
  refine k_newarrE W 1 1 1 "[B" (by decide) d_jdk_43_46_1 (w25 hw) (by decide) (by decide) ⟨rfl, Nat.le_of_ble_eq_true rfl⟩ ⟨rfl, Nat.le_of_ble_eq_true rfl⟩ fun T h51 a52 g52 W E52 A52 X52 => ?_
  have K52 : Keep h0 h51 [] := keep_ext E52 []
  have A52 : Av Z h51 a52 .byte [(.int (0 : Int32))] := A52
  refine k_dup W d_jdk_43_46_3 rfl ?_
  refine k_iconst W d_jdk_43_46_4 (z := (0 : Int32)) rfl ?_
  refine k_iloadN W d_jdk_43_46_5 rfl ?_
  refine k_i2b W d_jdk_43_46_6 (z := (i2b ch)) rfl ?_
  refine k_bastore W (z := (i2b ch)) 0 d_jdk_43_46_7 (List.mem_of_getElem? (i := 0) rfl) A52 (by decide) (Nat.le_of_ble_eq_true rfl) (nar_i2b _) (fits_i2b _) fun T h53 W Wr53 A53 => ?_
  have K53 : Keep h51 h53 [a52] := Keep.of_wr Wr53
  have A53 : Av Z h53 a52 .byte [(.int (i2b ch))] := A53
  have KK54 : Keep h0 h51 [] := (Keep.refl h0 []).trans K52 all0
  have KK55 : Keep h0 h53 [] := KK54.trans K53 (allS (Or.inr (Nat.le_of_eq g52.symm)) all0)
  exact k_areturn W d_jdk_43_46_8 rfl rfl rfl [] (fun x hx => nomatch hx) (Nat.le_of_ble_eq_true rfl) (Nat.le_of_ble_eq_true rfl) ⟨_, rfl, (Nat.le_of_eq g52.symm), KK55, A53⟩
set_option maxRecDepth 65536 in
set_option maxHeartbeats 40000000 in
theorem ct_vofC (l : Launch) (Z : State) (a0 : Array Value) (hw : ∀ d ∈ tables_1, d.before a0 Z = true) (n0 : Nat) (h0 : Heap) (ch zc : Int32) (hr : Rg ch 256) (P0 : Sta Z h0 "java/lang/String" "COMPACT_STRINGS" "Z" (.int zc)) (hzc : zc ≠ 0) : Ct l Z a0 own_EL false (⟨"java/lang/String", "valueOf", "(C)Ljava/lang/String;"⟩ : MethodName) jdk_42_method_139_code 1 (Option.some (Jvm.ClassFile.FieldType.object "java/lang/String")) ({ frames := 2, cells := 2, slots := 5, locals := 27 } : Room) #[(.int ch)] h0 [] n0 (fun v h so => ∃ x b, v = some (.ref x) ∧ h0.size ≤ x ∧ Keep h0 h [] ∧ St Z h x b [i2b ch]) := by
  refine Ct.body (plainFor_of_name pn1) ?_
  intro p e s m below meth c T W
  refine WP.cast (g' := (mkF m 0 #[.val (.int ch)] [])) (by simp [entryFrame, mkF, argsToLocals, cat_i, cat_l, cat_r, cat_n]) ?_
  refine k_getS W d_jdk_42_139_0 (w20 hw) Via.refl P0 fun T W => ?_
  refine k_ifN W d_jdk_42_139_3 (show ¬ (zc = 0) from hzc) ?_
  refine k_iloadN W d_jdk_42_139_6 rfl ?_
  refine k_callS W 0 0 0 (argsL := [(.int ch)]) (rest := []) d_jdk_42_139_7 (w42 hw) (w43 hw) (by decide) (lenOf pd12 rfl) (ct_cencC l Z a0 hw n0 h0 ch hr) (w45 hw) (w44 hw) (fun x hx => hx) rfl (Nat.le_of_eq rfl) (Nat.le_of_ble_eq_true rfl) (Nat.le_of_ble_eq_true rfl) ⟨rfl, Nat.le_of_ble_eq_true rfl⟩ ⟨rfl, Nat.le_of_ble_eq_true rfl⟩ rfl (fun _ _ q => nomatch q.1) fun T h56 v so W hQ => ?_
  obtain ⟨hv, rfl, -⟩ := hQ
  obtain rfl := Option.some.inj hv
  refine k_ifN W d_jdk_42_139_10 (show ¬ ((1 : Int32) = 0) by decide) ?_
  refine k_new W 1 4 d_jdk_42_139_13 (w46 hw) (w7 hw) (w8 hw) ⟨rfl, Nat.le_of_ble_eq_true rfl⟩ ⟨rfl, Nat.le_of_ble_eq_true rfl⟩ fun T h57 a58 g58 W E58 X58 D58 => ?_
  have K58 : Keep h0 h57 [] := keep_ext E58 []
  refine k_dup W d_jdk_42_139_16 rfl ?_
  refine k_iloadN W d_jdk_42_139_17 rfl ?_
  refine k_callS W 2 2 5 (argsL := [(.int ch)]) (rest := [(.ref a58), (.ref a58)]) d_jdk_42_139_18 (w47 hw) (w48 hw) (by decide) (lenOf pd13 rfl) (ct_toB l Z a0 hw n0 h57 ch) (w49 hw) (w44 hw) (fun x hx => nomatch hx) rfl (Nat.le_of_eq rfl) (Nat.le_of_ble_eq_true rfl) (Nat.le_of_ble_eq_true rfl) ⟨rfl, Nat.le_of_ble_eq_true rfl⟩ ⟨rfl, Nat.le_of_ble_eq_true rfl⟩ rfl (fun _ _ ⟨_, q, _⟩ => nomatch q) fun T h59 v so W hQ => ?_
  obtain ⟨x59, hv, g59, K59, A59⟩ := hQ
  obtain rfl := Option.some.inj hv
  refine k_iconst W d_jdk_42_139_21 (z := (0 : Int32)) rfl ?_
  have f60 := ((D58 (Or.inr (w35 hw)) (ty := (.array .byte)) (by decide)).keep K59 nin0)
  have f61 := ((D58 (Or.inr (w33 hw)) (ty := .byte) (by decide)).keep K59 nin0)
  have f63 := (X58.keep K59)
  refine k_callI0 W 1 2 5 (argsL := [(.ref x59), (.int (0 : Int32))]) (rest := [(.ref a58)]) (a := a58) d_jdk_42_139_22 rfl rfl (w50 hw) (w51 hw) (by decide) (lenOf pd14 rfl) (ct_sbb l Z a0 hw n0 h59 a58 x59 [i2b ch] .null (.int (0 : Int32)) f63 f60 f61 A59) (w52 hw) (w8 hw) (fun x hx => hx) rfl (Nat.le_of_eq rfl) (Nat.le_of_ble_eq_true rfl) (Nat.le_of_ble_eq_true rfl) ⟨rfl, Nat.le_of_ble_eq_true rfl⟩ ⟨rfl, Nat.le_of_ble_eq_true rfl⟩ rfl (fun _ _ _ q => nomatch q.1) fun T h62 so W hQ => ?_
  obtain ⟨-, K62, S62⟩ := hQ
  have KK64 : Keep h0 h57 [] := (Keep.refl h0 []).trans K58 all0
  have KK65 : Keep h0 h59 [] := KK64.trans K59 all0
  have KK66 : Keep h0 h62 [] := KK65.trans K62 (allS (Or.inr (Nat.le_of_eq g58.symm)) all0)
  exact k_areturn W d_jdk_42_139_25 rfl rfl rfl [] (fun x hx => nomatch hx) (Nat.le_of_ble_eq_true rfl) (Nat.le_of_ble_eq_true rfl) ⟨_, _, rfl, (Nat.le_of_eq g58.symm), KK66, S62⟩
set_option maxRecDepth 65536 in
set_option maxHeartbeats 40000000 in
theorem ct_rtext (l : Launch) (Z : State) (a0 : Array Value) (hw : ∀ d ∈ tables_1, d.before a0 Z = true) (n0 : Nat) (h0 : Heap) (cd ca x b q : Addr) (bs : List Int32) (zc : Int32) (nbx : own_NB bs) (S0 : St Z h0 x b bs) (P0 : Sta Z h0 "java/lang/String" "COMPACT_STRINGS" "Z" (.int zc)) (hzc : zc ≠ 0) (CI : Sta Z h0 "java/lang/CharacterDataLatin1" "instance" "Ljava/lang/CharacterDataLatin1;" (.ref cd)) (CX : Exa Z h0 cd "java/lang/CharacterDataLatin1") (CA : Sta Z h0 "java/lang/CharacterDataLatin1" "A" "[I" (.ref ca)) (CV : Av Z h0 ca .int (own_props.map Value.int)) : Ct l Z a0 own_EL false (⟨"com/example/kourier/kourier/outbox/OutboxEvent", "requireText", "(Ljava/lang/String;Ljava/lang/String;)Ljava/lang/String;"⟩ : MethodName) prog_10_method_12_code 2 (Option.some (Jvm.ClassFile.FieldType.object "java/lang/String")) ({ frames := 5, cells := 0, slots := 0, locals := 68 } : Room) #[(.ref x), (.ref q)] h0 [] n0 (fun v h so => v = some (.ref x) ∧ h0 = h ∧ so = []) := by
  refine Ct.body (plainFor_of_name pn5) ?_
  intro p e s m below meth c T W
  refine WP.cast (g' := (mkF m 0 #[.val (.ref x), .val (.ref q)] [])) (by simp [entryFrame, mkF, argsToLocals, cat_i, cat_l, cat_r, cat_n]) ?_
  obtain ⟨jx, ux, hjx, hwx⟩ := nbx
  refine k_aloadN W d_prog_10_12_0 rfl rfl ?_
  refine k_aloadN W d_prog_10_12_1 rfl rfl ?_
  refine k_callS W 0 0 0 (argsL := [(.ref x), (.ref q)]) (rest := []) d_prog_10_12_2 (w71 hw) (w72 hw) (by decide) (lenOf pd15 rfl) (ct_rnn l Z a0 hw n0 h0 x q) (w74 hw) (w73 hw) (fun x hx => hx) rfl (Nat.le_of_eq rfl) (Nat.le_of_ble_eq_true rfl) (Nat.le_of_ble_eq_true rfl) ⟨rfl, Nat.le_of_ble_eq_true rfl⟩ ⟨rfl, Nat.le_of_ble_eq_true rfl⟩ rfl (fun _ _ q => nomatch q.1) fun T h67 v so W hQ => ?_
  obtain ⟨hv, rfl, -⟩ := hQ
  obtain rfl := Option.some.inj hv
  refine k_pop W d_prog_10_12_5 rfl ?_
  refine k_aloadN W d_prog_10_12_6 rfl rfl ?_
  refine k_callV W 0 0 0 (argsL := []) (rest := []) (a := x) (C := "java/lang/String") (z0 := (⟨"java/lang/String", "isBlank", "()Z"⟩ : MethodName)) (z := (⟨"java/lang/String", "isBlank", "()Z"⟩ : MethodName)) d_prog_10_12_7 (w75 hw) (w76 hw) (nfSel (w78 hw)) (w78 hw) (w77 hw) (by decide) (lenOf pd9 rfl) S0.1 (ct_blank l Z a0 hw n0 h0 cd ca x b zc bs jx ux hjx hwx S0 P0 hzc CI CX CA CV) (w79 hw) (w8 hw) (fun x hx => hx) rfl (Nat.le_of_eq rfl) (Nat.le_of_ble_eq_true rfl) (Nat.le_of_ble_eq_true rfl) ⟨rfl, Nat.le_of_ble_eq_true rfl⟩ ⟨rfl, Nat.le_of_ble_eq_true rfl⟩ rfl (fun _ _ q => nomatch q.1) fun T h68 v so W hQ => ?_
  obtain ⟨hv, rfl, -⟩ := hQ
  obtain rfl := Option.some.inj hv
  refine k_ifY W 27 d_prog_10_12_10 (by decide) (show (0 : Int32) = 0 by decide) ?_
  refine k_aloadN W d_prog_10_12_27 rfl rfl ?_
  exact k_areturn W d_prog_10_12_28 rfl rfl rfl [] (fun x hx => nomatch hx) (Nat.le_of_ble_eq_true rfl) (Nat.le_of_ble_eq_true rfl) ⟨rfl, rfl, rfl⟩
set_option maxRecDepth 65536 in
set_option maxHeartbeats 40000000 in
theorem ct_oinit (l : Launch) (Z : State) (a0 : Array Value) (hw : ∀ d ∈ tables_1, d.before a0 Z = true) (n0 : Nat) (h0 : Heap) (x : Addr) (idv : Value) (hid : idv.isRef = true) (cd ca d bd k bk t bt pp : Addr) (ds ks ts ps : List Int32) (zc : Int32) (hp3 : ps.length ≤ 3) (nbd : own_NB ds) (nbk : own_NB ks) (nbt : own_NB ts) (E0 : Exa Z h0 x "com/example/kourier/kourier/outbox/OutboxEvent") (F0 : Fld Z h0 x "com/example/kourier/kourier/outbox/OutboxEvent" "id" "Ljava/lang/String;" .null) (F1 : Fld Z h0 x "com/example/kourier/kourier/outbox/OutboxEvent" "destination" "Ljava/lang/String;" .null) (F2 : Fld Z h0 x "com/example/kourier/kourier/outbox/OutboxEvent" "key" "Ljava/lang/String;" .null) (F3 : Fld Z h0 x "com/example/kourier/kourier/outbox/OutboxEvent" "type" "Ljava/lang/String;" .null) (F4 : Fld Z h0 x "com/example/kourier/kourier/outbox/OutboxEvent" "payload" "[B" .null) (Sd : St Z h0 d bd ds) (Sk : St Z h0 k bk ks) (St : St Z h0 t bt ts) (AP : Av Z h0 pp .byte (ps.map Value.int)) (XP : Exa Z h0 pp "[B") (P0 : Sta Z h0 "java/lang/String" "COMPACT_STRINGS" "Z" (.int zc)) (hzc : zc ≠ 0) (CI : Sta Z h0 "java/lang/CharacterDataLatin1" "instance" "Ljava/lang/CharacterDataLatin1;" (.ref cd)) (CX : Exa Z h0 cd "java/lang/CharacterDataLatin1") (CA : Sta Z h0 "java/lang/CharacterDataLatin1" "A" "[I" (.ref ca)) (CV : Av Z h0 ca .int (own_props.map Value.int)) : Ct l Z a0 own_EL false (⟨"com/example/kourier/kourier/outbox/OutboxEvent", "<init>", "(Ljava/lang/String;Ljava/lang/String;Ljava/lang/String;Ljava/lang/String;[B)V"⟩ : MethodName) prog_10_method_2_code 6 (Option.none : Option Jvm.ClassFile.FieldType) ({ frames := 6, cells := 9, slots := 119, locals := 82 } : Room) #[(.ref x), idv, (.ref d), (.ref k), (.ref t), (.ref pp)] h0 [x] n0 (fun v h so => v = none ∧ Keep h0 h [x] ∧ Fld Z h x "com/example/kourier/kourier/outbox/OutboxEvent" "id" "Ljava/lang/String;" idv ∧ Fld Z h x "com/example/kourier/kourier/outbox/OutboxEvent" "destination" "Ljava/lang/String;" (.ref d) ∧ Fld Z h x "com/example/kourier/kourier/outbox/OutboxEvent" "key" "Ljava/lang/String;" (.ref k) ∧ Fld Z h x "com/example/kourier/kourier/outbox/OutboxEvent" "type" "Ljava/lang/String;" (.ref t) ∧ ∃ q, h0.size ≤ q ∧ Fld Z h x "com/example/kourier/kourier/outbox/OutboxEvent" "payload" "[B" (.ref q) ∧ Av Z h q .byte (ps.map Value.int) ∧ Exa Z h q "[B") := by
  refine Ct.body (plainFor_of_name pn5) ?_
  intro p e s m below meth c T W
  refine WP.cast (g' := (mkF m 0 #[.val (.ref x), .val idv, .val (.ref d), .val (.ref k), .val (.ref t), .val (.ref pp)] [])) (by simp [entryFrame, mkF, argsToLocals, cat_i, cat_l, cat_r, cat_n, cat_ref hid]) ?_
  refine k_aloadN W d_prog_10_2_0 rfl rfl ?_
  refine k_initO W 0 d_prog_10_2_1 (w62 hw) (w18 hw) (w19 hw) rfl (Nat.le_of_eq rfl) (Nat.le_of_ble_eq_true rfl) (Nat.le_of_ble_eq_true rfl) fun T W => ?_
  refine k_aloadN W d_prog_10_2_4 rfl rfl ?_
  refine k_aloadN W d_prog_10_2_5 rfl hid ?_
  refine k_putF W d_prog_10_2_6 (w63 hw) Via.refl (v' := idv) (List.mem_of_getElem? (i := 0) rfl) F0 E0 (Or.inr ⟨(w64 hw), rfl, rfl⟩) (w54 hw) (ty := (.object "java/lang/String")) (by decide) (nar_refv hid rfl) (fits_refv hid rfl) fun T h69 W Wr69 => ?_
  have K69 : Keep h0 h69 [x] := Keep.of_wr Wr69
  refine k_aloadN W d_prog_10_2_9 rfl rfl ?_
  refine k_aloadN W d_prog_10_2_10 rfl rfl ?_
  refine k_ldcO W 44 2 48 rfl d_prog_10_2_11 (w65 hw) (wS hw) ⟨by decide, by decide⟩ ⟨rfl, Nat.le_of_ble_eq_true rfl⟩ ⟨rfl, Nat.le_of_ble_eq_true rfl⟩ fun T h70 a70 W E70 => ?_
  have K70 : Keep h69 h70 [] := keep_ext E70 []
  have ne71 : d ≠ x := (ne_exa ((Sd.1.keep K69).keep K70) ((E0.keep K69).keep K70) (by decide))
  have ne72 : bd ≠ x := (Ne.symm (ne_exav E0 (w54 hw) Sd.2.2.2))
  have f73 := ((Sd.keep K69 (ninS ne71 nin0) (ninS ne72 nin0)).keep K70 nin0 nin0)
  have f74 := (Sta.keep (Sta.keep P0 K69 (nsS (Exa.plain E0) ns0)) K70 ns0)
  have f75 := (Sta.keep (Sta.keep CI K69 (nsS (Exa.plain E0) ns0)) K70 ns0)
  have f76 := ((CX.keep K69).keep K70)
  have f77 := (Sta.keep (Sta.keep CA K69 (nsS (Exa.plain E0) ns0)) K70 ns0)
  have ne78 : ca ≠ x := (Ne.symm (ne_exav E0 (w54 hw) CV))
  have f79 := ((CV.keep K69 (ninS ne78 nin0)).keep K70 nin0)
  refine k_callS W 1 2 48 (argsL := [(.ref d), (.ref a70)]) (rest := [(.ref x)]) d_prog_10_2_13 (w68 hw) (w69 hw) (by decide) (lenOf pd16 rfl) (ct_rtext l Z a0 hw n0 h70 cd ca d bd a70 ds zc nbd f73 f74 hzc f75 f76 f77 f79) (w70 hw) (w55 hw) (fun x hx => nomatch hx) rfl (Nat.le_of_eq rfl) (Nat.le_of_ble_eq_true rfl) (Nat.le_of_ble_eq_true rfl) ⟨rfl, Nat.le_of_ble_eq_true rfl⟩ ⟨rfl, Nat.le_of_ble_eq_true rfl⟩ rfl (fun _ _ q => nomatch q.1) fun T h80 v so W hQ => ?_
  obtain ⟨hv, rfl, -⟩ := hQ
  obtain rfl := Option.some.inj hv
  have f81 := ((F1.other Wr69 (Or.inr (slot_ne (Or.inr (w120 hw)) (Or.inr (w64 hw)) (by decide) (t := (.object "java/lang/String")) (t' := (.object "java/lang/String")) (by decide) (by decide)))).keep K70 nin0)
  have f82 := ((E0.keep K69).keep K70)
  refine k_putF W d_prog_10_2_16 (w119 hw) Via.refl (v' := (.ref d)) (List.mem_of_getElem? (i := 0) rfl) f81 f82 (Or.inr ⟨(w120 hw), rfl, rfl⟩) (w54 hw) (ty := (.object "java/lang/String")) (by decide) rfl rfl fun T h83 W Wr83 => ?_
  have K83 : Keep h70 h83 [x] := Keep.of_wr Wr83
  refine k_aloadN W d_prog_10_2_19 rfl rfl ?_
  refine k_aloadN W d_prog_10_2_20 rfl rfl ?_
  refine k_ldcO W 12 4 64 rfl d_prog_10_2_21 (w121 hw) (wS hw) ⟨by decide, by decide⟩ ⟨rfl, Nat.le_of_ble_eq_true rfl⟩ ⟨rfl, Nat.le_of_ble_eq_true rfl⟩ fun T h84 a84 W E84 => ?_
  have K84 : Keep h83 h84 [] := keep_ext E84 []
  have ne85 : k ≠ x := (ne_exa ((((Sk.1.keep K69).keep K70).keep K83).keep K84) ((f82.keep K83).keep K84) (by decide))
  have ne86 : bk ≠ x := (Ne.symm (ne_exav E0 (w54 hw) Sk.2.2.2))
  have f87 := ((((Sk.keep K69 (ninS ne85 nin0) (ninS ne86 nin0)).keep K70 nin0 nin0).keep K83 (ninS ne85 nin0) (ninS ne86 nin0)).keep K84 nin0 nin0)
  have f88 := (Sta.keep (Sta.keep f74 K83 (nsS (Exa.plain f82) ns0)) K84 ns0)
  have f89 := (Sta.keep (Sta.keep f75 K83 (nsS (Exa.plain f82) ns0)) K84 ns0)
  have f90 := ((f76.keep K83).keep K84)
  have f91 := (Sta.keep (Sta.keep f77 K83 (nsS (Exa.plain f82) ns0)) K84 ns0)
  have f92 := ((f79.keep K83 (ninS ne78 nin0)).keep K84 nin0)
  refine k_callS W 1 4 64 (argsL := [(.ref k), (.ref a84)]) (rest := [(.ref x)]) d_prog_10_2_23 (w68 hw) (w69 hw) (by decide) (lenOf pd16 rfl) (ct_rtext l Z a0 hw n0 h84 cd ca k bk a84 ks zc nbk f87 f88 hzc f89 f90 f91 f92) (w70 hw) (w55 hw) (fun x hx => nomatch hx) rfl (Nat.le_of_eq rfl) (Nat.le_of_ble_eq_true rfl) (Nat.le_of_ble_eq_true rfl) ⟨rfl, Nat.le_of_ble_eq_true rfl⟩ ⟨rfl, Nat.le_of_ble_eq_true rfl⟩ rfl (fun _ _ q => nomatch q.1) fun T h93 v so W hQ => ?_
  obtain ⟨hv, rfl, -⟩ := hQ
  obtain rfl := Option.some.inj hv
  have f94 := ((((F2.other Wr69 (Or.inr (slot_ne (Or.inr (w123 hw)) (Or.inr (w64 hw)) (by decide) (t := (.object "java/lang/String")) (t' := (.object "java/lang/String")) (by decide) (by decide)))).keep K70 nin0).other Wr83 (Or.inr (slot_ne (Or.inr (w123 hw)) (Or.inr (w120 hw)) (by decide) (t := (.object "java/lang/String")) (t' := (.object "java/lang/String")) (by decide) (by decide)))).keep K84 nin0)
  have f95 := ((f82.keep K83).keep K84)
  refine k_putF W d_prog_10_2_26 (w122 hw) Via.refl (v' := (.ref k)) (List.mem_of_getElem? (i := 0) rfl) f94 f95 (Or.inr ⟨(w123 hw), rfl, rfl⟩) (w54 hw) (ty := (.object "java/lang/String")) (by decide) rfl rfl fun T h96 W Wr96 => ?_
  have K96 : Keep h84 h96 [x] := Keep.of_wr Wr96
  refine k_aloadN W d_prog_10_2_29 rfl rfl ?_
  refine k_aload W d_prog_10_2_30 rfl rfl ?_
  refine k_ldcO W 16 6 84 rfl d_prog_10_2_32 (w124 hw) (wS hw) ⟨by decide, by decide⟩ ⟨rfl, Nat.le_of_ble_eq_true rfl⟩ ⟨rfl, Nat.le_of_ble_eq_true rfl⟩ fun T h97 a97 W E97 => ?_
  have K97 : Keep h96 h97 [] := keep_ext E97 []
  have ne98 : t ≠ x := (ne_exa ((((((St.1.keep K69).keep K70).keep K83).keep K84).keep K96).keep K97) ((f95.keep K96).keep K97) (by decide))
  have ne99 : bt ≠ x := (Ne.symm (ne_exav E0 (w54 hw) St.2.2.2))
  have f100 := ((((((St.keep K69 (ninS ne98 nin0) (ninS ne99 nin0)).keep K70 nin0 nin0).keep K83 (ninS ne98 nin0) (ninS ne99 nin0)).keep K84 nin0 nin0).keep K96 (ninS ne98 nin0) (ninS ne99 nin0)).keep K97 nin0 nin0)
  have f101 := (Sta.keep (Sta.keep f88 K96 (nsS (Exa.plain f95) ns0)) K97 ns0)
  have f102 := (Sta.keep (Sta.keep f89 K96 (nsS (Exa.plain f95) ns0)) K97 ns0)
  have f103 := ((f90.keep K96).keep K97)
  have f104 := (Sta.keep (Sta.keep f91 K96 (nsS (Exa.plain f95) ns0)) K97 ns0)
  have f105 := ((f92.keep K96 (ninS ne78 nin0)).keep K97 nin0)
  refine k_callS W 1 6 84 (argsL := [(.ref t), (.ref a97)]) (rest := [(.ref x)]) d_prog_10_2_34 (w68 hw) (w69 hw) (by decide) (lenOf pd16 rfl) (ct_rtext l Z a0 hw n0 h97 cd ca t bt a97 ts zc nbt f100 f101 hzc f102 f103 f104 f105) (w70 hw) (w55 hw) (fun x hx => nomatch hx) rfl (Nat.le_of_eq rfl) (Nat.le_of_ble_eq_true rfl) (Nat.le_of_ble_eq_true rfl) ⟨rfl, Nat.le_of_ble_eq_true rfl⟩ ⟨rfl, Nat.le_of_ble_eq_true rfl⟩ rfl (fun _ _ q => nomatch q.1) fun T h106 v so W hQ => ?_
  obtain ⟨hv, rfl, -⟩ := hQ
  obtain rfl := Option.some.inj hv
  have f107 := ((((((F3.other Wr69 (Or.inr (slot_ne (Or.inr (w126 hw)) (Or.inr (w64 hw)) (by decide) (t := (.object "java/lang/String")) (t' := (.object "java/lang/String")) (by decide) (by decide)))).keep K70 nin0).other Wr83 (Or.inr (slot_ne (Or.inr (w126 hw)) (Or.inr (w120 hw)) (by decide) (t := (.object "java/lang/String")) (t' := (.object "java/lang/String")) (by decide) (by decide)))).keep K84 nin0).other Wr96 (Or.inr (slot_ne (Or.inr (w126 hw)) (Or.inr (w123 hw)) (by decide) (t := (.object "java/lang/String")) (t' := (.object "java/lang/String")) (by decide) (by decide)))).keep K97 nin0)
  have f108 := ((f95.keep K96).keep K97)
  refine k_putF W d_prog_10_2_37 (w125 hw) Via.refl (v' := (.ref t)) (List.mem_of_getElem? (i := 0) rfl) f107 f108 (Or.inr ⟨(w126 hw), rfl, rfl⟩) (w54 hw) (ty := (.object "java/lang/String")) (by decide) rfl rfl fun T h109 W Wr109 => ?_
  have K109 : Keep h97 h109 [x] := Keep.of_wr Wr109
  refine k_aloadN W d_prog_10_2_40 rfl rfl ?_
  refine k_aload W d_prog_10_2_41 rfl rfl ?_
  refine k_ldcO W 28 8 116 rfl d_prog_10_2_43 (w127 hw) (wS hw) ⟨by decide, by decide⟩ ⟨rfl, Nat.le_of_ble_eq_true rfl⟩ ⟨rfl, Nat.le_of_ble_eq_true rfl⟩ fun T h110 a110 W E110 => ?_
  have K110 : Keep h109 h110 [] := keep_ext E110 []
  refine k_callS W 1 8 116 (argsL := [(.ref pp), (.ref a110)]) (rest := [(.ref x)]) d_prog_10_2_45 (w71 hw) (w72 hw) (by decide) (lenOf pd15 rfl) (ct_rnn l Z a0 hw n0 h110 pp a110) (w74 hw) (w73 hw) (fun x hx => nomatch hx) rfl (Nat.le_of_eq rfl) (Nat.le_of_ble_eq_true rfl) (Nat.le_of_ble_eq_true rfl) ⟨rfl, Nat.le_of_ble_eq_true rfl⟩ ⟨rfl, Nat.le_of_ble_eq_true rfl⟩ rfl (fun _ _ q => nomatch q.1) fun T h111 v so W hQ => ?_
  obtain ⟨hv, rfl, -⟩ := hQ
  obtain rfl := Option.some.inj hv
  have f112 := ((((((((XP.keep K69).keep K70).keep K83).keep K84).keep K96).keep K97).keep K109).keep K110)
  refine k_cast W d_prog_10_2_48 (w128 hw) (Ins.self f112) fun T W => ?_
  have ne113 : pp ≠ x := (Ne.symm (ne_exav E0 (w54 hw) AP))
  have f114 := ((((((((AP.keep K69 (ninS ne113 nin0)).keep K70 nin0).keep K83 (ninS ne113 nin0)).keep K84 nin0).keep K96 (ninS ne113 nin0)).keep K97 nin0).keep K109 (ninS ne113 nin0)).keep K110 nin0)
  refine k_clone W 1 3 9 119 d_prog_10_2_51 (w130 hw) (w131 hw) (w135 hw) (w133 hw) (w134 hw) (w136 hw) f114 f112 (by rw [List.length_map]; exact hp3) rfl (Nat.le_of_eq rfl) (Nat.le_of_ble_eq_true rfl) (Nat.le_of_ble_eq_true rfl) ⟨rfl, Nat.le_of_ble_eq_true rfl⟩ ⟨rfl, Nat.le_of_ble_eq_true rfl⟩ fun T h115 a116 g116 W E116 A116 X116 => ?_
  have K116 : Keep h110 h115 [] := keep_ext E116 []
  refine k_cast W d_prog_10_2_54 (w128 hw) (Ins.self X116) fun T W => ?_
  have f117 := (((((((((F4.other Wr69 (Or.inr (slot_ne (Or.inr (w138 hw)) (Or.inr (w64 hw)) (by decide) (t := (.array .byte)) (t' := (.object "java/lang/String")) (by decide) (by decide)))).keep K70 nin0).other Wr83 (Or.inr (slot_ne (Or.inr (w138 hw)) (Or.inr (w120 hw)) (by decide) (t := (.array .byte)) (t' := (.object "java/lang/String")) (by decide) (by decide)))).keep K84 nin0).other Wr96 (Or.inr (slot_ne (Or.inr (w138 hw)) (Or.inr (w123 hw)) (by decide) (t := (.array .byte)) (t' := (.object "java/lang/String")) (by decide) (by decide)))).keep K97 nin0).other Wr109 (Or.inr (slot_ne (Or.inr (w138 hw)) (Or.inr (w126 hw)) (by decide) (t := (.array .byte)) (t' := (.object "java/lang/String")) (by decide) (by decide)))).keep K110 nin0).keep K116 nin0)
  have f118 := (((f108.keep K109).keep K110).keep K116)
  refine k_putF W d_prog_10_2_57 (w137 hw) Via.refl (v' := (.ref a116)) (List.mem_of_getElem? (i := 1) rfl) f117 f118 (Or.inr ⟨(w138 hw), rfl, rfl⟩) (w54 hw) (ty := (.array .byte)) (by decide) rfl rfl fun T h119 W Wr119 => ?_
  have K119 : Keep h115 h119 [x] := Keep.of_wr Wr119
  have KK120 : Keep h0 h69 [x] := (Keep.refl h0 [x]).trans K69 (allS (Or.inl (List.mem_of_getElem? (i := 0) rfl)) all0)
  have KK121 : Keep h0 h70 [x] := KK120.trans K70 all0
  have KK122 : Keep h0 h83 [x] := KK121.trans K83 (allS (Or.inl (List.mem_of_getElem? (i := 0) rfl)) all0)
  have KK123 : Keep h0 h84 [x] := KK122.trans K84 all0
  have KK124 : Keep h0 h96 [x] := KK123.trans K96 (allS (Or.inl (List.mem_of_getElem? (i := 0) rfl)) all0)
  have KK125 : Keep h0 h97 [x] := KK124.trans K97 all0
  have KK126 : Keep h0 h109 [x] := KK125.trans K109 (allS (Or.inl (List.mem_of_getElem? (i := 0) rfl)) all0)
  have KK127 : Keep h0 h110 [x] := KK126.trans K110 all0
  have KK128 : Keep h0 h115 [x] := KK127.trans K116 all0
  have KK129 : Keep h0 h119 [x] := KK128.trans K119 (allS (Or.inl (List.mem_of_getElem? (i := 0) rfl)) all0)
  have f130 := ((((((((((Fld.same Wr69 F0).keep K70 nin0).other Wr83 (Or.inr (slot_ne (Or.inr (w64 hw)) (Or.inr (w120 hw)) (by decide) (t := (.object "java/lang/String")) (t' := (.object "java/lang/String")) (by decide) (by decide)))).keep K84 nin0).other Wr96 (Or.inr (slot_ne (Or.inr (w64 hw)) (Or.inr (w123 hw)) (by decide) (t := (.object "java/lang/String")) (t' := (.object "java/lang/String")) (by decide) (by decide)))).keep K97 nin0).other Wr109 (Or.inr (slot_ne (Or.inr (w64 hw)) (Or.inr (w126 hw)) (by decide) (t := (.object "java/lang/String")) (t' := (.object "java/lang/String")) (by decide) (by decide)))).keep K110 nin0).keep K116 nin0).other Wr119 (Or.inr (slot_ne (Or.inr (w64 hw)) (Or.inr (w138 hw)) (by decide) (t := (.object "java/lang/String")) (t' := (.array .byte)) (by decide) (by decide))))
  have f131 := ((((((((Fld.same Wr83 f81).keep K84 nin0).other Wr96 (Or.inr (slot_ne (Or.inr (w120 hw)) (Or.inr (w123 hw)) (by decide) (t := (.object "java/lang/String")) (t' := (.object "java/lang/String")) (by decide) (by decide)))).keep K97 nin0).other Wr109 (Or.inr (slot_ne (Or.inr (w120 hw)) (Or.inr (w126 hw)) (by decide) (t := (.object "java/lang/String")) (t' := (.object "java/lang/String")) (by decide) (by decide)))).keep K110 nin0).keep K116 nin0).other Wr119 (Or.inr (slot_ne (Or.inr (w120 hw)) (Or.inr (w138 hw)) (by decide) (t := (.object "java/lang/String")) (t' := (.array .byte)) (by decide) (by decide))))
  have f132 := ((((((Fld.same Wr96 f94).keep K97 nin0).other Wr109 (Or.inr (slot_ne (Or.inr (w123 hw)) (Or.inr (w126 hw)) (by decide) (t := (.object "java/lang/String")) (t' := (.object "java/lang/String")) (by decide) (by decide)))).keep K110 nin0).keep K116 nin0).other Wr119 (Or.inr (slot_ne (Or.inr (w123 hw)) (Or.inr (w138 hw)) (by decide) (t := (.object "java/lang/String")) (t' := (.array .byte)) (by decide) (by decide))))
  have f133 := ((((Fld.same Wr109 f107).keep K110 nin0).keep K116 nin0).other Wr119 (Or.inr (slot_ne (Or.inr (w126 hw)) (Or.inr (w138 hw)) (by decide) (t := (.object "java/lang/String")) (t' := (.array .byte)) (by decide) (by decide))))
  have ne134 : a116 ≠ x := (Ne.symm (Nat.ne_of_lt (Nat.lt_of_lt_of_le (Nat.lt_of_lt_of_le (Fld.same Wr109 f107).lt E110.1) (Nat.le_of_eq g116.symm))))
  have f135 := (A116.keep K119 (ninS ne134 nin0))
  have f136 := (X116.keep K119)
  exact k_ret W d_prog_10_2_60 rfl [] (fun x hx => nomatch hx) (Nat.le_of_ble_eq_true rfl) (Nat.le_of_ble_eq_true rfl) ⟨rfl, KK129, f130, f131, f132, f133, _, (Nat.le_trans (Nat.le_trans (Nat.le_trans (Nat.le_trans (Nat.le_trans (Nat.le_trans (Nat.le_trans (Nat.le_trans K69.1 E70.1) K83.1) E84.1) K96.1) E97.1) K109.1) E110.1) (Nat.le_of_eq g116.symm)), (Fld.same Wr119 f117), f135, f136⟩
set_option maxRecDepth 65536 in
set_option maxHeartbeats 40000000 in
theorem ct_oinit4 (l : Launch) (Z : State) (a0 : Array Value) (hw : ∀ d ∈ tables_1, d.before a0 Z = true) (n0 : Nat) (h0 : Heap) (x : Addr) (cd ca d bd k bk t bt pp : Addr) (ds ks ts ps : List Int32) (zc : Int32) (hp3 : ps.length ≤ 3) (nbd : own_NB ds) (nbk : own_NB ks) (nbt : own_NB ts) (E0 : Exa Z h0 x "com/example/kourier/kourier/outbox/OutboxEvent") (F0 : Fld Z h0 x "com/example/kourier/kourier/outbox/OutboxEvent" "id" "Ljava/lang/String;" .null) (F1 : Fld Z h0 x "com/example/kourier/kourier/outbox/OutboxEvent" "destination" "Ljava/lang/String;" .null) (F2 : Fld Z h0 x "com/example/kourier/kourier/outbox/OutboxEvent" "key" "Ljava/lang/String;" .null) (F3 : Fld Z h0 x "com/example/kourier/kourier/outbox/OutboxEvent" "type" "Ljava/lang/String;" .null) (F4 : Fld Z h0 x "com/example/kourier/kourier/outbox/OutboxEvent" "payload" "[B" .null) (Sd : St Z h0 d bd ds) (Sk : St Z h0 k bk ks) (St : St Z h0 t bt ts) (AP : Av Z h0 pp .byte (ps.map Value.int)) (XP : Exa Z h0 pp "[B") (P0 : Sta Z h0 "java/lang/String" "COMPACT_STRINGS" "Z" (.int zc)) (hzc : zc ≠ 0) (CI : Sta Z h0 "java/lang/CharacterDataLatin1" "instance" "Ljava/lang/CharacterDataLatin1;" (.ref cd)) (CX : Exa Z h0 cd "java/lang/CharacterDataLatin1") (CA : Sta Z h0 "java/lang/CharacterDataLatin1" "A" "[I" (.ref ca)) (CV : Av Z h0 ca .int (own_props.map Value.int)) : Ct l Z a0 own_EL false (⟨"com/example/kourier/kourier/outbox/OutboxEvent", "<init>", "(Ljava/lang/String;Ljava/lang/String;Ljava/lang/String;[B)V"⟩ : MethodName) prog_10_method_1_code 5 (Option.none : Option Jvm.ClassFile.FieldType) ({ frames := 7, cells := 9, slots := 119, locals := 99 } : Room) #[(.ref x), (.ref d), (.ref k), (.ref t), (.ref pp)] h0 [x] n0 (fun v h so => v = none ∧ Keep h0 h [x] ∧ Fld Z h x "com/example/kourier/kourier/outbox/OutboxEvent" "id" "Ljava/lang/String;" .null ∧ Fld Z h x "com/example/kourier/kourier/outbox/OutboxEvent" "destination" "Ljava/lang/String;" (.ref d) ∧ Fld Z h x "com/example/kourier/kourier/outbox/OutboxEvent" "key" "Ljava/lang/String;" (.ref k) ∧ Fld Z h x "com/example/kourier/kourier/outbox/OutboxEvent" "type" "Ljava/lang/String;" (.ref t) ∧ ∃ q, h0.size ≤ q ∧ Fld Z h x "com/example/kourier/kourier/outbox/OutboxEvent" "payload" "[B" (.ref q) ∧ Av Z h q .byte (ps.map Value.int) ∧ Exa Z h q "[B") := by
  refine Ct.body (plainFor_of_name pn5) ?_
  intro p e s m below meth c T W
  refine WP.cast (g' := (mkF m 0 #[.val (.ref x), .val (.ref d), .val (.ref k), .val (.ref t), .val (.ref pp)] [])) (by simp [entryFrame, mkF, argsToLocals, cat_i, cat_l, cat_r, cat_n]) ?_
  refine k_aloadN W d_prog_10_1_0 rfl rfl ?_
  refine k_aconst W d_prog_10_1_1 ?_
  refine k_aloadN W d_prog_10_1_2 rfl rfl ?_
  refine k_aloadN W d_prog_10_1_3 rfl rfl ?_
  refine k_aloadN W d_prog_10_1_4 rfl rfl ?_
  refine k_aload W d_prog_10_1_5 rfl rfl ?_
  refine k_callI0 W 0 9 119 (argsL := [.null, (.ref d), (.ref k), (.ref t), (.ref pp)]) (rest := []) (a := x) d_prog_10_1_7 rfl rfl (w59 hw) (w60 hw) (by decide) (lenOf pd17 rfl) (ct_oinit l Z a0 hw n0 h0 x .null rfl cd ca d bd k bk t bt pp ds ks ts ps zc hp3 nbd nbk nbt E0 F0 F1 F2 F3 F4 Sd Sk St AP XP P0 hzc CI CX CA CV) (w61 hw) (w55 hw) (fun x hx => hx) rfl (Nat.le_of_eq rfl) (Nat.le_of_ble_eq_true rfl) (Nat.le_of_ble_eq_true rfl) ⟨rfl, Nat.le_of_ble_eq_true rfl⟩ ⟨rfl, Nat.le_of_ble_eq_true rfl⟩ rfl (fun _ _ _ q => nomatch q.1) fun T h137 so W hQ => ?_
  obtain ⟨-, K137, F0_137, F1_137, F2_137, F3_137, q137, gq137, FP_137, AQ137, XQ137⟩ := hQ
  have KK138 : Keep h0 h137 [x] := (Keep.refl h0 [x]).trans K137 (allS (Or.inl (List.mem_of_getElem? (i := 0) rfl)) all0)
  exact k_ret W d_prog_10_1_10 rfl [] (fun x hx => nomatch hx) (Nat.le_of_ble_eq_true rfl) (Nat.le_of_ble_eq_true rfl) ⟨rfl, KK138, F0_137, F1_137, F2_137, F3_137, _, gq137, FP_137, AQ137, XQ137⟩
set_option maxRecDepth 65536 in
set_option maxHeartbeats 40000000 in
theorem ct_with (l : Launch) (Z : State) (a0 : Array Value) (hw : ∀ d ∈ tables_1, d.before a0 Z = true) (n0 : Nat) (h0 : Heap) (y s_ bs_ : Addr) (ss : List Int32) (idv : Value) (hid : idv.isRef = true) (nbs_ : own_NB ss) (cd ca d bd k bk t bt pp : Addr) (ds ks ts ps : List Int32) (zc : Int32) (hp3 : ps.length ≤ 3) (nbd : own_NB ds) (nbk : own_NB ks) (nbt : own_NB ts) (Ey : Exa Z h0 y "com/example/kourier/kourier/outbox/OutboxEvent") (F0y : Fld Z h0 y "com/example/kourier/kourier/outbox/OutboxEvent" "id" "Ljava/lang/String;" idv) (F1y : Fld Z h0 y "com/example/kourier/kourier/outbox/OutboxEvent" "destination" "Ljava/lang/String;" (.ref d)) (F2y : Fld Z h0 y "com/example/kourier/kourier/outbox/OutboxEvent" "key" "Ljava/lang/String;" (.ref k)) (F3y : Fld Z h0 y "com/example/kourier/kourier/outbox/OutboxEvent" "type" "Ljava/lang/String;" (.ref t)) (F4y : Fld Z h0 y "com/example/kourier/kourier/outbox/OutboxEvent" "payload" "[B" (.ref pp)) (SS : St Z h0 s_ bs_ ss) (Sd : St Z h0 d bd ds) (Sk : St Z h0 k bk ks) (St : St Z h0 t bt ts) (AP : Av Z h0 pp .byte (ps.map Value.int)) (XP : Exa Z h0 pp "[B") (P0 : Sta Z h0 "java/lang/String" "COMPACT_STRINGS" "Z" (.int zc)) (hzc : zc ≠ 0) (CI : Sta Z h0 "java/lang/CharacterDataLatin1" "instance" "Ljava/lang/CharacterDataLatin1;" (.ref cd)) (CX : Exa Z h0 cd "java/lang/CharacterDataLatin1") (CA : Sta Z h0 "java/lang/CharacterDataLatin1" "A" "[I" (.ref ca)) (CV : Av Z h0 ca .int (own_props.map Value.int)) : Ct l Z a0 own_EL false (⟨"com/example/kourier/kourier/outbox/OutboxEvent", "withId", "(Ljava/lang/String;)Lcom/example/kourier/kourier/outbox/OutboxEvent;"⟩ : MethodName) prog_10_method_3_code 2 (Option.some (Jvm.ClassFile.FieldType.object "com/example/kourier/kourier/outbox/OutboxEvent")) ({ frames := 7, cells := 12, slots := 136, locals := 100 } : Room) #[(.ref y), (.ref s_)] h0 [] n0 (fun v h so => ∃ x, v = some (.ref x) ∧ h0.size ≤ x ∧ Keep h0 h [] ∧ Exa Z h x "com/example/kourier/kourier/outbox/OutboxEvent" ∧ Fld Z h x "com/example/kourier/kourier/outbox/OutboxEvent" "id" "Ljava/lang/String;" (.ref s_) ∧ Fld Z h x "com/example/kourier/kourier/outbox/OutboxEvent" "destination" "Ljava/lang/String;" (.ref d) ∧ Fld Z h x "com/example/kourier/kourier/outbox/OutboxEvent" "key" "Ljava/lang/String;" (.ref k) ∧ Fld Z h x "com/example/kourier/kourier/outbox/OutboxEvent" "type" "Ljava/lang/String;" (.ref t) ∧ ∃ q, h0.size ≤ q ∧ Fld Z h x "com/example/kourier/kourier/outbox/OutboxEvent" "payload" "[B" (.ref q) ∧ Av Z h q .byte (ps.map Value.int) ∧ Exa Z h q "[B") := by
  refine Ct.body (plainFor_of_name pn5) ?_
  intro p e s m below meth c T W
  refine WP.cast (g' := (mkF m 0 #[.val (.ref y), .val (.ref s_)] [])) (by simp [entryFrame, mkF, argsToLocals, cat_i, cat_l, cat_r, cat_n]) ?_
  refine k_new W 1 5 d_prog_10_3_0 (w144 hw) (w54 hw) (w55 hw) ⟨rfl, Nat.le_of_ble_eq_true rfl⟩ ⟨rfl, Nat.le_of_ble_eq_true rfl⟩ fun T h139 a140 g140 W E140 X140 D140 => ?_
  have K140 : Keep h0 h139 [] := keep_ext E140 []
  refine k_dup W d_prog_10_3_3 rfl ?_
  refine k_aloadN W d_prog_10_3_4 rfl rfl ?_
  refine k_ldcO W 8 3 17 rfl d_prog_10_3_5 (w145 hw) (wS hw) ⟨by decide, by decide⟩ ⟨rfl, Nat.le_of_ble_eq_true rfl⟩ ⟨rfl, Nat.le_of_ble_eq_true rfl⟩ fun T h141 a141 W E141 => ?_
  have K141 : Keep h139 h141 [] := keep_ext E141 []
  have f142 := ((SS.keep K140 nin0 nin0).keep K141 nin0 nin0)
  have f143 := (Sta.keep (Sta.keep P0 K140 ns0) K141 ns0)
  have f144 := (Sta.keep (Sta.keep CI K140 ns0) K141 ns0)
  have f145 := ((CX.keep K140).keep K141)
  have f146 := (Sta.keep (Sta.keep CA K140 ns0) K141 ns0)
  have f147 := ((CV.keep K140 nin0).keep K141 nin0)
  refine k_callS W 2 3 17 (argsL := [(.ref s_), (.ref a141)]) (rest := [(.ref a140), (.ref a140)]) d_prog_10_3_7 (w68 hw) (w69 hw) (by decide) (lenOf pd16 rfl) (ct_rtext l Z a0 hw n0 h141 cd ca s_ bs_ a141 ss zc nbs_ f142 f143 hzc f144 f145 f146 f147) (w70 hw) (w55 hw) (fun x hx => nomatch hx) rfl (Nat.le_of_eq rfl) (Nat.le_of_ble_eq_true rfl) (Nat.le_of_ble_eq_true rfl) ⟨rfl, Nat.le_of_ble_eq_true rfl⟩ ⟨rfl, Nat.le_of_ble_eq_true rfl⟩ rfl (fun _ _ q => nomatch q.1) fun T h148 v so W hQ => ?_
  obtain ⟨hv, rfl, -⟩ := hQ
  obtain rfl := Option.some.inj hv
  refine k_aloadN W d_prog_10_3_10 rfl rfl ?_
  have f149 := ((F1y.keep K140 nin0).keep K141 nin0)
  refine k_getF W d_prog_10_3_11 (host := "") (Or.inl (w119 hw)) Via.refl f149 fun T W => ?_
  refine k_aloadN W d_prog_10_3_14 rfl rfl ?_
  have f150 := ((F2y.keep K140 nin0).keep K141 nin0)
  refine k_getF W d_prog_10_3_15 (host := "") (Or.inl (w122 hw)) Via.refl f150 fun T W => ?_
  refine k_aloadN W d_prog_10_3_18 rfl rfl ?_
  have f151 := ((F3y.keep K140 nin0).keep K141 nin0)
  refine k_getF W d_prog_10_3_19 (host := "") (Or.inl (w125 hw)) Via.refl f151 fun T W => ?_
  refine k_aloadN W d_prog_10_3_22 rfl rfl ?_
  have f152 := ((F4y.keep K140 nin0).keep K141 nin0)
  refine k_getF W d_prog_10_3_23 (host := "") (Or.inl (w137 hw)) Via.refl f152 fun T W => ?_
  have f153 := ((Sd.keep K140 nin0 nin0).keep K141 nin0 nin0)
  have f154 := ((Sk.keep K140 nin0 nin0).keep K141 nin0 nin0)
  have f155 := ((St.keep K140 nin0 nin0).keep K141 nin0 nin0)
  have f156 := ((AP.keep K140 nin0).keep K141 nin0)
  have f157 := ((XP.keep K140).keep K141)
  have f159 := (X140.keep K141)
  have f160 := ((D140 (Or.inr (w64 hw)) (ty := (.object "java/lang/String")) (by decide)).keep K141 nin0)
  have f161 := ((D140 (Or.inr (w120 hw)) (ty := (.object "java/lang/String")) (by decide)).keep K141 nin0)
  have f162 := ((D140 (Or.inr (w123 hw)) (ty := (.object "java/lang/String")) (by decide)).keep K141 nin0)
  have f163 := ((D140 (Or.inr (w126 hw)) (ty := (.object "java/lang/String")) (by decide)).keep K141 nin0)
  have f164 := ((D140 (Or.inr (w138 hw)) (ty := (.array .byte)) (by decide)).keep K141 nin0)
  refine k_callI0 W 1 12 136 (argsL := [(.ref s_), (.ref d), (.ref k), (.ref t), (.ref pp)]) (rest := [(.ref a140)]) (a := a140) d_prog_10_3_26 rfl rfl (w59 hw) (w60 hw) (by decide) (lenOf pd17 rfl) (ct_oinit l Z a0 hw n0 h141 a140 (.ref s_) rfl cd ca d bd k bk t bt pp ds ks ts ps zc hp3 nbd nbk nbt f159 f160 f161 f162 f163 f164 f153 f154 f155 f156 f157 f143 hzc f144 f145 f146 f147) (w61 hw) (w55 hw) (fun x hx => hx) rfl (Nat.le_of_eq rfl) (Nat.le_of_ble_eq_true rfl) (Nat.le_of_ble_eq_true rfl) ⟨rfl, Nat.le_of_ble_eq_true rfl⟩ ⟨rfl, Nat.le_of_ble_eq_true rfl⟩ rfl (fun _ _ _ q => nomatch q.1) fun T h158 so W hQ => ?_
  obtain ⟨-, K158, F0_158, F1_158, F2_158, F3_158, q158, gq158, FP_158, AQ158, XQ158⟩ := hQ
  have KK165 : Keep h0 h139 [] := (Keep.refl h0 []).trans K140 all0
  have KK166 : Keep h0 h141 [] := KK165.trans K141 all0
  have KK167 : Keep h0 h158 [] := KK166.trans K158 (allS (Or.inr (Nat.le_of_eq g140.symm)) all0)
  have f168 := (f159.keep K158)
  exact k_areturn W d_prog_10_3_29 rfl rfl rfl [] (fun x hx => nomatch hx) (Nat.le_of_ble_eq_true rfl) (Nat.le_of_ble_eq_true rfl) ⟨_, rfl, (Nat.le_of_eq g140.symm), KK167, f168, F0_158, F1_158, F2_158, F3_158, _, (Nat.le_trans (Nat.le_trans E140.1 E141.1) gq158), FP_158, AQ158, XQ158⟩
set_option maxRecDepth 65536 in
set_option maxHeartbeats 40000000 in
theorem ct_destination (l : Launch) (Z : State) (a0 : Array Value) (hw : ∀ d ∈ tables_1, d.before a0 Z = true) (n0 : Nat) (h0 : Heap) (x q : Addr) (F0 : Fld Z h0 x "com/example/kourier/kourier/outbox/OutboxEvent" "destination" "Ljava/lang/String;" (.ref q)) : Ct l Z a0 own_EL false (⟨"com/example/kourier/kourier/outbox/OutboxEvent", "destination", "()Ljava/lang/String;"⟩ : MethodName) prog_10_method_5_code 1 (Option.some (Jvm.ClassFile.FieldType.object "java/lang/String")) ({ frames := 0, cells := 0, slots := 0, locals := 0 } : Room) #[(.ref x)] h0 [] n0 (fun v h so => v = some (.ref q) ∧ h0 = h ∧ so = []) := by
  refine Ct.body (plainFor_of_name pn5) ?_
  intro p e s m below meth c T W
  refine WP.cast (g' := (mkF m 0 #[.val (.ref x)] [])) (by simp [entryFrame, mkF, argsToLocals, cat_i, cat_l, cat_r, cat_n]) ?_
  refine k_aloadN W d_prog_10_5_0 rfl rfl ?_
  refine k_getF W d_prog_10_5_1 (host := "") (Or.inl (w119 hw)) Via.refl F0 fun T W => ?_
  exact k_areturn W d_prog_10_5_4 rfl rfl rfl [] (fun x hx => nomatch hx) (Nat.le_of_ble_eq_true rfl) (Nat.le_of_ble_eq_true rfl) ⟨rfl, rfl, rfl⟩
set_option maxRecDepth 65536 in
set_option maxHeartbeats 40000000 in
theorem ct_key (l : Launch) (Z : State) (a0 : Array Value) (hw : ∀ d ∈ tables_1, d.before a0 Z = true) (n0 : Nat) (h0 : Heap) (x q : Addr) (F0 : Fld Z h0 x "com/example/kourier/kourier/outbox/OutboxEvent" "key" "Ljava/lang/String;" (.ref q)) : Ct l Z a0 own_EL false (⟨"com/example/kourier/kourier/outbox/OutboxEvent", "key", "()Ljava/lang/String;"⟩ : MethodName) prog_10_method_6_code 1 (Option.some (Jvm.ClassFile.FieldType.object "java/lang/String")) ({ frames := 0, cells := 0, slots := 0, locals := 0 } : Room) #[(.ref x)] h0 [] n0 (fun v h so => v = some (.ref q) ∧ h0 = h ∧ so = []) := by
  refine Ct.body (plainFor_of_name pn5) ?_
  intro p e s m below meth c T W
  refine WP.cast (g' := (mkF m 0 #[.val (.ref x)] [])) (by simp [entryFrame, mkF, argsToLocals, cat_i, cat_l, cat_r, cat_n]) ?_
  refine k_aloadN W d_prog_10_6_0 rfl rfl ?_
  refine k_getF W d_prog_10_6_1 (host := "") (Or.inl (w122 hw)) Via.refl F0 fun T W => ?_
  exact k_areturn W d_prog_10_6_4 rfl rfl rfl [] (fun x hx => nomatch hx) (Nat.le_of_ble_eq_true rfl) (Nat.le_of_ble_eq_true rfl) ⟨rfl, rfl, rfl⟩
set_option maxRecDepth 65536 in
set_option maxHeartbeats 40000000 in
theorem ct_type (l : Launch) (Z : State) (a0 : Array Value) (hw : ∀ d ∈ tables_1, d.before a0 Z = true) (n0 : Nat) (h0 : Heap) (x q : Addr) (F0 : Fld Z h0 x "com/example/kourier/kourier/outbox/OutboxEvent" "type" "Ljava/lang/String;" (.ref q)) : Ct l Z a0 own_EL false (⟨"com/example/kourier/kourier/outbox/OutboxEvent", "type", "()Ljava/lang/String;"⟩ : MethodName) prog_10_method_7_code 1 (Option.some (Jvm.ClassFile.FieldType.object "java/lang/String")) ({ frames := 0, cells := 0, slots := 0, locals := 0 } : Room) #[(.ref x)] h0 [] n0 (fun v h so => v = some (.ref q) ∧ h0 = h ∧ so = []) := by
  refine Ct.body (plainFor_of_name pn5) ?_
  intro p e s m below meth c T W
  refine WP.cast (g' := (mkF m 0 #[.val (.ref x)] [])) (by simp [entryFrame, mkF, argsToLocals, cat_i, cat_l, cat_r, cat_n]) ?_
  refine k_aloadN W d_prog_10_7_0 rfl rfl ?_
  refine k_getF W d_prog_10_7_1 (host := "") (Or.inl (w125 hw)) Via.refl F0 fun T W => ?_
  exact k_areturn W d_prog_10_7_4 rfl rfl rfl [] (fun x hx => nomatch hx) (Nat.le_of_ble_eq_true rfl) (Nat.le_of_ble_eq_true rfl) ⟨rfl, rfl, rfl⟩
set_option maxRecDepth 65536 in
set_option maxHeartbeats 40000000 in
theorem ct_payload (l : Launch) (Z : State) (a0 : Array Value) (hw : ∀ d ∈ tables_1, d.before a0 Z = true) (n0 : Nat) (h0 : Heap) (x q : Addr) (ps : List Int32) (hp3 : ps.length ≤ 3) (F0 : Fld Z h0 x "com/example/kourier/kourier/outbox/OutboxEvent" "payload" "[B" (.ref q)) (AP : Av Z h0 q .byte (ps.map Value.int)) (XP : Exa Z h0 q "[B") : Ct l Z a0 own_EL false (⟨"com/example/kourier/kourier/outbox/OutboxEvent", "payload", "()[B"⟩ : MethodName) prog_10_method_8_code 1 (Option.some (Jvm.ClassFile.FieldType.array Jvm.ClassFile.FieldType.byte)) ({ frames := 1, cells := 1, slots := 3, locals := 14 } : Room) #[(.ref x)] h0 [] n0 (fun v h so => ∃ z, v = some (.ref z) ∧ h0.size ≤ z ∧ Keep h0 h [] ∧ Av Z h z .byte (ps.map Value.int)) := by
  refine Ct.body (plainFor_of_name pn5) ?_
  intro p e s m below meth c T W
  refine WP.cast (g' := (mkF m 0 #[.val (.ref x)] [])) (by simp [entryFrame, mkF, argsToLocals, cat_i, cat_l, cat_r, cat_n]) ?_
  refine k_aloadN W d_prog_10_8_0 rfl rfl ?_
  refine k_getF W d_prog_10_8_1 (host := "") (Or.inl (w137 hw)) Via.refl F0 fun T W => ?_
  refine k_clone W 0 3 1 3 d_prog_10_8_4 (w130 hw) (w131 hw) (w135 hw) (w133 hw) (w134 hw) (w136 hw) AP XP (by rw [List.length_map]; exact hp3) rfl (Nat.le_of_eq rfl) (Nat.le_of_ble_eq_true rfl) (Nat.le_of_ble_eq_true rfl) ⟨rfl, Nat.le_of_ble_eq_true rfl⟩ ⟨rfl, Nat.le_of_ble_eq_true rfl⟩ fun T h169 a170 g170 W E170 A170 X170 => ?_
  have K170 : Keep h0 h169 [] := keep_ext E170 []
  refine k_cast W d_prog_10_8_7 (w128 hw) (Ins.self X170) fun T W => ?_
  have KK171 : Keep h0 h169 [] := (Keep.refl h0 []).trans K170 all0
  exact k_areturn W d_prog_10_8_10 rfl rfl rfl [] (fun x hx => nomatch hx) (Nat.le_of_ble_eq_true rfl) (Nat.le_of_ble_eq_true rfl) ⟨_, rfl, (Nat.le_of_eq g170.symm), KK171, A170⟩
set_option maxRecDepth 65536 in
set_option maxHeartbeats 40000000 in
theorem ct_obI (l : Launch) (Z : State) (a0 : Array Value) (hw : ∀ d ∈ tables_1, d.before a0 Z = true) (n0 : Nat) (h0 : Heap) (x : Addr) : Ct l Z a0 own_EL false (⟨"java/util/Objects", "equals", "(Ljava/lang/Object;Ljava/lang/Object;)Z"⟩ : MethodName) jdk_31_method_2_code 2 (Option.some Jvm.ClassFile.FieldType.boolean) ({ frames := 0, cells := 0, slots := 0, locals := 0 } : Room) #[(.ref x), (.ref x)] h0 [] n0 (fun v h so => v = some (.int (1 : Int32)) ∧ h0 = h ∧ so = []) := by
  refine Ct.body (plainFor_of_name pn4) ?_
  intro p e s m below meth c T W
  refine WP.cast (g' := (mkF m 0 #[.val (.ref x), .val (.ref x)] [])) (by simp [entryFrame, mkF, argsToLocals, cat_i, cat_l, cat_r, cat_n]) ?_
  refine k_aloadN W d_jdk_31_2_0 rfl rfl ?_
  refine k_aloadN W d_jdk_31_2_1 rfl rfl ?_
  refine k_acY W 17 d_jdk_31_2_2 rfl rfl (by decide) rfl ?_
  refine k_iconst W d_jdk_31_2_17 (z := (1 : Int32)) rfl ?_
  refine k_goto W 22 d_jdk_31_2_18 (by decide) ?_
  exact k_retN W (t := .boolean) (z' := (1 : Int32)) d_jdk_31_2_22 rfl (by simp) (by decide) [] (fun x hx => nomatch hx) (Nat.le_of_ble_eq_true rfl) (Nat.le_of_ble_eq_true rfl) ⟨rfl, rfl, rfl⟩
set_option maxRecDepth 65536 in
set_option maxHeartbeats 40000000 in
theorem ct_obZ (l : Launch) (Z : State) (a0 : Array Value) (hw : ∀ d ∈ tables_1, d.before a0 Z = true) (n0 : Nat) (h0 : Heap) (x : Addr) (E0 : Exa Z h0 x "java/lang/String") : Ct l Z a0 own_EL false (⟨"java/util/Objects", "equals", "(Ljava/lang/Object;Ljava/lang/Object;)Z"⟩ : MethodName) jdk_31_method_2_code 2 (Option.some Jvm.ClassFile.FieldType.boolean) ({ frames := 1, cells := 0, slots := 0, locals := 14 } : Room) #[(.ref x), .null] h0 [] n0 (fun v h so => v = some (.int (0 : Int32)) ∧ h0 = h ∧ so = []) := by
  refine Ct.body (plainFor_of_name pn4) ?_
  intro p e s m below meth c T W
  refine WP.cast (g' := (mkF m 0 #[.val (.ref x), .val .null] [])) (by simp [entryFrame, mkF, argsToLocals, cat_i, cat_l, cat_r, cat_n]) ?_
  refine k_aloadN W d_jdk_31_2_0 rfl rfl ?_
  refine k_aloadN W d_jdk_31_2_1 rfl rfl ?_
  refine k_acN W d_jdk_31_2_2 rfl rfl (by decide) (fun q => nomatch q) ?_
  refine k_aloadN W d_jdk_31_2_5 rfl rfl ?_
  refine k_nullN W d_jdk_31_2_6 ?_
  refine k_aloadN W d_jdk_31_2_9 rfl rfl ?_
  refine k_aloadN W d_jdk_31_2_10 rfl rfl ?_
  refine k_callV W 0 0 0 (argsL := [.null]) (rest := []) (a := x) (C := "java/lang/String") (z0 := (⟨"java/lang/Object", "equals", "(Ljava/lang/Object;)Z"⟩ : MethodName)) (z := (⟨"java/lang/String", "equals", "(Ljava/lang/Object;)Z"⟩ : MethodName)) d_jdk_31_2_11 (w160 hw) (w161 hw) (nfSel2 (w154 hw) rfl) (w163 hw) (w164 hw) (by decide) (lenOf pd18 rfl) E0 (ct_seqN l Z a0 hw n0 h0 x) (w165 hw) (w8 hw) (fun x hx => hx) rfl (Nat.le_of_eq rfl) (Nat.le_of_ble_eq_true rfl) (Nat.le_of_ble_eq_true rfl) ⟨rfl, Nat.le_of_ble_eq_true rfl⟩ ⟨rfl, Nat.le_of_ble_eq_true rfl⟩ rfl (fun _ _ q => nomatch q.1) fun T h172 v so W hQ => ?_
  obtain ⟨hv, rfl, -⟩ := hQ
  obtain rfl := Option.some.inj hv
  refine k_ifY W 21 d_jdk_31_2_14 (by decide) (show (0 : Int32) = 0 by decide) ?_
  refine k_iconst W d_jdk_31_2_21 (z := (0 : Int32)) rfl ?_
  exact k_retN W (t := .boolean) (z' := (0 : Int32)) d_jdk_31_2_22 rfl (by simp) (by decide) [] (fun x hx => nomatch hx) (Nat.le_of_ble_eq_true rfl) (Nat.le_of_ble_eq_true rfl) ⟨rfl, rfl, rfl⟩
set_option maxRecDepth 65536 in
set_option maxHeartbeats 40000000 in
theorem ct_obS (l : Launch) (Z : State) (a0 : Array Value) (hw : ∀ d ∈ tables_1, d.before a0 Z = true) (n0 : Nat) (h0 : Heap) (x a y b : Addr) (as bs : List Int32) (zc : Int32) (hne : x ≠ y) (S0 : St Z h0 x a as) (S1 : St Z h0 y b bs) (P0 : Sta Z h0 "java/lang/String" "COMPACT_STRINGS" "Z" (.int zc)) (hzc : zc ≠ 0) : Ct l Z a0 own_EL false (⟨"java/util/Objects", "equals", "(Ljava/lang/Object;Ljava/lang/Object;)Z"⟩ : MethodName) jdk_31_method_2_code 2 (Option.some Jvm.ClassFile.FieldType.boolean) ({ frames := 2, cells := 0, slots := 0, locals := 28 } : Room) #[(.ref x), (.ref y)] h0 [] n0 (fun v h so => ((as = bs ∧ v = some (.int (1 : Int32))) ∨ (as ≠ bs ∧ v = some (.int (0 : Int32)))) ∧ h0 = h) := by
  refine Ct.body (plainFor_of_name pn4) ?_
  intro p e s m below meth c T W
  refine WP.cast (g' := (mkF m 0 #[.val (.ref x), .val (.ref y)] [])) (by simp [entryFrame, mkF, argsToLocals, cat_i, cat_l, cat_r, cat_n]) ?_
  refine k_aloadN W d_jdk_31_2_0 rfl rfl ?_
  refine k_aloadN W d_jdk_31_2_1 rfl rfl ?_
  refine k_acN W d_jdk_31_2_2 rfl rfl (by decide) (fun q => hne (Value.ref.inj q)) ?_
  refine k_aloadN W d_jdk_31_2_5 rfl rfl ?_
  refine k_nullN W d_jdk_31_2_6 ?_
  refine k_aloadN W d_jdk_31_2_9 rfl rfl ?_
  refine k_aloadN W d_jdk_31_2_10 rfl rfl ?_
  refine k_callV W 0 0 0 (argsL := [(.ref y)]) (rest := []) (a := x) (C := "java/lang/String") (z0 := (⟨"java/lang/Object", "equals", "(Ljava/lang/Object;)Z"⟩ : MethodName)) (z := (⟨"java/lang/String", "equals", "(Ljava/lang/Object;)Z"⟩ : MethodName)) d_jdk_31_2_11 (w160 hw) (w161 hw) (nfSel2 (w154 hw) rfl) (w163 hw) (w164 hw) (by decide) (lenOf pd18 rfl) S0.1 (ct_seq l Z a0 hw n0 h0 x a y b as bs zc hne S0 S1 P0 hzc) (w165 hw) (w8 hw) (fun x hx => hx) rfl (Nat.le_of_eq rfl) (Nat.le_of_ble_eq_true rfl) (Nat.le_of_ble_eq_true rfl) ⟨rfl, Nat.le_of_ble_eq_true rfl⟩ ⟨rfl, Nat.le_of_ble_eq_true rfl⟩ rfl (fun _ _ q => by rcases q.1 with ⟨_, u⟩ | ⟨_, u⟩ <;> cases u) fun T h174 v so W hQ => ?_
  obtain ⟨hQ, rfl⟩ := hQ
  rcases hQ with ⟨heq173, hv⟩ | ⟨heq173, hv⟩
  · --
    obtain rfl := Option.some.inj hv
    refine k_ifN W d_jdk_31_2_14 (show ¬ ((1 : Int32) = 0) by decide) ?_
    refine k_iconst W d_jdk_31_2_17 (z := (1 : Int32)) rfl ?_
    refine k_goto W 22 d_jdk_31_2_18 (by decide) ?_
    exact k_retN W (t := .boolean) (z' := (1 : Int32)) d_jdk_31_2_22 rfl (by simp) (by decide) [] (fun x hx => nomatch hx) (Nat.le_of_ble_eq_true rfl) (Nat.le_of_ble_eq_true rfl) ⟨Or.inl ⟨heq173, rfl⟩, rfl⟩
  · --
    obtain rfl := Option.some.inj hv
    refine k_ifY W 21 d_jdk_31_2_14 (by decide) (show (0 : Int32) = 0 by decide) ?_
    refine k_iconst W d_jdk_31_2_21 (z := (0 : Int32)) rfl ?_
    exact k_retN W (t := .boolean) (z' := (0 : Int32)) d_jdk_31_2_22 rfl (by simp) (by decide) [] (fun x hx => nomatch hx) (Nat.le_of_ble_eq_true rfl) (Nat.le_of_ble_eq_true rfl) ⟨Or.inr ⟨heq173, rfl⟩, rfl⟩
set_option maxRecDepth 65536 in
set_option maxHeartbeats 40000000 in
theorem ct_mis3 (l : Launch) (Z : State) (a0 : Array Value) (hw : ∀ d ∈ tables_1, d.before a0 Z = true) (n0 : Nat) (h0 : Heap) (a b : Addr) (ps : List Int32) (hp3 : ps.length ≤ 3) (A0 : Av Z h0 a .byte (ps.map Value.int)) (B0 : Av Z h0 b .byte (ps.map Value.int)) : Ct l Z a0 own_EL false (⟨"jdk/internal/util/ArraysSupport", "mismatch", "([B[BI)I"⟩ : MethodName) jdk_48_method_13_code 4 (Option.some Jvm.ClassFile.FieldType.int) ({ frames := 0, cells := 0, slots := 0, locals := 0 } : Room) #[(.ref a), (.ref b), (.int (Int32.ofNat ps.length))] h0 [] n0 (fun v h so => v = some (.int (-1 : Int32)) ∧ h0 = h ∧ so = []) := by
  refine Ct.body (plainFor_of_name pn6) ?_
  intro p e s m below meth c T W
  refine WP.cast (g' := (mkF m 0 #[.val (.ref a), .val (.ref b), .val (.int (Int32.ofNat ps.length)), .unset] [])) (by simp [entryFrame, mkF, argsToLocals, cat_i, cat_l, cat_r, cat_n]) ?_
  refine k_iconst W d_jdk_48_13_0 (z := (0 : Int32)) rfl ?_
  refine k_istoreN W d_jdk_48_13_1 (L' := #[.val (.ref a), .val (.ref b), .val (.int (Int32.ofNat ps.length)), .val (.int (0 : Int32))]) rfl ?_
  refine k_iloadN W d_jdk_48_13_2 rfl ?_
  refine k_bipush W d_jdk_48_13_3 (z := (7 : Int32)) rfl ?_
  refine k_icY W 49 d_jdk_48_13_5 (by decide) (show ¬ (7 : Int32) < (Int32.ofNat ps.length) from (le7 (by omega))) ?_
  have loop : ∀ (k i : Nat) (T : State), i + k = ps.length → WS p l e ({ frames := 0, cells := 0, slots := 0, locals := 0 } : Room) s m #[(.ref a), (.ref b), (.int (Int32.ofNat ps.length))] below meth c Z a0 own_EL false n0 (⟨"jdk/internal/util/ArraysSupport", "mismatch", "([B[BI)I"⟩ : MethodName) jdk_48_method_13_code 4 (Option.some Jvm.ClassFile.FieldType.int) T h0 [] 0 0 → WP p e below (Fne s n0 Z own_EL false ({ frames := 0, cells := 0, slots := 0, locals := 0 } : Room) (fun v h so => v = some (.int (-1 : Int32)) ∧ h0 = h ∧ so = [])) T (mkF m 49 #[.val (.ref a), .val (.ref b), .val (.int (Int32.ofNat ps.length)), .val (.int (Int32.ofNat i))] []) := by
    intro k
    induction k with
    | zero =>
      intro i T hi W
      obtain rfl : i = ps.length := by omega
      refine k_iloadN W d_jdk_48_13_49 rfl ?_
      refine k_iloadN W d_jdk_48_13_50 rfl ?_
      refine k_icY W 71 d_jdk_48_13_51 (by decide) (show ¬ (Int32.ofNat ps.length) < (Int32.ofNat ps.length) from (of_ge (Nat.le_refl _) (by omega))) ?_
      refine k_iconst W d_jdk_48_13_71 (z := (-1 : Int32)) rfl ?_
      exact k_ireturn W d_jdk_48_13_72 rfl [] (fun x hx => nomatch hx) (Nat.le_of_ble_eq_true rfl) (Nat.le_of_ble_eq_true rfl) ⟨rfl, rfl, rfl⟩
    | succ k ih =>
      intro i T hi W
      have h1 : i < ps.length := by omega
      obtain ⟨bi, hbi⟩ : ∃ c, ps[i]? = some c := ⟨_, List.getElem?_eq_getElem h1⟩
      refine k_iloadN W d_jdk_48_13_49 rfl ?_
      refine k_iloadN W d_jdk_48_13_50 rfl ?_
      refine k_icN W d_jdk_48_13_51 (show ¬ (¬ (Int32.ofNat i) < (Int32.ofNat ps.length)) from (fun q => q (of_lt h1 (by omega)))) ?_
      refine k_aloadN W d_jdk_48_13_54 rfl rfl ?_
      refine k_iloadN W d_jdk_48_13_55 rfl ?_
      refine k_baload W (v := (.int bi)) i d_jdk_48_13_56 A0 (ix_of (by omega)) (by simp [hbi]) ?_
      refine k_aloadN W d_jdk_48_13_57 rfl rfl ?_
      refine k_iloadN W d_jdk_48_13_58 rfl ?_
      refine k_baload W (v := (.int bi)) i d_jdk_48_13_59 B0 (ix_of (by omega)) (by simp [hbi]) ?_
      refine k_icY W 65 d_jdk_48_13_60 (by decide) (show bi = bi from rfl) ?_
      refine k_iinc W d_jdk_48_13_65 rfl (z := (Int32.ofNat (i + 1))) (of_succ i) (L' := #[.val (.ref a), .val (.ref b), .val (.int (Int32.ofNat ps.length)), .val (.int (Int32.ofNat (i + 1)))]) rfl ?_
      refine k_goto W 49 d_jdk_48_13_68 (by decide) ?_
      exact ih (i + 1) T (by omega) W
  exact loop ps.length 0 T (by omega) W
set_option maxRecDepth 65536 in
set_option maxHeartbeats 40000000 in
theorem ct_aeq (l : Launch) (Z : State) (a0 : Array Value) (hw : ∀ d ∈ tables_1, d.before a0 Z = true) (n0 : Nat) (h0 : Heap) (a b : Addr) (ps : List Int32) (hp3 : ps.length ≤ 3) (hne : a ≠ b) (A0 : Av Z h0 a .byte (ps.map Value.int)) (B0 : Av Z h0 b .byte (ps.map Value.int)) : Ct l Z a0 own_EL false (⟨"java/util/Arrays", "equals", "([B[B)Z"⟩ : MethodName) jdk_65_method_89_code 3 (Option.some Jvm.ClassFile.FieldType.boolean) ({ frames := 1, cells := 0, slots := 0, locals := 15 } : Room) #[(.ref a), (.ref b)] h0 [] n0 (fun v h so => v = some (.int (1 : Int32)) ∧ h0 = h ∧ so = []) := by
  refine Ct.body (plainFor_of_name pn7) ?_
  intro p e s m below meth c T W
  refine WP.cast (g' := (mkF m 0 #[.val (.ref a), .val (.ref b), .unset] [])) (by simp [entryFrame, mkF, argsToLocals, cat_i, cat_l, cat_r, cat_n]) ?_
  refine k_aloadN W d_jdk_65_89_0 rfl rfl ?_
  refine k_aloadN W d_jdk_65_89_1 rfl rfl ?_
  refine k_acY W 7 d_jdk_65_89_2 rfl rfl (by decide) (fun q => hne (Value.ref.inj q)) ?_
  refine k_aloadN W d_jdk_65_89_7 rfl rfl ?_
  refine k_nullN W d_jdk_65_89_8 ?_
  refine k_aloadN W d_jdk_65_89_11 rfl rfl ?_
  refine k_nnY W 17 d_jdk_65_89_12 (by decide) ?_
  refine k_aloadN W d_jdk_65_89_17 rfl rfl ?_
  refine k_arraylength W (z := (Int32.ofNat ps.length)) d_jdk_65_89_18 A0 (by first | (rw [List.length_map]; done) | (rw [List.length_map]; rfl)) ?_
  refine k_istoreN W d_jdk_65_89_19 (L' := #[.val (.ref a), .val (.ref b), .val (.int (Int32.ofNat ps.length))]) rfl ?_
  refine k_aloadN W d_jdk_65_89_20 rfl rfl ?_
  refine k_arraylength W (z := (Int32.ofNat ps.length)) d_jdk_65_89_21 B0 (by first | (rw [List.length_map]; done) | (rw [List.length_map]; rfl)) ?_
  refine k_iloadN W d_jdk_65_89_22 rfl ?_
  refine k_icY W 28 d_jdk_65_89_23 (by decide) (show (Int32.ofNat ps.length) = (Int32.ofNat ps.length) from rfl) ?_
  refine k_aloadN W d_jdk_65_89_28 rfl rfl ?_
  refine k_aloadN W d_jdk_65_89_29 rfl rfl ?_
  refine k_iloadN W d_jdk_65_89_30 rfl ?_
  refine k_callS W 0 0 0 (argsL := [(.ref a), (.ref b), (.int (Int32.ofNat ps.length))]) (rest := []) d_jdk_65_89_31 (w197 hw) (w198 hw) (by decide) (lenOf pd19 rfl) (ct_mis3 l Z a0 hw n0 h0 a b ps hp3 A0 B0) (w200 hw) (w199 hw) (fun x hx => hx) rfl (Nat.le_of_eq rfl) (Nat.le_of_ble_eq_true rfl) (Nat.le_of_ble_eq_true rfl) ⟨rfl, Nat.le_of_ble_eq_true rfl⟩ ⟨rfl, Nat.le_of_ble_eq_true rfl⟩ rfl (fun _ _ q => nomatch q.1) fun T h175 v so W hQ => ?_
  obtain ⟨hv, rfl, -⟩ := hQ
  obtain rfl := Option.some.inj hv
  refine k_ifN W d_jdk_65_89_34 (show ¬ (¬ (-1 : Int32) < 0) by decide) ?_
  refine k_iconst W d_jdk_65_89_37 (z := (1 : Int32)) rfl ?_
  refine k_goto W 42 d_jdk_65_89_38 (by decide) ?_
  exact k_retN W (t := .boolean) (z' := (1 : Int32)) d_jdk_65_89_42 rfl (by simp) (by decide) [] (fun x hx => nomatch hx) (Nat.le_of_ble_eq_true rfl) (Nat.le_of_ble_eq_true rfl) ⟨rfl, rfl, rfl⟩
set_option maxRecDepth 65536 in
set_option maxHeartbeats 40000000 in
theorem ct_oeqZ (l : Launch) (Z : State) (a0 : Array Value) (hw : ∀ d ∈ tables_1, d.before a0 Z = true) (n0 : Nat) (h0 : Heap) (mr x y d k t px py s1 b1 s2 b2 : Addr) (as cs ps : List Int32) (zc : Int32) (hp3 : ps.length ≤ 3) (hne : x ≠ y) (hnp : px ≠ py) (M0 : Mir Z "com/example/kourier/kourier/outbox/OutboxEvent" mr) (Ex : Exa Z h0 x "com/example/kourier/kourier/outbox/OutboxEvent") (F0x : Fld Z h0 x "com/example/kourier/kourier/outbox/OutboxEvent" "id" "Ljava/lang/String;" (.ref s1)) (F1x : Fld Z h0 x "com/example/kourier/kourier/outbox/OutboxEvent" "destination" "Ljava/lang/String;" (.ref d)) (F2x : Fld Z h0 x "com/example/kourier/kourier/outbox/OutboxEvent" "key" "Ljava/lang/String;" (.ref k)) (F3x : Fld Z h0 x "com/example/kourier/kourier/outbox/OutboxEvent" "type" "Ljava/lang/String;" (.ref t)) (F4x : Fld Z h0 x "com/example/kourier/kourier/outbox/OutboxEvent" "payload" "[B" (.ref px)) (Ey : Exa Z h0 y "com/example/kourier/kourier/outbox/OutboxEvent") (F0y : Fld Z h0 y "com/example/kourier/kourier/outbox/OutboxEvent" "id" "Ljava/lang/String;" .null) (F1y : Fld Z h0 y "com/example/kourier/kourier/outbox/OutboxEvent" "destination" "Ljava/lang/String;" (.ref d)) (F2y : Fld Z h0 y "com/example/kourier/kourier/outbox/OutboxEvent" "key" "Ljava/lang/String;" (.ref k)) (F3y : Fld Z h0 y "com/example/kourier/kourier/outbox/OutboxEvent" "type" "Ljava/lang/String;" (.ref t)) (F4y : Fld Z h0 y "com/example/kourier/kourier/outbox/OutboxEvent" "payload" "[B" (.ref py)) (S1 : St Z h0 s1 b1 as) (Xd : Exa Z h0 d "java/lang/String") (Xk : Exa Z h0 k "java/lang/String") (Xt : Exa Z h0 t "java/lang/String") (AX : Av Z h0 px .byte (ps.map Value.int)) (AY : Av Z h0 py .byte (ps.map Value.int)) (P0 : Sta Z h0 "java/lang/String" "COMPACT_STRINGS" "Z" (.int zc)) (hzc : zc ≠ 0) : Ct l Z a0 own_EL false (⟨"com/example/kourier/kourier/outbox/OutboxEvent", "equals", "(Ljava/lang/Object;)Z"⟩ : MethodName) prog_10_method_9_code 3 (Option.some Jvm.ClassFile.FieldType.boolean) ({ frames := 2, cells := 0, slots := 0, locals := 27 } : Room) #[(.ref x), (.ref y)] h0 [] n0 (fun v h so => v = some (.int (0 : Int32)) ∧ h0 = h ∧ so = []) := by
  refine Ct.body (plainFor_of_name pn5) ?_
  intro p e s m below meth c T W
  refine WP.cast (g' := (mkF m 0 #[.val (.ref x), .val (.ref y), .unset] [])) (by simp [entryFrame, mkF, argsToLocals, cat_i, cat_l, cat_r, cat_n]) ?_
  refine k_aloadN W d_prog_10_9_0 rfl rfl ?_
  refine k_aloadN W d_prog_10_9_1 rfl rfl ?_
  refine k_acY W 7 d_prog_10_9_2 rfl rfl (by decide) (fun q => hne (Value.ref.inj q)) ?_
  refine k_aloadN W d_prog_10_9_7 rfl rfl ?_
  refine k_nullN W d_prog_10_9_8 ?_
  refine k_aloadN W d_prog_10_9_11 rfl rfl ?_
  refine k_getClass W 0 d_prog_10_9_12 (w151 hw) (w152 hw) (w154 hw) (w153 hw) (w155 hw) Ey M0 rfl (Nat.le_of_eq rfl) (Nat.le_of_ble_eq_true rfl) (Nat.le_of_ble_eq_true rfl) fun T W => ?_
  refine k_aloadN W d_prog_10_9_15 rfl rfl ?_
  refine k_getClass W 1 d_prog_10_9_16 (w151 hw) (w152 hw) (w154 hw) (w153 hw) (w155 hw) Ex M0 rfl (Nat.le_of_eq rfl) (Nat.le_of_ble_eq_true rfl) (Nat.le_of_ble_eq_true rfl) fun T W => ?_
  refine k_acY W 24 d_prog_10_9_19 rfl rfl (by decide) rfl ?_
  refine k_aloadN W d_prog_10_9_24 rfl rfl ?_
  refine k_cast W d_prog_10_9_25 (w144 hw) (Ins.self Ey) fun T W => ?_
  refine k_astoreN W d_prog_10_9_28 rfl (L' := #[.val (.ref x), .val (.ref y), .val (.ref y)]) rfl ?_
  refine k_aloadN W d_prog_10_9_29 rfl rfl ?_
  refine k_getF W d_prog_10_9_30 (host := "") (Or.inl (w63 hw)) Via.refl F0x fun T W => ?_
  refine k_aloadN W d_prog_10_9_33 rfl rfl ?_
  refine k_getF W d_prog_10_9_34 (host := "") (Or.inl (w63 hw)) Via.refl F0y fun T W => ?_
  refine k_callS W 0 0 0 (argsL := [(.ref s1), .null]) (rest := []) d_prog_10_9_37 (w157 hw) (w158 hw) (by decide) (lenOf pd20 rfl) (ct_obZ l Z a0 hw n0 h0 s1 S1.1) (w159 hw) (w73 hw) (fun x hx => hx) rfl (Nat.le_of_eq rfl) (Nat.le_of_ble_eq_true rfl) (Nat.le_of_ble_eq_true rfl) ⟨rfl, Nat.le_of_ble_eq_true rfl⟩ ⟨rfl, Nat.le_of_ble_eq_true rfl⟩ rfl (fun _ _ q => nomatch q.1) fun T h176 v so W hQ => ?_
  obtain ⟨hv, rfl, -⟩ := hQ
  obtain rfl := Option.some.inj hv
  refine k_ifY W 103 d_prog_10_9_40 (by decide) (show (0 : Int32) = 0 by decide) ?_
  refine k_iconst W d_prog_10_9_103 (z := (0 : Int32)) rfl ?_
  exact k_retN W (t := .boolean) (z' := (0 : Int32)) d_prog_10_9_104 rfl (by simp) (by decide) [] (fun x hx => nomatch hx) (Nat.le_of_ble_eq_true rfl) (Nat.le_of_ble_eq_true rfl) ⟨rfl, rfl, rfl⟩
set_option maxRecDepth 65536 in
set_option maxHeartbeats 40000000 in
theorem ct_oeqD (l : Launch) (Z : State) (a0 : Array Value) (hw : ∀ d ∈ tables_1, d.before a0 Z = true) (n0 : Nat) (h0 : Heap) (mr x y d k t px py s1 b1 s2 b2 : Addr) (as cs ps : List Int32) (zc : Int32) (hp3 : ps.length ≤ 3) (hne : x ≠ y) (hnp : px ≠ py) (hns : s1 ≠ s2) (M0 : Mir Z "com/example/kourier/kourier/outbox/OutboxEvent" mr) (Ex : Exa Z h0 x "com/example/kourier/kourier/outbox/OutboxEvent") (F0x : Fld Z h0 x "com/example/kourier/kourier/outbox/OutboxEvent" "id" "Ljava/lang/String;" (.ref s1)) (F1x : Fld Z h0 x "com/example/kourier/kourier/outbox/OutboxEvent" "destination" "Ljava/lang/String;" (.ref d)) (F2x : Fld Z h0 x "com/example/kourier/kourier/outbox/OutboxEvent" "key" "Ljava/lang/String;" (.ref k)) (F3x : Fld Z h0 x "com/example/kourier/kourier/outbox/OutboxEvent" "type" "Ljava/lang/String;" (.ref t)) (F4x : Fld Z h0 x "com/example/kourier/kourier/outbox/OutboxEvent" "payload" "[B" (.ref px)) (Ey : Exa Z h0 y "com/example/kourier/kourier/outbox/OutboxEvent") (F0y : Fld Z h0 y "com/example/kourier/kourier/outbox/OutboxEvent" "id" "Ljava/lang/String;" (.ref s2)) (F1y : Fld Z h0 y "com/example/kourier/kourier/outbox/OutboxEvent" "destination" "Ljava/lang/String;" (.ref d)) (F2y : Fld Z h0 y "com/example/kourier/kourier/outbox/OutboxEvent" "key" "Ljava/lang/String;" (.ref k)) (F3y : Fld Z h0 y "com/example/kourier/kourier/outbox/OutboxEvent" "type" "Ljava/lang/String;" (.ref t)) (F4y : Fld Z h0 y "com/example/kourier/kourier/outbox/OutboxEvent" "payload" "[B" (.ref py)) (S1 : St Z h0 s1 b1 as) (S2 : St Z h0 s2 b2 cs) (Xd : Exa Z h0 d "java/lang/String") (Xk : Exa Z h0 k "java/lang/String") (Xt : Exa Z h0 t "java/lang/String") (AX : Av Z h0 px .byte (ps.map Value.int)) (AY : Av Z h0 py .byte (ps.map Value.int)) (P0 : Sta Z h0 "java/lang/String" "COMPACT_STRINGS" "Z" (.int zc)) (hzc : zc ≠ 0) : Ct l Z a0 own_EL false (⟨"com/example/kourier/kourier/outbox/OutboxEvent", "equals", "(Ljava/lang/Object;)Z"⟩ : MethodName) prog_10_method_9_code 3 (Option.some Jvm.ClassFile.FieldType.boolean) ({ frames := 3, cells := 0, slots := 0, locals := 41 } : Room) #[(.ref x), (.ref y)] h0 [] n0 (fun v h so => ((as = cs ∧ v = some (.int (1 : Int32))) ∨ (as ≠ cs ∧ v = some (.int (0 : Int32)))) ∧ h0 = h) := by
  refine Ct.body (plainFor_of_name pn5) ?_
  intro p e s m below meth c T W
  refine WP.cast (g' := (mkF m 0 #[.val (.ref x), .val (.ref y), .unset] [])) (by simp [entryFrame, mkF, argsToLocals, cat_i, cat_l, cat_r, cat_n]) ?_
  refine k_aloadN W d_prog_10_9_0 rfl rfl ?_
  refine k_aloadN W d_prog_10_9_1 rfl rfl ?_
  refine k_acY W 7 d_prog_10_9_2 rfl rfl (by decide) (fun q => hne (Value.ref.inj q)) ?_
  refine k_aloadN W d_prog_10_9_7 rfl rfl ?_
  refine k_nullN W d_prog_10_9_8 ?_
  refine k_aloadN W d_prog_10_9_11 rfl rfl ?_
  refine k_getClass W 0 d_prog_10_9_12 (w151 hw) (w152 hw) (w154 hw) (w153 hw) (w155 hw) Ey M0 rfl (Nat.le_of_eq rfl) (Nat.le_of_ble_eq_true rfl) (Nat.le_of_ble_eq_true rfl) fun T W => ?_
  refine k_aloadN W d_prog_10_9_15 rfl rfl ?_
  refine k_getClass W 1 d_prog_10_9_16 (w151 hw) (w152 hw) (w154 hw) (w153 hw) (w155 hw) Ex M0 rfl (Nat.le_of_eq rfl) (Nat.le_of_ble_eq_true rfl) (Nat.le_of_ble_eq_true rfl) fun T W => ?_
  refine k_acY W 24 d_prog_10_9_19 rfl rfl (by decide) rfl ?_
  refine k_aloadN W d_prog_10_9_24 rfl rfl ?_
  refine k_cast W d_prog_10_9_25 (w144 hw) (Ins.self Ey) fun T W => ?_
  refine k_astoreN W d_prog_10_9_28 rfl (L' := #[.val (.ref x), .val (.ref y), .val (.ref y)]) rfl ?_
  refine k_aloadN W d_prog_10_9_29 rfl rfl ?_
  refine k_getF W d_prog_10_9_30 (host := "") (Or.inl (w63 hw)) Via.refl F0x fun T W => ?_
  refine k_aloadN W d_prog_10_9_33 rfl rfl ?_
  refine k_getF W d_prog_10_9_34 (host := "") (Or.inl (w63 hw)) Via.refl F0y fun T W => ?_
  refine k_callS W 0 0 0 (argsL := [(.ref s1), (.ref s2)]) (rest := []) d_prog_10_9_37 (w157 hw) (w158 hw) (by decide) (lenOf pd20 rfl) (ct_obS l Z a0 hw n0 h0 s1 b1 s2 b2 as cs zc hns S1 S2 P0 hzc) (w159 hw) (w73 hw) (fun x hx => hx) rfl (Nat.le_of_eq rfl) (Nat.le_of_ble_eq_true rfl) (Nat.le_of_ble_eq_true rfl) ⟨rfl, Nat.le_of_ble_eq_true rfl⟩ ⟨rfl, Nat.le_of_ble_eq_true rfl⟩ rfl (fun _ _ q => by rcases q.1 with ⟨_, u⟩ | ⟨_, u⟩ <;> cases u) fun T h178 v so W hQ => ?_
  obtain ⟨hQ, rfl⟩ := hQ
  rcases hQ with ⟨heq177, hv⟩ | ⟨heq177, hv⟩
  · --
    obtain rfl := Option.some.inj hv
    refine k_ifN W d_prog_10_9_40 (show ¬ ((1 : Int32) = 0) by decide) ?_
    refine k_aloadN W d_prog_10_9_43 rfl rfl ?_
    refine k_getF W d_prog_10_9_44 (host := "") (Or.inl (w119 hw)) Via.refl F1x fun T W => ?_
    refine k_aloadN W d_prog_10_9_47 rfl rfl ?_
    refine k_getF W d_prog_10_9_48 (host := "") (Or.inl (w119 hw)) Via.refl F1y fun T W => ?_
    refine k_callV W 0 0 0 (argsL := [(.ref d)]) (rest := []) (a := d) (C := "java/lang/String") (z0 := (⟨"java/lang/String", "equals", "(Ljava/lang/Object;)Z"⟩ : MethodName)) (z := (⟨"java/lang/String", "equals", "(Ljava/lang/Object;)Z"⟩ : MethodName)) d_prog_10_9_51 (w192 hw) (w172 hw) (nfSel (w173 hw)) (w173 hw) (w164 hw) (by decide) (lenOf pd18 rfl) Xd (ct_seqI l Z a0 hw n0 h0 d) (w165 hw) (w8 hw) (fun x hx => hx) rfl (Nat.le_of_eq rfl) (Nat.le_of_ble_eq_true rfl) (Nat.le_of_ble_eq_true rfl) ⟨rfl, Nat.le_of_ble_eq_true rfl⟩ ⟨rfl, Nat.le_of_ble_eq_true rfl⟩ rfl (fun _ _ q => nomatch q.1) fun T h179 v so W hQ => ?_
    obtain ⟨hv, rfl, -⟩ := hQ
    obtain rfl := Option.some.inj hv
    refine k_ifN W d_prog_10_9_54 (show ¬ ((1 : Int32) = 0) by decide) ?_
    refine k_aloadN W d_prog_10_9_57 rfl rfl ?_
    refine k_getF W d_prog_10_9_58 (host := "") (Or.inl (w122 hw)) Via.refl F2x fun T W => ?_
    refine k_aloadN W d_prog_10_9_61 rfl rfl ?_
    refine k_getF W d_prog_10_9_62 (host := "") (Or.inl (w122 hw)) Via.refl F2y fun T W => ?_
    refine k_callV W 0 0 0 (argsL := [(.ref k)]) (rest := []) (a := k) (C := "java/lang/String") (z0 := (⟨"java/lang/String", "equals", "(Ljava/lang/Object;)Z"⟩ : MethodName)) (z := (⟨"java/lang/String", "equals", "(Ljava/lang/Object;)Z"⟩ : MethodName)) d_prog_10_9_65 (w192 hw) (w172 hw) (nfSel (w173 hw)) (w173 hw) (w164 hw) (by decide) (lenOf pd18 rfl) Xk (ct_seqI l Z a0 hw n0 h0 k) (w165 hw) (w8 hw) (fun x hx => hx) rfl (Nat.le_of_eq rfl) (Nat.le_of_ble_eq_true rfl) (Nat.le_of_ble_eq_true rfl) ⟨rfl, Nat.le_of_ble_eq_true rfl⟩ ⟨rfl, Nat.le_of_ble_eq_true rfl⟩ rfl (fun _ _ q => nomatch q.1) fun T h180 v so W hQ => ?_
    obtain ⟨hv, rfl, -⟩ := hQ
    obtain rfl := Option.some.inj hv
    refine k_ifN W d_prog_10_9_68 (show ¬ ((1 : Int32) = 0) by decide) ?_
    refine k_aloadN W d_prog_10_9_71 rfl rfl ?_
    refine k_getF W d_prog_10_9_72 (host := "") (Or.inl (w125 hw)) Via.refl F3x fun T W => ?_
    refine k_aloadN W d_prog_10_9_75 rfl rfl ?_
    refine k_getF W d_prog_10_9_76 (host := "") (Or.inl (w125 hw)) Via.refl F3y fun T W => ?_
    refine k_callV W 0 0 0 (argsL := [(.ref t)]) (rest := []) (a := t) (C := "java/lang/String") (z0 := (⟨"java/lang/String", "equals", "(Ljava/lang/Object;)Z"⟩ : MethodName)) (z := (⟨"java/lang/String", "equals", "(Ljava/lang/Object;)Z"⟩ : MethodName)) d_prog_10_9_79 (w192 hw) (w172 hw) (nfSel (w173 hw)) (w173 hw) (w164 hw) (by decide) (lenOf pd18 rfl) Xt (ct_seqI l Z a0 hw n0 h0 t) (w165 hw) (w8 hw) (fun x hx => hx) rfl (Nat.le_of_eq rfl) (Nat.le_of_ble_eq_true rfl) (Nat.le_of_ble_eq_true rfl) ⟨rfl, Nat.le_of_ble_eq_true rfl⟩ ⟨rfl, Nat.le_of_ble_eq_true rfl⟩ rfl (fun _ _ q => nomatch q.1) fun T h181 v so W hQ => ?_
    obtain ⟨hv, rfl, -⟩ := hQ
    obtain rfl := Option.some.inj hv
    refine k_ifN W d_prog_10_9_82 (show ¬ ((1 : Int32) = 0) by decide) ?_
    refine k_aloadN W d_prog_10_9_85 rfl rfl ?_
    refine k_getF W d_prog_10_9_86 (host := "") (Or.inl (w137 hw)) Via.refl F4x fun T W => ?_
    refine k_aloadN W d_prog_10_9_89 rfl rfl ?_
    refine k_getF W d_prog_10_9_90 (host := "") (Or.inl (w137 hw)) Via.refl F4y fun T W => ?_
    refine k_callS W 0 0 0 (argsL := [(.ref px), (.ref py)]) (rest := []) d_prog_10_9_93 (w193 hw) (w194 hw) (by decide) (lenOf pd4 rfl) (ct_aeq l Z a0 hw n0 h0 px py ps hp3 hnp AX AY) (w196 hw) (w195 hw) (fun x hx => hx) rfl (Nat.le_of_eq rfl) (Nat.le_of_ble_eq_true rfl) (Nat.le_of_ble_eq_true rfl) ⟨rfl, Nat.le_of_ble_eq_true rfl⟩ ⟨rfl, Nat.le_of_ble_eq_true rfl⟩ rfl (fun _ _ q => nomatch q.1) fun T h182 v so W hQ => ?_
    obtain ⟨hv, rfl, -⟩ := hQ
    obtain rfl := Option.some.inj hv
    refine k_ifN W d_prog_10_9_96 (show ¬ ((1 : Int32) = 0) by decide) ?_
    refine k_iconst W d_prog_10_9_99 (z := (1 : Int32)) rfl ?_
    refine k_goto W 104 d_prog_10_9_100 (by decide) ?_
    exact k_retN W (t := .boolean) (z' := (1 : Int32)) d_prog_10_9_104 rfl (by simp) (by decide) [] (fun x hx => nomatch hx) (Nat.le_of_ble_eq_true rfl) (Nat.le_of_ble_eq_true rfl) ⟨Or.inl ⟨heq177, rfl⟩, rfl⟩
  · --
    obtain rfl := Option.some.inj hv
    refine k_ifY W 103 d_prog_10_9_40 (by decide) (show (0 : Int32) = 0 by decide) ?_
    refine k_iconst W d_prog_10_9_103 (z := (0 : Int32)) rfl ?_
    exact k_retN W (t := .boolean) (z' := (0 : Int32)) d_prog_10_9_104 rfl (by simp) (by decide) [] (fun x hx => nomatch hx) (Nat.le_of_ble_eq_true rfl) (Nat.le_of_ble_eq_true rfl) ⟨Or.inr ⟨heq177, rfl⟩, rfl⟩
set_option maxRecDepth 65536 in
set_option maxHeartbeats 40000000 in
theorem ct_oeqI (l : Launch) (Z : State) (a0 : Array Value) (hw : ∀ d ∈ tables_1, d.before a0 Z = true) (n0 : Nat) (h0 : Heap) (mr x y d k t px py s1 b1 s2 b2 : Addr) (as cs ps : List Int32) (zc : Int32) (hp3 : ps.length ≤ 3) (hne : x ≠ y) (hnp : px ≠ py) (M0 : Mir Z "com/example/kourier/kourier/outbox/OutboxEvent" mr) (Ex : Exa Z h0 x "com/example/kourier/kourier/outbox/OutboxEvent") (F0x : Fld Z h0 x "com/example/kourier/kourier/outbox/OutboxEvent" "id" "Ljava/lang/String;" (.ref s1)) (F1x : Fld Z h0 x "com/example/kourier/kourier/outbox/OutboxEvent" "destination" "Ljava/lang/String;" (.ref d)) (F2x : Fld Z h0 x "com/example/kourier/kourier/outbox/OutboxEvent" "key" "Ljava/lang/String;" (.ref k)) (F3x : Fld Z h0 x "com/example/kourier/kourier/outbox/OutboxEvent" "type" "Ljava/lang/String;" (.ref t)) (F4x : Fld Z h0 x "com/example/kourier/kourier/outbox/OutboxEvent" "payload" "[B" (.ref px)) (Ey : Exa Z h0 y "com/example/kourier/kourier/outbox/OutboxEvent") (F0y : Fld Z h0 y "com/example/kourier/kourier/outbox/OutboxEvent" "id" "Ljava/lang/String;" (.ref s1)) (F1y : Fld Z h0 y "com/example/kourier/kourier/outbox/OutboxEvent" "destination" "Ljava/lang/String;" (.ref d)) (F2y : Fld Z h0 y "com/example/kourier/kourier/outbox/OutboxEvent" "key" "Ljava/lang/String;" (.ref k)) (F3y : Fld Z h0 y "com/example/kourier/kourier/outbox/OutboxEvent" "type" "Ljava/lang/String;" (.ref t)) (F4y : Fld Z h0 y "com/example/kourier/kourier/outbox/OutboxEvent" "payload" "[B" (.ref py)) (S1 : St Z h0 s1 b1 as) (Xd : Exa Z h0 d "java/lang/String") (Xk : Exa Z h0 k "java/lang/String") (Xt : Exa Z h0 t "java/lang/String") (AX : Av Z h0 px .byte (ps.map Value.int)) (AY : Av Z h0 py .byte (ps.map Value.int)) (P0 : Sta Z h0 "java/lang/String" "COMPACT_STRINGS" "Z" (.int zc)) (hzc : zc ≠ 0) : Ct l Z a0 own_EL false (⟨"com/example/kourier/kourier/outbox/OutboxEvent", "equals", "(Ljava/lang/Object;)Z"⟩ : MethodName) prog_10_method_9_code 3 (Option.some Jvm.ClassFile.FieldType.boolean) ({ frames := 2, cells := 0, slots := 0, locals := 29 } : Room) #[(.ref x), (.ref y)] h0 [] n0 (fun v h so => v = some (.int (1 : Int32)) ∧ h0 = h ∧ so = []) := by
  refine Ct.body (plainFor_of_name pn5) ?_
  intro p e s m below meth c T W
  refine WP.cast (g' := (mkF m 0 #[.val (.ref x), .val (.ref y), .unset] [])) (by simp [entryFrame, mkF, argsToLocals, cat_i, cat_l, cat_r, cat_n]) ?_
  refine k_aloadN W d_prog_10_9_0 rfl rfl ?_
  refine k_aloadN W d_prog_10_9_1 rfl rfl ?_
  refine k_acY W 7 d_prog_10_9_2 rfl rfl (by decide) (fun q => hne (Value.ref.inj q)) ?_
  refine k_aloadN W d_prog_10_9_7 rfl rfl ?_
  refine k_nullN W d_prog_10_9_8 ?_
  refine k_aloadN W d_prog_10_9_11 rfl rfl ?_
  refine k_getClass W 0 d_prog_10_9_12 (w151 hw) (w152 hw) (w154 hw) (w153 hw) (w155 hw) Ey M0 rfl (Nat.le_of_eq rfl) (Nat.le_of_ble_eq_true rfl) (Nat.le_of_ble_eq_true rfl) fun T W => ?_
  refine k_aloadN W d_prog_10_9_15 rfl rfl ?_
  refine k_getClass W 1 d_prog_10_9_16 (w151 hw) (w152 hw) (w154 hw) (w153 hw) (w155 hw) Ex M0 rfl (Nat.le_of_eq rfl) (Nat.le_of_ble_eq_true rfl) (Nat.le_of_ble_eq_true rfl) fun T W => ?_
  refine k_acY W 24 d_prog_10_9_19 rfl rfl (by decide) rfl ?_
  refine k_aloadN W d_prog_10_9_24 rfl rfl ?_
  refine k_cast W d_prog_10_9_25 (w144 hw) (Ins.self Ey) fun T W => ?_
  refine k_astoreN W d_prog_10_9_28 rfl (L' := #[.val (.ref x), .val (.ref y), .val (.ref y)]) rfl ?_
  refine k_aloadN W d_prog_10_9_29 rfl rfl ?_
  refine k_getF W d_prog_10_9_30 (host := "") (Or.inl (w63 hw)) Via.refl F0x fun T W => ?_
  refine k_aloadN W d_prog_10_9_33 rfl rfl ?_
  refine k_getF W d_prog_10_9_34 (host := "") (Or.inl (w63 hw)) Via.refl F0y fun T W => ?_
  refine k_callS W 0 0 0 (argsL := [(.ref s1), (.ref s1)]) (rest := []) d_prog_10_9_37 (w157 hw) (w158 hw) (by decide) (lenOf pd20 rfl) (ct_obI l Z a0 hw n0 h0 s1) (w159 hw) (w73 hw) (fun x hx => hx) rfl (Nat.le_of_eq rfl) (Nat.le_of_ble_eq_true rfl) (Nat.le_of_ble_eq_true rfl) ⟨rfl, Nat.le_of_ble_eq_true rfl⟩ ⟨rfl, Nat.le_of_ble_eq_true rfl⟩ rfl (fun _ _ q => nomatch q.1) fun T h183 v so W hQ => ?_
  obtain ⟨hv, rfl, -⟩ := hQ
  obtain rfl := Option.some.inj hv
  refine k_ifN W d_prog_10_9_40 (show ¬ ((1 : Int32) = 0) by decide) ?_
  refine k_aloadN W d_prog_10_9_43 rfl rfl ?_
  refine k_getF W d_prog_10_9_44 (host := "") (Or.inl (w119 hw)) Via.refl F1x fun T W => ?_
  refine k_aloadN W d_prog_10_9_47 rfl rfl ?_
  refine k_getF W d_prog_10_9_48 (host := "") (Or.inl (w119 hw)) Via.refl F1y fun T W => ?_
  refine k_callV W 0 0 0 (argsL := [(.ref d)]) (rest := []) (a := d) (C := "java/lang/String") (z0 := (⟨"java/lang/String", "equals", "(Ljava/lang/Object;)Z"⟩ : MethodName)) (z := (⟨"java/lang/String", "equals", "(Ljava/lang/Object;)Z"⟩ : MethodName)) d_prog_10_9_51 (w192 hw) (w172 hw) (nfSel (w173 hw)) (w173 hw) (w164 hw) (by decide) (lenOf pd18 rfl) Xd (ct_seqI l Z a0 hw n0 h0 d) (w165 hw) (w8 hw) (fun x hx => hx) rfl (Nat.le_of_eq rfl) (Nat.le_of_ble_eq_true rfl) (Nat.le_of_ble_eq_true rfl) ⟨rfl, Nat.le_of_ble_eq_true rfl⟩ ⟨rfl, Nat.le_of_ble_eq_true rfl⟩ rfl (fun _ _ q => nomatch q.1) fun T h184 v so W hQ => ?_
  obtain ⟨hv, rfl, -⟩ := hQ
  obtain rfl := Option.some.inj hv
  refine k_ifN W d_prog_10_9_54 (show ¬ ((1 : Int32) = 0) by decide) ?_
  refine k_aloadN W d_prog_10_9_57 rfl rfl ?_
  refine k_getF W d_prog_10_9_58 (host := "") (Or.inl (w122 hw)) Via.refl F2x fun T W => ?_
  refine k_aloadN W d_prog_10_9_61 rfl rfl ?_
  refine k_getF W d_prog_10_9_62 (host := "") (Or.inl (w122 hw)) Via.refl F2y fun T W => ?_
  refine k_callV W 0 0 0 (argsL := [(.ref k)]) (rest := []) (a := k) (C := "java/lang/String") (z0 := (⟨"java/lang/String", "equals", "(Ljava/lang/Object;)Z"⟩ : MethodName)) (z := (⟨"java/lang/String", "equals", "(Ljava/lang/Object;)Z"⟩ : MethodName)) d_prog_10_9_65 (w192 hw) (w172 hw) (nfSel (w173 hw)) (w173 hw) (w164 hw) (by decide) (lenOf pd18 rfl) Xk (ct_seqI l Z a0 hw n0 h0 k) (w165 hw) (w8 hw) (fun x hx => hx) rfl (Nat.le_of_eq rfl) (Nat.le_of_ble_eq_true rfl) (Nat.le_of_ble_eq_true rfl) ⟨rfl, Nat.le_of_ble_eq_true rfl⟩ ⟨rfl, Nat.le_of_ble_eq_true rfl⟩ rfl (fun _ _ q => nomatch q.1) fun T h185 v so W hQ => ?_
  obtain ⟨hv, rfl, -⟩ := hQ
  obtain rfl := Option.some.inj hv
  refine k_ifN W d_prog_10_9_68 (show ¬ ((1 : Int32) = 0) by decide) ?_
  refine k_aloadN W d_prog_10_9_71 rfl rfl ?_
  refine k_getF W d_prog_10_9_72 (host := "") (Or.inl (w125 hw)) Via.refl F3x fun T W => ?_
  refine k_aloadN W d_prog_10_9_75 rfl rfl ?_
  refine k_getF W d_prog_10_9_76 (host := "") (Or.inl (w125 hw)) Via.refl F3y fun T W => ?_
  refine k_callV W 0 0 0 (argsL := [(.ref t)]) (rest := []) (a := t) (C := "java/lang/String") (z0 := (⟨"java/lang/String", "equals", "(Ljava/lang/Object;)Z"⟩ : MethodName)) (z := (⟨"java/lang/String", "equals", "(Ljava/lang/Object;)Z"⟩ : MethodName)) d_prog_10_9_79 (w192 hw) (w172 hw) (nfSel (w173 hw)) (w173 hw) (w164 hw) (by decide) (lenOf pd18 rfl) Xt (ct_seqI l Z a0 hw n0 h0 t) (w165 hw) (w8 hw) (fun x hx => hx) rfl (Nat.le_of_eq rfl) (Nat.le_of_ble_eq_true rfl) (Nat.le_of_ble_eq_true rfl) ⟨rfl, Nat.le_of_ble_eq_true rfl⟩ ⟨rfl, Nat.le_of_ble_eq_true rfl⟩ rfl (fun _ _ q => nomatch q.1) fun T h186 v so W hQ => ?_
  obtain ⟨hv, rfl, -⟩ := hQ
  obtain rfl := Option.some.inj hv
  refine k_ifN W d_prog_10_9_82 (show ¬ ((1 : Int32) = 0) by decide) ?_
  refine k_aloadN W d_prog_10_9_85 rfl rfl ?_
  refine k_getF W d_prog_10_9_86 (host := "") (Or.inl (w137 hw)) Via.refl F4x fun T W => ?_
  refine k_aloadN W d_prog_10_9_89 rfl rfl ?_
  refine k_getF W d_prog_10_9_90 (host := "") (Or.inl (w137 hw)) Via.refl F4y fun T W => ?_
  refine k_callS W 0 0 0 (argsL := [(.ref px), (.ref py)]) (rest := []) d_prog_10_9_93 (w193 hw) (w194 hw) (by decide) (lenOf pd4 rfl) (ct_aeq l Z a0 hw n0 h0 px py ps hp3 hnp AX AY) (w196 hw) (w195 hw) (fun x hx => hx) rfl (Nat.le_of_eq rfl) (Nat.le_of_ble_eq_true rfl) (Nat.le_of_ble_eq_true rfl) ⟨rfl, Nat.le_of_ble_eq_true rfl⟩ ⟨rfl, Nat.le_of_ble_eq_true rfl⟩ rfl (fun _ _ q => nomatch q.1) fun T h187 v so W hQ => ?_
  obtain ⟨hv, rfl, -⟩ := hQ
  obtain rfl := Option.some.inj hv
  refine k_ifN W d_prog_10_9_96 (show ¬ ((1 : Int32) = 0) by decide) ?_
  refine k_iconst W d_prog_10_9_99 (z := (1 : Int32)) rfl ?_
  refine k_goto W 104 d_prog_10_9_100 (by decide) ?_
  exact k_retN W (t := .boolean) (z' := (1 : Int32)) d_prog_10_9_104 rfl (by simp) (by decide) [] (fun x hx => nomatch hx) (Nat.le_of_ble_eq_true rfl) (Nat.le_of_ble_eq_true rfl) ⟨rfl, rfl, rfl⟩
theorem own_nwl {y : Int32} (q : Rg y 94) : own_NW ((33 : Int32) + y) ∧ Rg ((33 : Int32) + y) 256 := by
  have e : ((33 : Int32) + y).toInt = 33 + y.toInt := by
    have h1 := q.1; have h2 := q.2; have h33 : (33 : Int32).toInt = 33 := by decide
    rw [Int32.toInt_add, h33, Int.bmod_eq_of_le (by omega) (by omega)]
  have h1 := q.1; have h2 := q.2
  exact ⟨own_nw_of (by rw [e]; omega), by rw [Rg, e]; omega⟩
theorem own_l32 {x : Int64} {n : Nat} (h : 0 ≤ x.toInt ∧ x.toInt < n) (hn : n ≤ 1000) : Rg x.toInt32 n := by
  have e : x.toInt32.toInt = x.toInt := by rw [Int64.toInt_toInt32, Int.bmod_eq_of_le (by omega) (by omega)]
  rw [Rg, e]; exact h
theorem own_and {x : Int64} : 0 ≤ (x &&& (255 : Int64)).toInt ∧ (x &&& (255 : Int64)).toInt < 256 := by
  have h := toInt_land_nonneg x 255 (by decide)
  have e : (255 : Int64).toInt = 255 := by decide
  rw [e] at h; exact ⟨h.1, by have := h.2; omega⟩
theorem own_rem94 {x : Int64} (h : 0 ≤ x.toInt ∧ x.toInt < 256) : 0 ≤ (x - (x / (94 : Int64)) * (94 : Int64)).toInt ∧ (x - (x / (94 : Int64)) * (94 : Int64)).toInt < 94 := by
  have e : (94 : Int64).toInt = 94 := by decide
  have q := lrem_rg (x := x) (y := 94) h.1 (by rw [e]; omega)
  rw [e] at q; exact q
set_option maxRecDepth 65536 in
set_option maxHeartbeats 40000000 in
theorem ct_text (l : Launch) (Z : State) (a0 : Array Value) (hw : ∀ d ∈ tables_1, d.before a0 Z = true) (n0 : Nat) (h0 : Heap) (p0 zc : Int32) (P0 : Sta Z h0 "java/lang/String" "COMPACT_STRINGS" "Z" (.int zc)) (hzc : zc ≠ 0) : Ct l Z a0 own_EL false (⟨"com/example/kourier/kourier/outbox/OutboxEventWithIdPinLaw", "text", "(I)Ljava/lang/String;"⟩ : MethodName) method_2_code 1 (Option.some (Jvm.ClassFile.FieldType.object "java/lang/String")) ({ frames := 3, cells := 2, slots := 5, locals := 39 } : Room) #[(.int p0)] h0 [] n0 (fun v h so => ∃ x b bs, v = some (.ref x) ∧ h0.size ≤ x ∧ Keep h0 h [] ∧ St Z h x b bs ∧ own_NB bs) := by
  refine Ct.body (plainFor_of_name pn8) ?_
  intro p e s m below meth c T W
  refine WP.cast (g' := (mkF m 0 #[.val (.int p0)] [])) (by simp [entryFrame, mkF, argsToLocals, cat_i, cat_l, cat_r, cat_n]) ?_
  refine k_bipush W d_method_2_0 (z := (33 : Int32)) rfl ?_
  refine k_iloadN W d_method_2_2 rfl ?_
  refine k_sipush W d_method_2_3 (z := (255 : Int32)) rfl ?_
  refine k_iand W d_method_2_6 (z := (p0 &&& (255 : Int32))) rfl ?_
  refine k_bipush W d_method_2_7 (z := (94 : Int32)) rfl ?_
  refine k_irem W d_method_2_9 (by decide) (z := ((p0 &&& (255 : Int32)) % (94 : Int32))) rfl ?_
  refine k_iadd W d_method_2_10 (z := ((33 : Int32) + ((p0 &&& (255 : Int32)) % (94 : Int32)))) rfl ?_
  refine k_i2c W d_method_2_11 (z := ((33 : Int32) + ((p0 &&& (255 : Int32)) % (94 : Int32)))) (Rg.c (Rg.mono (own_nwl (show Rg ((p0 &&& (255 : Int32)) % (94 : Int32)) 94 from (Rg.mono (Rg.mod (Rg.and (n := 256) p0 (255 : Int32) (by decide)) (by decide)) (by decide)))).2 (by decide))) ?_
  refine k_callS W 0 2 5 (argsL := [(.int ((33 : Int32) + ((p0 &&& (255 : Int32)) % (94 : Int32))))]) (rest := []) d_method_2_12 (w39 hw) (w40 hw) (by decide) (lenOf pd21 rfl) (ct_vofC l Z a0 hw n0 h0 ((33 : Int32) + ((p0 &&& (255 : Int32)) % (94 : Int32))) zc (own_nwl (show Rg ((p0 &&& (255 : Int32)) % (94 : Int32)) 94 from (Rg.mono (Rg.mod (Rg.and (n := 256) p0 (255 : Int32) (by decide)) (by decide)) (by decide)))).2 P0 hzc) (w41 hw) (w8 hw) (fun x hx => hx) rfl (Nat.le_of_eq rfl) (Nat.le_of_ble_eq_true rfl) (Nat.le_of_ble_eq_true rfl) ⟨rfl, Nat.le_of_ble_eq_true rfl⟩ ⟨rfl, Nat.le_of_ble_eq_true rfl⟩ rfl (fun _ _ ⟨_, _, q, _⟩ => nomatch q) fun T h188 v so W hQ => ?_
  obtain ⟨x188, b188, hv, g188, K188, S188⟩ := hQ
  obtain rfl := Option.some.inj hv
  have KK189 : Keep h0 h188 [] := (Keep.refl h0 []).trans K188 all0
  exact k_areturn W d_method_2_15 rfl rfl rfl [] (fun x hx => nomatch hx) (Nat.le_of_ble_eq_true rfl) (Nat.le_of_ble_eq_true rfl) ⟨_, _, _, rfl, g188, KK189, S188, own_NB1 0 (own_nwl (show Rg ((p0 &&& (255 : Int32)) % (94 : Int32)) 94 from (Rg.mono (Rg.mod (Rg.and (n := 256) p0 (255 : Int32) (by decide)) (by decide)) (by decide)))).2 (own_nwl (show Rg ((p0 &&& (255 : Int32)) % (94 : Int32)) 94 from (Rg.mono (Rg.mod (Rg.and (n := 256) p0 (255 : Int32) (by decide)) (by decide)) (by decide)))).1 rfl⟩
set_option maxRecDepth 65536 in
set_option maxHeartbeats 40000000 in
theorem ct_mk (l : Launch) (Z : State) (a0 : Array Value) (hw : ∀ d ∈ tables_1, d.before a0 Z = true) (n0 : Nat) (h0 : Heap) (q0 : Int64) (p1 zc : Int32) (P0 : Sta Z h0 "java/lang/String" "COMPACT_STRINGS" "Z" (.int zc)) (hzc : zc ≠ 0) : Ct l Z a0 own_EL false (⟨"com/example/kourier/kourier/outbox/OutboxEventWithIdPinLaw", "mk", "(JI)Ljava/lang/String;"⟩ : MethodName) method_3_code 6 (Option.some (Jvm.ClassFile.FieldType.object "java/lang/String")) ({ frames := 4, cells := 3, slots := 10, locals := 66 } : Room) #[(.long q0), (.int p1)] h0 [] n0 (fun v h so => ∃ x b bs, v = some (.ref x) ∧ h0.size ≤ x ∧ Keep h0 h [] ∧ St Z h x b bs ∧ own_NB bs) := by
  refine Ct.body (plainFor_of_name pn8) ?_
  intro p e s m below meth c T W
  refine WP.cast (g' := (mkF m 0 #[.val (.long q0), .second, .val (.int p1), .unset, .unset, .unset] [])) (by simp [entryFrame, mkF, argsToLocals, cat_i, cat_l, cat_r, cat_n]) ?_
  refine k_bipush W d_method_3_0 (z := (33 : Int32)) rfl ?_
  refine k_lloadN W d_method_3_2 rfl ?_
  refine k_ldc2J W d_method_3_3 (w4 hw) ?_
  refine k_land W d_method_3_6 (z := (q0 &&& (255 : Int64))) rfl ?_
  refine k_ldc2J W d_method_3_7 (w5 hw) ?_
  obtain ⟨v190, ev190⟩ : ∃ z : Int64, z = ((q0 &&& (255 : Int64)) - ((q0 &&& (255 : Int64)) / (94 : Int64)) * (94 : Int64)) := ⟨_, rfl⟩
  refine k_lrem W d_method_3_10 (by decide) ev190.symm ?_
  refine k_l2i W d_method_3_11 (z := (v190.toInt32)) rfl ?_
  refine k_iadd W d_method_3_12 (z := ((33 : Int32) + (v190.toInt32))) rfl ?_
  have hz13 : own_NW ((33 : Int32) + (v190.toInt32)) ∧ Rg ((33 : Int32) + (v190.toInt32)) 256 := by subst_vars; exact (own_nwl (own_l32 (n := 94) (own_rem94 own_and) (by decide)))
  refine k_i2c W d_method_3_13 (z := ((33 : Int32) + (v190.toInt32))) (Rg.c (Rg.mono hz13.2 (by decide))) ?_
  refine k_istoreN W d_method_3_14 (L' := #[.val (.long q0), .second, .val (.int p1), .val (.int ((33 : Int32) + (v190.toInt32))), .unset, .unset]) rfl ?_
  refine k_lloadN W d_method_3_15 rfl ?_
  refine k_bipush W d_method_3_16 (z := (8 : Int32)) rfl ?_
  refine k_lushr W d_method_3_18 (z := (XT.ushrL q0 (8 : Int32))) rfl ?_
  refine k_ldc2J W d_method_3_19 (w4 hw) ?_
  refine k_land W d_method_3_22 (z := ((XT.ushrL q0 (8 : Int32)) &&& (255 : Int64))) rfl ?_
  refine k_l2i W d_method_3_23 (z := (((XT.ushrL q0 (8 : Int32)) &&& (255 : Int64)).toInt32)) rfl ?_
  have hr191 : Rg (((XT.ushrL q0 (8 : Int32)) &&& (255 : Int64)).toInt32) 256 := by subst_vars; exact own_l32 (n := 256) own_and (by decide)
  refine k_i2c W d_method_3_24 (z := (((XT.ushrL q0 (8 : Int32)) &&& (255 : Int64)).toInt32)) (Rg.c (Rg.mono hr191 (by decide))) ?_
  refine k_istore W d_method_3_25 (L' := #[.val (.long q0), .second, .val (.int p1), .val (.int ((33 : Int32) + (v190.toInt32))), .val (.int (((XT.ushrL q0 (8 : Int32)) &&& (255 : Int64)).toInt32)), .unset]) rfl ?_
  refine k_lloadN W d_method_3_27 rfl ?_
  refine k_bipush W d_method_3_28 (z := (16 : Int32)) rfl ?_
  refine k_lushr W d_method_3_30 (z := (XT.ushrL q0 (16 : Int32))) rfl ?_
  refine k_ldc2J W d_method_3_31 (w4 hw) ?_
  refine k_land W d_method_3_34 (z := ((XT.ushrL q0 (16 : Int32)) &&& (255 : Int64))) rfl ?_
  refine k_l2i W d_method_3_35 (z := (((XT.ushrL q0 (16 : Int32)) &&& (255 : Int64)).toInt32)) rfl ?_
  have hr192 : Rg (((XT.ushrL q0 (16 : Int32)) &&& (255 : Int64)).toInt32) 256 := by subst_vars; exact own_l32 (n := 256) own_and (by decide)
  refine k_i2c W d_method_3_36 (z := (((XT.ushrL q0 (16 : Int32)) &&& (255 : Int64)).toInt32)) (Rg.c (Rg.mono hr192 (by decide))) ?_
  refine k_istore W d_method_3_37 (L' := #[.val (.long q0), .second, .val (.int p1), .val (.int ((33 : Int32) + (v190.toInt32))), .val (.int (((XT.ushrL q0 (8 : Int32)) &&& (255 : Int64)).toInt32)), .val (.int (((XT.ushrL q0 (16 : Int32)) &&& (255 : Int64)).toInt32))]) rfl ?_
  refine k_iloadN W d_method_3_39 rfl ?_
  refine k_if W 58 d_method_3_40 (by decide) (fun (hc193 : ¬ p1 = 0) => ?_) (fun (hc193 : ¬ (¬ p1 = 0)) => ?_)
  · -- pc 58
    refine k_iloadN W d_method_3_58 rfl ?_
    refine k_iconst W d_method_3_59 (z := (1 : Int32)) rfl ?_
    refine k_ic W 83 d_method_3_60 (by decide) (fun (hc194 : ¬ p1 = (1 : Int32)) => ?_) (fun (hc194 : ¬ (¬ p1 = (1 : Int32))) => ?_)
    · -- pc 83
      refine k_new W 1 4 d_method_3_83 (w6 hw) (w7 hw) (w8 hw) ⟨rfl, Nat.le_of_ble_eq_true rfl⟩ ⟨rfl, Nat.le_of_ble_eq_true rfl⟩ fun T h195 a196 g196 W E196 X196 D196 => ?_
      have K196 : Keep h0 h195 [] := keep_ext E196 []
      refine k_dup W d_method_3_86 rfl ?_
      refine k_iconst W d_method_3_87 (z := (3 : Int32)) rfl ?_
      refine k_newarr W 3 2 7 d_method_3_88 (w9 hw) (by decide) (by decide) ⟨rfl, Nat.le_of_ble_eq_true rfl⟩ ⟨rfl, Nat.le_of_ble_eq_true rfl⟩ fun T h197 a198 g198 W E198 A198 => ?_
      have K198 : Keep h195 h197 [] := keep_ext E198 []
      have A198 : Av Z h197 a198 .char [(.int (0 : Int32)), (.int (0 : Int32)), (.int (0 : Int32))] := A198
      refine k_dup W d_method_3_90 rfl ?_
      refine k_iconst W d_method_3_91 (z := (0 : Int32)) rfl ?_
      refine k_iloadN W d_method_3_92 rfl ?_
      refine k_castore W (z := ((33 : Int32) + (v190.toInt32))) 0 d_method_3_93 (List.mem_of_getElem? (i := 0) rfl) A198 (by decide) (Nat.le_of_ble_eq_true rfl) (Rg.nar (Rg.mono hz13.2 (by decide))) (Rg.fits (Rg.mono hz13.2 (by decide))) fun T h199 W Wr199 A199 => ?_
      have K199 : Keep h197 h199 [a198] := Keep.of_wr Wr199
      have A199 : Av Z h199 a198 .char [(.int ((33 : Int32) + (v190.toInt32))), (.int (0 : Int32)), (.int (0 : Int32))] := A199
      refine k_dup W d_method_3_94 rfl ?_
      refine k_iconst W d_method_3_95 (z := (1 : Int32)) rfl ?_
      refine k_iload W d_method_3_96 rfl ?_
      refine k_castore W (z := (((XT.ushrL q0 (8 : Int32)) &&& (255 : Int64)).toInt32)) 1 d_method_3_98 (List.mem_of_getElem? (i := 0) rfl) A199 (by decide) (Nat.le_of_ble_eq_true rfl) (Rg.nar (Rg.mono hr191 (by decide))) (Rg.fits (Rg.mono hr191 (by decide))) fun T h200 W Wr200 A200 => ?_
      have K200 : Keep h199 h200 [a198] := Keep.of_wr Wr200
      have A200 : Av Z h200 a198 .char [(.int ((33 : Int32) + (v190.toInt32))), (.int (((XT.ushrL q0 (8 : Int32)) &&& (255 : Int64)).toInt32)), (.int (0 : Int32))] := A200
      refine k_dup W d_method_3_99 rfl ?_
      refine k_iconst W d_method_3_100 (z := (2 : Int32)) rfl ?_
      refine k_iload W d_method_3_101 rfl ?_
      refine k_castore W (z := (((XT.ushrL q0 (16 : Int32)) &&& (255 : Int64)).toInt32)) 2 d_method_3_103 (List.mem_of_getElem? (i := 0) rfl) A200 (by decide) (Nat.le_of_ble_eq_true rfl) (Rg.nar (Rg.mono hr192 (by decide))) (Rg.fits (Rg.mono hr192 (by decide))) fun T h201 W Wr201 A201 => ?_
      have K201 : Keep h200 h201 [a198] := Keep.of_wr Wr201
      have A201 : Av Z h201 a198 .char [(.int ((33 : Int32) + (v190.toInt32))), (.int (((XT.ushrL q0 (8 : Int32)) &&& (255 : Int64)).toInt32)), (.int (((XT.ushrL q0 (16 : Int32)) &&& (255 : Int64)).toInt32))] := A201
      have f202 := ((((X196.keep K198).keep K199).keep K200).keep K201)
      have ne203 : a196 ≠ a198 := (Nat.ne_of_lt (Nat.lt_of_lt_of_le X196.lt (Nat.le_of_eq g198.symm)))
      have f204 := (((((D196 (Or.inr (w35 hw)) (ty := (.array .byte)) (by decide)).keep K198 nin0).keep K199 (ninS ne203 nin0)).keep K200 (ninS ne203 nin0)).keep K201 (ninS ne203 nin0))
      have f205 := (((((D196 (Or.inr (w33 hw)) (ty := .byte) (by decide)).keep K198 nin0).keep K199 (ninS ne203 nin0)).keep K200 (ninS ne203 nin0)).keep K201 (ninS ne203 nin0))
      have f206 := (Sta.keep (Sta.keep (Sta.keep (Sta.keep (Sta.keep P0 K196 ns0) K198 ns0) K199 (nsS (Av.plain A198) ns0)) K200 (nsS (Av.plain A199) ns0)) K201 (nsS (Av.plain A200) ns0))
      refine k_callI0 W 1 3 10 (argsL := [(.ref a198)]) (rest := [(.ref a196)]) (a := a196) d_method_3_104 rfl rfl (w10 hw) (w11 hw) (by decide) (lenOf pd22 rfl) (ct_sinit l Z a0 hw n0 h201 a196 a198 [((33 : Int32) + (v190.toInt32)), (((XT.ushrL q0 (8 : Int32)) &&& (255 : Int64)).toInt32), (((XT.ushrL q0 (16 : Int32)) &&& (255 : Int64)).toInt32)] 3 zc .null (.int (0 : Int32)) f202 f204 f205 A201 f206 hzc (rgS hz13.2 (rgS hr191 (rgS hr192 (fun _ q => nomatch q)))) (Nat.le_of_ble_eq_true rfl) (Nat.le_of_ble_eq_true rfl) (by decide)) (w12 hw) (w8 hw) (fun x hx => by simp only [List.mem_cons, List.not_mem_nil, or_false] at hx; rcases hx with rfl; all_goals first | exact (List.mem_of_getElem? (i := 1) rfl)) rfl (Nat.le_of_eq rfl) (Nat.le_of_ble_eq_true rfl) (Nat.le_of_ble_eq_true rfl) ⟨rfl, Nat.le_of_ble_eq_true rfl⟩ ⟨rfl, Nat.le_of_ble_eq_true rfl⟩ rfl (fun _ _ _ q => nomatch q.1) fun T h207 so W hQ => ?_
      obtain ⟨-, b207, g207, K207, S207⟩ := hQ
      have S207 : St Z h207 a196 b207 [(i2b ((33 : Int32) + (v190.toInt32))), (i2b (((XT.ushrL q0 (8 : Int32)) &&& (255 : Int64)).toInt32)), (i2b (((XT.ushrL q0 (16 : Int32)) &&& (255 : Int64)).toInt32))] := S207
      have KK208 : Keep h0 h195 [] := (Keep.refl h0 []).trans K196 all0
      have KK209 : Keep h0 h197 [] := KK208.trans K198 all0
      have KK210 : Keep h0 h199 [] := KK209.trans K199 (allS (Or.inr (Nat.le_trans E196.1 (Nat.le_of_eq g198.symm))) all0)
      have KK211 : Keep h0 h200 [] := KK210.trans K200 (allS (Or.inr (Nat.le_trans E196.1 (Nat.le_of_eq g198.symm))) all0)
      have KK212 : Keep h0 h201 [] := KK211.trans K201 (allS (Or.inr (Nat.le_trans E196.1 (Nat.le_of_eq g198.symm))) all0)
      have KK213 : Keep h0 h207 [] := KK212.trans K207 (allS (Or.inr (Nat.le_of_eq g196.symm)) all0)
      exact k_areturn W d_method_3_107 rfl rfl rfl [] (fun x hx => nomatch hx) (Nat.le_of_ble_eq_true rfl) (Nat.le_of_ble_eq_true rfl) ⟨_, _, _, rfl, (Nat.le_of_eq g196.symm), KK213, S207, own_NB1 0 hz13.2 hz13.1 rfl⟩
    · -- pc 63
      refine k_new W 1 4 d_method_3_63 (w6 hw) (w7 hw) (w8 hw) ⟨rfl, Nat.le_of_ble_eq_true rfl⟩ ⟨rfl, Nat.le_of_ble_eq_true rfl⟩ fun T h214 a215 g215 W E215 X215 D215 => ?_
      have K215 : Keep h0 h214 [] := keep_ext E215 []
      refine k_dup W d_method_3_66 rfl ?_
      refine k_iconst W d_method_3_67 (z := (2 : Int32)) rfl ?_
      refine k_newarr W 2 2 6 d_method_3_68 (w9 hw) (by decide) (by decide) ⟨rfl, Nat.le_of_ble_eq_true rfl⟩ ⟨rfl, Nat.le_of_ble_eq_true rfl⟩ fun T h216 a217 g217 W E217 A217 => ?_
      have K217 : Keep h214 h216 [] := keep_ext E217 []
      have A217 : Av Z h216 a217 .char [(.int (0 : Int32)), (.int (0 : Int32))] := A217
      refine k_dup W d_method_3_70 rfl ?_
      refine k_iconst W d_method_3_71 (z := (0 : Int32)) rfl ?_
      refine k_iloadN W d_method_3_72 rfl ?_
      refine k_castore W (z := ((33 : Int32) + (v190.toInt32))) 0 d_method_3_73 (List.mem_of_getElem? (i := 0) rfl) A217 (by decide) (Nat.le_of_ble_eq_true rfl) (Rg.nar (Rg.mono hz13.2 (by decide))) (Rg.fits (Rg.mono hz13.2 (by decide))) fun T h218 W Wr218 A218 => ?_
      have K218 : Keep h216 h218 [a217] := Keep.of_wr Wr218
      have A218 : Av Z h218 a217 .char [(.int ((33 : Int32) + (v190.toInt32))), (.int (0 : Int32))] := A218
      refine k_dup W d_method_3_74 rfl ?_
      refine k_iconst W d_method_3_75 (z := (1 : Int32)) rfl ?_
      refine k_iload W d_method_3_76 rfl ?_
      refine k_castore W (z := (((XT.ushrL q0 (8 : Int32)) &&& (255 : Int64)).toInt32)) 1 d_method_3_78 (List.mem_of_getElem? (i := 0) rfl) A218 (by decide) (Nat.le_of_ble_eq_true rfl) (Rg.nar (Rg.mono hr191 (by decide))) (Rg.fits (Rg.mono hr191 (by decide))) fun T h219 W Wr219 A219 => ?_
      have K219 : Keep h218 h219 [a217] := Keep.of_wr Wr219
      have A219 : Av Z h219 a217 .char [(.int ((33 : Int32) + (v190.toInt32))), (.int (((XT.ushrL q0 (8 : Int32)) &&& (255 : Int64)).toInt32))] := A219
      have f220 := (((X215.keep K217).keep K218).keep K219)
      have ne221 : a215 ≠ a217 := (Nat.ne_of_lt (Nat.lt_of_lt_of_le X215.lt (Nat.le_of_eq g217.symm)))
      have f222 := ((((D215 (Or.inr (w35 hw)) (ty := (.array .byte)) (by decide)).keep K217 nin0).keep K218 (ninS ne221 nin0)).keep K219 (ninS ne221 nin0))
      have f223 := ((((D215 (Or.inr (w33 hw)) (ty := .byte) (by decide)).keep K217 nin0).keep K218 (ninS ne221 nin0)).keep K219 (ninS ne221 nin0))
      have f224 := (Sta.keep (Sta.keep (Sta.keep (Sta.keep P0 K215 ns0) K217 ns0) K218 (nsS (Av.plain A217) ns0)) K219 (nsS (Av.plain A218) ns0))
      refine k_callI0 W 1 3 8 (argsL := [(.ref a217)]) (rest := [(.ref a215)]) (a := a215) d_method_3_79 rfl rfl (w10 hw) (w11 hw) (by decide) (lenOf pd22 rfl) (ct_sinit l Z a0 hw n0 h219 a215 a217 [((33 : Int32) + (v190.toInt32)), (((XT.ushrL q0 (8 : Int32)) &&& (255 : Int64)).toInt32)] 2 zc .null (.int (0 : Int32)) f220 f222 f223 A219 f224 hzc (rgS hz13.2 (rgS hr191 (fun _ q => nomatch q))) (Nat.le_of_ble_eq_true rfl) (Nat.le_of_ble_eq_true rfl) (by decide)) (w12 hw) (w8 hw) (fun x hx => by simp only [List.mem_cons, List.not_mem_nil, or_false] at hx; rcases hx with rfl; all_goals first | exact (List.mem_of_getElem? (i := 1) rfl)) rfl (Nat.le_of_eq rfl) (Nat.le_of_ble_eq_true rfl) (Nat.le_of_ble_eq_true rfl) ⟨rfl, Nat.le_of_ble_eq_true rfl⟩ ⟨rfl, Nat.le_of_ble_eq_true rfl⟩ rfl (fun _ _ _ q => nomatch q.1) fun T h225 so W hQ => ?_
      obtain ⟨-, b225, g225, K225, S225⟩ := hQ
      have S225 : St Z h225 a215 b225 [(i2b ((33 : Int32) + (v190.toInt32))), (i2b (((XT.ushrL q0 (8 : Int32)) &&& (255 : Int64)).toInt32))] := S225
      have KK226 : Keep h0 h214 [] := (Keep.refl h0 []).trans K215 all0
      have KK227 : Keep h0 h216 [] := KK226.trans K217 all0
      have KK228 : Keep h0 h218 [] := KK227.trans K218 (allS (Or.inr (Nat.le_trans E215.1 (Nat.le_of_eq g217.symm))) all0)
      have KK229 : Keep h0 h219 [] := KK228.trans K219 (allS (Or.inr (Nat.le_trans E215.1 (Nat.le_of_eq g217.symm))) all0)
      have KK230 : Keep h0 h225 [] := KK229.trans K225 (allS (Or.inr (Nat.le_of_eq g215.symm)) all0)
      exact k_areturn W d_method_3_82 rfl rfl rfl [] (fun x hx => nomatch hx) (Nat.le_of_ble_eq_true rfl) (Nat.le_of_ble_eq_true rfl) ⟨_, _, _, rfl, (Nat.le_of_eq g215.symm), KK230, S225, own_NB1 0 hz13.2 hz13.1 rfl⟩
  · -- pc 43
    refine k_new W 1 4 d_method_3_43 (w6 hw) (w7 hw) (w8 hw) ⟨rfl, Nat.le_of_ble_eq_true rfl⟩ ⟨rfl, Nat.le_of_ble_eq_true rfl⟩ fun T h231 a232 g232 W E232 X232 D232 => ?_
    have K232 : Keep h0 h231 [] := keep_ext E232 []
    refine k_dup W d_method_3_46 rfl ?_
    refine k_iconst W d_method_3_47 (z := (1 : Int32)) rfl ?_
    refine k_newarr W 1 2 5 d_method_3_48 (w9 hw) (by decide) (by decide) ⟨rfl, Nat.le_of_ble_eq_true rfl⟩ ⟨rfl, Nat.le_of_ble_eq_true rfl⟩ fun T h233 a234 g234 W E234 A234 => ?_
    have K234 : Keep h231 h233 [] := keep_ext E234 []
    have A234 : Av Z h233 a234 .char [(.int (0 : Int32))] := A234
    refine k_dup W d_method_3_50 rfl ?_
    refine k_iconst W d_method_3_51 (z := (0 : Int32)) rfl ?_
    refine k_iloadN W d_method_3_52 rfl ?_
    refine k_castore W (z := ((33 : Int32) + (v190.toInt32))) 0 d_method_3_53 (List.mem_of_getElem? (i := 0) rfl) A234 (by decide) (Nat.le_of_ble_eq_true rfl) (Rg.nar (Rg.mono hz13.2 (by decide))) (Rg.fits (Rg.mono hz13.2 (by decide))) fun T h235 W Wr235 A235 => ?_
    have K235 : Keep h233 h235 [a234] := Keep.of_wr Wr235
    have A235 : Av Z h235 a234 .char [(.int ((33 : Int32) + (v190.toInt32)))] := A235
    have f236 := ((X232.keep K234).keep K235)
    have ne237 : a232 ≠ a234 := (Nat.ne_of_lt (Nat.lt_of_lt_of_le X232.lt (Nat.le_of_eq g234.symm)))
    have f238 := (((D232 (Or.inr (w35 hw)) (ty := (.array .byte)) (by decide)).keep K234 nin0).keep K235 (ninS ne237 nin0))
    have f239 := (((D232 (Or.inr (w33 hw)) (ty := .byte) (by decide)).keep K234 nin0).keep K235 (ninS ne237 nin0))
    have f240 := (Sta.keep (Sta.keep (Sta.keep P0 K232 ns0) K234 ns0) K235 (nsS (Av.plain A234) ns0))
    refine k_callI0 W 1 3 6 (argsL := [(.ref a234)]) (rest := [(.ref a232)]) (a := a232) d_method_3_54 rfl rfl (w10 hw) (w11 hw) (by decide) (lenOf pd22 rfl) (ct_sinit l Z a0 hw n0 h235 a232 a234 [((33 : Int32) + (v190.toInt32))] 1 zc .null (.int (0 : Int32)) f236 f238 f239 A235 f240 hzc (rgS hz13.2 (fun _ q => nomatch q)) (Nat.le_of_ble_eq_true rfl) (Nat.le_of_ble_eq_true rfl) (by decide)) (w12 hw) (w8 hw) (fun x hx => by simp only [List.mem_cons, List.not_mem_nil, or_false] at hx; rcases hx with rfl; all_goals first | exact (List.mem_of_getElem? (i := 1) rfl)) rfl (Nat.le_of_eq rfl) (Nat.le_of_ble_eq_true rfl) (Nat.le_of_ble_eq_true rfl) ⟨rfl, Nat.le_of_ble_eq_true rfl⟩ ⟨rfl, Nat.le_of_ble_eq_true rfl⟩ rfl (fun _ _ _ q => nomatch q.1) fun T h241 so W hQ => ?_
    obtain ⟨-, b241, g241, K241, S241⟩ := hQ
    have S241 : St Z h241 a232 b241 [(i2b ((33 : Int32) + (v190.toInt32)))] := S241
    have KK242 : Keep h0 h231 [] := (Keep.refl h0 []).trans K232 all0
    have KK243 : Keep h0 h233 [] := KK242.trans K234 all0
    have KK244 : Keep h0 h235 [] := KK243.trans K235 (allS (Or.inr (Nat.le_trans E232.1 (Nat.le_of_eq g234.symm))) all0)
    have KK245 : Keep h0 h241 [] := KK244.trans K241 (allS (Or.inr (Nat.le_of_eq g232.symm)) all0)
    exact k_areturn W d_method_3_57 rfl rfl rfl [] (fun x hx => nomatch hx) (Nat.le_of_ble_eq_true rfl) (Nat.le_of_ble_eq_true rfl) ⟨_, _, _, rfl, (Nat.le_of_eq g232.symm), KK245, S241, own_NB1 0 hz13.2 hz13.1 rfl⟩
theorem own_rg3 {z : Int32} (q : Rg z 3) : z = 0 ∨ z = 1 ∨ z = 2 := by
  have h1 := q.1; have h2 := q.2
  have : z.toInt = 0 ∨ z.toInt = 1 ∨ z.toInt = 2 := by omega
  rcases this with h | h | h
  · exact Or.inl (Int32.toInt_inj.mp (h.trans (by decide)))
  · exact Or.inr (Or.inl (Int32.toInt_inj.mp (h.trans (by decide))))
  · exact Or.inr (Or.inr (Int32.toInt_inj.mp (h.trans (by decide))))
set_option maxRecDepth 65536 in
set_option maxHeartbeats 40000000 in
theorem rm0 (l : Launch) (Z : State) (a0 : Array Value) (hw : ∀ d ∈ tables_1, d.before a0 Z = true) (n0 : Nat) (h0 : Heap) (q0 q1 : Int64) (p2 p3 p4 zc : Int32) (cd ca mr : Addr) (M0 : Mir Z "com/example/kourier/kourier/outbox/OutboxEvent" mr) (P0 : Sta Z h0 "java/lang/String" "COMPACT_STRINGS" "Z" (.int zc)) (hzc : zc ≠ 0) (CI : Sta Z h0 "java/lang/CharacterDataLatin1" "instance" "Ljava/lang/CharacterDataLatin1;" (.ref cd)) (CX : Exa Z h0 cd "java/lang/CharacterDataLatin1") (CA : Sta Z h0 "java/lang/CharacterDataLatin1" "A" "[I" (.ref ca)) (CV : Av Z h0 ca .int (own_props.map Value.int)) : Ct l Z a0 own_EL false x code maxLocals ret room_1 #[(.long q0), (.long q1), (.int p2), (.int p3), (.int p4)] h0 [] n0 (fun v h so => v = some (.int 1)) := by
  refine Ct.body (plainFor_of_name pn8) ?_
  intro p e s m below meth c T W
  refine WP.cast (g' := (mkF m 0 #[.val (.long q0), .second, .val (.long q1), .second, .val (.int p2), .val (.int p3), .val (.int p4), .unset, .unset, .unset, .unset, .unset, .unset, .unset, .unset, .unset, .unset, .unset, .unset, .unset, .unset, .unset, .unset, .unset] [])) (by simp [entryFrame, mkF, argsToLocals, cat_i, cat_l, cat_r, cat_n, maxLocals]) ?_
  refine k_iload W d_code_0 rfl ?_
  refine k_iconst W d_code_2 (z := (1 : Int32)) rfl ?_
  refine k_iand W d_code_3 (z := (p4 &&& (1 : Int32))) rfl ?_
  suffices hJz247 : ∀ z247 : Int32, (z247 = 0 ∨ z247 = 1) → WP p e below (Fne s n0 Z own_EL false room_1 (fun v h so => v = some (.int 1))) T (mkF m 12 #[.val (.long q0), .second, .val (.long q1), .second, .val (.int p2), .val (.int p3), .val (.int p4), .unset, .unset, .unset, .unset, .unset, .unset, .unset, .unset, .unset, .unset, .unset, .unset, .unset, .unset, .unset, .unset, .unset] [(.int z247)]) by
    refine k_if W 11 d_code_4 (by decide) (fun (hc246 : (p4 &&& (1 : Int32)) = 0) => ?_) (fun (hc246 : ¬ ((p4 &&& (1 : Int32)) = 0)) => ?_)
    · -- pc 11
      refine k_iconst W d_code_11 (z := (0 : Int32)) rfl ?_
      exact hJz247 (0 : Int32) (by decide)
    · -- pc 7
      refine k_iconst W d_code_7 (z := (1 : Int32)) rfl ?_
      refine k_goto W 12 d_code_8 (by decide) ?_
      exact hJz247 (1 : Int32) (by decide)
  intro z247 rz247
  refine k_istore W d_code_12 (L' := #[.val (.long q0), .second, .val (.long q1), .second, .val (.int p2), .val (.int p3), .val (.int p4), .val (.int z247), .unset, .unset, .unset, .unset, .unset, .unset, .unset, .unset, .unset, .unset, .unset, .unset, .unset, .unset, .unset, .unset]) rfl ?_
  refine k_iload W d_code_14 rfl ?_
  refine k_iconst W d_code_16 (z := (1 : Int32)) rfl ?_
  refine k_iushr W d_code_17 (z := (XT.ushr p4 (1 : Int32))) rfl ?_
  refine k_iconst W d_code_18 (z := (3 : Int32)) rfl ?_
  refine k_iand W d_code_19 (z := ((XT.ushr p4 (1 : Int32)) &&& (3 : Int32))) rfl ?_
  refine k_iconst W d_code_20 (z := (3 : Int32)) rfl ?_
  refine k_irem W d_code_21 (by decide) (z := (((XT.ushr p4 (1 : Int32)) &&& (3 : Int32)) % (3 : Int32))) rfl ?_
  suffices hJe1 : ∀ (e1 : Int32), Rg e1 3 → WP p e below (Fne s n0 Z own_EL false room_1 (fun v h so => v = some (.int 1))) T (mkF m 22 #[.val (.long q0), .second, .val (.long q1), .second, .val (.int p2), .val (.int p3), .val (.int p4), .val (.int z247), .unset, .unset, .unset, .unset, .unset, .unset, .unset, .unset, .unset, .unset, .unset, .unset, .unset, .unset, .unset, .unset] [(.int e1)]) from hJe1 _ (show Rg (((XT.ushr p4 (1 : Int32)) &&& (3 : Int32)) % (3 : Int32)) 3 from (Rg.mono (Rg.mod (Rg.and (n := 4) (XT.ushr p4 (1 : Int32)) (3 : Int32) (by decide)) (by decide)) (by decide)))
  intro e1 re1
  refine k_istore W d_code_22 (L' := #[.val (.long q0), .second, .val (.long q1), .second, .val (.int p2), .val (.int p3), .val (.int p4), .val (.int z247), .val (.int e1), .unset, .unset, .unset, .unset, .unset, .unset, .unset, .unset, .unset, .unset, .unset, .unset, .unset, .unset, .unset]) rfl ?_
  refine k_iload W d_code_24 rfl ?_
  refine k_iconst W d_code_26 (z := (3 : Int32)) rfl ?_
  refine k_iushr W d_code_27 (z := (XT.ushr p4 (3 : Int32))) rfl ?_
  refine k_iconst W d_code_28 (z := (3 : Int32)) rfl ?_
  refine k_iand W d_code_29 (z := ((XT.ushr p4 (3 : Int32)) &&& (3 : Int32))) rfl ?_
  refine k_iconst W d_code_30 (z := (3 : Int32)) rfl ?_
  refine k_irem W d_code_31 (by decide) (z := (((XT.ushr p4 (3 : Int32)) &&& (3 : Int32)) % (3 : Int32))) rfl ?_
  suffices hJe2 : ∀ (e2 : Int32), Rg e2 3 → WP p e below (Fne s n0 Z own_EL false room_1 (fun v h so => v = some (.int 1))) T (mkF m 32 #[.val (.long q0), .second, .val (.long q1), .second, .val (.int p2), .val (.int p3), .val (.int p4), .val (.int z247), .val (.int e1), .unset, .unset, .unset, .unset, .unset, .unset, .unset, .unset, .unset, .unset, .unset, .unset, .unset, .unset, .unset] [(.int e2)]) from hJe2 _ (show Rg (((XT.ushr p4 (3 : Int32)) &&& (3 : Int32)) % (3 : Int32)) 3 from (Rg.mono (Rg.mod (Rg.and (n := 4) (XT.ushr p4 (3 : Int32)) (3 : Int32) (by decide)) (by decide)) (by decide)))
  intro e2 re2
  refine k_istore W d_code_32 (L' := #[.val (.long q0), .second, .val (.long q1), .second, .val (.int p2), .val (.int p3), .val (.int p4), .val (.int z247), .val (.int e1), .val (.int e2), .unset, .unset, .unset, .unset, .unset, .unset, .unset, .unset, .unset, .unset, .unset, .unset, .unset, .unset]) rfl ?_
  refine k_iload W d_code_34 rfl ?_
  refine k_iconst W d_code_36 (z := (5 : Int32)) rfl ?_
  refine k_iushr W d_code_37 (z := (XT.ushr p4 (5 : Int32))) rfl ?_
  refine k_iconst W d_code_38 (z := (3 : Int32)) rfl ?_
  refine k_iand W d_code_39 (z := ((XT.ushr p4 (5 : Int32)) &&& (3 : Int32))) rfl ?_
  refine k_iconst W d_code_40 (z := (3 : Int32)) rfl ?_
  refine k_irem W d_code_41 (by decide) (z := (((XT.ushr p4 (5 : Int32)) &&& (3 : Int32)) % (3 : Int32))) rfl ?_
  suffices hJe3 : ∀ (e3 : Int32), Rg e3 3 → WP p e below (Fne s n0 Z own_EL false room_1 (fun v h so => v = some (.int 1))) T (mkF m 42 #[.val (.long q0), .second, .val (.long q1), .second, .val (.int p2), .val (.int p3), .val (.int p4), .val (.int z247), .val (.int e1), .val (.int e2), .unset, .unset, .unset, .unset, .unset, .unset, .unset, .unset, .unset, .unset, .unset, .unset, .unset, .unset] [(.int e3)]) from hJe3 _ (show Rg (((XT.ushr p4 (5 : Int32)) &&& (3 : Int32)) % (3 : Int32)) 3 from (Rg.mono (Rg.mod (Rg.and (n := 4) (XT.ushr p4 (5 : Int32)) (3 : Int32) (by decide)) (by decide)) (by decide)))
  intro e3 re3
  refine k_istore W d_code_42 (L' := #[.val (.long q0), .second, .val (.long q1), .second, .val (.int p2), .val (.int p3), .val (.int p4), .val (.int z247), .val (.int e1), .val (.int e2), .val (.int e3), .unset, .unset, .unset, .unset, .unset, .unset, .unset, .unset, .unset, .unset, .unset, .unset, .unset]) rfl ?_
  refine k_lloadN W d_code_44 rfl ?_
  refine k_iload W d_code_45 rfl ?_
  refine k_callS W 0 3 10 (argsL := [(.long q0), (.int e1)]) (rest := []) d_code_47 (w0 hw) (w1 hw) (by decide) (lenOf pd23 rfl) (ct_mk l Z a0 hw n0 h0 q0 e1 zc P0 hzc) (w3 hw) (w2 hw) (fun x hx => hx) rfl (Nat.le_of_eq rfl) (Nat.le_of_ble_eq_true rfl) (Nat.le_of_ble_eq_true rfl) ⟨rfl, Nat.le_of_ble_eq_true rfl⟩ ⟨rfl, Nat.le_of_ble_eq_true rfl⟩ rfl (fun _ _ ⟨_, _, _, q, _⟩ => nomatch q) fun T h248 v so W hQ => ?_
  obtain ⟨x248, b248, bs248, hv, g248, K248, S248, nb248⟩ := hQ
  obtain rfl := Option.some.inj hv
  refine k_astore W d_code_50 rfl (L' := #[.val (.long q0), .second, .val (.long q1), .second, .val (.int p2), .val (.int p3), .val (.int p4), .val (.int z247), .val (.int e1), .val (.int e2), .val (.int e3), .val (.ref x248), .unset, .unset, .unset, .unset, .unset, .unset, .unset, .unset, .unset, .unset, .unset, .unset]) rfl ?_
  refine k_iload W d_code_52 rfl ?_
  refine k_if W 66 d_code_54 (by decide) (fun (hc249 : z247 = 0) => ?_) (fun (hc249 : ¬ (z247 = 0)) => ?_)
  · -- pc 66
    refine k_lloadN W d_code_66 rfl ?_
    refine k_iload W d_code_67 rfl ?_
    have f251 := (Sta.keep P0 K248 ns0)
    refine k_callS W 0 6 20 (argsL := [(.long q1), (.int e3)]) (rest := []) d_code_69 (w0 hw) (w1 hw) (by decide) (lenOf pd23 rfl) (ct_mk l Z a0 hw n0 h248 q1 e3 zc f251 hzc) (w3 hw) (w2 hw) (fun x hx => hx) rfl (Nat.le_of_eq rfl) (Nat.le_of_ble_eq_true rfl) (Nat.le_of_ble_eq_true rfl) ⟨rfl, Nat.le_of_ble_eq_true rfl⟩ ⟨rfl, Nat.le_of_ble_eq_true rfl⟩ rfl (fun _ _ ⟨_, _, _, q, _⟩ => nomatch q) fun T h250 v so W hQ => ?_
    obtain ⟨x250, b250, bs250, hv, g250, K250, S250, nb250⟩ := hQ
    obtain rfl := Option.some.inj hv
    refine k_astore W d_code_72 rfl (L' := #[.val (.long q0), .second, .val (.long q1), .second, .val (.int p2), .val (.int p3), .val (.int p4), .val (.int z247), .val (.int e1), .val (.int e2), .val (.int e3), .val (.ref x248), .val (.ref x250), .unset, .unset, .unset, .unset, .unset, .unset, .unset, .unset, .unset, .unset, .unset]) rfl ?_
    refine k_iload W d_code_74 rfl ?_
    have f253 := (Sta.keep f251 K250 ns0)
    refine k_callS W 0 8 25 (argsL := [(.int p2)]) (rest := []) d_code_76 (w36 hw) (w37 hw) (by decide) (lenOf pd24 rfl) (ct_text l Z a0 hw n0 h250 p2 zc f253 hzc) (w38 hw) (w2 hw) (fun x hx => hx) rfl (Nat.le_of_eq rfl) (Nat.le_of_ble_eq_true rfl) (Nat.le_of_ble_eq_true rfl) ⟨rfl, Nat.le_of_ble_eq_true rfl⟩ ⟨rfl, Nat.le_of_ble_eq_true rfl⟩ rfl (fun _ _ ⟨_, _, _, q, _⟩ => nomatch q) fun T h252 v so W hQ => ?_
    obtain ⟨x252, b252, bs252, hv, g252, K252, S252, nb252⟩ := hQ
    obtain rfl := Option.some.inj hv
    refine k_astore W d_code_79 rfl (L' := #[.val (.long q0), .second, .val (.long q1), .second, .val (.int p2), .val (.int p3), .val (.int p4), .val (.int z247), .val (.int e1), .val (.int e2), .val (.int e3), .val (.ref x248), .val (.ref x250), .val (.ref x252), .unset, .unset, .unset, .unset, .unset, .unset, .unset, .unset, .unset, .unset]) rfl ?_
    refine k_iload W d_code_81 rfl ?_
    refine k_bipush W d_code_83 (z := (8 : Int32)) rfl ?_
    refine k_iushr W d_code_85 (z := (XT.ushr p2 (8 : Int32))) rfl ?_
    have f255 := (Sta.keep f253 K252 ns0)
    refine k_callS W 0 10 30 (argsL := [(.int (XT.ushr p2 (8 : Int32)))]) (rest := []) d_code_86 (w36 hw) (w37 hw) (by decide) (lenOf pd24 rfl) (ct_text l Z a0 hw n0 h252 (XT.ushr p2 (8 : Int32)) zc f255 hzc) (w38 hw) (w2 hw) (fun x hx => hx) rfl (Nat.le_of_eq rfl) (Nat.le_of_ble_eq_true rfl) (Nat.le_of_ble_eq_true rfl) ⟨rfl, Nat.le_of_ble_eq_true rfl⟩ ⟨rfl, Nat.le_of_ble_eq_true rfl⟩ rfl (fun _ _ ⟨_, _, _, q, _⟩ => nomatch q) fun T h254 v so W hQ => ?_
    obtain ⟨x254, b254, bs254, hv, g254, K254, S254, nb254⟩ := hQ
    obtain rfl := Option.some.inj hv
    refine k_astore W d_code_89 rfl (L' := #[.val (.long q0), .second, .val (.long q1), .second, .val (.int p2), .val (.int p3), .val (.int p4), .val (.int z247), .val (.int e1), .val (.int e2), .val (.int e3), .val (.ref x248), .val (.ref x250), .val (.ref x252), .val (.ref x254), .unset, .unset, .unset, .unset, .unset, .unset, .unset, .unset, .unset]) rfl ?_
    refine k_iload W d_code_91 rfl ?_
    refine k_bipush W d_code_93 (z := (16 : Int32)) rfl ?_
    refine k_iushr W d_code_95 (z := (XT.ushr p2 (16 : Int32))) rfl ?_
    have f257 := (Sta.keep f255 K254 ns0)
    refine k_callS W 0 12 35 (argsL := [(.int (XT.ushr p2 (16 : Int32)))]) (rest := []) d_code_96 (w36 hw) (w37 hw) (by decide) (lenOf pd24 rfl) (ct_text l Z a0 hw n0 h254 (XT.ushr p2 (16 : Int32)) zc f257 hzc) (w38 hw) (w2 hw) (fun x hx => hx) rfl (Nat.le_of_eq rfl) (Nat.le_of_ble_eq_true rfl) (Nat.le_of_ble_eq_true rfl) ⟨rfl, Nat.le_of_ble_eq_true rfl⟩ ⟨rfl, Nat.le_of_ble_eq_true rfl⟩ rfl (fun _ _ ⟨_, _, _, q, _⟩ => nomatch q) fun T h256 v so W hQ => ?_
    obtain ⟨x256, b256, bs256, hv, g256, K256, S256, nb256⟩ := hQ
    obtain rfl := Option.some.inj hv
    refine k_astore W d_code_99 rfl (L' := #[.val (.long q0), .second, .val (.long q1), .second, .val (.int p2), .val (.int p3), .val (.int p4), .val (.int z247), .val (.int e1), .val (.int e2), .val (.int e3), .val (.ref x248), .val (.ref x250), .val (.ref x252), .val (.ref x254), .val (.ref x256), .unset, .unset, .unset, .unset, .unset, .unset, .unset, .unset]) rfl ?_
    refine k_iload W d_code_101 rfl ?_
    refine k_i2b W d_code_103 (z := (i2b p3)) rfl ?_
    refine k_istore W d_code_104 (L' := #[.val (.long q0), .second, .val (.long q1), .second, .val (.int p2), .val (.int p3), .val (.int p4), .val (.int z247), .val (.int e1), .val (.int e2), .val (.int e3), .val (.ref x248), .val (.ref x250), .val (.ref x252), .val (.ref x254), .val (.ref x256), .val (.int (i2b p3)), .unset, .unset, .unset, .unset, .unset, .unset, .unset]) rfl ?_
    refine k_iload W d_code_106 rfl ?_
    refine k_bipush W d_code_108 (z := (8 : Int32)) rfl ?_
    refine k_iushr W d_code_110 (z := (XT.ushr p3 (8 : Int32))) rfl ?_
    refine k_i2b W d_code_111 (z := (i2b (XT.ushr p3 (8 : Int32)))) rfl ?_
    refine k_istore W d_code_112 (L' := #[.val (.long q0), .second, .val (.long q1), .second, .val (.int p2), .val (.int p3), .val (.int p4), .val (.int z247), .val (.int e1), .val (.int e2), .val (.int e3), .val (.ref x248), .val (.ref x250), .val (.ref x252), .val (.ref x254), .val (.ref x256), .val (.int (i2b p3)), .val (.int (i2b (XT.ushr p3 (8 : Int32)))), .unset, .unset, .unset, .unset, .unset, .unset]) rfl ?_
    rcases own_rg3 re2 with rfl | rfl | rfl
    · -- plen 0
      refine k_iload W d_code_114 rfl ?_
      refine k_ifN W d_code_116 (show ¬ (¬ (0 : Int32) = 0) by decide) ?_
      refine k_iconst W d_code_119 (z := (0 : Int32)) rfl ?_
      refine k_newarrE W 0 13 35 "[B" (by decide) d_code_120 (w25 hw) (by decide) (by decide) ⟨rfl, Nat.le_of_ble_eq_true rfl⟩ ⟨rfl, Nat.le_of_ble_eq_true rfl⟩ fun T h258 a259 g259 W E259 A259 X259 => ?_
      have K259 : Keep h256 h258 [] := keep_ext E259 []
      have A259 : Av Z h258 a259 .byte [] := A259
      refine k_astore W d_code_122 rfl (L' := #[.val (.long q0), .second, .val (.long q1), .second, .val (.int p2), .val (.int p3), .val (.int p4), .val (.int z247), .val (.int e1), .val (.int (0 : Int32)), .val (.int e3), .val (.ref x248), .val (.ref x250), .val (.ref x252), .val (.ref x254), .val (.ref x256), .val (.int (i2b p3)), .val (.int (i2b (XT.ushr p3 (8 : Int32)))), .val (.ref a259), .unset, .unset, .unset, .unset, .unset]) rfl ?_
      refine k_goto W 161 d_code_124 (by decide) ?_
      refine k_new W 14 40 d_code_161 (w53 hw) (w54 hw) (w55 hw) ⟨rfl, Nat.le_of_ble_eq_true rfl⟩ ⟨rfl, Nat.le_of_ble_eq_true rfl⟩ fun T h260 a261 g261 W E261 X261 D261 => ?_
      have K261 : Keep h258 h260 [] := keep_ext E261 []
      refine k_dup W d_code_164 rfl ?_
      refine k_aload W d_code_165 rfl rfl ?_
      refine k_aload W d_code_167 rfl rfl ?_
      refine k_aload W d_code_169 rfl rfl ?_
      refine k_aload W d_code_171 rfl rfl ?_
      have f262 := ((((S252.keep K254 nin0 nin0).keep K256 nin0 nin0).keep K259 nin0 nin0).keep K261 nin0 nin0)
      have f263 := (((S254.keep K256 nin0 nin0).keep K259 nin0 nin0).keep K261 nin0 nin0)
      have f264 := ((S256.keep K259 nin0 nin0).keep K261 nin0 nin0)
      have f265 := (A259.keep K261 nin0)
      have f266 := (X259.keep K261)
      have f267 := (Sta.keep (Sta.keep (Sta.keep f257 K256 ns0) K259 ns0) K261 ns0)
      have f268 := (Sta.keep (Sta.keep (Sta.keep (Sta.keep (Sta.keep (Sta.keep (Sta.keep CI K248 ns0) K250 ns0) K252 ns0) K254 ns0) K256 ns0) K259 ns0) K261 ns0)
      have f269 := (((((((CX.keep K248).keep K250).keep K252).keep K254).keep K256).keep K259).keep K261)
      have f270 := (Sta.keep (Sta.keep (Sta.keep (Sta.keep (Sta.keep (Sta.keep (Sta.keep CA K248 ns0) K250 ns0) K252 ns0) K254 ns0) K256 ns0) K259 ns0) K261 ns0)
      have f271 := (((((((CV.keep K248 nin0).keep K250 nin0).keep K252 nin0).keep K254 nin0).keep K256 nin0).keep K259 nin0).keep K261 nin0)
      refine k_callI0 W 1 23 159 (argsL := [(.ref x252), (.ref x254), (.ref x256), (.ref a259)]) (rest := [(.ref a261)]) (a := a261) d_code_173 rfl rfl (w56 hw) (w57 hw) (by decide) (lenOf pd25 rfl) (ct_oinit4 l Z a0 hw n0 h260 a261 cd ca x252 b252 x254 b254 x256 b256 a259 bs252 bs254 bs256 [] zc (Nat.le_of_ble_eq_true rfl) nb252 nb254 nb256 X261 (D261 (Or.inr (w64 hw)) (ty := (.object "java/lang/String")) (by decide)) (D261 (Or.inr (w120 hw)) (ty := (.object "java/lang/String")) (by decide)) (D261 (Or.inr (w123 hw)) (ty := (.object "java/lang/String")) (by decide)) (D261 (Or.inr (w126 hw)) (ty := (.object "java/lang/String")) (by decide)) (D261 (Or.inr (w138 hw)) (ty := (.array .byte)) (by decide)) f262 f263 f264 f265 f266 f267 hzc f268 f269 f270 f271) (w58 hw) (w55 hw) (fun x hx => by simp only [List.mem_cons, List.not_mem_nil, or_false] at hx; rcases hx with rfl; all_goals first | exact (List.mem_of_getElem? (i := 0) rfl)) rfl (Nat.le_of_eq rfl) (Nat.le_of_ble_eq_true rfl) (Nat.le_of_ble_eq_true rfl) ⟨rfl, Nat.le_of_ble_eq_true rfl⟩ ⟨rfl, Nat.le_of_ble_eq_true rfl⟩ rfl (fun _ _ _ q => nomatch q.1) fun T h272 so W hQ => ?_
      obtain ⟨-, K272, F0_272, F1_272, F2_272, F3_272, q272, gq272, FP_272, AQ272, XQ272⟩ := hQ
      have AQ272 : Av Z h272 q272 .byte [] := AQ272
      refine k_astore W d_code_176 rfl (L' := #[.val (.long q0), .second, .val (.long q1), .second, .val (.int p2), .val (.int p3), .val (.int p4), .val (.int z247), .val (.int e1), .val (.int (0 : Int32)), .val (.int e3), .val (.ref x248), .val (.ref x250), .val (.ref x252), .val (.ref x254), .val (.ref x256), .val (.int (i2b p3)), .val (.int (i2b (XT.ushr p3 (8 : Int32)))), .val (.ref a259), .val (.ref a261), .unset, .unset, .unset, .unset]) rfl ?_
      refine k_aload W d_code_178 rfl rfl ?_
      refine k_aload W d_code_180 rfl rfl ?_
      have ne273 : x248 ≠ a261 := (Nat.ne_of_lt (Nat.lt_of_lt_of_le (Nat.lt_of_lt_of_le S248.1.lt (Nat.le_trans (Nat.le_trans (Nat.le_trans (Nat.le_trans K250.1 K252.1) K254.1) K256.1) E259.1)) (Nat.le_of_eq g261.symm)))
      have ne274 : b248 ≠ a261 := (Nat.ne_of_lt (Nat.lt_of_lt_of_le (Nat.lt_of_lt_of_le S248.2.2.2.lt (Nat.le_trans (Nat.le_trans (Nat.le_trans (Nat.le_trans K250.1 K252.1) K254.1) K256.1) E259.1)) (Nat.le_of_eq g261.symm)))
      have f275 := (((((((S248.keep K250 nin0 nin0).keep K252 nin0 nin0).keep K254 nin0 nin0).keep K256 nin0 nin0).keep K259 nin0 nin0).keep K261 nin0 nin0).keep K272 (ninS ne273 nin0) (ninS ne274 nin0))
      have ne276 : x252 ≠ a261 := (Nat.ne_of_lt (Nat.lt_of_lt_of_le (Nat.lt_of_lt_of_le S252.1.lt (Nat.le_trans (Nat.le_trans K254.1 K256.1) E259.1)) (Nat.le_of_eq g261.symm)))
      have ne277 : b252 ≠ a261 := (Nat.ne_of_lt (Nat.lt_of_lt_of_le (Nat.lt_of_lt_of_le S252.2.2.2.lt (Nat.le_trans (Nat.le_trans K254.1 K256.1) E259.1)) (Nat.le_of_eq g261.symm)))
      have f278 := (f262.keep K272 (ninS ne276 nin0) (ninS ne277 nin0))
      have ne279 : x254 ≠ a261 := (Nat.ne_of_lt (Nat.lt_of_lt_of_le (Nat.lt_of_lt_of_le S254.1.lt (Nat.le_trans K256.1 E259.1)) (Nat.le_of_eq g261.symm)))
      have ne280 : b254 ≠ a261 := (Nat.ne_of_lt (Nat.lt_of_lt_of_le (Nat.lt_of_lt_of_le S254.2.2.2.lt (Nat.le_trans K256.1 E259.1)) (Nat.le_of_eq g261.symm)))
      have f281 := (f263.keep K272 (ninS ne279 nin0) (ninS ne280 nin0))
      have ne282 : x256 ≠ a261 := (Nat.ne_of_lt (Nat.lt_of_lt_of_le (Nat.lt_of_lt_of_le S256.1.lt E259.1) (Nat.le_of_eq g261.symm)))
      have ne283 : b256 ≠ a261 := (Nat.ne_of_lt (Nat.lt_of_lt_of_le (Nat.lt_of_lt_of_le S256.2.2.2.lt E259.1) (Nat.le_of_eq g261.symm)))
      have f284 := (f264.keep K272 (ninS ne282 nin0) (ninS ne283 nin0))
      have f285 := (Sta.keep f267 K272 (nsS (Exa.plain X261) ns0))
      have f286 := (Sta.keep f268 K272 (nsS (Exa.plain X261) ns0))
      have f287 := (f269.keep K272)
      have f288 := (Sta.keep f270 K272 (nsS (Exa.plain X261) ns0))
      have ne289 : ca ≠ a261 := (Nat.ne_of_lt (Nat.lt_of_lt_of_le (Nat.lt_of_lt_of_le CV.lt (Nat.le_trans (Nat.le_trans (Nat.le_trans (Nat.le_trans (Nat.le_trans K248.1 K250.1) K252.1) K254.1) K256.1) E259.1)) (Nat.le_of_eq g261.symm)))
      have f290 := (f271.keep K272 (ninS ne289 nin0))
      have f292 := (X261.keep K272)
      refine k_callV W 0 35 295 (argsL := [(.ref x248)]) (rest := []) (a := a261) (C := "com/example/kourier/kourier/outbox/OutboxEvent") (z0 := (⟨"com/example/kourier/kourier/outbox/OutboxEvent", "withId", "(Ljava/lang/String;)Lcom/example/kourier/kourier/outbox/OutboxEvent;"⟩ : MethodName)) (z := (⟨"com/example/kourier/kourier/outbox/OutboxEvent", "withId", "(Ljava/lang/String;)Lcom/example/kourier/kourier/outbox/OutboxEvent;"⟩ : MethodName)) d_code_182 (w139 hw) (w140 hw) (nfSel (w142 hw)) (w142 hw) (w141 hw) (by decide) (lenOf pd26 rfl) f292 (ct_with l Z a0 hw n0 h272 a261 x248 b248 bs248 .null rfl nb248 cd ca x252 b252 x254 b254 x256 b256 q272 bs252 bs254 bs256 [] zc (Nat.le_of_ble_eq_true rfl) nb252 nb254 nb256 f292 F0_272 F1_272 F2_272 F3_272 FP_272 f275 f278 f281 f284 AQ272 XQ272 f285 hzc f286 f287 f288 f290) (w143 hw) (w55 hw) (fun x hx => nomatch hx) rfl (Nat.le_of_eq rfl) (Nat.le_of_ble_eq_true rfl) (Nat.le_of_ble_eq_true rfl) ⟨rfl, Nat.le_of_ble_eq_true rfl⟩ ⟨rfl, Nat.le_of_ble_eq_true rfl⟩ rfl (fun _ _ ⟨_, q, _⟩ => nomatch q) fun T h291 v so W hQ => ?_
      obtain ⟨x291, hv, gx291, K291, X291, F0_291, F1_291, F2_291, F3_291, q291, gq291, FP_291, AQ291, XQ291⟩ := hQ
      obtain rfl := Option.some.inj hv
      have AQ291 : Av Z h291 q291 .byte [] := AQ291
      refine k_astore W d_code_185 rfl (L' := #[.val (.long q0), .second, .val (.long q1), .second, .val (.int p2), .val (.int p3), .val (.int p4), .val (.int z247), .val (.int e1), .val (.int (0 : Int32)), .val (.int e3), .val (.ref x248), .val (.ref x250), .val (.ref x252), .val (.ref x254), .val (.ref x256), .val (.int (i2b p3)), .val (.int (i2b (XT.ushr p3 (8 : Int32)))), .val (.ref a259), .val (.ref a261), .val (.ref x291), .unset, .unset, .unset]) rfl ?_
      refine k_aload W d_code_187 rfl rfl ?_
      refine k_aload W d_code_189 rfl rfl ?_
      have f293 := (F0_272.keep K291 nin0)
      have f294 := (F1_272.keep K291 nin0)
      have f295 := (F2_272.keep K291 nin0)
      have f296 := (F3_272.keep K291 nin0)
      have f297 := (FP_272.keep K291 nin0)
      have ne298 : x250 ≠ a261 := (Nat.ne_of_lt (Nat.lt_of_lt_of_le (Nat.lt_of_lt_of_le S250.1.lt (Nat.le_trans (Nat.le_trans (Nat.le_trans K252.1 K254.1) K256.1) E259.1)) (Nat.le_of_eq g261.symm)))
      have ne299 : b250 ≠ a261 := (Nat.ne_of_lt (Nat.lt_of_lt_of_le (Nat.lt_of_lt_of_le S250.2.2.2.lt (Nat.le_trans (Nat.le_trans (Nat.le_trans K252.1 K254.1) K256.1) E259.1)) (Nat.le_of_eq g261.symm)))
      have f300 := (((((((S250.keep K252 nin0 nin0).keep K254 nin0 nin0).keep K256 nin0 nin0).keep K259 nin0 nin0).keep K261 nin0 nin0).keep K272 (ninS ne298 nin0) (ninS ne299 nin0)).keep K291 nin0 nin0)
      have f301 := (f278.keep K291 nin0 nin0)
      have f302 := (f281.keep K291 nin0 nin0)
      have f303 := (f284.keep K291 nin0 nin0)
      have f304 := (AQ272.keep K291 nin0)
      have f305 := (XQ272.keep K291)
      have f306 := (Sta.keep f285 K291 ns0)
      have f307 := (Sta.keep f286 K291 ns0)
      have f308 := (f287.keep K291)
      have f309 := (Sta.keep f288 K291 ns0)
      have f310 := (f290.keep K291 nin0)
      have f312 := (f292.keep K291)
      refine k_callV W 0 47 431 (argsL := [(.ref x250)]) (rest := []) (a := a261) (C := "com/example/kourier/kourier/outbox/OutboxEvent") (z0 := (⟨"com/example/kourier/kourier/outbox/OutboxEvent", "withId", "(Ljava/lang/String;)Lcom/example/kourier/kourier/outbox/OutboxEvent;"⟩ : MethodName)) (z := (⟨"com/example/kourier/kourier/outbox/OutboxEvent", "withId", "(Ljava/lang/String;)Lcom/example/kourier/kourier/outbox/OutboxEvent;"⟩ : MethodName)) d_code_191 (w139 hw) (w140 hw) (nfSel (w142 hw)) (w142 hw) (w141 hw) (by decide) (lenOf pd26 rfl) f312 (ct_with l Z a0 hw n0 h291 a261 x250 b250 bs250 .null rfl nb250 cd ca x252 b252 x254 b254 x256 b256 q272 bs252 bs254 bs256 [] zc (Nat.le_of_ble_eq_true rfl) nb252 nb254 nb256 f312 f293 f294 f295 f296 f297 f300 f301 f302 f303 f304 f305 f306 hzc f307 f308 f309 f310) (w143 hw) (w55 hw) (fun x hx => nomatch hx) rfl (Nat.le_of_eq rfl) (Nat.le_of_ble_eq_true rfl) (Nat.le_of_ble_eq_true rfl) ⟨rfl, Nat.le_of_ble_eq_true rfl⟩ ⟨rfl, Nat.le_of_ble_eq_true rfl⟩ rfl (fun _ _ ⟨_, q, _⟩ => nomatch q) fun T h311 v so W hQ => ?_
      obtain ⟨x311, hv, gx311, K311, X311, F0_311, F1_311, F2_311, F3_311, q311, gq311, FP_311, AQ311, XQ311⟩ := hQ
      obtain rfl := Option.some.inj hv
      have AQ311 : Av Z h311 q311 .byte [] := AQ311
      refine k_astore W d_code_194 rfl (L' := #[.val (.long q0), .second, .val (.long q1), .second, .val (.int p2), .val (.int p3), .val (.int p4), .val (.int z247), .val (.int e1), .val (.int (0 : Int32)), .val (.int e3), .val (.ref x248), .val (.ref x250), .val (.ref x252), .val (.ref x254), .val (.ref x256), .val (.int (i2b p3)), .val (.int (i2b (XT.ushr p3 (8 : Int32)))), .val (.ref a259), .val (.ref a261), .val (.ref x291), .val (.ref x311), .unset, .unset]) rfl ?_
      refine k_aload W d_code_196 rfl rfl ?_
      refine k_aload W d_code_198 rfl rfl ?_
      have f313 := (F0_291.keep K311 nin0)
      have f314 := (F1_291.keep K311 nin0)
      have f315 := (F2_291.keep K311 nin0)
      have f316 := (F3_291.keep K311 nin0)
      have f317 := (FP_291.keep K311 nin0)
      have f318 := (f300.keep K311 nin0 nin0)
      have f319 := (f301.keep K311 nin0 nin0)
      have f320 := (f302.keep K311 nin0 nin0)
      have f321 := (f303.keep K311 nin0 nin0)
      have f322 := (AQ291.keep K311 nin0)
      have f323 := (XQ291.keep K311)
      have f324 := (Sta.keep f306 K311 ns0)
      have f325 := (Sta.keep f307 K311 ns0)
      have f326 := (f308.keep K311)
      have f327 := (Sta.keep f309 K311 ns0)
      have f328 := (f310.keep K311 nin0)
      have f330 := (X291.keep K311)
      refine k_callV W 0 59 567 (argsL := [(.ref x250)]) (rest := []) (a := x291) (C := "com/example/kourier/kourier/outbox/OutboxEvent") (z0 := (⟨"com/example/kourier/kourier/outbox/OutboxEvent", "withId", "(Ljava/lang/String;)Lcom/example/kourier/kourier/outbox/OutboxEvent;"⟩ : MethodName)) (z := (⟨"com/example/kourier/kourier/outbox/OutboxEvent", "withId", "(Ljava/lang/String;)Lcom/example/kourier/kourier/outbox/OutboxEvent;"⟩ : MethodName)) d_code_200 (w139 hw) (w140 hw) (nfSel (w142 hw)) (w142 hw) (w141 hw) (by decide) (lenOf pd26 rfl) f330 (ct_with l Z a0 hw n0 h311 x291 x250 b250 bs250 (.ref x248) rfl nb250 cd ca x252 b252 x254 b254 x256 b256 q291 bs252 bs254 bs256 [] zc (Nat.le_of_ble_eq_true rfl) nb252 nb254 nb256 f330 f313 f314 f315 f316 f317 f318 f319 f320 f321 f322 f323 f324 hzc f325 f326 f327 f328) (w143 hw) (w55 hw) (fun x hx => nomatch hx) rfl (Nat.le_of_eq rfl) (Nat.le_of_ble_eq_true rfl) (Nat.le_of_ble_eq_true rfl) ⟨rfl, Nat.le_of_ble_eq_true rfl⟩ ⟨rfl, Nat.le_of_ble_eq_true rfl⟩ rfl (fun _ _ ⟨_, q, _⟩ => nomatch q) fun T h329 v so W hQ => ?_
      obtain ⟨x329, hv, gx329, K329, X329, F0_329, F1_329, F2_329, F3_329, q329, gq329, FP_329, AQ329, XQ329⟩ := hQ
      obtain rfl := Option.some.inj hv
      have AQ329 : Av Z h329 q329 .byte [] := AQ329
      refine k_astore W d_code_203 rfl (L' := #[.val (.long q0), .second, .val (.long q1), .second, .val (.int p2), .val (.int p3), .val (.int p4), .val (.int z247), .val (.int e1), .val (.int (0 : Int32)), .val (.int e3), .val (.ref x248), .val (.ref x250), .val (.ref x252), .val (.ref x254), .val (.ref x256), .val (.int (i2b p3)), .val (.int (i2b (XT.ushr p3 (8 : Int32)))), .val (.ref a259), .val (.ref a261), .val (.ref x291), .val (.ref x311), .val (.ref x329), .unset]) rfl ?_
      refine k_aload W d_code_205 rfl rfl ?_
      refine k_aload W d_code_207 rfl rfl ?_
      have f331 := (f313.keep K329 nin0)
      have f332 := (f314.keep K329 nin0)
      have f333 := (f315.keep K329 nin0)
      have f334 := (f316.keep K329 nin0)
      have f335 := (f317.keep K329 nin0)
      have f336 := ((f293.keep K311 nin0).keep K329 nin0)
      have f337 := ((f294.keep K311 nin0).keep K329 nin0)
      have f338 := ((f295.keep K311 nin0).keep K329 nin0)
      have f339 := ((f296.keep K311 nin0).keep K329 nin0)
      have f340 := ((f297.keep K311 nin0).keep K329 nin0)
      have f341 := (((f275.keep K291 nin0 nin0).keep K311 nin0 nin0).keep K329 nin0 nin0)
      have f342 := (f322.keep K329 nin0)
      have f343 := ((f304.keep K311 nin0).keep K329 nin0)
      have ne344 : x291 ≠ a261 := (Ne.symm (Nat.ne_of_lt (Nat.lt_of_lt_of_le F0_272.lt gx291)))
      have ne345 : q291 ≠ q272 := (Ne.symm (Nat.ne_of_lt (Nat.lt_of_lt_of_le AQ272.lt gq291)))
      have f346 := (f330.keep K329)
      have f347 := ((f312.keep K311).keep K329)
      have f348 := (f319.keep K329 nin0 nin0)
      have f349 := (f320.keep K329 nin0 nin0)
      have f350 := (f321.keep K329 nin0 nin0)
      have f351 := (Sta.keep f324 K329 ns0)
      refine k_callV W 0 59 567 (argsL := [(.ref a261)]) (rest := []) (a := x291) (C := "com/example/kourier/kourier/outbox/OutboxEvent") (z0 := (⟨"com/example/kourier/kourier/outbox/OutboxEvent", "equals", "(Ljava/lang/Object;)Z"⟩ : MethodName)) (z := (⟨"com/example/kourier/kourier/outbox/OutboxEvent", "equals", "(Ljava/lang/Object;)Z"⟩ : MethodName)) d_code_209 (w146 hw) (w147 hw) (nfSel (w149 hw)) (w149 hw) (w148 hw) (by decide) (lenOf pd18 rfl) f346 (ct_oeqZ l Z a0 hw n0 h329 mr x291 a261 x252 x254 x256 q291 q272 x248 b248 0 0 bs248 [] [] zc (Nat.le_of_ble_eq_true rfl) ne344 ne345 M0 f346 f331 f332 f333 f334 f335 f347 f336 f337 f338 f339 f340 f341 f348.1 f349.1 f350.1 f342 f343 f351 hzc) (w150 hw) (w55 hw) (fun x hx => nomatch hx) rfl (Nat.le_of_eq rfl) (Nat.le_of_ble_eq_true rfl) (Nat.le_of_ble_eq_true rfl) ⟨rfl, Nat.le_of_ble_eq_true rfl⟩ ⟨rfl, Nat.le_of_ble_eq_true rfl⟩ rfl (fun _ _ q => nomatch q.1) fun T h352 v so W hQ => ?_
      obtain ⟨hv, rfl, -⟩ := hQ
      obtain rfl := Option.some.inj hv
      refine k_ifY W 217 d_code_212 (by decide) (show (0 : Int32) = 0 by decide) ?_
      refine k_aload W d_code_217 rfl rfl ?_
      refine k_aload W d_code_219 rfl rfl ?_
      refine k_callV W 1 59 567 (argsL := []) (rest := [(.ref x252)]) (a := x291) (C := "com/example/kourier/kourier/outbox/OutboxEvent") (z0 := (⟨"com/example/kourier/kourier/outbox/OutboxEvent", "destination", "()Ljava/lang/String;"⟩ : MethodName)) (z := (⟨"com/example/kourier/kourier/outbox/OutboxEvent", "destination", "()Ljava/lang/String;"⟩ : MethodName)) d_code_221 (w166 hw) (w167 hw) (nfSel (w169 hw)) (w169 hw) (w168 hw) (by decide) (lenOf pd27 rfl) f346 (ct_destination l Z a0 hw n0 h329 x291 x252 f332) (w170 hw) (w55 hw) (fun x hx => nomatch hx) rfl (Nat.le_of_eq rfl) (Nat.le_of_ble_eq_true rfl) (Nat.le_of_ble_eq_true rfl) ⟨rfl, Nat.le_of_ble_eq_true rfl⟩ ⟨rfl, Nat.le_of_ble_eq_true rfl⟩ rfl (fun _ _ q => nomatch q.1) fun T h353 v so W hQ => ?_
      obtain ⟨hv, rfl, -⟩ := hQ
      obtain rfl := Option.some.inj hv
      refine k_callV W 0 59 567 (argsL := [(.ref x252)]) (rest := []) (a := x252) (C := "java/lang/String") (z0 := (⟨"java/lang/String", "equals", "(Ljava/lang/Object;)Z"⟩ : MethodName)) (z := (⟨"java/lang/String", "equals", "(Ljava/lang/Object;)Z"⟩ : MethodName)) d_code_224 (w171 hw) (w172 hw) (nfSel (w173 hw)) (w173 hw) (w164 hw) (by decide) (lenOf pd18 rfl) f348.1 (ct_seqI l Z a0 hw n0 h329 x252) (w165 hw) (w8 hw) (fun x hx => nomatch hx) rfl (Nat.le_of_eq rfl) (Nat.le_of_ble_eq_true rfl) (Nat.le_of_ble_eq_true rfl) ⟨rfl, Nat.le_of_ble_eq_true rfl⟩ ⟨rfl, Nat.le_of_ble_eq_true rfl⟩ rfl (fun _ _ q => nomatch q.1) fun T h354 v so W hQ => ?_
      obtain ⟨hv, rfl, -⟩ := hQ
      obtain rfl := Option.some.inj hv
      refine k_ifY W 232 d_code_227 (by decide) (show ¬ (1 : Int32) = 0 by decide) ?_
      refine k_aload W d_code_232 rfl rfl ?_
      refine k_aload W d_code_234 rfl rfl ?_
      refine k_callV W 1 59 567 (argsL := []) (rest := [(.ref x254)]) (a := x291) (C := "com/example/kourier/kourier/outbox/OutboxEvent") (z0 := (⟨"com/example/kourier/kourier/outbox/OutboxEvent", "key", "()Ljava/lang/String;"⟩ : MethodName)) (z := (⟨"com/example/kourier/kourier/outbox/OutboxEvent", "key", "()Ljava/lang/String;"⟩ : MethodName)) d_code_236 (w174 hw) (w175 hw) (nfSel (w177 hw)) (w177 hw) (w176 hw) (by decide) (lenOf pd27 rfl) f346 (ct_key l Z a0 hw n0 h329 x291 x254 f333) (w178 hw) (w55 hw) (fun x hx => nomatch hx) rfl (Nat.le_of_eq rfl) (Nat.le_of_ble_eq_true rfl) (Nat.le_of_ble_eq_true rfl) ⟨rfl, Nat.le_of_ble_eq_true rfl⟩ ⟨rfl, Nat.le_of_ble_eq_true rfl⟩ rfl (fun _ _ q => nomatch q.1) fun T h355 v so W hQ => ?_
      obtain ⟨hv, rfl, -⟩ := hQ
      obtain rfl := Option.some.inj hv
      refine k_callV W 0 59 567 (argsL := [(.ref x254)]) (rest := []) (a := x254) (C := "java/lang/String") (z0 := (⟨"java/lang/String", "equals", "(Ljava/lang/Object;)Z"⟩ : MethodName)) (z := (⟨"java/lang/String", "equals", "(Ljava/lang/Object;)Z"⟩ : MethodName)) d_code_239 (w171 hw) (w172 hw) (nfSel (w173 hw)) (w173 hw) (w164 hw) (by decide) (lenOf pd18 rfl) f349.1 (ct_seqI l Z a0 hw n0 h329 x254) (w165 hw) (w8 hw) (fun x hx => nomatch hx) rfl (Nat.le_of_eq rfl) (Nat.le_of_ble_eq_true rfl) (Nat.le_of_ble_eq_true rfl) ⟨rfl, Nat.le_of_ble_eq_true rfl⟩ ⟨rfl, Nat.le_of_ble_eq_true rfl⟩ rfl (fun _ _ q => nomatch q.1) fun T h356 v so W hQ => ?_
      obtain ⟨hv, rfl, -⟩ := hQ
      obtain rfl := Option.some.inj hv
      refine k_ifY W 247 d_code_242 (by decide) (show ¬ (1 : Int32) = 0 by decide) ?_
      refine k_aload W d_code_247 rfl rfl ?_
      refine k_aload W d_code_249 rfl rfl ?_
      refine k_callV W 1 59 567 (argsL := []) (rest := [(.ref x256)]) (a := x291) (C := "com/example/kourier/kourier/outbox/OutboxEvent") (z0 := (⟨"com/example/kourier/kourier/outbox/OutboxEvent", "type", "()Ljava/lang/String;"⟩ : MethodName)) (z := (⟨"com/example/kourier/kourier/outbox/OutboxEvent", "type", "()Ljava/lang/String;"⟩ : MethodName)) d_code_251 (w179 hw) (w180 hw) (nfSel (w182 hw)) (w182 hw) (w181 hw) (by decide) (lenOf pd27 rfl) f346 (ct_type l Z a0 hw n0 h329 x291 x256 f334) (w183 hw) (w55 hw) (fun x hx => nomatch hx) rfl (Nat.le_of_eq rfl) (Nat.le_of_ble_eq_true rfl) (Nat.le_of_ble_eq_true rfl) ⟨rfl, Nat.le_of_ble_eq_true rfl⟩ ⟨rfl, Nat.le_of_ble_eq_true rfl⟩ rfl (fun _ _ q => nomatch q.1) fun T h357 v so W hQ => ?_
      obtain ⟨hv, rfl, -⟩ := hQ
      obtain rfl := Option.some.inj hv
      refine k_callV W 0 59 567 (argsL := [(.ref x256)]) (rest := []) (a := x256) (C := "java/lang/String") (z0 := (⟨"java/lang/String", "equals", "(Ljava/lang/Object;)Z"⟩ : MethodName)) (z := (⟨"java/lang/String", "equals", "(Ljava/lang/Object;)Z"⟩ : MethodName)) d_code_254 (w171 hw) (w172 hw) (nfSel (w173 hw)) (w173 hw) (w164 hw) (by decide) (lenOf pd18 rfl) f350.1 (ct_seqI l Z a0 hw n0 h329 x256) (w165 hw) (w8 hw) (fun x hx => nomatch hx) rfl (Nat.le_of_eq rfl) (Nat.le_of_ble_eq_true rfl) (Nat.le_of_ble_eq_true rfl) ⟨rfl, Nat.le_of_ble_eq_true rfl⟩ ⟨rfl, Nat.le_of_ble_eq_true rfl⟩ rfl (fun _ _ q => nomatch q.1) fun T h358 v so W hQ => ?_
      obtain ⟨hv, rfl, -⟩ := hQ
      obtain rfl := Option.some.inj hv
      refine k_ifY W 262 d_code_257 (by decide) (show ¬ (1 : Int32) = 0 by decide) ?_
      refine k_aload W d_code_262 rfl rfl ?_
      have f360 := (f323.keep K329)
      refine k_callV W 0 60 570 (argsL := []) (rest := []) (a := x291) (C := "com/example/kourier/kourier/outbox/OutboxEvent") (z0 := (⟨"com/example/kourier/kourier/outbox/OutboxEvent", "payload", "()[B"⟩ : MethodName)) (z := (⟨"com/example/kourier/kourier/outbox/OutboxEvent", "payload", "()[B"⟩ : MethodName)) d_code_264 (w184 hw) (w185 hw) (nfSel (w187 hw)) (w187 hw) (w186 hw) (by decide) (lenOf pd28 rfl) f346 (ct_payload l Z a0 hw n0 h329 x291 q291 [] (Nat.le_of_ble_eq_true rfl) f335 f342 f360) (w188 hw) (w55 hw) (fun x hx => nomatch hx) rfl (Nat.le_of_eq rfl) (Nat.le_of_ble_eq_true rfl) (Nat.le_of_ble_eq_true rfl) ⟨rfl, Nat.le_of_ble_eq_true rfl⟩ ⟨rfl, Nat.le_of_ble_eq_true rfl⟩ rfl (fun _ _ ⟨_, q, _⟩ => nomatch q) fun T h359 v so W hQ => ?_
      obtain ⟨x359, hv, gx359, K359, A359⟩ := hQ
      obtain rfl := Option.some.inj hv
      have A359 : Av Z h359 x359 .byte [] := A359
      refine k_astore W d_code_267 rfl (L' := #[.val (.long q0), .second, .val (.long q1), .second, .val (.int p2), .val (.int p3), .val (.int p4), .val (.int z247), .val (.int e1), .val (.int (0 : Int32)), .val (.int e3), .val (.ref x248), .val (.ref x250), .val (.ref x252), .val (.ref x254), .val (.ref x256), .val (.int (i2b p3)), .val (.int (i2b (XT.ushr p3 (8 : Int32)))), .val (.ref a259), .val (.ref a261), .val (.ref x291), .val (.ref x311), .val (.ref x329), .val (.ref x359)]) rfl ?_
      refine k_aload W d_code_269 rfl rfl ?_
      refine k_arraylength W (z := (0 : Int32)) d_code_271 A359 rfl ?_
      refine k_iload W d_code_272 rfl ?_
      refine k_icY W 279 d_code_274 (by decide) (show (0 : Int32) = (0 : Int32) by decide) ?_
      refine k_iload W d_code_279 rfl ?_
      refine k_iconst W d_code_281 (z := (1 : Int32)) rfl ?_
      refine k_icY W 296 d_code_282 (by decide) (show (0 : Int32) < (1 : Int32) by decide) ?_
      refine k_iload W d_code_296 rfl ?_
      refine k_iconst W d_code_298 (z := (2 : Int32)) rfl ?_
      refine k_icY W 313 d_code_299 (by decide) (show ¬ (0 : Int32) = (2 : Int32) by decide) ?_
      refine k_aload W d_code_313 rfl rfl ?_
      refine k_aload W d_code_315 rfl rfl ?_
      have f361 := (f331.keep K359 nin0)
      have f362 := (f332.keep K359 nin0)
      have f363 := (f333.keep K359 nin0)
      have f364 := (f334.keep K359 nin0)
      have f365 := (f335.keep K359 nin0)
      have f366 := ((F0_311.keep K329 nin0).keep K359 nin0)
      have f367 := ((F1_311.keep K329 nin0).keep K359 nin0)
      have f368 := ((F2_311.keep K329 nin0).keep K359 nin0)
      have f369 := ((F3_311.keep K329 nin0).keep K359 nin0)
      have f370 := ((FP_311.keep K329 nin0).keep K359 nin0)
      have f371 := (f341.keep K359 nin0 nin0)
      have f372 := ((f318.keep K329 nin0 nin0).keep K359 nin0 nin0)
      have f373 := (f342.keep K359 nin0)
      have f374 := ((AQ311.keep K329 nin0).keep K359 nin0)
      have ne375 : x291 ≠ x311 := (Nat.ne_of_lt (Nat.lt_of_lt_of_le X291.lt gx311))
      have ne376 : q291 ≠ q311 := (Nat.ne_of_lt (Nat.lt_of_lt_of_le AQ291.lt gq311))
      have ne377 : x248 ≠ x250 := (Nat.ne_of_lt (Nat.lt_of_lt_of_le S248.1.lt g250))
      have f378 := (f346.keep K359)
      have f379 := ((X311.keep K329).keep K359)
      have f380 := (f348.keep K359 nin0 nin0)
      have f381 := (f349.keep K359 nin0 nin0)
      have f382 := (f350.keep K359 nin0 nin0)
      have f383 := (Sta.keep f351 K359 ns0)
      refine k_callV W 0 60 570 (argsL := [(.ref x311)]) (rest := []) (a := x291) (C := "com/example/kourier/kourier/outbox/OutboxEvent") (z0 := (⟨"com/example/kourier/kourier/outbox/OutboxEvent", "equals", "(Ljava/lang/Object;)Z"⟩ : MethodName)) (z := (⟨"com/example/kourier/kourier/outbox/OutboxEvent", "equals", "(Ljava/lang/Object;)Z"⟩ : MethodName)) d_code_317 (w146 hw) (w147 hw) (nfSel (w149 hw)) (w149 hw) (w148 hw) (by decide) (lenOf pd18 rfl) f378 (ct_oeqD l Z a0 hw n0 h359 mr x291 x311 x252 x254 x256 q291 q311 x248 b248 x250 b250 bs248 bs250 [] zc (Nat.le_of_ble_eq_true rfl) ne375 ne376 ne377 M0 f378 f361 f362 f363 f364 f365 f379 f366 f367 f368 f369 f370 f371 f372 f380.1 f381.1 f382.1 f373 f374 f383 hzc) (w150 hw) (w55 hw) (fun x hx => nomatch hx) rfl (Nat.le_of_eq rfl) (Nat.le_of_ble_eq_true rfl) (Nat.le_of_ble_eq_true rfl) ⟨rfl, Nat.le_of_ble_eq_true rfl⟩ ⟨rfl, Nat.le_of_ble_eq_true rfl⟩ rfl (fun _ _ q => by rcases q.1 with ⟨_, u⟩ | ⟨_, u⟩ <;> cases u) fun T h385 v so W hQ => ?_
      obtain ⟨hQ, rfl⟩ := hQ
      rcases hQ with ⟨heq384, hv⟩ | ⟨heq384, hv⟩
      · --
        obtain rfl := Option.some.inj hv
        refine k_aload W d_code_320 rfl rfl ?_
        refine k_aload W d_code_322 rfl rfl ?_
        refine k_callV W 1 60 570 (argsL := [(.ref x250)]) (rest := [(.int (1 : Int32))]) (a := x248) (C := "java/lang/String") (z0 := (⟨"java/lang/String", "equals", "(Ljava/lang/Object;)Z"⟩ : MethodName)) (z := (⟨"java/lang/String", "equals", "(Ljava/lang/Object;)Z"⟩ : MethodName)) d_code_324 (w171 hw) (w172 hw) (nfSel (w173 hw)) (w173 hw) (w164 hw) (by decide) (lenOf pd18 rfl) f371.1 (ct_seq l Z a0 hw n0 h359 x248 b248 x250 b250 bs248 bs250 zc ne377 f371 f372 f383 hzc) (w165 hw) (w8 hw) (fun x hx => nomatch hx) rfl (Nat.le_of_eq rfl) (Nat.le_of_ble_eq_true rfl) (Nat.le_of_ble_eq_true rfl) ⟨rfl, Nat.le_of_ble_eq_true rfl⟩ ⟨rfl, Nat.le_of_ble_eq_true rfl⟩ rfl (fun _ _ q => by rcases q.1 with ⟨_, u⟩ | ⟨_, u⟩ <;> cases u) fun T h387 v so W hQ => ?_
        obtain ⟨hQ, rfl⟩ := hQ
        rcases hQ with ⟨heq386, hv⟩ | ⟨heq386, hv⟩
        · --
          obtain rfl := Option.some.inj hv
          refine k_icY W 332 d_code_327 (by decide) (show (1 : Int32) = (1 : Int32) by decide) ?_
          refine k_aload W d_code_332 rfl rfl ?_
          refine k_aload W d_code_334 rfl rfl ?_
          have f388 := (F0_329.keep K359 nin0)
          have f389 := (F1_329.keep K359 nin0)
          have f390 := (F2_329.keep K359 nin0)
          have f391 := (F3_329.keep K359 nin0)
          have f392 := (FP_329.keep K359 nin0)
          have f393 := (AQ329.keep K359 nin0)
          have ne394 : x329 ≠ x311 := (Ne.symm (Nat.ne_of_lt (Nat.lt_of_lt_of_le X311.lt gx329)))
          have ne395 : q329 ≠ q311 := (Ne.symm (Nat.ne_of_lt (Nat.lt_of_lt_of_le AQ311.lt gq329)))
          have f396 := (X329.keep K359)
          refine k_callV W 0 60 570 (argsL := [(.ref x311)]) (rest := []) (a := x329) (C := "com/example/kourier/kourier/outbox/OutboxEvent") (z0 := (⟨"com/example/kourier/kourier/outbox/OutboxEvent", "equals", "(Ljava/lang/Object;)Z"⟩ : MethodName)) (z := (⟨"com/example/kourier/kourier/outbox/OutboxEvent", "equals", "(Ljava/lang/Object;)Z"⟩ : MethodName)) d_code_336 (w146 hw) (w147 hw) (nfSel (w149 hw)) (w149 hw) (w148 hw) (by decide) (lenOf pd18 rfl) f396 (ct_oeqI l Z a0 hw n0 h359 mr x329 x311 x252 x254 x256 q329 q311 x250 b250 0 0 bs250 [] [] zc (Nat.le_of_ble_eq_true rfl) ne394 ne395 M0 f396 f388 f389 f390 f391 f392 f379 f366 f367 f368 f369 f370 f372 f380.1 f381.1 f382.1 f393 f374 f383 hzc) (w150 hw) (w55 hw) (fun x hx => nomatch hx) rfl (Nat.le_of_eq rfl) (Nat.le_of_ble_eq_true rfl) (Nat.le_of_ble_eq_true rfl) ⟨rfl, Nat.le_of_ble_eq_true rfl⟩ ⟨rfl, Nat.le_of_ble_eq_true rfl⟩ rfl (fun _ _ q => nomatch q.1) fun T h397 v so W hQ => ?_
          obtain ⟨hv, rfl, -⟩ := hQ
          obtain rfl := Option.some.inj hv
          exact k_retN W (t := .boolean) (z' := (1 : Int32)) d_code_339 rfl (by simp) (by decide) [] (fun x hx => nomatch hx) (Nat.le_of_ble_eq_true rfl) (Nat.le_of_ble_eq_true rfl) rfl
        · --
          obtain rfl := Option.some.inj hv
          exact absurd heq384 heq386
      · --
        obtain rfl := Option.some.inj hv
        refine k_aload W d_code_320 rfl rfl ?_
        refine k_aload W d_code_322 rfl rfl ?_
        refine k_callV W 1 60 570 (argsL := [(.ref x250)]) (rest := [(.int (0 : Int32))]) (a := x248) (C := "java/lang/String") (z0 := (⟨"java/lang/String", "equals", "(Ljava/lang/Object;)Z"⟩ : MethodName)) (z := (⟨"java/lang/String", "equals", "(Ljava/lang/Object;)Z"⟩ : MethodName)) d_code_324 (w171 hw) (w172 hw) (nfSel (w173 hw)) (w173 hw) (w164 hw) (by decide) (lenOf pd18 rfl) f371.1 (ct_seq l Z a0 hw n0 h359 x248 b248 x250 b250 bs248 bs250 zc ne377 f371 f372 f383 hzc) (w165 hw) (w8 hw) (fun x hx => nomatch hx) rfl (Nat.le_of_eq rfl) (Nat.le_of_ble_eq_true rfl) (Nat.le_of_ble_eq_true rfl) ⟨rfl, Nat.le_of_ble_eq_true rfl⟩ ⟨rfl, Nat.le_of_ble_eq_true rfl⟩ rfl (fun _ _ q => by rcases q.1 with ⟨_, u⟩ | ⟨_, u⟩ <;> cases u) fun T h399 v so W hQ => ?_
        obtain ⟨hQ, rfl⟩ := hQ
        rcases hQ with ⟨heq398, hv⟩ | ⟨heq398, hv⟩
        · --
          obtain rfl := Option.some.inj hv
          exact absurd heq398 heq384
        · --
          obtain rfl := Option.some.inj hv
          refine k_icY W 332 d_code_327 (by decide) (show (0 : Int32) = (0 : Int32) by decide) ?_
          refine k_aload W d_code_332 rfl rfl ?_
          refine k_aload W d_code_334 rfl rfl ?_
          have f400 := (F0_329.keep K359 nin0)
          have f401 := (F1_329.keep K359 nin0)
          have f402 := (F2_329.keep K359 nin0)
          have f403 := (F3_329.keep K359 nin0)
          have f404 := (FP_329.keep K359 nin0)
          have f405 := (AQ329.keep K359 nin0)
          have ne406 : x329 ≠ x311 := (Ne.symm (Nat.ne_of_lt (Nat.lt_of_lt_of_le X311.lt gx329)))
          have ne407 : q329 ≠ q311 := (Ne.symm (Nat.ne_of_lt (Nat.lt_of_lt_of_le AQ311.lt gq329)))
          have f408 := (X329.keep K359)
          refine k_callV W 0 60 570 (argsL := [(.ref x311)]) (rest := []) (a := x329) (C := "com/example/kourier/kourier/outbox/OutboxEvent") (z0 := (⟨"com/example/kourier/kourier/outbox/OutboxEvent", "equals", "(Ljava/lang/Object;)Z"⟩ : MethodName)) (z := (⟨"com/example/kourier/kourier/outbox/OutboxEvent", "equals", "(Ljava/lang/Object;)Z"⟩ : MethodName)) d_code_336 (w146 hw) (w147 hw) (nfSel (w149 hw)) (w149 hw) (w148 hw) (by decide) (lenOf pd18 rfl) f408 (ct_oeqI l Z a0 hw n0 h359 mr x329 x311 x252 x254 x256 q329 q311 x250 b250 0 0 bs250 [] [] zc (Nat.le_of_ble_eq_true rfl) ne406 ne407 M0 f408 f400 f401 f402 f403 f404 f379 f366 f367 f368 f369 f370 f372 f380.1 f381.1 f382.1 f405 f374 f383 hzc) (w150 hw) (w55 hw) (fun x hx => nomatch hx) rfl (Nat.le_of_eq rfl) (Nat.le_of_ble_eq_true rfl) (Nat.le_of_ble_eq_true rfl) ⟨rfl, Nat.le_of_ble_eq_true rfl⟩ ⟨rfl, Nat.le_of_ble_eq_true rfl⟩ rfl (fun _ _ q => nomatch q.1) fun T h409 v so W hQ => ?_
          obtain ⟨hv, rfl, -⟩ := hQ
          obtain rfl := Option.some.inj hv
          exact k_retN W (t := .boolean) (z' := (1 : Int32)) d_code_339 rfl (by simp) (by decide) [] (fun x hx => nomatch hx) (Nat.le_of_ble_eq_true rfl) (Nat.le_of_ble_eq_true rfl) rfl
    · -- plen 1
      refine k_iload W d_code_114 rfl ?_
      refine k_ifY W 127 d_code_116 (by decide) (show ¬ (1 : Int32) = 0 by decide) ?_
      refine k_iload W d_code_127 rfl ?_
      refine k_iconst W d_code_129 (z := (1 : Int32)) rfl ?_
      refine k_icN W d_code_130 (show ¬ (¬ (1 : Int32) = (1 : Int32)) by decide) ?_
      refine k_iconst W d_code_133 (z := (1 : Int32)) rfl ?_
      refine k_newarrE W 1 13 36 "[B" (by decide) d_code_134 (w25 hw) (by decide) (by decide) ⟨rfl, Nat.le_of_ble_eq_true rfl⟩ ⟨rfl, Nat.le_of_ble_eq_true rfl⟩ fun T h410 a411 g411 W E411 A411 X411 => ?_
      have K411 : Keep h256 h410 [] := keep_ext E411 []
      have A411 : Av Z h410 a411 .byte [(.int (0 : Int32))] := A411
      refine k_dup W d_code_136 rfl ?_
      refine k_iconst W d_code_137 (z := (0 : Int32)) rfl ?_
      refine k_iload W d_code_138 rfl ?_
      refine k_bastore W (z := (i2b p3)) 0 d_code_140 (List.mem_of_getElem? (i := 0) rfl) A411 (by decide) (Nat.le_of_ble_eq_true rfl) (nar_i2b _) (fits_i2b _) fun T h412 W Wr412 A412 => ?_
      have K412 : Keep h410 h412 [a411] := Keep.of_wr Wr412
      have A412 : Av Z h412 a411 .byte [(.int (i2b p3))] := A412
      refine k_astore W d_code_141 rfl (L' := #[.val (.long q0), .second, .val (.long q1), .second, .val (.int p2), .val (.int p3), .val (.int p4), .val (.int z247), .val (.int e1), .val (.int (1 : Int32)), .val (.int e3), .val (.ref x248), .val (.ref x250), .val (.ref x252), .val (.ref x254), .val (.ref x256), .val (.int (i2b p3)), .val (.int (i2b (XT.ushr p3 (8 : Int32)))), .val (.ref a411), .unset, .unset, .unset, .unset, .unset]) rfl ?_
      refine k_goto W 161 d_code_143 (by decide) ?_
      refine k_new W 14 41 d_code_161 (w53 hw) (w54 hw) (w55 hw) ⟨rfl, Nat.le_of_ble_eq_true rfl⟩ ⟨rfl, Nat.le_of_ble_eq_true rfl⟩ fun T h413 a414 g414 W E414 X414 D414 => ?_
      have K414 : Keep h412 h413 [] := keep_ext E414 []
      refine k_dup W d_code_164 rfl ?_
      refine k_aload W d_code_165 rfl rfl ?_
      refine k_aload W d_code_167 rfl rfl ?_
      refine k_aload W d_code_169 rfl rfl ?_
      refine k_aload W d_code_171 rfl rfl ?_
      have ne415 : x252 ≠ a411 := (Nat.ne_of_lt (Nat.lt_of_lt_of_le (Nat.lt_of_lt_of_le S252.1.lt (Nat.le_trans K254.1 K256.1)) (Nat.le_of_eq g411.symm)))
      have ne416 : b252 ≠ a411 := (Nat.ne_of_lt (Nat.lt_of_lt_of_le (Nat.lt_of_lt_of_le S252.2.2.2.lt (Nat.le_trans K254.1 K256.1)) (Nat.le_of_eq g411.symm)))
      have f417 := (((((S252.keep K254 nin0 nin0).keep K256 nin0 nin0).keep K411 nin0 nin0).keep K412 (ninS ne415 nin0) (ninS ne416 nin0)).keep K414 nin0 nin0)
      have ne418 : x254 ≠ a411 := (Nat.ne_of_lt (Nat.lt_of_lt_of_le (Nat.lt_of_lt_of_le S254.1.lt K256.1) (Nat.le_of_eq g411.symm)))
      have ne419 : b254 ≠ a411 := (Nat.ne_of_lt (Nat.lt_of_lt_of_le (Nat.lt_of_lt_of_le S254.2.2.2.lt K256.1) (Nat.le_of_eq g411.symm)))
      have f420 := ((((S254.keep K256 nin0 nin0).keep K411 nin0 nin0).keep K412 (ninS ne418 nin0) (ninS ne419 nin0)).keep K414 nin0 nin0)
      have ne421 : x256 ≠ a411 := (Nat.ne_of_lt (Nat.lt_of_lt_of_le S256.1.lt (Nat.le_of_eq g411.symm)))
      have ne422 : b256 ≠ a411 := (Nat.ne_of_lt (Nat.lt_of_lt_of_le S256.2.2.2.lt (Nat.le_of_eq g411.symm)))
      have f423 := (((S256.keep K411 nin0 nin0).keep K412 (ninS ne421 nin0) (ninS ne422 nin0)).keep K414 nin0 nin0)
      have f424 := (A412.keep K414 nin0)
      have f425 := ((X411.keep K412).keep K414)
      have f426 := (Sta.keep (Sta.keep (Sta.keep (Sta.keep f257 K256 ns0) K411 ns0) K412 (nsS (Av.plain A411) ns0)) K414 ns0)
      have f427 := (Sta.keep (Sta.keep (Sta.keep (Sta.keep (Sta.keep (Sta.keep (Sta.keep (Sta.keep CI K248 ns0) K250 ns0) K252 ns0) K254 ns0) K256 ns0) K411 ns0) K412 (nsS (Av.plain A411) ns0)) K414 ns0)
      have f428 := ((((((((CX.keep K248).keep K250).keep K252).keep K254).keep K256).keep K411).keep K412).keep K414)
      have f429 := (Sta.keep (Sta.keep (Sta.keep (Sta.keep (Sta.keep (Sta.keep (Sta.keep (Sta.keep CA K248 ns0) K250 ns0) K252 ns0) K254 ns0) K256 ns0) K411 ns0) K412 (nsS (Av.plain A411) ns0)) K414 ns0)
      have ne430 : ca ≠ a411 := (Nat.ne_of_lt (Nat.lt_of_lt_of_le (Nat.lt_of_lt_of_le CV.lt (Nat.le_trans (Nat.le_trans (Nat.le_trans (Nat.le_trans K248.1 K250.1) K252.1) K254.1) K256.1)) (Nat.le_of_eq g411.symm)))
      have f431 := ((((((((CV.keep K248 nin0).keep K250 nin0).keep K252 nin0).keep K254 nin0).keep K256 nin0).keep K411 nin0).keep K412 (ninS ne430 nin0)).keep K414 nin0)
      refine k_callI0 W 1 23 160 (argsL := [(.ref x252), (.ref x254), (.ref x256), (.ref a411)]) (rest := [(.ref a414)]) (a := a414) d_code_173 rfl rfl (w56 hw) (w57 hw) (by decide) (lenOf pd25 rfl) (ct_oinit4 l Z a0 hw n0 h413 a414 cd ca x252 b252 x254 b254 x256 b256 a411 bs252 bs254 bs256 [(i2b p3)] zc (Nat.le_of_ble_eq_true rfl) nb252 nb254 nb256 X414 (D414 (Or.inr (w64 hw)) (ty := (.object "java/lang/String")) (by decide)) (D414 (Or.inr (w120 hw)) (ty := (.object "java/lang/String")) (by decide)) (D414 (Or.inr (w123 hw)) (ty := (.object "java/lang/String")) (by decide)) (D414 (Or.inr (w126 hw)) (ty := (.object "java/lang/String")) (by decide)) (D414 (Or.inr (w138 hw)) (ty := (.array .byte)) (by decide)) f417 f420 f423 f424 f425 f426 hzc f427 f428 f429 f431) (w58 hw) (w55 hw) (fun x hx => by simp only [List.mem_cons, List.not_mem_nil, or_false] at hx; rcases hx with rfl; all_goals first | exact (List.mem_of_getElem? (i := 0) rfl)) rfl (Nat.le_of_eq rfl) (Nat.le_of_ble_eq_true rfl) (Nat.le_of_ble_eq_true rfl) ⟨rfl, Nat.le_of_ble_eq_true rfl⟩ ⟨rfl, Nat.le_of_ble_eq_true rfl⟩ rfl (fun _ _ _ q => nomatch q.1) fun T h432 so W hQ => ?_
      obtain ⟨-, K432, F0_432, F1_432, F2_432, F3_432, q432, gq432, FP_432, AQ432, XQ432⟩ := hQ
      have AQ432 : Av Z h432 q432 .byte [(.int (i2b p3))] := AQ432
      refine k_astore W d_code_176 rfl (L' := #[.val (.long q0), .second, .val (.long q1), .second, .val (.int p2), .val (.int p3), .val (.int p4), .val (.int z247), .val (.int e1), .val (.int (1 : Int32)), .val (.int e3), .val (.ref x248), .val (.ref x250), .val (.ref x252), .val (.ref x254), .val (.ref x256), .val (.int (i2b p3)), .val (.int (i2b (XT.ushr p3 (8 : Int32)))), .val (.ref a411), .val (.ref a414), .unset, .unset, .unset, .unset]) rfl ?_
      refine k_aload W d_code_178 rfl rfl ?_
      refine k_aload W d_code_180 rfl rfl ?_
      have ne433 : x248 ≠ a411 := (Nat.ne_of_lt (Nat.lt_of_lt_of_le (Nat.lt_of_lt_of_le S248.1.lt (Nat.le_trans (Nat.le_trans (Nat.le_trans K250.1 K252.1) K254.1) K256.1)) (Nat.le_of_eq g411.symm)))
      have ne434 : b248 ≠ a411 := (Nat.ne_of_lt (Nat.lt_of_lt_of_le (Nat.lt_of_lt_of_le S248.2.2.2.lt (Nat.le_trans (Nat.le_trans (Nat.le_trans K250.1 K252.1) K254.1) K256.1)) (Nat.le_of_eq g411.symm)))
      have ne435 : x248 ≠ a414 := (Nat.ne_of_lt (Nat.lt_of_lt_of_le (Nat.lt_of_lt_of_le S248.1.lt (Nat.le_trans (Nat.le_trans (Nat.le_trans (Nat.le_trans (Nat.le_trans K250.1 K252.1) K254.1) K256.1) E411.1) K412.1)) (Nat.le_of_eq g414.symm)))
      have ne436 : b248 ≠ a414 := (Nat.ne_of_lt (Nat.lt_of_lt_of_le (Nat.lt_of_lt_of_le S248.2.2.2.lt (Nat.le_trans (Nat.le_trans (Nat.le_trans (Nat.le_trans (Nat.le_trans K250.1 K252.1) K254.1) K256.1) E411.1) K412.1)) (Nat.le_of_eq g414.symm)))
      have f437 := ((((((((S248.keep K250 nin0 nin0).keep K252 nin0 nin0).keep K254 nin0 nin0).keep K256 nin0 nin0).keep K411 nin0 nin0).keep K412 (ninS ne433 nin0) (ninS ne434 nin0)).keep K414 nin0 nin0).keep K432 (ninS ne435 nin0) (ninS ne436 nin0))
      have ne438 : x252 ≠ a414 := (Nat.ne_of_lt (Nat.lt_of_lt_of_le (Nat.lt_of_lt_of_le S252.1.lt (Nat.le_trans (Nat.le_trans (Nat.le_trans K254.1 K256.1) E411.1) K412.1)) (Nat.le_of_eq g414.symm)))
      have ne439 : b252 ≠ a414 := (Nat.ne_of_lt (Nat.lt_of_lt_of_le (Nat.lt_of_lt_of_le S252.2.2.2.lt (Nat.le_trans (Nat.le_trans (Nat.le_trans K254.1 K256.1) E411.1) K412.1)) (Nat.le_of_eq g414.symm)))
      have f440 := (f417.keep K432 (ninS ne438 nin0) (ninS ne439 nin0))
      have ne441 : x254 ≠ a414 := (Nat.ne_of_lt (Nat.lt_of_lt_of_le (Nat.lt_of_lt_of_le S254.1.lt (Nat.le_trans (Nat.le_trans K256.1 E411.1) K412.1)) (Nat.le_of_eq g414.symm)))
      have ne442 : b254 ≠ a414 := (Nat.ne_of_lt (Nat.lt_of_lt_of_le (Nat.lt_of_lt_of_le S254.2.2.2.lt (Nat.le_trans (Nat.le_trans K256.1 E411.1) K412.1)) (Nat.le_of_eq g414.symm)))
      have f443 := (f420.keep K432 (ninS ne441 nin0) (ninS ne442 nin0))
      have ne444 : x256 ≠ a414 := (Nat.ne_of_lt (Nat.lt_of_lt_of_le (Nat.lt_of_lt_of_le S256.1.lt (Nat.le_trans E411.1 K412.1)) (Nat.le_of_eq g414.symm)))
      have ne445 : b256 ≠ a414 := (Nat.ne_of_lt (Nat.lt_of_lt_of_le (Nat.lt_of_lt_of_le S256.2.2.2.lt (Nat.le_trans E411.1 K412.1)) (Nat.le_of_eq g414.symm)))
      have f446 := (f423.keep K432 (ninS ne444 nin0) (ninS ne445 nin0))
      have f447 := (Sta.keep f426 K432 (nsS (Exa.plain X414) ns0))
      have f448 := (Sta.keep f427 K432 (nsS (Exa.plain X414) ns0))
      have f449 := (f428.keep K432)
      have f450 := (Sta.keep f429 K432 (nsS (Exa.plain X414) ns0))
      have ne451 : ca ≠ a414 := (Nat.ne_of_lt (Nat.lt_of_lt_of_le (Nat.lt_of_lt_of_le CV.lt (Nat.le_trans (Nat.le_trans (Nat.le_trans (Nat.le_trans (Nat.le_trans (Nat.le_trans K248.1 K250.1) K252.1) K254.1) K256.1) E411.1) K412.1)) (Nat.le_of_eq g414.symm)))
      have f452 := (f431.keep K432 (ninS ne451 nin0))
      have f454 := (X414.keep K432)
      refine k_callV W 0 35 296 (argsL := [(.ref x248)]) (rest := []) (a := a414) (C := "com/example/kourier/kourier/outbox/OutboxEvent") (z0 := (⟨"com/example/kourier/kourier/outbox/OutboxEvent", "withId", "(Ljava/lang/String;)Lcom/example/kourier/kourier/outbox/OutboxEvent;"⟩ : MethodName)) (z := (⟨"com/example/kourier/kourier/outbox/OutboxEvent", "withId", "(Ljava/lang/String;)Lcom/example/kourier/kourier/outbox/OutboxEvent;"⟩ : MethodName)) d_code_182 (w139 hw) (w140 hw) (nfSel (w142 hw)) (w142 hw) (w141 hw) (by decide) (lenOf pd26 rfl) f454 (ct_with l Z a0 hw n0 h432 a414 x248 b248 bs248 .null rfl nb248 cd ca x252 b252 x254 b254 x256 b256 q432 bs252 bs254 bs256 [(i2b p3)] zc (Nat.le_of_ble_eq_true rfl) nb252 nb254 nb256 f454 F0_432 F1_432 F2_432 F3_432 FP_432 f437 f440 f443 f446 AQ432 XQ432 f447 hzc f448 f449 f450 f452) (w143 hw) (w55 hw) (fun x hx => nomatch hx) rfl (Nat.le_of_eq rfl) (Nat.le_of_ble_eq_true rfl) (Nat.le_of_ble_eq_true rfl) ⟨rfl, Nat.le_of_ble_eq_true rfl⟩ ⟨rfl, Nat.le_of_ble_eq_true rfl⟩ rfl (fun _ _ ⟨_, q, _⟩ => nomatch q) fun T h453 v so W hQ => ?_
      obtain ⟨x453, hv, gx453, K453, X453, F0_453, F1_453, F2_453, F3_453, q453, gq453, FP_453, AQ453, XQ453⟩ := hQ
      obtain rfl := Option.some.inj hv
      have AQ453 : Av Z h453 q453 .byte [(.int (i2b p3))] := AQ453
      refine k_astore W d_code_185 rfl (L' := #[.val (.long q0), .second, .val (.long q1), .second, .val (.int p2), .val (.int p3), .val (.int p4), .val (.int z247), .val (.int e1), .val (.int (1 : Int32)), .val (.int e3), .val (.ref x248), .val (.ref x250), .val (.ref x252), .val (.ref x254), .val (.ref x256), .val (.int (i2b p3)), .val (.int (i2b (XT.ushr p3 (8 : Int32)))), .val (.ref a411), .val (.ref a414), .val (.ref x453), .unset, .unset, .unset]) rfl ?_
      refine k_aload W d_code_187 rfl rfl ?_
      refine k_aload W d_code_189 rfl rfl ?_
      have f455 := (F0_432.keep K453 nin0)
      have f456 := (F1_432.keep K453 nin0)
      have f457 := (F2_432.keep K453 nin0)
      have f458 := (F3_432.keep K453 nin0)
      have f459 := (FP_432.keep K453 nin0)
      have ne460 : x250 ≠ a411 := (Nat.ne_of_lt (Nat.lt_of_lt_of_le (Nat.lt_of_lt_of_le S250.1.lt (Nat.le_trans (Nat.le_trans K252.1 K254.1) K256.1)) (Nat.le_of_eq g411.symm)))
      have ne461 : b250 ≠ a411 := (Nat.ne_of_lt (Nat.lt_of_lt_of_le (Nat.lt_of_lt_of_le S250.2.2.2.lt (Nat.le_trans (Nat.le_trans K252.1 K254.1) K256.1)) (Nat.le_of_eq g411.symm)))
      have ne462 : x250 ≠ a414 := (Nat.ne_of_lt (Nat.lt_of_lt_of_le (Nat.lt_of_lt_of_le S250.1.lt (Nat.le_trans (Nat.le_trans (Nat.le_trans (Nat.le_trans K252.1 K254.1) K256.1) E411.1) K412.1)) (Nat.le_of_eq g414.symm)))
      have ne463 : b250 ≠ a414 := (Nat.ne_of_lt (Nat.lt_of_lt_of_le (Nat.lt_of_lt_of_le S250.2.2.2.lt (Nat.le_trans (Nat.le_trans (Nat.le_trans (Nat.le_trans K252.1 K254.1) K256.1) E411.1) K412.1)) (Nat.le_of_eq g414.symm)))
      have f464 := ((((((((S250.keep K252 nin0 nin0).keep K254 nin0 nin0).keep K256 nin0 nin0).keep K411 nin0 nin0).keep K412 (ninS ne460 nin0) (ninS ne461 nin0)).keep K414 nin0 nin0).keep K432 (ninS ne462 nin0) (ninS ne463 nin0)).keep K453 nin0 nin0)
      have f465 := (f440.keep K453 nin0 nin0)
      have f466 := (f443.keep K453 nin0 nin0)
      have f467 := (f446.keep K453 nin0 nin0)
      have f468 := (AQ432.keep K453 nin0)
      have f469 := (XQ432.keep K453)
      have f470 := (Sta.keep f447 K453 ns0)
      have f471 := (Sta.keep f448 K453 ns0)
      have f472 := (f449.keep K453)
      have f473 := (Sta.keep f450 K453 ns0)
      have f474 := (f452.keep K453 nin0)
      have f476 := (f454.keep K453)
      refine k_callV W 0 47 432 (argsL := [(.ref x250)]) (rest := []) (a := a414) (C := "com/example/kourier/kourier/outbox/OutboxEvent") (z0 := (⟨"com/example/kourier/kourier/outbox/OutboxEvent", "withId", "(Ljava/lang/String;)Lcom/example/kourier/kourier/outbox/OutboxEvent;"⟩ : MethodName)) (z := (⟨"com/example/kourier/kourier/outbox/OutboxEvent", "withId", "(Ljava/lang/String;)Lcom/example/kourier/kourier/outbox/OutboxEvent;"⟩ : MethodName)) d_code_191 (w139 hw) (w140 hw) (nfSel (w142 hw)) (w142 hw) (w141 hw) (by decide) (lenOf pd26 rfl) f476 (ct_with l Z a0 hw n0 h453 a414 x250 b250 bs250 .null rfl nb250 cd ca x252 b252 x254 b254 x256 b256 q432 bs252 bs254 bs256 [(i2b p3)] zc (Nat.le_of_ble_eq_true rfl) nb252 nb254 nb256 f476 f455 f456 f457 f458 f459 f464 f465 f466 f467 f468 f469 f470 hzc f471 f472 f473 f474) (w143 hw) (w55 hw) (fun x hx => nomatch hx) rfl (Nat.le_of_eq rfl) (Nat.le_of_ble_eq_true rfl) (Nat.le_of_ble_eq_true rfl) ⟨rfl, Nat.le_of_ble_eq_true rfl⟩ ⟨rfl, Nat.le_of_ble_eq_true rfl⟩ rfl (fun _ _ ⟨_, q, _⟩ => nomatch q) fun T h475 v so W hQ => ?_
      obtain ⟨x475, hv, gx475, K475, X475, F0_475, F1_475, F2_475, F3_475, q475, gq475, FP_475, AQ475, XQ475⟩ := hQ
      obtain rfl := Option.some.inj hv
      have AQ475 : Av Z h475 q475 .byte [(.int (i2b p3))] := AQ475
      refine k_astore W d_code_194 rfl (L' := #[.val (.long q0), .second, .val (.long q1), .second, .val (.int p2), .val (.int p3), .val (.int p4), .val (.int z247), .val (.int e1), .val (.int (1 : Int32)), .val (.int e3), .val (.ref x248), .val (.ref x250), .val (.ref x252), .val (.ref x254), .val (.ref x256), .val (.int (i2b p3)), .val (.int (i2b (XT.ushr p3 (8 : Int32)))), .val (.ref a411), .val (.ref a414), .val (.ref x453), .val (.ref x475), .unset, .unset]) rfl ?_
      refine k_aload W d_code_196 rfl rfl ?_
      refine k_aload W d_code_198 rfl rfl ?_
      have f477 := (F0_453.keep K475 nin0)
      have f478 := (F1_453.keep K475 nin0)
      have f479 := (F2_453.keep K475 nin0)
      have f480 := (F3_453.keep K475 nin0)
      have f481 := (FP_453.keep K475 nin0)
      have f482 := (f464.keep K475 nin0 nin0)
      have f483 := (f465.keep K475 nin0 nin0)
      have f484 := (f466.keep K475 nin0 nin0)
      have f485 := (f467.keep K475 nin0 nin0)
      have f486 := (AQ453.keep K475 nin0)
      have f487 := (XQ453.keep K475)
      have f488 := (Sta.keep f470 K475 ns0)
      have f489 := (Sta.keep f471 K475 ns0)
      have f490 := (f472.keep K475)
      have f491 := (Sta.keep f473 K475 ns0)
      have f492 := (f474.keep K475 nin0)
      have f494 := (X453.keep K475)
      refine k_callV W 0 59 568 (argsL := [(.ref x250)]) (rest := []) (a := x453) (C := "com/example/kourier/kourier/outbox/OutboxEvent") (z0 := (⟨"com/example/kourier/kourier/outbox/OutboxEvent", "withId", "(Ljava/lang/String;)Lcom/example/kourier/kourier/outbox/OutboxEvent;"⟩ : MethodName)) (z := (⟨"com/example/kourier/kourier/outbox/OutboxEvent", "withId", "(Ljava/lang/String;)Lcom/example/kourier/kourier/outbox/OutboxEvent;"⟩ : MethodName)) d_code_200 (w139 hw) (w140 hw) (nfSel (w142 hw)) (w142 hw) (w141 hw) (by decide) (lenOf pd26 rfl) f494 (ct_with l Z a0 hw n0 h475 x453 x250 b250 bs250 (.ref x248) rfl nb250 cd ca x252 b252 x254 b254 x256 b256 q453 bs252 bs254 bs256 [(i2b p3)] zc (Nat.le_of_ble_eq_true rfl) nb252 nb254 nb256 f494 f477 f478 f479 f480 f481 f482 f483 f484 f485 f486 f487 f488 hzc f489 f490 f491 f492) (w143 hw) (w55 hw) (fun x hx => nomatch hx) rfl (Nat.le_of_eq rfl) (Nat.le_of_ble_eq_true rfl) (Nat.le_of_ble_eq_true rfl) ⟨rfl, Nat.le_of_ble_eq_true rfl⟩ ⟨rfl, Nat.le_of_ble_eq_true rfl⟩ rfl (fun _ _ ⟨_, q, _⟩ => nomatch q) fun T h493 v so W hQ => ?_
      obtain ⟨x493, hv, gx493, K493, X493, F0_493, F1_493, F2_493, F3_493, q493, gq493, FP_493, AQ493, XQ493⟩ := hQ
      obtain rfl := Option.some.inj hv
      have AQ493 : Av Z h493 q493 .byte [(.int (i2b p3))] := AQ493
      refine k_astore W d_code_203 rfl (L' := #[.val (.long q0), .second, .val (.long q1), .second, .val (.int p2), .val (.int p3), .val (.int p4), .val (.int z247), .val (.int e1), .val (.int (1 : Int32)), .val (.int e3), .val (.ref x248), .val (.ref x250), .val (.ref x252), .val (.ref x254), .val (.ref x256), .val (.int (i2b p3)), .val (.int (i2b (XT.ushr p3 (8 : Int32)))), .val (.ref a411), .val (.ref a414), .val (.ref x453), .val (.ref x475), .val (.ref x493), .unset]) rfl ?_
      refine k_aload W d_code_205 rfl rfl ?_
      refine k_aload W d_code_207 rfl rfl ?_
      have f495 := (f477.keep K493 nin0)
      have f496 := (f478.keep K493 nin0)
      have f497 := (f479.keep K493 nin0)
      have f498 := (f480.keep K493 nin0)
      have f499 := (f481.keep K493 nin0)
      have f500 := ((f455.keep K475 nin0).keep K493 nin0)
      have f501 := ((f456.keep K475 nin0).keep K493 nin0)
      have f502 := ((f457.keep K475 nin0).keep K493 nin0)
      have f503 := ((f458.keep K475 nin0).keep K493 nin0)
      have f504 := ((f459.keep K475 nin0).keep K493 nin0)
      have f505 := (((f437.keep K453 nin0 nin0).keep K475 nin0 nin0).keep K493 nin0 nin0)
      have f506 := (f486.keep K493 nin0)
      have f507 := ((f468.keep K475 nin0).keep K493 nin0)
      have ne508 : x453 ≠ a414 := (Ne.symm (Nat.ne_of_lt (Nat.lt_of_lt_of_le F0_432.lt gx453)))
      have ne509 : q453 ≠ q432 := (Ne.symm (Nat.ne_of_lt (Nat.lt_of_lt_of_le AQ432.lt gq453)))
      have f510 := (f494.keep K493)
      have f511 := ((f476.keep K475).keep K493)
      have f512 := (f483.keep K493 nin0 nin0)
      have f513 := (f484.keep K493 nin0 nin0)
      have f514 := (f485.keep K493 nin0 nin0)
      have f515 := (Sta.keep f488 K493 ns0)
      refine k_callV W 0 59 568 (argsL := [(.ref a414)]) (rest := []) (a := x453) (C := "com/example/kourier/kourier/outbox/OutboxEvent") (z0 := (⟨"com/example/kourier/kourier/outbox/OutboxEvent", "equals", "(Ljava/lang/Object;)Z"⟩ : MethodName)) (z := (⟨"com/example/kourier/kourier/outbox/OutboxEvent", "equals", "(Ljava/lang/Object;)Z"⟩ : MethodName)) d_code_209 (w146 hw) (w147 hw) (nfSel (w149 hw)) (w149 hw) (w148 hw) (by decide) (lenOf pd18 rfl) f510 (ct_oeqZ l Z a0 hw n0 h493 mr x453 a414 x252 x254 x256 q453 q432 x248 b248 0 0 bs248 [] [(i2b p3)] zc (Nat.le_of_ble_eq_true rfl) ne508 ne509 M0 f510 f495 f496 f497 f498 f499 f511 f500 f501 f502 f503 f504 f505 f512.1 f513.1 f514.1 f506 f507 f515 hzc) (w150 hw) (w55 hw) (fun x hx => nomatch hx) rfl (Nat.le_of_eq rfl) (Nat.le_of_ble_eq_true rfl) (Nat.le_of_ble_eq_true rfl) ⟨rfl, Nat.le_of_ble_eq_true rfl⟩ ⟨rfl, Nat.le_of_ble_eq_true rfl⟩ rfl (fun _ _ q => nomatch q.1) fun T h516 v so W hQ => ?_
      obtain ⟨hv, rfl, -⟩ := hQ
      obtain rfl := Option.some.inj hv
      refine k_ifY W 217 d_code_212 (by decide) (show (0 : Int32) = 0 by decide) ?_
      refine k_aload W d_code_217 rfl rfl ?_
      refine k_aload W d_code_219 rfl rfl ?_
      refine k_callV W 1 59 568 (argsL := []) (rest := [(.ref x252)]) (a := x453) (C := "com/example/kourier/kourier/outbox/OutboxEvent") (z0 := (⟨"com/example/kourier/kourier/outbox/OutboxEvent", "destination", "()Ljava/lang/String;"⟩ : MethodName)) (z := (⟨"com/example/kourier/kourier/outbox/OutboxEvent", "destination", "()Ljava/lang/String;"⟩ : MethodName)) d_code_221 (w166 hw) (w167 hw) (nfSel (w169 hw)) (w169 hw) (w168 hw) (by decide) (lenOf pd27 rfl) f510 (ct_destination l Z a0 hw n0 h493 x453 x252 f496) (w170 hw) (w55 hw) (fun x hx => nomatch hx) rfl (Nat.le_of_eq rfl) (Nat.le_of_ble_eq_true rfl) (Nat.le_of_ble_eq_true rfl) ⟨rfl, Nat.le_of_ble_eq_true rfl⟩ ⟨rfl, Nat.le_of_ble_eq_true rfl⟩ rfl (fun _ _ q => nomatch q.1) fun T h517 v so W hQ => ?_
      obtain ⟨hv, rfl, -⟩ := hQ
      obtain rfl := Option.some.inj hv
      refine k_callV W 0 59 568 (argsL := [(.ref x252)]) (rest := []) (a := x252) (C := "java/lang/String") (z0 := (⟨"java/lang/String", "equals", "(Ljava/lang/Object;)Z"⟩ : MethodName)) (z := (⟨"java/lang/String", "equals", "(Ljava/lang/Object;)Z"⟩ : MethodName)) d_code_224 (w171 hw) (w172 hw) (nfSel (w173 hw)) (w173 hw) (w164 hw) (by decide) (lenOf pd18 rfl) f512.1 (ct_seqI l Z a0 hw n0 h493 x252) (w165 hw) (w8 hw) (fun x hx => nomatch hx) rfl (Nat.le_of_eq rfl) (Nat.le_of_ble_eq_true rfl) (Nat.le_of_ble_eq_true rfl) ⟨rfl, Nat.le_of_ble_eq_true rfl⟩ ⟨rfl, Nat.le_of_ble_eq_true rfl⟩ rfl (fun _ _ q => nomatch q.1) fun T h518 v so W hQ => ?_
      obtain ⟨hv, rfl, -⟩ := hQ
      obtain rfl := Option.some.inj hv
      refine k_ifY W 232 d_code_227 (by decide) (show ¬ (1 : Int32) = 0 by decide) ?_
      refine k_aload W d_code_232 rfl rfl ?_
      refine k_aload W d_code_234 rfl rfl ?_
      refine k_callV W 1 59 568 (argsL := []) (rest := [(.ref x254)]) (a := x453) (C := "com/example/kourier/kourier/outbox/OutboxEvent") (z0 := (⟨"com/example/kourier/kourier/outbox/OutboxEvent", "key", "()Ljava/lang/String;"⟩ : MethodName)) (z := (⟨"com/example/kourier/kourier/outbox/OutboxEvent", "key", "()Ljava/lang/String;"⟩ : MethodName)) d_code_236 (w174 hw) (w175 hw) (nfSel (w177 hw)) (w177 hw) (w176 hw) (by decide) (lenOf pd27 rfl) f510 (ct_key l Z a0 hw n0 h493 x453 x254 f497) (w178 hw) (w55 hw) (fun x hx => nomatch hx) rfl (Nat.le_of_eq rfl) (Nat.le_of_ble_eq_true rfl) (Nat.le_of_ble_eq_true rfl) ⟨rfl, Nat.le_of_ble_eq_true rfl⟩ ⟨rfl, Nat.le_of_ble_eq_true rfl⟩ rfl (fun _ _ q => nomatch q.1) fun T h519 v so W hQ => ?_
      obtain ⟨hv, rfl, -⟩ := hQ
      obtain rfl := Option.some.inj hv
      refine k_callV W 0 59 568 (argsL := [(.ref x254)]) (rest := []) (a := x254) (C := "java/lang/String") (z0 := (⟨"java/lang/String", "equals", "(Ljava/lang/Object;)Z"⟩ : MethodName)) (z := (⟨"java/lang/String", "equals", "(Ljava/lang/Object;)Z"⟩ : MethodName)) d_code_239 (w171 hw) (w172 hw) (nfSel (w173 hw)) (w173 hw) (w164 hw) (by decide) (lenOf pd18 rfl) f513.1 (ct_seqI l Z a0 hw n0 h493 x254) (w165 hw) (w8 hw) (fun x hx => nomatch hx) rfl (Nat.le_of_eq rfl) (Nat.le_of_ble_eq_true rfl) (Nat.le_of_ble_eq_true rfl) ⟨rfl, Nat.le_of_ble_eq_true rfl⟩ ⟨rfl, Nat.le_of_ble_eq_true rfl⟩ rfl (fun _ _ q => nomatch q.1) fun T h520 v so W hQ => ?_
      obtain ⟨hv, rfl, -⟩ := hQ
      obtain rfl := Option.some.inj hv
      refine k_ifY W 247 d_code_242 (by decide) (show ¬ (1 : Int32) = 0 by decide) ?_
      refine k_aload W d_code_247 rfl rfl ?_
      refine k_aload W d_code_249 rfl rfl ?_
      refine k_callV W 1 59 568 (argsL := []) (rest := [(.ref x256)]) (a := x453) (C := "com/example/kourier/kourier/outbox/OutboxEvent") (z0 := (⟨"com/example/kourier/kourier/outbox/OutboxEvent", "type", "()Ljava/lang/String;"⟩ : MethodName)) (z := (⟨"com/example/kourier/kourier/outbox/OutboxEvent", "type", "()Ljava/lang/String;"⟩ : MethodName)) d_code_251 (w179 hw) (w180 hw) (nfSel (w182 hw)) (w182 hw) (w181 hw) (by decide) (lenOf pd27 rfl) f510 (ct_type l Z a0 hw n0 h493 x453 x256 f498) (w183 hw) (w55 hw) (fun x hx => nomatch hx) rfl (Nat.le_of_eq rfl) (Nat.le_of_ble_eq_true rfl) (Nat.le_of_ble_eq_true rfl) ⟨rfl, Nat.le_of_ble_eq_true rfl⟩ ⟨rfl, Nat.le_of_ble_eq_true rfl⟩ rfl (fun _ _ q => nomatch q.1) fun T h521 v so W hQ => ?_
      obtain ⟨hv, rfl, -⟩ := hQ
      obtain rfl := Option.some.inj hv
      refine k_callV W 0 59 568 (argsL := [(.ref x256)]) (rest := []) (a := x256) (C := "java/lang/String") (z0 := (⟨"java/lang/String", "equals", "(Ljava/lang/Object;)Z"⟩ : MethodName)) (z := (⟨"java/lang/String", "equals", "(Ljava/lang/Object;)Z"⟩ : MethodName)) d_code_254 (w171 hw) (w172 hw) (nfSel (w173 hw)) (w173 hw) (w164 hw) (by decide) (lenOf pd18 rfl) f514.1 (ct_seqI l Z a0 hw n0 h493 x256) (w165 hw) (w8 hw) (fun x hx => nomatch hx) rfl (Nat.le_of_eq rfl) (Nat.le_of_ble_eq_true rfl) (Nat.le_of_ble_eq_true rfl) ⟨rfl, Nat.le_of_ble_eq_true rfl⟩ ⟨rfl, Nat.le_of_ble_eq_true rfl⟩ rfl (fun _ _ q => nomatch q.1) fun T h522 v so W hQ => ?_
      obtain ⟨hv, rfl, -⟩ := hQ
      obtain rfl := Option.some.inj hv
      refine k_ifY W 262 d_code_257 (by decide) (show ¬ (1 : Int32) = 0 by decide) ?_
      refine k_aload W d_code_262 rfl rfl ?_
      have f524 := (f487.keep K493)
      refine k_callV W 0 60 571 (argsL := []) (rest := []) (a := x453) (C := "com/example/kourier/kourier/outbox/OutboxEvent") (z0 := (⟨"com/example/kourier/kourier/outbox/OutboxEvent", "payload", "()[B"⟩ : MethodName)) (z := (⟨"com/example/kourier/kourier/outbox/OutboxEvent", "payload", "()[B"⟩ : MethodName)) d_code_264 (w184 hw) (w185 hw) (nfSel (w187 hw)) (w187 hw) (w186 hw) (by decide) (lenOf pd28 rfl) f510 (ct_payload l Z a0 hw n0 h493 x453 q453 [(i2b p3)] (Nat.le_of_ble_eq_true rfl) f499 f506 f524) (w188 hw) (w55 hw) (fun x hx => nomatch hx) rfl (Nat.le_of_eq rfl) (Nat.le_of_ble_eq_true rfl) (Nat.le_of_ble_eq_true rfl) ⟨rfl, Nat.le_of_ble_eq_true rfl⟩ ⟨rfl, Nat.le_of_ble_eq_true rfl⟩ rfl (fun _ _ ⟨_, q, _⟩ => nomatch q) fun T h523 v so W hQ => ?_
      obtain ⟨x523, hv, gx523, K523, A523⟩ := hQ
      obtain rfl := Option.some.inj hv
      have A523 : Av Z h523 x523 .byte [(.int (i2b p3))] := A523
      refine k_astore W d_code_267 rfl (L' := #[.val (.long q0), .second, .val (.long q1), .second, .val (.int p2), .val (.int p3), .val (.int p4), .val (.int z247), .val (.int e1), .val (.int (1 : Int32)), .val (.int e3), .val (.ref x248), .val (.ref x250), .val (.ref x252), .val (.ref x254), .val (.ref x256), .val (.int (i2b p3)), .val (.int (i2b (XT.ushr p3 (8 : Int32)))), .val (.ref a411), .val (.ref a414), .val (.ref x453), .val (.ref x475), .val (.ref x493), .val (.ref x523)]) rfl ?_
      refine k_aload W d_code_269 rfl rfl ?_
      refine k_arraylength W (z := (1 : Int32)) d_code_271 A523 rfl ?_
      refine k_iload W d_code_272 rfl ?_
      refine k_icY W 279 d_code_274 (by decide) (show (1 : Int32) = (1 : Int32) by decide) ?_
      refine k_iload W d_code_279 rfl ?_
      refine k_iconst W d_code_281 (z := (1 : Int32)) rfl ?_
      refine k_icN W d_code_282 (show ¬ ((1 : Int32) < (1 : Int32)) by decide) ?_
      refine k_aload W d_code_285 rfl rfl ?_
      refine k_iconst W d_code_287 (z := (0 : Int32)) rfl ?_
      refine k_baload W (v := (.int (i2b p3))) 0 d_code_288 A523 (by decide) rfl ?_
      refine k_iload W d_code_289 rfl ?_
      refine k_icY W 296 d_code_291 (by decide) (show (i2b p3) = (i2b p3) from rfl) ?_
      refine k_iload W d_code_296 rfl ?_
      refine k_iconst W d_code_298 (z := (2 : Int32)) rfl ?_
      refine k_icY W 313 d_code_299 (by decide) (show ¬ (1 : Int32) = (2 : Int32) by decide) ?_
      refine k_aload W d_code_313 rfl rfl ?_
      refine k_aload W d_code_315 rfl rfl ?_
      have f525 := (f495.keep K523 nin0)
      have f526 := (f496.keep K523 nin0)
      have f527 := (f497.keep K523 nin0)
      have f528 := (f498.keep K523 nin0)
      have f529 := (f499.keep K523 nin0)
      have f530 := ((F0_475.keep K493 nin0).keep K523 nin0)
      have f531 := ((F1_475.keep K493 nin0).keep K523 nin0)
      have f532 := ((F2_475.keep K493 nin0).keep K523 nin0)
      have f533 := ((F3_475.keep K493 nin0).keep K523 nin0)
      have f534 := ((FP_475.keep K493 nin0).keep K523 nin0)
      have f535 := (f505.keep K523 nin0 nin0)
      have f536 := ((f482.keep K493 nin0 nin0).keep K523 nin0 nin0)
      have f537 := (f506.keep K523 nin0)
      have f538 := ((AQ475.keep K493 nin0).keep K523 nin0)
      have ne539 : x453 ≠ x475 := (Nat.ne_of_lt (Nat.lt_of_lt_of_le X453.lt gx475))
      have ne540 : q453 ≠ q475 := (Nat.ne_of_lt (Nat.lt_of_lt_of_le AQ453.lt gq475))
      have ne541 : x248 ≠ x250 := (Nat.ne_of_lt (Nat.lt_of_lt_of_le S248.1.lt g250))
      have f542 := (f510.keep K523)
      have f543 := ((X475.keep K493).keep K523)
      have f544 := (f512.keep K523 nin0 nin0)
      have f545 := (f513.keep K523 nin0 nin0)
      have f546 := (f514.keep K523 nin0 nin0)
      have f547 := (Sta.keep f515 K523 ns0)
      refine k_callV W 0 60 571 (argsL := [(.ref x475)]) (rest := []) (a := x453) (C := "com/example/kourier/kourier/outbox/OutboxEvent") (z0 := (⟨"com/example/kourier/kourier/outbox/OutboxEvent", "equals", "(Ljava/lang/Object;)Z"⟩ : MethodName)) (z := (⟨"com/example/kourier/kourier/outbox/OutboxEvent", "equals", "(Ljava/lang/Object;)Z"⟩ : MethodName)) d_code_317 (w146 hw) (w147 hw) (nfSel (w149 hw)) (w149 hw) (w148 hw) (by decide) (lenOf pd18 rfl) f542 (ct_oeqD l Z a0 hw n0 h523 mr x453 x475 x252 x254 x256 q453 q475 x248 b248 x250 b250 bs248 bs250 [(i2b p3)] zc (Nat.le_of_ble_eq_true rfl) ne539 ne540 ne541 M0 f542 f525 f526 f527 f528 f529 f543 f530 f531 f532 f533 f534 f535 f536 f544.1 f545.1 f546.1 f537 f538 f547 hzc) (w150 hw) (w55 hw) (fun x hx => nomatch hx) rfl (Nat.le_of_eq rfl) (Nat.le_of_ble_eq_true rfl) (Nat.le_of_ble_eq_true rfl) ⟨rfl, Nat.le_of_ble_eq_true rfl⟩ ⟨rfl, Nat.le_of_ble_eq_true rfl⟩ rfl (fun _ _ q => by rcases q.1 with ⟨_, u⟩ | ⟨_, u⟩ <;> cases u) fun T h549 v so W hQ => ?_
      obtain ⟨hQ, rfl⟩ := hQ
      rcases hQ with ⟨heq548, hv⟩ | ⟨heq548, hv⟩
      · --
        obtain rfl := Option.some.inj hv
        refine k_aload W d_code_320 rfl rfl ?_
        refine k_aload W d_code_322 rfl rfl ?_
        refine k_callV W 1 60 571 (argsL := [(.ref x250)]) (rest := [(.int (1 : Int32))]) (a := x248) (C := "java/lang/String") (z0 := (⟨"java/lang/String", "equals", "(Ljava/lang/Object;)Z"⟩ : MethodName)) (z := (⟨"java/lang/String", "equals", "(Ljava/lang/Object;)Z"⟩ : MethodName)) d_code_324 (w171 hw) (w172 hw) (nfSel (w173 hw)) (w173 hw) (w164 hw) (by decide) (lenOf pd18 rfl) f535.1 (ct_seq l Z a0 hw n0 h523 x248 b248 x250 b250 bs248 bs250 zc ne541 f535 f536 f547 hzc) (w165 hw) (w8 hw) (fun x hx => nomatch hx) rfl (Nat.le_of_eq rfl) (Nat.le_of_ble_eq_true rfl) (Nat.le_of_ble_eq_true rfl) ⟨rfl, Nat.le_of_ble_eq_true rfl⟩ ⟨rfl, Nat.le_of_ble_eq_true rfl⟩ rfl (fun _ _ q => by rcases q.1 with ⟨_, u⟩ | ⟨_, u⟩ <;> cases u) fun T h551 v so W hQ => ?_
        obtain ⟨hQ, rfl⟩ := hQ
        rcases hQ with ⟨heq550, hv⟩ | ⟨heq550, hv⟩
        · --
          obtain rfl := Option.some.inj hv
          refine k_icY W 332 d_code_327 (by decide) (show (1 : Int32) = (1 : Int32) by decide) ?_
          refine k_aload W d_code_332 rfl rfl ?_
          refine k_aload W d_code_334 rfl rfl ?_
          have f552 := (F0_493.keep K523 nin0)
          have f553 := (F1_493.keep K523 nin0)
          have f554 := (F2_493.keep K523 nin0)
          have f555 := (F3_493.keep K523 nin0)
          have f556 := (FP_493.keep K523 nin0)
          have f557 := (AQ493.keep K523 nin0)
          have ne558 : x493 ≠ x475 := (Ne.symm (Nat.ne_of_lt (Nat.lt_of_lt_of_le X475.lt gx493)))
          have ne559 : q493 ≠ q475 := (Ne.symm (Nat.ne_of_lt (Nat.lt_of_lt_of_le AQ475.lt gq493)))
          have f560 := (X493.keep K523)
          refine k_callV W 0 60 571 (argsL := [(.ref x475)]) (rest := []) (a := x493) (C := "com/example/kourier/kourier/outbox/OutboxEvent") (z0 := (⟨"com/example/kourier/kourier/outbox/OutboxEvent", "equals", "(Ljava/lang/Object;)Z"⟩ : MethodName)) (z := (⟨"com/example/kourier/kourier/outbox/OutboxEvent", "equals", "(Ljava/lang/Object;)Z"⟩ : MethodName)) d_code_336 (w146 hw) (w147 hw) (nfSel (w149 hw)) (w149 hw) (w148 hw) (by decide) (lenOf pd18 rfl) f560 (ct_oeqI l Z a0 hw n0 h523 mr x493 x475 x252 x254 x256 q493 q475 x250 b250 0 0 bs250 [] [(i2b p3)] zc (Nat.le_of_ble_eq_true rfl) ne558 ne559 M0 f560 f552 f553 f554 f555 f556 f543 f530 f531 f532 f533 f534 f536 f544.1 f545.1 f546.1 f557 f538 f547 hzc) (w150 hw) (w55 hw) (fun x hx => nomatch hx) rfl (Nat.le_of_eq rfl) (Nat.le_of_ble_eq_true rfl) (Nat.le_of_ble_eq_true rfl) ⟨rfl, Nat.le_of_ble_eq_true rfl⟩ ⟨rfl, Nat.le_of_ble_eq_true rfl⟩ rfl (fun _ _ q => nomatch q.1) fun T h561 v so W hQ => ?_
          obtain ⟨hv, rfl, -⟩ := hQ
          obtain rfl := Option.some.inj hv
          exact k_retN W (t := .boolean) (z' := (1 : Int32)) d_code_339 rfl (by simp) (by decide) [] (fun x hx => nomatch hx) (Nat.le_of_ble_eq_true rfl) (Nat.le_of_ble_eq_true rfl) rfl
        · --
          obtain rfl := Option.some.inj hv
          exact absurd heq548 heq550
      · --
        obtain rfl := Option.some.inj hv
        refine k_aload W d_code_320 rfl rfl ?_
        refine k_aload W d_code_322 rfl rfl ?_
        refine k_callV W 1 60 571 (argsL := [(.ref x250)]) (rest := [(.int (0 : Int32))]) (a := x248) (C := "java/lang/String") (z0 := (⟨"java/lang/String", "equals", "(Ljava/lang/Object;)Z"⟩ : MethodName)) (z := (⟨"java/lang/String", "equals", "(Ljava/lang/Object;)Z"⟩ : MethodName)) d_code_324 (w171 hw) (w172 hw) (nfSel (w173 hw)) (w173 hw) (w164 hw) (by decide) (lenOf pd18 rfl) f535.1 (ct_seq l Z a0 hw n0 h523 x248 b248 x250 b250 bs248 bs250 zc ne541 f535 f536 f547 hzc) (w165 hw) (w8 hw) (fun x hx => nomatch hx) rfl (Nat.le_of_eq rfl) (Nat.le_of_ble_eq_true rfl) (Nat.le_of_ble_eq_true rfl) ⟨rfl, Nat.le_of_ble_eq_true rfl⟩ ⟨rfl, Nat.le_of_ble_eq_true rfl⟩ rfl (fun _ _ q => by rcases q.1 with ⟨_, u⟩ | ⟨_, u⟩ <;> cases u) fun T h563 v so W hQ => ?_
        obtain ⟨hQ, rfl⟩ := hQ
        rcases hQ with ⟨heq562, hv⟩ | ⟨heq562, hv⟩
        · --
          obtain rfl := Option.some.inj hv
          exact absurd heq562 heq548
        · --
          obtain rfl := Option.some.inj hv
          refine k_icY W 332 d_code_327 (by decide) (show (0 : Int32) = (0 : Int32) by decide) ?_
          refine k_aload W d_code_332 rfl rfl ?_
          refine k_aload W d_code_334 rfl rfl ?_
          have f564 := (F0_493.keep K523 nin0)
          have f565 := (F1_493.keep K523 nin0)
          have f566 := (F2_493.keep K523 nin0)
          have f567 := (F3_493.keep K523 nin0)
          have f568 := (FP_493.keep K523 nin0)
          have f569 := (AQ493.keep K523 nin0)
          have ne570 : x493 ≠ x475 := (Ne.symm (Nat.ne_of_lt (Nat.lt_of_lt_of_le X475.lt gx493)))
          have ne571 : q493 ≠ q475 := (Ne.symm (Nat.ne_of_lt (Nat.lt_of_lt_of_le AQ475.lt gq493)))
          have f572 := (X493.keep K523)
          refine k_callV W 0 60 571 (argsL := [(.ref x475)]) (rest := []) (a := x493) (C := "com/example/kourier/kourier/outbox/OutboxEvent") (z0 := (⟨"com/example/kourier/kourier/outbox/OutboxEvent", "equals", "(Ljava/lang/Object;)Z"⟩ : MethodName)) (z := (⟨"com/example/kourier/kourier/outbox/OutboxEvent", "equals", "(Ljava/lang/Object;)Z"⟩ : MethodName)) d_code_336 (w146 hw) (w147 hw) (nfSel (w149 hw)) (w149 hw) (w148 hw) (by decide) (lenOf pd18 rfl) f572 (ct_oeqI l Z a0 hw n0 h523 mr x493 x475 x252 x254 x256 q493 q475 x250 b250 0 0 bs250 [] [(i2b p3)] zc (Nat.le_of_ble_eq_true rfl) ne570 ne571 M0 f572 f564 f565 f566 f567 f568 f543 f530 f531 f532 f533 f534 f536 f544.1 f545.1 f546.1 f569 f538 f547 hzc) (w150 hw) (w55 hw) (fun x hx => nomatch hx) rfl (Nat.le_of_eq rfl) (Nat.le_of_ble_eq_true rfl) (Nat.le_of_ble_eq_true rfl) ⟨rfl, Nat.le_of_ble_eq_true rfl⟩ ⟨rfl, Nat.le_of_ble_eq_true rfl⟩ rfl (fun _ _ q => nomatch q.1) fun T h573 v so W hQ => ?_
          obtain ⟨hv, rfl, -⟩ := hQ
          obtain rfl := Option.some.inj hv
          exact k_retN W (t := .boolean) (z' := (1 : Int32)) d_code_339 rfl (by simp) (by decide) [] (fun x hx => nomatch hx) (Nat.le_of_ble_eq_true rfl) (Nat.le_of_ble_eq_true rfl) rfl
    · -- plen 2
      refine k_iload W d_code_114 rfl ?_
      refine k_ifY W 127 d_code_116 (by decide) (show ¬ (2 : Int32) = 0 by decide) ?_
      refine k_iload W d_code_127 rfl ?_
      refine k_iconst W d_code_129 (z := (1 : Int32)) rfl ?_
      refine k_icY W 146 d_code_130 (by decide) (show ¬ (2 : Int32) = (1 : Int32) by decide) ?_
      refine k_iconst W d_code_146 (z := (2 : Int32)) rfl ?_
      refine k_newarrE W 2 13 37 "[B" (by decide) d_code_147 (w25 hw) (by decide) (by decide) ⟨rfl, Nat.le_of_ble_eq_true rfl⟩ ⟨rfl, Nat.le_of_ble_eq_true rfl⟩ fun T h574 a575 g575 W E575 A575 X575 => ?_
      have K575 : Keep h256 h574 [] := keep_ext E575 []
      have A575 : Av Z h574 a575 .byte [(.int (0 : Int32)), (.int (0 : Int32))] := A575
      refine k_dup W d_code_149 rfl ?_
      refine k_iconst W d_code_150 (z := (0 : Int32)) rfl ?_
      refine k_iload W d_code_151 rfl ?_
      refine k_bastore W (z := (i2b p3)) 0 d_code_153 (List.mem_of_getElem? (i := 0) rfl) A575 (by decide) (Nat.le_of_ble_eq_true rfl) (nar_i2b _) (fits_i2b _) fun T h576 W Wr576 A576 => ?_
      have K576 : Keep h574 h576 [a575] := Keep.of_wr Wr576
      have A576 : Av Z h576 a575 .byte [(.int (i2b p3)), (.int (0 : Int32))] := A576
      refine k_dup W d_code_154 rfl ?_
      refine k_iconst W d_code_155 (z := (1 : Int32)) rfl ?_
      refine k_iload W d_code_156 rfl ?_
      refine k_bastore W (z := (i2b (XT.ushr p3 (8 : Int32)))) 1 d_code_158 (List.mem_of_getElem? (i := 0) rfl) A576 (by decide) (Nat.le_of_ble_eq_true rfl) (nar_i2b _) (fits_i2b _) fun T h577 W Wr577 A577 => ?_
      have K577 : Keep h576 h577 [a575] := Keep.of_wr Wr577
      have A577 : Av Z h577 a575 .byte [(.int (i2b p3)), (.int (i2b (XT.ushr p3 (8 : Int32))))] := A577
      refine k_astore W d_code_159 rfl (L' := #[.val (.long q0), .second, .val (.long q1), .second, .val (.int p2), .val (.int p3), .val (.int p4), .val (.int z247), .val (.int e1), .val (.int (2 : Int32)), .val (.int e3), .val (.ref x248), .val (.ref x250), .val (.ref x252), .val (.ref x254), .val (.ref x256), .val (.int (i2b p3)), .val (.int (i2b (XT.ushr p3 (8 : Int32)))), .val (.ref a575), .unset, .unset, .unset, .unset, .unset]) rfl ?_
      refine k_new W 14 42 d_code_161 (w53 hw) (w54 hw) (w55 hw) ⟨rfl, Nat.le_of_ble_eq_true rfl⟩ ⟨rfl, Nat.le_of_ble_eq_true rfl⟩ fun T h578 a579 g579 W E579 X579 D579 => ?_
      have K579 : Keep h577 h578 [] := keep_ext E579 []
      refine k_dup W d_code_164 rfl ?_
      refine k_aload W d_code_165 rfl rfl ?_
      refine k_aload W d_code_167 rfl rfl ?_
      refine k_aload W d_code_169 rfl rfl ?_
      refine k_aload W d_code_171 rfl rfl ?_
      have ne580 : x252 ≠ a575 := (Nat.ne_of_lt (Nat.lt_of_lt_of_le (Nat.lt_of_lt_of_le S252.1.lt (Nat.le_trans K254.1 K256.1)) (Nat.le_of_eq g575.symm)))
      have ne581 : b252 ≠ a575 := (Nat.ne_of_lt (Nat.lt_of_lt_of_le (Nat.lt_of_lt_of_le S252.2.2.2.lt (Nat.le_trans K254.1 K256.1)) (Nat.le_of_eq g575.symm)))
      have f582 := ((((((S252.keep K254 nin0 nin0).keep K256 nin0 nin0).keep K575 nin0 nin0).keep K576 (ninS ne580 nin0) (ninS ne581 nin0)).keep K577 (ninS ne580 nin0) (ninS ne581 nin0)).keep K579 nin0 nin0)
      have ne583 : x254 ≠ a575 := (Nat.ne_of_lt (Nat.lt_of_lt_of_le (Nat.lt_of_lt_of_le S254.1.lt K256.1) (Nat.le_of_eq g575.symm)))
      have ne584 : b254 ≠ a575 := (Nat.ne_of_lt (Nat.lt_of_lt_of_le (Nat.lt_of_lt_of_le S254.2.2.2.lt K256.1) (Nat.le_of_eq g575.symm)))
      have f585 := (((((S254.keep K256 nin0 nin0).keep K575 nin0 nin0).keep K576 (ninS ne583 nin0) (ninS ne584 nin0)).keep K577 (ninS ne583 nin0) (ninS ne584 nin0)).keep K579 nin0 nin0)
      have ne586 : x256 ≠ a575 := (Nat.ne_of_lt (Nat.lt_of_lt_of_le S256.1.lt (Nat.le_of_eq g575.symm)))
      have ne587 : b256 ≠ a575 := (Nat.ne_of_lt (Nat.lt_of_lt_of_le S256.2.2.2.lt (Nat.le_of_eq g575.symm)))
      have f588 := ((((S256.keep K575 nin0 nin0).keep K576 (ninS ne586 nin0) (ninS ne587 nin0)).keep K577 (ninS ne586 nin0) (ninS ne587 nin0)).keep K579 nin0 nin0)
      have f589 := (A577.keep K579 nin0)
      have f590 := (((X575.keep K576).keep K577).keep K579)
      have f591 := (Sta.keep (Sta.keep (Sta.keep (Sta.keep (Sta.keep f257 K256 ns0) K575 ns0) K576 (nsS (Av.plain A575) ns0)) K577 (nsS (Av.plain A576) ns0)) K579 ns0)
      have f592 := (Sta.keep (Sta.keep (Sta.keep (Sta.keep (Sta.keep (Sta.keep (Sta.keep (Sta.keep (Sta.keep CI K248 ns0) K250 ns0) K252 ns0) K254 ns0) K256 ns0) K575 ns0) K576 (nsS (Av.plain A575) ns0)) K577 (nsS (Av.plain A576) ns0)) K579 ns0)
      have f593 := (((((((((CX.keep K248).keep K250).keep K252).keep K254).keep K256).keep K575).keep K576).keep K577).keep K579)
      have f594 := (Sta.keep (Sta.keep (Sta.keep (Sta.keep (Sta.keep (Sta.keep (Sta.keep (Sta.keep (Sta.keep CA K248 ns0) K250 ns0) K252 ns0) K254 ns0) K256 ns0) K575 ns0) K576 (nsS (Av.plain A575) ns0)) K577 (nsS (Av.plain A576) ns0)) K579 ns0)
      have ne595 : ca ≠ a575 := (Nat.ne_of_lt (Nat.lt_of_lt_of_le (Nat.lt_of_lt_of_le CV.lt (Nat.le_trans (Nat.le_trans (Nat.le_trans (Nat.le_trans K248.1 K250.1) K252.1) K254.1) K256.1)) (Nat.le_of_eq g575.symm)))
      have f596 := (((((((((CV.keep K248 nin0).keep K250 nin0).keep K252 nin0).keep K254 nin0).keep K256 nin0).keep K575 nin0).keep K576 (ninS ne595 nin0)).keep K577 (ninS ne595 nin0)).keep K579 nin0)
      refine k_callI0 W 1 23 161 (argsL := [(.ref x252), (.ref x254), (.ref x256), (.ref a575)]) (rest := [(.ref a579)]) (a := a579) d_code_173 rfl rfl (w56 hw) (w57 hw) (by decide) (lenOf pd25 rfl) (ct_oinit4 l Z a0 hw n0 h578 a579 cd ca x252 b252 x254 b254 x256 b256 a575 bs252 bs254 bs256 [(i2b p3), (i2b (XT.ushr p3 (8 : Int32)))] zc (Nat.le_of_ble_eq_true rfl) nb252 nb254 nb256 X579 (D579 (Or.inr (w64 hw)) (ty := (.object "java/lang/String")) (by decide)) (D579 (Or.inr (w120 hw)) (ty := (.object "java/lang/String")) (by decide)) (D579 (Or.inr (w123 hw)) (ty := (.object "java/lang/String")) (by decide)) (D579 (Or.inr (w126 hw)) (ty := (.object "java/lang/String")) (by decide)) (D579 (Or.inr (w138 hw)) (ty := (.array .byte)) (by decide)) f582 f585 f588 f589 f590 f591 hzc f592 f593 f594 f596) (w58 hw) (w55 hw) (fun x hx => by simp only [List.mem_cons, List.not_mem_nil, or_false] at hx; rcases hx with rfl; all_goals first | exact (List.mem_of_getElem? (i := 0) rfl)) rfl (Nat.le_of_eq rfl) (Nat.le_of_ble_eq_true rfl) (Nat.le_of_ble_eq_true rfl) ⟨rfl, Nat.le_of_ble_eq_true rfl⟩ ⟨rfl, Nat.le_of_ble_eq_true rfl⟩ rfl (fun _ _ _ q => nomatch q.1) fun T h597 so W hQ => ?_
      obtain ⟨-, K597, F0_597, F1_597, F2_597, F3_597, q597, gq597, FP_597, AQ597, XQ597⟩ := hQ
      have AQ597 : Av Z h597 q597 .byte [(.int (i2b p3)), (.int (i2b (XT.ushr p3 (8 : Int32))))] := AQ597
      refine k_astore W d_code_176 rfl (L' := #[.val (.long q0), .second, .val (.long q1), .second, .val (.int p2), .val (.int p3), .val (.int p4), .val (.int z247), .val (.int e1), .val (.int (2 : Int32)), .val (.int e3), .val (.ref x248), .val (.ref x250), .val (.ref x252), .val (.ref x254), .val (.ref x256), .val (.int (i2b p3)), .val (.int (i2b (XT.ushr p3 (8 : Int32)))), .val (.ref a575), .val (.ref a579), .unset, .unset, .unset, .unset]) rfl ?_
      refine k_aload W d_code_178 rfl rfl ?_
      refine k_aload W d_code_180 rfl rfl ?_
      have ne598 : x248 ≠ a575 := (Nat.ne_of_lt (Nat.lt_of_lt_of_le (Nat.lt_of_lt_of_le S248.1.lt (Nat.le_trans (Nat.le_trans (Nat.le_trans K250.1 K252.1) K254.1) K256.1)) (Nat.le_of_eq g575.symm)))
      have ne599 : b248 ≠ a575 := (Nat.ne_of_lt (Nat.lt_of_lt_of_le (Nat.lt_of_lt_of_le S248.2.2.2.lt (Nat.le_trans (Nat.le_trans (Nat.le_trans K250.1 K252.1) K254.1) K256.1)) (Nat.le_of_eq g575.symm)))
      have ne600 : x248 ≠ a579 := (Nat.ne_of_lt (Nat.lt_of_lt_of_le (Nat.lt_of_lt_of_le S248.1.lt (Nat.le_trans (Nat.le_trans (Nat.le_trans (Nat.le_trans (Nat.le_trans (Nat.le_trans K250.1 K252.1) K254.1) K256.1) E575.1) K576.1) K577.1)) (Nat.le_of_eq g579.symm)))
      have ne601 : b248 ≠ a579 := (Nat.ne_of_lt (Nat.lt_of_lt_of_le (Nat.lt_of_lt_of_le S248.2.2.2.lt (Nat.le_trans (Nat.le_trans (Nat.le_trans (Nat.le_trans (Nat.le_trans (Nat.le_trans K250.1 K252.1) K254.1) K256.1) E575.1) K576.1) K577.1)) (Nat.le_of_eq g579.symm)))
      have f602 := (((((((((S248.keep K250 nin0 nin0).keep K252 nin0 nin0).keep K254 nin0 nin0).keep K256 nin0 nin0).keep K575 nin0 nin0).keep K576 (ninS ne598 nin0) (ninS ne599 nin0)).keep K577 (ninS ne598 nin0) (ninS ne599 nin0)).keep K579 nin0 nin0).keep K597 (ninS ne600 nin0) (ninS ne601 nin0))
      have ne603 : x252 ≠ a579 := (Nat.ne_of_lt (Nat.lt_of_lt_of_le (Nat.lt_of_lt_of_le S252.1.lt (Nat.le_trans (Nat.le_trans (Nat.le_trans (Nat.le_trans K254.1 K256.1) E575.1) K576.1) K577.1)) (Nat.le_of_eq g579.symm)))
      have ne604 : b252 ≠ a579 := (Nat.ne_of_lt (Nat.lt_of_lt_of_le (Nat.lt_of_lt_of_le S252.2.2.2.lt (Nat.le_trans (Nat.le_trans (Nat.le_trans (Nat.le_trans K254.1 K256.1) E575.1) K576.1) K577.1)) (Nat.le_of_eq g579.symm)))
      have f605 := (f582.keep K597 (ninS ne603 nin0) (ninS ne604 nin0))
      have ne606 : x254 ≠ a579 := (Nat.ne_of_lt (Nat.lt_of_lt_of_le (Nat.lt_of_lt_of_le S254.1.lt (Nat.le_trans (Nat.le_trans (Nat.le_trans K256.1 E575.1) K576.1) K577.1)) (Nat.le_of_eq g579.symm)))
      have ne607 : b254 ≠ a579 := (Nat.ne_of_lt (Nat.lt_of_lt_of_le (Nat.lt_of_lt_of_le S254.2.2.2.lt (Nat.le_trans (Nat.le_trans (Nat.le_trans K256.1 E575.1) K576.1) K577.1)) (Nat.le_of_eq g579.symm)))
      have f608 := (f585.keep K597 (ninS ne606 nin0) (ninS ne607 nin0))
      have ne609 : x256 ≠ a579 := (Nat.ne_of_lt (Nat.lt_of_lt_of_le (Nat.lt_of_lt_of_le S256.1.lt (Nat.le_trans (Nat.le_trans E575.1 K576.1) K577.1)) (Nat.le_of_eq g579.symm)))
      have ne610 : b256 ≠ a579 := (Nat.ne_of_lt (Nat.lt_of_lt_of_le (Nat.lt_of_lt_of_le S256.2.2.2.lt (Nat.le_trans (Nat.le_trans E575.1 K576.1) K577.1)) (Nat.le_of_eq g579.symm)))
      have f611 := (f588.keep K597 (ninS ne609 nin0) (ninS ne610 nin0))
      have f612 := (Sta.keep f591 K597 (nsS (Exa.plain X579) ns0))
      have f613 := (Sta.keep f592 K597 (nsS (Exa.plain X579) ns0))
      have f614 := (f593.keep K597)
      have f615 := (Sta.keep f594 K597 (nsS (Exa.plain X579) ns0))
      have ne616 : ca ≠ a579 := (Nat.ne_of_lt (Nat.lt_of_lt_of_le (Nat.lt_of_lt_of_le CV.lt (Nat.le_trans (Nat.le_trans (Nat.le_trans (Nat.le_trans (Nat.le_trans (Nat.le_trans (Nat.le_trans K248.1 K250.1) K252.1) K254.1) K256.1) E575.1) K576.1) K577.1)) (Nat.le_of_eq g579.symm)))
      have f617 := (f596.keep K597 (ninS ne616 nin0))
      have f619 := (X579.keep K597)
      refine k_callV W 0 35 297 (argsL := [(.ref x248)]) (rest := []) (a := a579) (C := "com/example/kourier/kourier/outbox/OutboxEvent") (z0 := (⟨"com/example/kourier/kourier/outbox/OutboxEvent", "withId", "(Ljava/lang/String;)Lcom/example/kourier/kourier/outbox/OutboxEvent;"⟩ : MethodName)) (z := (⟨"com/example/kourier/kourier/outbox/OutboxEvent", "withId", "(Ljava/lang/String;)Lcom/example/kourier/kourier/outbox/OutboxEvent;"⟩ : MethodName)) d_code_182 (w139 hw) (w140 hw) (nfSel (w142 hw)) (w142 hw) (w141 hw) (by decide) (lenOf pd26 rfl) f619 (ct_with l Z a0 hw n0 h597 a579 x248 b248 bs248 .null rfl nb248 cd ca x252 b252 x254 b254 x256 b256 q597 bs252 bs254 bs256 [(i2b p3), (i2b (XT.ushr p3 (8 : Int32)))] zc (Nat.le_of_ble_eq_true rfl) nb252 nb254 nb256 f619 F0_597 F1_597 F2_597 F3_597 FP_597 f602 f605 f608 f611 AQ597 XQ597 f612 hzc f613 f614 f615 f617) (w143 hw) (w55 hw) (fun x hx => nomatch hx) rfl (Nat.le_of_eq rfl) (Nat.le_of_ble_eq_true rfl) (Nat.le_of_ble_eq_true rfl) ⟨rfl, Nat.le_of_ble_eq_true rfl⟩ ⟨rfl, Nat.le_of_ble_eq_true rfl⟩ rfl (fun _ _ ⟨_, q, _⟩ => nomatch q) fun T h618 v so W hQ => ?_
      obtain ⟨x618, hv, gx618, K618, X618, F0_618, F1_618, F2_618, F3_618, q618, gq618, FP_618, AQ618, XQ618⟩ := hQ
      obtain rfl := Option.some.inj hv
      have AQ618 : Av Z h618 q618 .byte [(.int (i2b p3)), (.int (i2b (XT.ushr p3 (8 : Int32))))] := AQ618
      refine k_astore W d_code_185 rfl (L' := #[.val (.long q0), .second, .val (.long q1), .second, .val (.int p2), .val (.int p3), .val (.int p4), .val (.int z247), .val (.int e1), .val (.int (2 : Int32)), .val (.int e3), .val (.ref x248), .val (.ref x250), .val (.ref x252), .val (.ref x254), .val (.ref x256), .val (.int (i2b p3)), .val (.int (i2b (XT.ushr p3 (8 : Int32)))), .val (.ref a575), .val (.ref a579), .val (.ref x618), .unset, .unset, .unset]) rfl ?_
      refine k_aload W d_code_187 rfl rfl ?_
      refine k_aload W d_code_189 rfl rfl ?_
      have f620 := (F0_597.keep K618 nin0)
      have f621 := (F1_597.keep K618 nin0)
      have f622 := (F2_597.keep K618 nin0)
      have f623 := (F3_597.keep K618 nin0)
      have f624 := (FP_597.keep K618 nin0)
      have ne625 : x250 ≠ a575 := (Nat.ne_of_lt (Nat.lt_of_lt_of_le (Nat.lt_of_lt_of_le S250.1.lt (Nat.le_trans (Nat.le_trans K252.1 K254.1) K256.1)) (Nat.le_of_eq g575.symm)))
      have ne626 : b250 ≠ a575 := (Nat.ne_of_lt (Nat.lt_of_lt_of_le (Nat.lt_of_lt_of_le S250.2.2.2.lt (Nat.le_trans (Nat.le_trans K252.1 K254.1) K256.1)) (Nat.le_of_eq g575.symm)))
      have ne627 : x250 ≠ a579 := (Nat.ne_of_lt (Nat.lt_of_lt_of_le (Nat.lt_of_lt_of_le S250.1.lt (Nat.le_trans (Nat.le_trans (Nat.le_trans (Nat.le_trans (Nat.le_trans K252.1 K254.1) K256.1) E575.1) K576.1) K577.1)) (Nat.le_of_eq g579.symm)))
      have ne628 : b250 ≠ a579 := (Nat.ne_of_lt (Nat.lt_of_lt_of_le (Nat.lt_of_lt_of_le S250.2.2.2.lt (Nat.le_trans (Nat.le_trans (Nat.le_trans (Nat.le_trans (Nat.le_trans K252.1 K254.1) K256.1) E575.1) K576.1) K577.1)) (Nat.le_of_eq g579.symm)))
      have f629 := (((((((((S250.keep K252 nin0 nin0).keep K254 nin0 nin0).keep K256 nin0 nin0).keep K575 nin0 nin0).keep K576 (ninS ne625 nin0) (ninS ne626 nin0)).keep K577 (ninS ne625 nin0) (ninS ne626 nin0)).keep K579 nin0 nin0).keep K597 (ninS ne627 nin0) (ninS ne628 nin0)).keep K618 nin0 nin0)
      have f630 := (f605.keep K618 nin0 nin0)
      have f631 := (f608.keep K618 nin0 nin0)
      have f632 := (f611.keep K618 nin0 nin0)
      have f633 := (AQ597.keep K618 nin0)
      have f634 := (XQ597.keep K618)
      have f635 := (Sta.keep f612 K618 ns0)
      have f636 := (Sta.keep f613 K618 ns0)
      have f637 := (f614.keep K618)
      have f638 := (Sta.keep f615 K618 ns0)
      have f639 := (f617.keep K618 nin0)
      have f641 := (f619.keep K618)
      refine k_callV W 0 47 433 (argsL := [(.ref x250)]) (rest := []) (a := a579) (C := "com/example/kourier/kourier/outbox/OutboxEvent") (z0 := (⟨"com/example/kourier/kourier/outbox/OutboxEvent", "withId", "(Ljava/lang/String;)Lcom/example/kourier/kourier/outbox/OutboxEvent;"⟩ : MethodName)) (z := (⟨"com/example/kourier/kourier/outbox/OutboxEvent", "withId", "(Ljava/lang/String;)Lcom/example/kourier/kourier/outbox/OutboxEvent;"⟩ : MethodName)) d_code_191 (w139 hw) (w140 hw) (nfSel (w142 hw)) (w142 hw) (w141 hw) (by decide) (lenOf pd26 rfl) f641 (ct_with l Z a0 hw n0 h618 a579 x250 b250 bs250 .null rfl nb250 cd ca x252 b252 x254 b254 x256 b256 q597 bs252 bs254 bs256 [(i2b p3), (i2b (XT.ushr p3 (8 : Int32)))] zc (Nat.le_of_ble_eq_true rfl) nb252 nb254 nb256 f641 f620 f621 f622 f623 f624 f629 f630 f631 f632 f633 f634 f635 hzc f636 f637 f638 f639) (w143 hw) (w55 hw) (fun x hx => nomatch hx) rfl (Nat.le_of_eq rfl) (Nat.le_of_ble_eq_true rfl) (Nat.le_of_ble_eq_true rfl) ⟨rfl, Nat.le_of_ble_eq_true rfl⟩ ⟨rfl, Nat.le_of_ble_eq_true rfl⟩ rfl (fun _ _ ⟨_, q, _⟩ => nomatch q) fun T h640 v so W hQ => ?_
      obtain ⟨x640, hv, gx640, K640, X640, F0_640, F1_640, F2_640, F3_640, q640, gq640, FP_640, AQ640, XQ640⟩ := hQ
      obtain rfl := Option.some.inj hv
      have AQ640 : Av Z h640 q640 .byte [(.int (i2b p3)), (.int (i2b (XT.ushr p3 (8 : Int32))))] := AQ640
      refine k_astore W d_code_194 rfl (L' := #[.val (.long q0), .second, .val (.long q1), .second, .val (.int p2), .val (.int p3), .val (.int p4), .val (.int z247), .val (.int e1), .val (.int (2 : Int32)), .val (.int e3), .val (.ref x248), .val (.ref x250), .val (.ref x252), .val (.ref x254), .val (.ref x256), .val (.int (i2b p3)), .val (.int (i2b (XT.ushr p3 (8 : Int32)))), .val (.ref a575), .val (.ref a579), .val (.ref x618), .val (.ref x640), .unset, .unset]) rfl ?_
      refine k_aload W d_code_196 rfl rfl ?_
      refine k_aload W d_code_198 rfl rfl ?_
      have f642 := (F0_618.keep K640 nin0)
      have f643 := (F1_618.keep K640 nin0)
      have f644 := (F2_618.keep K640 nin0)
      have f645 := (F3_618.keep K640 nin0)
      have f646 := (FP_618.keep K640 nin0)
      have f647 := (f629.keep K640 nin0 nin0)
      have f648 := (f630.keep K640 nin0 nin0)
      have f649 := (f631.keep K640 nin0 nin0)
      have f650 := (f632.keep K640 nin0 nin0)
      have f651 := (AQ618.keep K640 nin0)
      have f652 := (XQ618.keep K640)
      have f653 := (Sta.keep f635 K640 ns0)
      have f654 := (Sta.keep f636 K640 ns0)
      have f655 := (f637.keep K640)
      have f656 := (Sta.keep f638 K640 ns0)
      have f657 := (f639.keep K640 nin0)
      have f659 := (X618.keep K640)
      refine k_callV W 0 59 569 (argsL := [(.ref x250)]) (rest := []) (a := x618) (C := "com/example/kourier/kourier/outbox/OutboxEvent") (z0 := (⟨"com/example/kourier/kourier/outbox/OutboxEvent", "withId", "(Ljava/lang/String;)Lcom/example/kourier/kourier/outbox/OutboxEvent;"⟩ : MethodName)) (z := (⟨"com/example/kourier/kourier/outbox/OutboxEvent", "withId", "(Ljava/lang/String;)Lcom/example/kourier/kourier/outbox/OutboxEvent;"⟩ : MethodName)) d_code_200 (w139 hw) (w140 hw) (nfSel (w142 hw)) (w142 hw) (w141 hw) (by decide) (lenOf pd26 rfl) f659 (ct_with l Z a0 hw n0 h640 x618 x250 b250 bs250 (.ref x248) rfl nb250 cd ca x252 b252 x254 b254 x256 b256 q618 bs252 bs254 bs256 [(i2b p3), (i2b (XT.ushr p3 (8 : Int32)))] zc (Nat.le_of_ble_eq_true rfl) nb252 nb254 nb256 f659 f642 f643 f644 f645 f646 f647 f648 f649 f650 f651 f652 f653 hzc f654 f655 f656 f657) (w143 hw) (w55 hw) (fun x hx => nomatch hx) rfl (Nat.le_of_eq rfl) (Nat.le_of_ble_eq_true rfl) (Nat.le_of_ble_eq_true rfl) ⟨rfl, Nat.le_of_ble_eq_true rfl⟩ ⟨rfl, Nat.le_of_ble_eq_true rfl⟩ rfl (fun _ _ ⟨_, q, _⟩ => nomatch q) fun T h658 v so W hQ => ?_
      obtain ⟨x658, hv, gx658, K658, X658, F0_658, F1_658, F2_658, F3_658, q658, gq658, FP_658, AQ658, XQ658⟩ := hQ
      obtain rfl := Option.some.inj hv
      have AQ658 : Av Z h658 q658 .byte [(.int (i2b p3)), (.int (i2b (XT.ushr p3 (8 : Int32))))] := AQ658
      refine k_astore W d_code_203 rfl (L' := #[.val (.long q0), .second, .val (.long q1), .second, .val (.int p2), .val (.int p3), .val (.int p4), .val (.int z247), .val (.int e1), .val (.int (2 : Int32)), .val (.int e3), .val (.ref x248), .val (.ref x250), .val (.ref x252), .val (.ref x254), .val (.ref x256), .val (.int (i2b p3)), .val (.int (i2b (XT.ushr p3 (8 : Int32)))), .val (.ref a575), .val (.ref a579), .val (.ref x618), .val (.ref x640), .val (.ref x658), .unset]) rfl ?_
      refine k_aload W d_code_205 rfl rfl ?_
      refine k_aload W d_code_207 rfl rfl ?_
      have f660 := (f642.keep K658 nin0)
      have f661 := (f643.keep K658 nin0)
      have f662 := (f644.keep K658 nin0)
      have f663 := (f645.keep K658 nin0)
      have f664 := (f646.keep K658 nin0)
      have f665 := ((f620.keep K640 nin0).keep K658 nin0)
      have f666 := ((f621.keep K640 nin0).keep K658 nin0)
      have f667 := ((f622.keep K640 nin0).keep K658 nin0)
      have f668 := ((f623.keep K640 nin0).keep K658 nin0)
      have f669 := ((f624.keep K640 nin0).keep K658 nin0)
      have f670 := (((f602.keep K618 nin0 nin0).keep K640 nin0 nin0).keep K658 nin0 nin0)
      have f671 := (f651.keep K658 nin0)
      have f672 := ((f633.keep K640 nin0).keep K658 nin0)
      have ne673 : x618 ≠ a579 := (Ne.symm (Nat.ne_of_lt (Nat.lt_of_lt_of_le F0_597.lt gx618)))
      have ne674 : q618 ≠ q597 := (Ne.symm (Nat.ne_of_lt (Nat.lt_of_lt_of_le AQ597.lt gq618)))
      have f675 := (f659.keep K658)
      have f676 := ((f641.keep K640).keep K658)
      have f677 := (f648.keep K658 nin0 nin0)
      have f678 := (f649.keep K658 nin0 nin0)
      have f679 := (f650.keep K658 nin0 nin0)
      have f680 := (Sta.keep f653 K658 ns0)
      refine k_callV W 0 59 569 (argsL := [(.ref a579)]) (rest := []) (a := x618) (C := "com/example/kourier/kourier/outbox/OutboxEvent") (z0 := (⟨"com/example/kourier/kourier/outbox/OutboxEvent", "equals", "(Ljava/lang/Object;)Z"⟩ : MethodName)) (z := (⟨"com/example/kourier/kourier/outbox/OutboxEvent", "equals", "(Ljava/lang/Object;)Z"⟩ : MethodName)) d_code_209 (w146 hw) (w147 hw) (nfSel (w149 hw)) (w149 hw) (w148 hw) (by decide) (lenOf pd18 rfl) f675 (ct_oeqZ l Z a0 hw n0 h658 mr x618 a579 x252 x254 x256 q618 q597 x248 b248 0 0 bs248 [] [(i2b p3), (i2b (XT.ushr p3 (8 : Int32)))] zc (Nat.le_of_ble_eq_true rfl) ne673 ne674 M0 f675 f660 f661 f662 f663 f664 f676 f665 f666 f667 f668 f669 f670 f677.1 f678.1 f679.1 f671 f672 f680 hzc) (w150 hw) (w55 hw) (fun x hx => nomatch hx) rfl (Nat.le_of_eq rfl) (Nat.le_of_ble_eq_true rfl) (Nat.le_of_ble_eq_true rfl) ⟨rfl, Nat.le_of_ble_eq_true rfl⟩ ⟨rfl, Nat.le_of_ble_eq_true rfl⟩ rfl (fun _ _ q => nomatch q.1) fun T h681 v so W hQ => ?_
      obtain ⟨hv, rfl, -⟩ := hQ
      obtain rfl := Option.some.inj hv
      refine k_ifY W 217 d_code_212 (by decide) (show (0 : Int32) = 0 by decide) ?_
      refine k_aload W d_code_217 rfl rfl ?_
      refine k_aload W d_code_219 rfl rfl ?_
      refine k_callV W 1 59 569 (argsL := []) (rest := [(.ref x252)]) (a := x618) (C := "com/example/kourier/kourier/outbox/OutboxEvent") (z0 := (⟨"com/example/kourier/kourier/outbox/OutboxEvent", "destination", "()Ljava/lang/String;"⟩ : MethodName)) (z := (⟨"com/example/kourier/kourier/outbox/OutboxEvent", "destination", "()Ljava/lang/String;"⟩ : MethodName)) d_code_221 (w166 hw) (w167 hw) (nfSel (w169 hw)) (w169 hw) (w168 hw) (by decide) (lenOf pd27 rfl) f675 (ct_destination l Z a0 hw n0 h658 x618 x252 f661) (w170 hw) (w55 hw) (fun x hx => nomatch hx) rfl (Nat.le_of_eq rfl) (Nat.le_of_ble_eq_true rfl) (Nat.le_of_ble_eq_true rfl) ⟨rfl, Nat.le_of_ble_eq_true rfl⟩ ⟨rfl, Nat.le_of_ble_eq_true rfl⟩ rfl (fun _ _ q => nomatch q.1) fun T h682 v so W hQ => ?_
      obtain ⟨hv, rfl, -⟩ := hQ
      obtain rfl := Option.some.inj hv
      refine k_callV W 0 59 569 (argsL := [(.ref x252)]) (rest := []) (a := x252) (C := "java/lang/String") (z0 := (⟨"java/lang/String", "equals", "(Ljava/lang/Object;)Z"⟩ : MethodName)) (z := (⟨"java/lang/String", "equals", "(Ljava/lang/Object;)Z"⟩ : MethodName)) d_code_224 (w171 hw) (w172 hw) (nfSel (w173 hw)) (w173 hw) (w164 hw) (by decide) (lenOf pd18 rfl) f677.1 (ct_seqI l Z a0 hw n0 h658 x252) (w165 hw) (w8 hw) (fun x hx => nomatch hx) rfl (Nat.le_of_eq rfl) (Nat.le_of_ble_eq_true rfl) (Nat.le_of_ble_eq_true rfl) ⟨rfl, Nat.le_of_ble_eq_true rfl⟩ ⟨rfl, Nat.le_of_ble_eq_true rfl⟩ rfl (fun _ _ q => nomatch q.1) fun T h683 v so W hQ => ?_
      obtain ⟨hv, rfl, -⟩ := hQ
      obtain rfl := Option.some.inj hv
      refine k_ifY W 232 d_code_227 (by decide) (show ¬ (1 : Int32) = 0 by decide) ?_
      refine k_aload W d_code_232 rfl rfl ?_
      refine k_aload W d_code_234 rfl rfl ?_
      refine k_callV W 1 59 569 (argsL := []) (rest := [(.ref x254)]) (a := x618) (C := "com/example/kourier/kourier/outbox/OutboxEvent") (z0 := (⟨"com/example/kourier/kourier/outbox/OutboxEvent", "key", "()Ljava/lang/String;"⟩ : MethodName)) (z := (⟨"com/example/kourier/kourier/outbox/OutboxEvent", "key", "()Ljava/lang/String;"⟩ : MethodName)) d_code_236 (w174 hw) (w175 hw) (nfSel (w177 hw)) (w177 hw) (w176 hw) (by decide) (lenOf pd27 rfl) f675 (ct_key l Z a0 hw n0 h658 x618 x254 f662) (w178 hw) (w55 hw) (fun x hx => nomatch hx) rfl (Nat.le_of_eq rfl) (Nat.le_of_ble_eq_true rfl) (Nat.le_of_ble_eq_true rfl) ⟨rfl, Nat.le_of_ble_eq_true rfl⟩ ⟨rfl, Nat.le_of_ble_eq_true rfl⟩ rfl (fun _ _ q => nomatch q.1) fun T h684 v so W hQ => ?_
      obtain ⟨hv, rfl, -⟩ := hQ
      obtain rfl := Option.some.inj hv
      refine k_callV W 0 59 569 (argsL := [(.ref x254)]) (rest := []) (a := x254) (C := "java/lang/String") (z0 := (⟨"java/lang/String", "equals", "(Ljava/lang/Object;)Z"⟩ : MethodName)) (z := (⟨"java/lang/String", "equals", "(Ljava/lang/Object;)Z"⟩ : MethodName)) d_code_239 (w171 hw) (w172 hw) (nfSel (w173 hw)) (w173 hw) (w164 hw) (by decide) (lenOf pd18 rfl) f678.1 (ct_seqI l Z a0 hw n0 h658 x254) (w165 hw) (w8 hw) (fun x hx => nomatch hx) rfl (Nat.le_of_eq rfl) (Nat.le_of_ble_eq_true rfl) (Nat.le_of_ble_eq_true rfl) ⟨rfl, Nat.le_of_ble_eq_true rfl⟩ ⟨rfl, Nat.le_of_ble_eq_true rfl⟩ rfl (fun _ _ q => nomatch q.1) fun T h685 v so W hQ => ?_
      obtain ⟨hv, rfl, -⟩ := hQ
      obtain rfl := Option.some.inj hv
      refine k_ifY W 247 d_code_242 (by decide) (show ¬ (1 : Int32) = 0 by decide) ?_
      refine k_aload W d_code_247 rfl rfl ?_
      refine k_aload W d_code_249 rfl rfl ?_
      refine k_callV W 1 59 569 (argsL := []) (rest := [(.ref x256)]) (a := x618) (C := "com/example/kourier/kourier/outbox/OutboxEvent") (z0 := (⟨"com/example/kourier/kourier/outbox/OutboxEvent", "type", "()Ljava/lang/String;"⟩ : MethodName)) (z := (⟨"com/example/kourier/kourier/outbox/OutboxEvent", "type", "()Ljava/lang/String;"⟩ : MethodName)) d_code_251 (w179 hw) (w180 hw) (nfSel (w182 hw)) (w182 hw) (w181 hw) (by decide) (lenOf pd27 rfl) f675 (ct_type l Z a0 hw n0 h658 x618 x256 f663) (w183 hw) (w55 hw) (fun x hx => nomatch hx) rfl (Nat.le_of_eq rfl) (Nat.le_of_ble_eq_true rfl) (Nat.le_of_ble_eq_true rfl) ⟨rfl, Nat.le_of_ble_eq_true rfl⟩ ⟨rfl, Nat.le_of_ble_eq_true rfl⟩ rfl (fun _ _ q => nomatch q.1) fun T h686 v so W hQ => ?_
      obtain ⟨hv, rfl, -⟩ := hQ
      obtain rfl := Option.some.inj hv
      refine k_callV W 0 59 569 (argsL := [(.ref x256)]) (rest := []) (a := x256) (C := "java/lang/String") (z0 := (⟨"java/lang/String", "equals", "(Ljava/lang/Object;)Z"⟩ : MethodName)) (z := (⟨"java/lang/String", "equals", "(Ljava/lang/Object;)Z"⟩ : MethodName)) d_code_254 (w171 hw) (w172 hw) (nfSel (w173 hw)) (w173 hw) (w164 hw) (by decide) (lenOf pd18 rfl) f679.1 (ct_seqI l Z a0 hw n0 h658 x256) (w165 hw) (w8 hw) (fun x hx => nomatch hx) rfl (Nat.le_of_eq rfl) (Nat.le_of_ble_eq_true rfl) (Nat.le_of_ble_eq_true rfl) ⟨rfl, Nat.le_of_ble_eq_true rfl⟩ ⟨rfl, Nat.le_of_ble_eq_true rfl⟩ rfl (fun _ _ q => nomatch q.1) fun T h687 v so W hQ => ?_
      obtain ⟨hv, rfl, -⟩ := hQ
      obtain rfl := Option.some.inj hv
      refine k_ifY W 262 d_code_257 (by decide) (show ¬ (1 : Int32) = 0 by decide) ?_
      refine k_aload W d_code_262 rfl rfl ?_
      have f689 := (f652.keep K658)
      refine k_callV W 0 60 572 (argsL := []) (rest := []) (a := x618) (C := "com/example/kourier/kourier/outbox/OutboxEvent") (z0 := (⟨"com/example/kourier/kourier/outbox/OutboxEvent", "payload", "()[B"⟩ : MethodName)) (z := (⟨"com/example/kourier/kourier/outbox/OutboxEvent", "payload", "()[B"⟩ : MethodName)) d_code_264 (w184 hw) (w185 hw) (nfSel (w187 hw)) (w187 hw) (w186 hw) (by decide) (lenOf pd28 rfl) f675 (ct_payload l Z a0 hw n0 h658 x618 q618 [(i2b p3), (i2b (XT.ushr p3 (8 : Int32)))] (Nat.le_of_ble_eq_true rfl) f664 f671 f689) (w188 hw) (w55 hw) (fun x hx => nomatch hx) rfl (Nat.le_of_eq rfl) (Nat.le_of_ble_eq_true rfl) (Nat.le_of_ble_eq_true rfl) ⟨rfl, Nat.le_of_ble_eq_true rfl⟩ ⟨rfl, Nat.le_of_ble_eq_true rfl⟩ rfl (fun _ _ ⟨_, q, _⟩ => nomatch q) fun T h688 v so W hQ => ?_
      obtain ⟨x688, hv, gx688, K688, A688⟩ := hQ
      obtain rfl := Option.some.inj hv
      have A688 : Av Z h688 x688 .byte [(.int (i2b p3)), (.int (i2b (XT.ushr p3 (8 : Int32))))] := A688
      refine k_astore W d_code_267 rfl (L' := #[.val (.long q0), .second, .val (.long q1), .second, .val (.int p2), .val (.int p3), .val (.int p4), .val (.int z247), .val (.int e1), .val (.int (2 : Int32)), .val (.int e3), .val (.ref x248), .val (.ref x250), .val (.ref x252), .val (.ref x254), .val (.ref x256), .val (.int (i2b p3)), .val (.int (i2b (XT.ushr p3 (8 : Int32)))), .val (.ref a575), .val (.ref a579), .val (.ref x618), .val (.ref x640), .val (.ref x658), .val (.ref x688)]) rfl ?_
      refine k_aload W d_code_269 rfl rfl ?_
      refine k_arraylength W (z := (2 : Int32)) d_code_271 A688 rfl ?_
      refine k_iload W d_code_272 rfl ?_
      refine k_icY W 279 d_code_274 (by decide) (show (2 : Int32) = (2 : Int32) by decide) ?_
      refine k_iload W d_code_279 rfl ?_
      refine k_iconst W d_code_281 (z := (1 : Int32)) rfl ?_
      refine k_icN W d_code_282 (show ¬ ((2 : Int32) < (1 : Int32)) by decide) ?_
      refine k_aload W d_code_285 rfl rfl ?_
      refine k_iconst W d_code_287 (z := (0 : Int32)) rfl ?_
      refine k_baload W (v := (.int (i2b p3))) 0 d_code_288 A688 (by decide) rfl ?_
      refine k_iload W d_code_289 rfl ?_
      refine k_icY W 296 d_code_291 (by decide) (show (i2b p3) = (i2b p3) from rfl) ?_
      refine k_iload W d_code_296 rfl ?_
      refine k_iconst W d_code_298 (z := (2 : Int32)) rfl ?_
      refine k_icN W d_code_299 (show ¬ (¬ (2 : Int32) = (2 : Int32)) by decide) ?_
      refine k_aload W d_code_302 rfl rfl ?_
      refine k_iconst W d_code_304 (z := (1 : Int32)) rfl ?_
      refine k_baload W (v := (.int (i2b (XT.ushr p3 (8 : Int32))))) 1 d_code_305 A688 (by decide) rfl ?_
      refine k_iload W d_code_306 rfl ?_
      refine k_icY W 313 d_code_308 (by decide) (show (i2b (XT.ushr p3 (8 : Int32))) = (i2b (XT.ushr p3 (8 : Int32))) from rfl) ?_
      refine k_aload W d_code_313 rfl rfl ?_
      refine k_aload W d_code_315 rfl rfl ?_
      have f690 := (f660.keep K688 nin0)
      have f691 := (f661.keep K688 nin0)
      have f692 := (f662.keep K688 nin0)
      have f693 := (f663.keep K688 nin0)
      have f694 := (f664.keep K688 nin0)
      have f695 := ((F0_640.keep K658 nin0).keep K688 nin0)
      have f696 := ((F1_640.keep K658 nin0).keep K688 nin0)
      have f697 := ((F2_640.keep K658 nin0).keep K688 nin0)
      have f698 := ((F3_640.keep K658 nin0).keep K688 nin0)
      have f699 := ((FP_640.keep K658 nin0).keep K688 nin0)
      have f700 := (f670.keep K688 nin0 nin0)
      have f701 := ((f647.keep K658 nin0 nin0).keep K688 nin0 nin0)
      have f702 := (f671.keep K688 nin0)
      have f703 := ((AQ640.keep K658 nin0).keep K688 nin0)
      have ne704 : x618 ≠ x640 := (Nat.ne_of_lt (Nat.lt_of_lt_of_le X618.lt gx640))
      have ne705 : q618 ≠ q640 := (Nat.ne_of_lt (Nat.lt_of_lt_of_le AQ618.lt gq640))
      have ne706 : x248 ≠ x250 := (Nat.ne_of_lt (Nat.lt_of_lt_of_le S248.1.lt g250))
      have f707 := (f675.keep K688)
      have f708 := ((X640.keep K658).keep K688)
      have f709 := (f677.keep K688 nin0 nin0)
      have f710 := (f678.keep K688 nin0 nin0)
      have f711 := (f679.keep K688 nin0 nin0)
      have f712 := (Sta.keep f680 K688 ns0)
      refine k_callV W 0 60 572 (argsL := [(.ref x640)]) (rest := []) (a := x618) (C := "com/example/kourier/kourier/outbox/OutboxEvent") (z0 := (⟨"com/example/kourier/kourier/outbox/OutboxEvent", "equals", "(Ljava/lang/Object;)Z"⟩ : MethodName)) (z := (⟨"com/example/kourier/kourier/outbox/OutboxEvent", "equals", "(Ljava/lang/Object;)Z"⟩ : MethodName)) d_code_317 (w146 hw) (w147 hw) (nfSel (w149 hw)) (w149 hw) (w148 hw) (by decide) (lenOf pd18 rfl) f707 (ct_oeqD l Z a0 hw n0 h688 mr x618 x640 x252 x254 x256 q618 q640 x248 b248 x250 b250 bs248 bs250 [(i2b p3), (i2b (XT.ushr p3 (8 : Int32)))] zc (Nat.le_of_ble_eq_true rfl) ne704 ne705 ne706 M0 f707 f690 f691 f692 f693 f694 f708 f695 f696 f697 f698 f699 f700 f701 f709.1 f710.1 f711.1 f702 f703 f712 hzc) (w150 hw) (w55 hw) (fun x hx => nomatch hx) rfl (Nat.le_of_eq rfl) (Nat.le_of_ble_eq_true rfl) (Nat.le_of_ble_eq_true rfl) ⟨rfl, Nat.le_of_ble_eq_true rfl⟩ ⟨rfl, Nat.le_of_ble_eq_true rfl⟩ rfl (fun _ _ q => by rcases q.1 with ⟨_, u⟩ | ⟨_, u⟩ <;> cases u) fun T h714 v so W hQ => ?_
      obtain ⟨hQ, rfl⟩ := hQ
      rcases hQ with ⟨heq713, hv⟩ | ⟨heq713, hv⟩
      · --
        obtain rfl := Option.some.inj hv
        refine k_aload W d_code_320 rfl rfl ?_
        refine k_aload W d_code_322 rfl rfl ?_
        refine k_callV W 1 60 572 (argsL := [(.ref x250)]) (rest := [(.int (1 : Int32))]) (a := x248) (C := "java/lang/String") (z0 := (⟨"java/lang/String", "equals", "(Ljava/lang/Object;)Z"⟩ : MethodName)) (z := (⟨"java/lang/String", "equals", "(Ljava/lang/Object;)Z"⟩ : MethodName)) d_code_324 (w171 hw) (w172 hw) (nfSel (w173 hw)) (w173 hw) (w164 hw) (by decide) (lenOf pd18 rfl) f700.1 (ct_seq l Z a0 hw n0 h688 x248 b248 x250 b250 bs248 bs250 zc ne706 f700 f701 f712 hzc) (w165 hw) (w8 hw) (fun x hx => nomatch hx) rfl (Nat.le_of_eq rfl) (Nat.le_of_ble_eq_true rfl) (Nat.le_of_ble_eq_true rfl) ⟨rfl, Nat.le_of_ble_eq_true rfl⟩ ⟨rfl, Nat.le_of_ble_eq_true rfl⟩ rfl (fun _ _ q => by rcases q.1 with ⟨_, u⟩ | ⟨_, u⟩ <;> cases u) fun T h716 v so W hQ => ?_
        obtain ⟨hQ, rfl⟩ := hQ
        rcases hQ with ⟨heq715, hv⟩ | ⟨heq715, hv⟩
        · --
          obtain rfl := Option.some.inj hv
          refine k_icY W 332 d_code_327 (by decide) (show (1 : Int32) = (1 : Int32) by decide) ?_
          refine k_aload W d_code_332 rfl rfl ?_
          refine k_aload W d_code_334 rfl rfl ?_
          have f717 := (F0_658.keep K688 nin0)
          have f718 := (F1_658.keep K688 nin0)
          have f719 := (F2_658.keep K688 nin0)
          have f720 := (F3_658.keep K688 nin0)
          have f721 := (FP_658.keep K688 nin0)
          have f722 := (AQ658.keep K688 nin0)
          have ne723 : x658 ≠ x640 := (Ne.symm (Nat.ne_of_lt (Nat.lt_of_lt_of_le X640.lt gx658)))
          have ne724 : q658 ≠ q640 := (Ne.symm (Nat.ne_of_lt (Nat.lt_of_lt_of_le AQ640.lt gq658)))
          have f725 := (X658.keep K688)
          refine k_callV W 0 60 572 (argsL := [(.ref x640)]) (rest := []) (a := x658) (C := "com/example/kourier/kourier/outbox/OutboxEvent") (z0 := (⟨"com/example/kourier/kourier/outbox/OutboxEvent", "equals", "(Ljava/lang/Object;)Z"⟩ : MethodName)) (z := (⟨"com/example/kourier/kourier/outbox/OutboxEvent", "equals", "(Ljava/lang/Object;)Z"⟩ : MethodName)) d_code_336 (w146 hw) (w147 hw) (nfSel (w149 hw)) (w149 hw) (w148 hw) (by decide) (lenOf pd18 rfl) f725 (ct_oeqI l Z a0 hw n0 h688 mr x658 x640 x252 x254 x256 q658 q640 x250 b250 0 0 bs250 [] [(i2b p3), (i2b (XT.ushr p3 (8 : Int32)))] zc (Nat.le_of_ble_eq_true rfl) ne723 ne724 M0 f725 f717 f718 f719 f720 f721 f708 f695 f696 f697 f698 f699 f701 f709.1 f710.1 f711.1 f722 f703 f712 hzc) (w150 hw) (w55 hw) (fun x hx => nomatch hx) rfl (Nat.le_of_eq rfl) (Nat.le_of_ble_eq_true rfl) (Nat.le_of_ble_eq_true rfl) ⟨rfl, Nat.le_of_ble_eq_true rfl⟩ ⟨rfl, Nat.le_of_ble_eq_true rfl⟩ rfl (fun _ _ q => nomatch q.1) fun T h726 v so W hQ => ?_
          obtain ⟨hv, rfl, -⟩ := hQ
          obtain rfl := Option.some.inj hv
          exact k_retN W (t := .boolean) (z' := (1 : Int32)) d_code_339 rfl (by simp) (by decide) [] (fun x hx => nomatch hx) (Nat.le_of_ble_eq_true rfl) (Nat.le_of_ble_eq_true rfl) rfl
        · --
          obtain rfl := Option.some.inj hv
          exact absurd heq713 heq715
      · --
        obtain rfl := Option.some.inj hv
        refine k_aload W d_code_320 rfl rfl ?_
        refine k_aload W d_code_322 rfl rfl ?_
        refine k_callV W 1 60 572 (argsL := [(.ref x250)]) (rest := [(.int (0 : Int32))]) (a := x248) (C := "java/lang/String") (z0 := (⟨"java/lang/String", "equals", "(Ljava/lang/Object;)Z"⟩ : MethodName)) (z := (⟨"java/lang/String", "equals", "(Ljava/lang/Object;)Z"⟩ : MethodName)) d_code_324 (w171 hw) (w172 hw) (nfSel (w173 hw)) (w173 hw) (w164 hw) (by decide) (lenOf pd18 rfl) f700.1 (ct_seq l Z a0 hw n0 h688 x248 b248 x250 b250 bs248 bs250 zc ne706 f700 f701 f712 hzc) (w165 hw) (w8 hw) (fun x hx => nomatch hx) rfl (Nat.le_of_eq rfl) (Nat.le_of_ble_eq_true rfl) (Nat.le_of_ble_eq_true rfl) ⟨rfl, Nat.le_of_ble_eq_true rfl⟩ ⟨rfl, Nat.le_of_ble_eq_true rfl⟩ rfl (fun _ _ q => by rcases q.1 with ⟨_, u⟩ | ⟨_, u⟩ <;> cases u) fun T h728 v so W hQ => ?_
        obtain ⟨hQ, rfl⟩ := hQ
        rcases hQ with ⟨heq727, hv⟩ | ⟨heq727, hv⟩
        · --
          obtain rfl := Option.some.inj hv
          exact absurd heq727 heq713
        · --
          obtain rfl := Option.some.inj hv
          refine k_icY W 332 d_code_327 (by decide) (show (0 : Int32) = (0 : Int32) by decide) ?_
          refine k_aload W d_code_332 rfl rfl ?_
          refine k_aload W d_code_334 rfl rfl ?_
          have f729 := (F0_658.keep K688 nin0)
          have f730 := (F1_658.keep K688 nin0)
          have f731 := (F2_658.keep K688 nin0)
          have f732 := (F3_658.keep K688 nin0)
          have f733 := (FP_658.keep K688 nin0)
          have f734 := (AQ658.keep K688 nin0)
          have ne735 : x658 ≠ x640 := (Ne.symm (Nat.ne_of_lt (Nat.lt_of_lt_of_le X640.lt gx658)))
          have ne736 : q658 ≠ q640 := (Ne.symm (Nat.ne_of_lt (Nat.lt_of_lt_of_le AQ640.lt gq658)))
          have f737 := (X658.keep K688)
          refine k_callV W 0 60 572 (argsL := [(.ref x640)]) (rest := []) (a := x658) (C := "com/example/kourier/kourier/outbox/OutboxEvent") (z0 := (⟨"com/example/kourier/kourier/outbox/OutboxEvent", "equals", "(Ljava/lang/Object;)Z"⟩ : MethodName)) (z := (⟨"com/example/kourier/kourier/outbox/OutboxEvent", "equals", "(Ljava/lang/Object;)Z"⟩ : MethodName)) d_code_336 (w146 hw) (w147 hw) (nfSel (w149 hw)) (w149 hw) (w148 hw) (by decide) (lenOf pd18 rfl) f737 (ct_oeqI l Z a0 hw n0 h688 mr x658 x640 x252 x254 x256 q658 q640 x250 b250 0 0 bs250 [] [(i2b p3), (i2b (XT.ushr p3 (8 : Int32)))] zc (Nat.le_of_ble_eq_true rfl) ne735 ne736 M0 f737 f729 f730 f731 f732 f733 f708 f695 f696 f697 f698 f699 f701 f709.1 f710.1 f711.1 f734 f703 f712 hzc) (w150 hw) (w55 hw) (fun x hx => nomatch hx) rfl (Nat.le_of_eq rfl) (Nat.le_of_ble_eq_true rfl) (Nat.le_of_ble_eq_true rfl) ⟨rfl, Nat.le_of_ble_eq_true rfl⟩ ⟨rfl, Nat.le_of_ble_eq_true rfl⟩ rfl (fun _ _ q => nomatch q.1) fun T h738 v so W hQ => ?_
          obtain ⟨hv, rfl, -⟩ := hQ
          obtain rfl := Option.some.inj hv
          exact k_retN W (t := .boolean) (z' := (1 : Int32)) d_code_339 rfl (by simp) (by decide) [] (fun x hx => nomatch hx) (Nat.le_of_ble_eq_true rfl) (Nat.le_of_ble_eq_true rfl) rfl
  · -- pc 57
    refine k_lloadN W d_code_57 rfl ?_
    refine k_iload W d_code_58 rfl ?_
    have f740 := (Sta.keep P0 K248 ns0)
    refine k_callS W 0 6 20 (argsL := [(.long q0), (.int e1)]) (rest := []) d_code_60 (w0 hw) (w1 hw) (by decide) (lenOf pd23 rfl) (ct_mk l Z a0 hw n0 h248 q0 e1 zc f740 hzc) (w3 hw) (w2 hw) (fun x hx => hx) rfl (Nat.le_of_eq rfl) (Nat.le_of_ble_eq_true rfl) (Nat.le_of_ble_eq_true rfl) ⟨rfl, Nat.le_of_ble_eq_true rfl⟩ ⟨rfl, Nat.le_of_ble_eq_true rfl⟩ rfl (fun _ _ ⟨_, _, _, q, _⟩ => nomatch q) fun T h739 v so W hQ => ?_
    obtain ⟨x739, b739, bs739, hv, g739, K739, S739, nb739⟩ := hQ
    obtain rfl := Option.some.inj hv
    refine k_goto W 72 d_code_63 (by decide) ?_
    refine k_astore W d_code_72 rfl (L' := #[.val (.long q0), .second, .val (.long q1), .second, .val (.int p2), .val (.int p3), .val (.int p4), .val (.int z247), .val (.int e1), .val (.int e2), .val (.int e3), .val (.ref x248), .val (.ref x739), .unset, .unset, .unset, .unset, .unset, .unset, .unset, .unset, .unset, .unset, .unset]) rfl ?_
    refine k_iload W d_code_74 rfl ?_
    have f742 := (Sta.keep f740 K739 ns0)
    refine k_callS W 0 8 25 (argsL := [(.int p2)]) (rest := []) d_code_76 (w36 hw) (w37 hw) (by decide) (lenOf pd24 rfl) (ct_text l Z a0 hw n0 h739 p2 zc f742 hzc) (w38 hw) (w2 hw) (fun x hx => hx) rfl (Nat.le_of_eq rfl) (Nat.le_of_ble_eq_true rfl) (Nat.le_of_ble_eq_true rfl) ⟨rfl, Nat.le_of_ble_eq_true rfl⟩ ⟨rfl, Nat.le_of_ble_eq_true rfl⟩ rfl (fun _ _ ⟨_, _, _, q, _⟩ => nomatch q) fun T h741 v so W hQ => ?_
    obtain ⟨x741, b741, bs741, hv, g741, K741, S741, nb741⟩ := hQ
    obtain rfl := Option.some.inj hv
    refine k_astore W d_code_79 rfl (L' := #[.val (.long q0), .second, .val (.long q1), .second, .val (.int p2), .val (.int p3), .val (.int p4), .val (.int z247), .val (.int e1), .val (.int e2), .val (.int e3), .val (.ref x248), .val (.ref x739), .val (.ref x741), .unset, .unset, .unset, .unset, .unset, .unset, .unset, .unset, .unset, .unset]) rfl ?_
    refine k_iload W d_code_81 rfl ?_
    refine k_bipush W d_code_83 (z := (8 : Int32)) rfl ?_
    refine k_iushr W d_code_85 (z := (XT.ushr p2 (8 : Int32))) rfl ?_
    have f744 := (Sta.keep f742 K741 ns0)
    refine k_callS W 0 10 30 (argsL := [(.int (XT.ushr p2 (8 : Int32)))]) (rest := []) d_code_86 (w36 hw) (w37 hw) (by decide) (lenOf pd24 rfl) (ct_text l Z a0 hw n0 h741 (XT.ushr p2 (8 : Int32)) zc f744 hzc) (w38 hw) (w2 hw) (fun x hx => hx) rfl (Nat.le_of_eq rfl) (Nat.le_of_ble_eq_true rfl) (Nat.le_of_ble_eq_true rfl) ⟨rfl, Nat.le_of_ble_eq_true rfl⟩ ⟨rfl, Nat.le_of_ble_eq_true rfl⟩ rfl (fun _ _ ⟨_, _, _, q, _⟩ => nomatch q) fun T h743 v so W hQ => ?_
    obtain ⟨x743, b743, bs743, hv, g743, K743, S743, nb743⟩ := hQ
    obtain rfl := Option.some.inj hv
    refine k_astore W d_code_89 rfl (L' := #[.val (.long q0), .second, .val (.long q1), .second, .val (.int p2), .val (.int p3), .val (.int p4), .val (.int z247), .val (.int e1), .val (.int e2), .val (.int e3), .val (.ref x248), .val (.ref x739), .val (.ref x741), .val (.ref x743), .unset, .unset, .unset, .unset, .unset, .unset, .unset, .unset, .unset]) rfl ?_
    refine k_iload W d_code_91 rfl ?_
    refine k_bipush W d_code_93 (z := (16 : Int32)) rfl ?_
    refine k_iushr W d_code_95 (z := (XT.ushr p2 (16 : Int32))) rfl ?_
    have f746 := (Sta.keep f744 K743 ns0)
    refine k_callS W 0 12 35 (argsL := [(.int (XT.ushr p2 (16 : Int32)))]) (rest := []) d_code_96 (w36 hw) (w37 hw) (by decide) (lenOf pd24 rfl) (ct_text l Z a0 hw n0 h743 (XT.ushr p2 (16 : Int32)) zc f746 hzc) (w38 hw) (w2 hw) (fun x hx => hx) rfl (Nat.le_of_eq rfl) (Nat.le_of_ble_eq_true rfl) (Nat.le_of_ble_eq_true rfl) ⟨rfl, Nat.le_of_ble_eq_true rfl⟩ ⟨rfl, Nat.le_of_ble_eq_true rfl⟩ rfl (fun _ _ ⟨_, _, _, q, _⟩ => nomatch q) fun T h745 v so W hQ => ?_
    obtain ⟨x745, b745, bs745, hv, g745, K745, S745, nb745⟩ := hQ
    obtain rfl := Option.some.inj hv
    refine k_astore W d_code_99 rfl (L' := #[.val (.long q0), .second, .val (.long q1), .second, .val (.int p2), .val (.int p3), .val (.int p4), .val (.int z247), .val (.int e1), .val (.int e2), .val (.int e3), .val (.ref x248), .val (.ref x739), .val (.ref x741), .val (.ref x743), .val (.ref x745), .unset, .unset, .unset, .unset, .unset, .unset, .unset, .unset]) rfl ?_
    refine k_iload W d_code_101 rfl ?_
    refine k_i2b W d_code_103 (z := (i2b p3)) rfl ?_
    refine k_istore W d_code_104 (L' := #[.val (.long q0), .second, .val (.long q1), .second, .val (.int p2), .val (.int p3), .val (.int p4), .val (.int z247), .val (.int e1), .val (.int e2), .val (.int e3), .val (.ref x248), .val (.ref x739), .val (.ref x741), .val (.ref x743), .val (.ref x745), .val (.int (i2b p3)), .unset, .unset, .unset, .unset, .unset, .unset, .unset]) rfl ?_
    refine k_iload W d_code_106 rfl ?_
    refine k_bipush W d_code_108 (z := (8 : Int32)) rfl ?_
    refine k_iushr W d_code_110 (z := (XT.ushr p3 (8 : Int32))) rfl ?_
    refine k_i2b W d_code_111 (z := (i2b (XT.ushr p3 (8 : Int32)))) rfl ?_
    refine k_istore W d_code_112 (L' := #[.val (.long q0), .second, .val (.long q1), .second, .val (.int p2), .val (.int p3), .val (.int p4), .val (.int z247), .val (.int e1), .val (.int e2), .val (.int e3), .val (.ref x248), .val (.ref x739), .val (.ref x741), .val (.ref x743), .val (.ref x745), .val (.int (i2b p3)), .val (.int (i2b (XT.ushr p3 (8 : Int32)))), .unset, .unset, .unset, .unset, .unset, .unset]) rfl ?_
    rcases own_rg3 re2 with rfl | rfl | rfl
    · -- plen 0
      refine k_iload W d_code_114 rfl ?_
      refine k_ifN W d_code_116 (show ¬ (¬ (0 : Int32) = 0) by decide) ?_
      refine k_iconst W d_code_119 (z := (0 : Int32)) rfl ?_
      refine k_newarrE W 0 13 35 "[B" (by decide) d_code_120 (w25 hw) (by decide) (by decide) ⟨rfl, Nat.le_of_ble_eq_true rfl⟩ ⟨rfl, Nat.le_of_ble_eq_true rfl⟩ fun T h747 a748 g748 W E748 A748 X748 => ?_
      have K748 : Keep h745 h747 [] := keep_ext E748 []
      have A748 : Av Z h747 a748 .byte [] := A748
      refine k_astore W d_code_122 rfl (L' := #[.val (.long q0), .second, .val (.long q1), .second, .val (.int p2), .val (.int p3), .val (.int p4), .val (.int z247), .val (.int e1), .val (.int (0 : Int32)), .val (.int e3), .val (.ref x248), .val (.ref x739), .val (.ref x741), .val (.ref x743), .val (.ref x745), .val (.int (i2b p3)), .val (.int (i2b (XT.ushr p3 (8 : Int32)))), .val (.ref a748), .unset, .unset, .unset, .unset, .unset]) rfl ?_
      refine k_goto W 161 d_code_124 (by decide) ?_
      refine k_new W 14 40 d_code_161 (w53 hw) (w54 hw) (w55 hw) ⟨rfl, Nat.le_of_ble_eq_true rfl⟩ ⟨rfl, Nat.le_of_ble_eq_true rfl⟩ fun T h749 a750 g750 W E750 X750 D750 => ?_
      have K750 : Keep h747 h749 [] := keep_ext E750 []
      refine k_dup W d_code_164 rfl ?_
      refine k_aload W d_code_165 rfl rfl ?_
      refine k_aload W d_code_167 rfl rfl ?_
      refine k_aload W d_code_169 rfl rfl ?_
      refine k_aload W d_code_171 rfl rfl ?_
      have f751 := ((((S741.keep K743 nin0 nin0).keep K745 nin0 nin0).keep K748 nin0 nin0).keep K750 nin0 nin0)
      have f752 := (((S743.keep K745 nin0 nin0).keep K748 nin0 nin0).keep K750 nin0 nin0)
      have f753 := ((S745.keep K748 nin0 nin0).keep K750 nin0 nin0)
      have f754 := (A748.keep K750 nin0)
      have f755 := (X748.keep K750)
      have f756 := (Sta.keep (Sta.keep (Sta.keep f746 K745 ns0) K748 ns0) K750 ns0)
      have f757 := (Sta.keep (Sta.keep (Sta.keep (Sta.keep (Sta.keep (Sta.keep (Sta.keep CI K248 ns0) K739 ns0) K741 ns0) K743 ns0) K745 ns0) K748 ns0) K750 ns0)
      have f758 := (((((((CX.keep K248).keep K739).keep K741).keep K743).keep K745).keep K748).keep K750)
      have f759 := (Sta.keep (Sta.keep (Sta.keep (Sta.keep (Sta.keep (Sta.keep (Sta.keep CA K248 ns0) K739 ns0) K741 ns0) K743 ns0) K745 ns0) K748 ns0) K750 ns0)
      have f760 := (((((((CV.keep K248 nin0).keep K739 nin0).keep K741 nin0).keep K743 nin0).keep K745 nin0).keep K748 nin0).keep K750 nin0)
      refine k_callI0 W 1 23 159 (argsL := [(.ref x741), (.ref x743), (.ref x745), (.ref a748)]) (rest := [(.ref a750)]) (a := a750) d_code_173 rfl rfl (w56 hw) (w57 hw) (by decide) (lenOf pd25 rfl) (ct_oinit4 l Z a0 hw n0 h749 a750 cd ca x741 b741 x743 b743 x745 b745 a748 bs741 bs743 bs745 [] zc (Nat.le_of_ble_eq_true rfl) nb741 nb743 nb745 X750 (D750 (Or.inr (w64 hw)) (ty := (.object "java/lang/String")) (by decide)) (D750 (Or.inr (w120 hw)) (ty := (.object "java/lang/String")) (by decide)) (D750 (Or.inr (w123 hw)) (ty := (.object "java/lang/String")) (by decide)) (D750 (Or.inr (w126 hw)) (ty := (.object "java/lang/String")) (by decide)) (D750 (Or.inr (w138 hw)) (ty := (.array .byte)) (by decide)) f751 f752 f753 f754 f755 f756 hzc f757 f758 f759 f760) (w58 hw) (w55 hw) (fun x hx => by simp only [List.mem_cons, List.not_mem_nil, or_false] at hx; rcases hx with rfl; all_goals first | exact (List.mem_of_getElem? (i := 0) rfl)) rfl (Nat.le_of_eq rfl) (Nat.le_of_ble_eq_true rfl) (Nat.le_of_ble_eq_true rfl) ⟨rfl, Nat.le_of_ble_eq_true rfl⟩ ⟨rfl, Nat.le_of_ble_eq_true rfl⟩ rfl (fun _ _ _ q => nomatch q.1) fun T h761 so W hQ => ?_
      obtain ⟨-, K761, F0_761, F1_761, F2_761, F3_761, q761, gq761, FP_761, AQ761, XQ761⟩ := hQ
      have AQ761 : Av Z h761 q761 .byte [] := AQ761
      refine k_astore W d_code_176 rfl (L' := #[.val (.long q0), .second, .val (.long q1), .second, .val (.int p2), .val (.int p3), .val (.int p4), .val (.int z247), .val (.int e1), .val (.int (0 : Int32)), .val (.int e3), .val (.ref x248), .val (.ref x739), .val (.ref x741), .val (.ref x743), .val (.ref x745), .val (.int (i2b p3)), .val (.int (i2b (XT.ushr p3 (8 : Int32)))), .val (.ref a748), .val (.ref a750), .unset, .unset, .unset, .unset]) rfl ?_
      refine k_aload W d_code_178 rfl rfl ?_
      refine k_aload W d_code_180 rfl rfl ?_
      have ne762 : x248 ≠ a750 := (Nat.ne_of_lt (Nat.lt_of_lt_of_le (Nat.lt_of_lt_of_le S248.1.lt (Nat.le_trans (Nat.le_trans (Nat.le_trans (Nat.le_trans K739.1 K741.1) K743.1) K745.1) E748.1)) (Nat.le_of_eq g750.symm)))
      have ne763 : b248 ≠ a750 := (Nat.ne_of_lt (Nat.lt_of_lt_of_le (Nat.lt_of_lt_of_le S248.2.2.2.lt (Nat.le_trans (Nat.le_trans (Nat.le_trans (Nat.le_trans K739.1 K741.1) K743.1) K745.1) E748.1)) (Nat.le_of_eq g750.symm)))
      have f764 := (((((((S248.keep K739 nin0 nin0).keep K741 nin0 nin0).keep K743 nin0 nin0).keep K745 nin0 nin0).keep K748 nin0 nin0).keep K750 nin0 nin0).keep K761 (ninS ne762 nin0) (ninS ne763 nin0))
      have ne765 : x741 ≠ a750 := (Nat.ne_of_lt (Nat.lt_of_lt_of_le (Nat.lt_of_lt_of_le S741.1.lt (Nat.le_trans (Nat.le_trans K743.1 K745.1) E748.1)) (Nat.le_of_eq g750.symm)))
      have ne766 : b741 ≠ a750 := (Nat.ne_of_lt (Nat.lt_of_lt_of_le (Nat.lt_of_lt_of_le S741.2.2.2.lt (Nat.le_trans (Nat.le_trans K743.1 K745.1) E748.1)) (Nat.le_of_eq g750.symm)))
      have f767 := (f751.keep K761 (ninS ne765 nin0) (ninS ne766 nin0))
      have ne768 : x743 ≠ a750 := (Nat.ne_of_lt (Nat.lt_of_lt_of_le (Nat.lt_of_lt_of_le S743.1.lt (Nat.le_trans K745.1 E748.1)) (Nat.le_of_eq g750.symm)))
      have ne769 : b743 ≠ a750 := (Nat.ne_of_lt (Nat.lt_of_lt_of_le (Nat.lt_of_lt_of_le S743.2.2.2.lt (Nat.le_trans K745.1 E748.1)) (Nat.le_of_eq g750.symm)))
      have f770 := (f752.keep K761 (ninS ne768 nin0) (ninS ne769 nin0))
      have ne771 : x745 ≠ a750 := (Nat.ne_of_lt (Nat.lt_of_lt_of_le (Nat.lt_of_lt_of_le S745.1.lt E748.1) (Nat.le_of_eq g750.symm)))
      have ne772 : b745 ≠ a750 := (Nat.ne_of_lt (Nat.lt_of_lt_of_le (Nat.lt_of_lt_of_le S745.2.2.2.lt E748.1) (Nat.le_of_eq g750.symm)))
      have f773 := (f753.keep K761 (ninS ne771 nin0) (ninS ne772 nin0))
      have f774 := (Sta.keep f756 K761 (nsS (Exa.plain X750) ns0))
      have f775 := (Sta.keep f757 K761 (nsS (Exa.plain X750) ns0))
      have f776 := (f758.keep K761)
      have f777 := (Sta.keep f759 K761 (nsS (Exa.plain X750) ns0))
      have ne778 : ca ≠ a750 := (Nat.ne_of_lt (Nat.lt_of_lt_of_le (Nat.lt_of_lt_of_le CV.lt (Nat.le_trans (Nat.le_trans (Nat.le_trans (Nat.le_trans (Nat.le_trans K248.1 K739.1) K741.1) K743.1) K745.1) E748.1)) (Nat.le_of_eq g750.symm)))
      have f779 := (f760.keep K761 (ninS ne778 nin0))
      have f781 := (X750.keep K761)
      refine k_callV W 0 35 295 (argsL := [(.ref x248)]) (rest := []) (a := a750) (C := "com/example/kourier/kourier/outbox/OutboxEvent") (z0 := (⟨"com/example/kourier/kourier/outbox/OutboxEvent", "withId", "(Ljava/lang/String;)Lcom/example/kourier/kourier/outbox/OutboxEvent;"⟩ : MethodName)) (z := (⟨"com/example/kourier/kourier/outbox/OutboxEvent", "withId", "(Ljava/lang/String;)Lcom/example/kourier/kourier/outbox/OutboxEvent;"⟩ : MethodName)) d_code_182 (w139 hw) (w140 hw) (nfSel (w142 hw)) (w142 hw) (w141 hw) (by decide) (lenOf pd26 rfl) f781 (ct_with l Z a0 hw n0 h761 a750 x248 b248 bs248 .null rfl nb248 cd ca x741 b741 x743 b743 x745 b745 q761 bs741 bs743 bs745 [] zc (Nat.le_of_ble_eq_true rfl) nb741 nb743 nb745 f781 F0_761 F1_761 F2_761 F3_761 FP_761 f764 f767 f770 f773 AQ761 XQ761 f774 hzc f775 f776 f777 f779) (w143 hw) (w55 hw) (fun x hx => nomatch hx) rfl (Nat.le_of_eq rfl) (Nat.le_of_ble_eq_true rfl) (Nat.le_of_ble_eq_true rfl) ⟨rfl, Nat.le_of_ble_eq_true rfl⟩ ⟨rfl, Nat.le_of_ble_eq_true rfl⟩ rfl (fun _ _ ⟨_, q, _⟩ => nomatch q) fun T h780 v so W hQ => ?_
      obtain ⟨x780, hv, gx780, K780, X780, F0_780, F1_780, F2_780, F3_780, q780, gq780, FP_780, AQ780, XQ780⟩ := hQ
      obtain rfl := Option.some.inj hv
      have AQ780 : Av Z h780 q780 .byte [] := AQ780
      refine k_astore W d_code_185 rfl (L' := #[.val (.long q0), .second, .val (.long q1), .second, .val (.int p2), .val (.int p3), .val (.int p4), .val (.int z247), .val (.int e1), .val (.int (0 : Int32)), .val (.int e3), .val (.ref x248), .val (.ref x739), .val (.ref x741), .val (.ref x743), .val (.ref x745), .val (.int (i2b p3)), .val (.int (i2b (XT.ushr p3 (8 : Int32)))), .val (.ref a748), .val (.ref a750), .val (.ref x780), .unset, .unset, .unset]) rfl ?_
      refine k_aload W d_code_187 rfl rfl ?_
      refine k_aload W d_code_189 rfl rfl ?_
      have f782 := (F0_761.keep K780 nin0)
      have f783 := (F1_761.keep K780 nin0)
      have f784 := (F2_761.keep K780 nin0)
      have f785 := (F3_761.keep K780 nin0)
      have f786 := (FP_761.keep K780 nin0)
      have ne787 : x739 ≠ a750 := (Nat.ne_of_lt (Nat.lt_of_lt_of_le (Nat.lt_of_lt_of_le S739.1.lt (Nat.le_trans (Nat.le_trans (Nat.le_trans K741.1 K743.1) K745.1) E748.1)) (Nat.le_of_eq g750.symm)))
      have ne788 : b739 ≠ a750 := (Nat.ne_of_lt (Nat.lt_of_lt_of_le (Nat.lt_of_lt_of_le S739.2.2.2.lt (Nat.le_trans (Nat.le_trans (Nat.le_trans K741.1 K743.1) K745.1) E748.1)) (Nat.le_of_eq g750.symm)))
      have f789 := (((((((S739.keep K741 nin0 nin0).keep K743 nin0 nin0).keep K745 nin0 nin0).keep K748 nin0 nin0).keep K750 nin0 nin0).keep K761 (ninS ne787 nin0) (ninS ne788 nin0)).keep K780 nin0 nin0)
      have f790 := (f767.keep K780 nin0 nin0)
      have f791 := (f770.keep K780 nin0 nin0)
      have f792 := (f773.keep K780 nin0 nin0)
      have f793 := (AQ761.keep K780 nin0)
      have f794 := (XQ761.keep K780)
      have f795 := (Sta.keep f774 K780 ns0)
      have f796 := (Sta.keep f775 K780 ns0)
      have f797 := (f776.keep K780)
      have f798 := (Sta.keep f777 K780 ns0)
      have f799 := (f779.keep K780 nin0)
      have f801 := (f781.keep K780)
      refine k_callV W 0 47 431 (argsL := [(.ref x739)]) (rest := []) (a := a750) (C := "com/example/kourier/kourier/outbox/OutboxEvent") (z0 := (⟨"com/example/kourier/kourier/outbox/OutboxEvent", "withId", "(Ljava/lang/String;)Lcom/example/kourier/kourier/outbox/OutboxEvent;"⟩ : MethodName)) (z := (⟨"com/example/kourier/kourier/outbox/OutboxEvent", "withId", "(Ljava/lang/String;)Lcom/example/kourier/kourier/outbox/OutboxEvent;"⟩ : MethodName)) d_code_191 (w139 hw) (w140 hw) (nfSel (w142 hw)) (w142 hw) (w141 hw) (by decide) (lenOf pd26 rfl) f801 (ct_with l Z a0 hw n0 h780 a750 x739 b739 bs739 .null rfl nb739 cd ca x741 b741 x743 b743 x745 b745 q761 bs741 bs743 bs745 [] zc (Nat.le_of_ble_eq_true rfl) nb741 nb743 nb745 f801 f782 f783 f784 f785 f786 f789 f790 f791 f792 f793 f794 f795 hzc f796 f797 f798 f799) (w143 hw) (w55 hw) (fun x hx => nomatch hx) rfl (Nat.le_of_eq rfl) (Nat.le_of_ble_eq_true rfl) (Nat.le_of_ble_eq_true rfl) ⟨rfl, Nat.le_of_ble_eq_true rfl⟩ ⟨rfl, Nat.le_of_ble_eq_true rfl⟩ rfl (fun _ _ ⟨_, q, _⟩ => nomatch q) fun T h800 v so W hQ => ?_
      obtain ⟨x800, hv, gx800, K800, X800, F0_800, F1_800, F2_800, F3_800, q800, gq800, FP_800, AQ800, XQ800⟩ := hQ
      obtain rfl := Option.some.inj hv
      have AQ800 : Av Z h800 q800 .byte [] := AQ800
      refine k_astore W d_code_194 rfl (L' := #[.val (.long q0), .second, .val (.long q1), .second, .val (.int p2), .val (.int p3), .val (.int p4), .val (.int z247), .val (.int e1), .val (.int (0 : Int32)), .val (.int e3), .val (.ref x248), .val (.ref x739), .val (.ref x741), .val (.ref x743), .val (.ref x745), .val (.int (i2b p3)), .val (.int (i2b (XT.ushr p3 (8 : Int32)))), .val (.ref a748), .val (.ref a750), .val (.ref x780), .val (.ref x800), .unset, .unset]) rfl ?_
      refine k_aload W d_code_196 rfl rfl ?_
      refine k_aload W d_code_198 rfl rfl ?_
      have f802 := (F0_780.keep K800 nin0)
      have f803 := (F1_780.keep K800 nin0)
      have f804 := (F2_780.keep K800 nin0)
      have f805 := (F3_780.keep K800 nin0)
      have f806 := (FP_780.keep K800 nin0)
      have f807 := (f789.keep K800 nin0 nin0)
      have f808 := (f790.keep K800 nin0 nin0)
      have f809 := (f791.keep K800 nin0 nin0)
      have f810 := (f792.keep K800 nin0 nin0)
      have f811 := (AQ780.keep K800 nin0)
      have f812 := (XQ780.keep K800)
      have f813 := (Sta.keep f795 K800 ns0)
      have f814 := (Sta.keep f796 K800 ns0)
      have f815 := (f797.keep K800)
      have f816 := (Sta.keep f798 K800 ns0)
      have f817 := (f799.keep K800 nin0)
      have f819 := (X780.keep K800)
      refine k_callV W 0 59 567 (argsL := [(.ref x739)]) (rest := []) (a := x780) (C := "com/example/kourier/kourier/outbox/OutboxEvent") (z0 := (⟨"com/example/kourier/kourier/outbox/OutboxEvent", "withId", "(Ljava/lang/String;)Lcom/example/kourier/kourier/outbox/OutboxEvent;"⟩ : MethodName)) (z := (⟨"com/example/kourier/kourier/outbox/OutboxEvent", "withId", "(Ljava/lang/String;)Lcom/example/kourier/kourier/outbox/OutboxEvent;"⟩ : MethodName)) d_code_200 (w139 hw) (w140 hw) (nfSel (w142 hw)) (w142 hw) (w141 hw) (by decide) (lenOf pd26 rfl) f819 (ct_with l Z a0 hw n0 h800 x780 x739 b739 bs739 (.ref x248) rfl nb739 cd ca x741 b741 x743 b743 x745 b745 q780 bs741 bs743 bs745 [] zc (Nat.le_of_ble_eq_true rfl) nb741 nb743 nb745 f819 f802 f803 f804 f805 f806 f807 f808 f809 f810 f811 f812 f813 hzc f814 f815 f816 f817) (w143 hw) (w55 hw) (fun x hx => nomatch hx) rfl (Nat.le_of_eq rfl) (Nat.le_of_ble_eq_true rfl) (Nat.le_of_ble_eq_true rfl) ⟨rfl, Nat.le_of_ble_eq_true rfl⟩ ⟨rfl, Nat.le_of_ble_eq_true rfl⟩ rfl (fun _ _ ⟨_, q, _⟩ => nomatch q) fun T h818 v so W hQ => ?_
      obtain ⟨x818, hv, gx818, K818, X818, F0_818, F1_818, F2_818, F3_818, q818, gq818, FP_818, AQ818, XQ818⟩ := hQ
      obtain rfl := Option.some.inj hv
      have AQ818 : Av Z h818 q818 .byte [] := AQ818
      refine k_astore W d_code_203 rfl (L' := #[.val (.long q0), .second, .val (.long q1), .second, .val (.int p2), .val (.int p3), .val (.int p4), .val (.int z247), .val (.int e1), .val (.int (0 : Int32)), .val (.int e3), .val (.ref x248), .val (.ref x739), .val (.ref x741), .val (.ref x743), .val (.ref x745), .val (.int (i2b p3)), .val (.int (i2b (XT.ushr p3 (8 : Int32)))), .val (.ref a748), .val (.ref a750), .val (.ref x780), .val (.ref x800), .val (.ref x818), .unset]) rfl ?_
      refine k_aload W d_code_205 rfl rfl ?_
      refine k_aload W d_code_207 rfl rfl ?_
      have f820 := (f802.keep K818 nin0)
      have f821 := (f803.keep K818 nin0)
      have f822 := (f804.keep K818 nin0)
      have f823 := (f805.keep K818 nin0)
      have f824 := (f806.keep K818 nin0)
      have f825 := ((f782.keep K800 nin0).keep K818 nin0)
      have f826 := ((f783.keep K800 nin0).keep K818 nin0)
      have f827 := ((f784.keep K800 nin0).keep K818 nin0)
      have f828 := ((f785.keep K800 nin0).keep K818 nin0)
      have f829 := ((f786.keep K800 nin0).keep K818 nin0)
      have f830 := (((f764.keep K780 nin0 nin0).keep K800 nin0 nin0).keep K818 nin0 nin0)
      have f831 := (f811.keep K818 nin0)
      have f832 := ((f793.keep K800 nin0).keep K818 nin0)
      have ne833 : x780 ≠ a750 := (Ne.symm (Nat.ne_of_lt (Nat.lt_of_lt_of_le F0_761.lt gx780)))
      have ne834 : q780 ≠ q761 := (Ne.symm (Nat.ne_of_lt (Nat.lt_of_lt_of_le AQ761.lt gq780)))
      have f835 := (f819.keep K818)
      have f836 := ((f801.keep K800).keep K818)
      have f837 := (f808.keep K818 nin0 nin0)
      have f838 := (f809.keep K818 nin0 nin0)
      have f839 := (f810.keep K818 nin0 nin0)
      have f840 := (Sta.keep f813 K818 ns0)
      refine k_callV W 0 59 567 (argsL := [(.ref a750)]) (rest := []) (a := x780) (C := "com/example/kourier/kourier/outbox/OutboxEvent") (z0 := (⟨"com/example/kourier/kourier/outbox/OutboxEvent", "equals", "(Ljava/lang/Object;)Z"⟩ : MethodName)) (z := (⟨"com/example/kourier/kourier/outbox/OutboxEvent", "equals", "(Ljava/lang/Object;)Z"⟩ : MethodName)) d_code_209 (w146 hw) (w147 hw) (nfSel (w149 hw)) (w149 hw) (w148 hw) (by decide) (lenOf pd18 rfl) f835 (ct_oeqZ l Z a0 hw n0 h818 mr x780 a750 x741 x743 x745 q780 q761 x248 b248 0 0 bs248 [] [] zc (Nat.le_of_ble_eq_true rfl) ne833 ne834 M0 f835 f820 f821 f822 f823 f824 f836 f825 f826 f827 f828 f829 f830 f837.1 f838.1 f839.1 f831 f832 f840 hzc) (w150 hw) (w55 hw) (fun x hx => nomatch hx) rfl (Nat.le_of_eq rfl) (Nat.le_of_ble_eq_true rfl) (Nat.le_of_ble_eq_true rfl) ⟨rfl, Nat.le_of_ble_eq_true rfl⟩ ⟨rfl, Nat.le_of_ble_eq_true rfl⟩ rfl (fun _ _ q => nomatch q.1) fun T h841 v so W hQ => ?_
      obtain ⟨hv, rfl, -⟩ := hQ
      obtain rfl := Option.some.inj hv
      refine k_ifY W 217 d_code_212 (by decide) (show (0 : Int32) = 0 by decide) ?_
      refine k_aload W d_code_217 rfl rfl ?_
      refine k_aload W d_code_219 rfl rfl ?_
      refine k_callV W 1 59 567 (argsL := []) (rest := [(.ref x741)]) (a := x780) (C := "com/example/kourier/kourier/outbox/OutboxEvent") (z0 := (⟨"com/example/kourier/kourier/outbox/OutboxEvent", "destination", "()Ljava/lang/String;"⟩ : MethodName)) (z := (⟨"com/example/kourier/kourier/outbox/OutboxEvent", "destination", "()Ljava/lang/String;"⟩ : MethodName)) d_code_221 (w166 hw) (w167 hw) (nfSel (w169 hw)) (w169 hw) (w168 hw) (by decide) (lenOf pd27 rfl) f835 (ct_destination l Z a0 hw n0 h818 x780 x741 f821) (w170 hw) (w55 hw) (fun x hx => nomatch hx) rfl (Nat.le_of_eq rfl) (Nat.le_of_ble_eq_true rfl) (Nat.le_of_ble_eq_true rfl) ⟨rfl, Nat.le_of_ble_eq_true rfl⟩ ⟨rfl, Nat.le_of_ble_eq_true rfl⟩ rfl (fun _ _ q => nomatch q.1) fun T h842 v so W hQ => ?_
      obtain ⟨hv, rfl, -⟩ := hQ
      obtain rfl := Option.some.inj hv
      refine k_callV W 0 59 567 (argsL := [(.ref x741)]) (rest := []) (a := x741) (C := "java/lang/String") (z0 := (⟨"java/lang/String", "equals", "(Ljava/lang/Object;)Z"⟩ : MethodName)) (z := (⟨"java/lang/String", "equals", "(Ljava/lang/Object;)Z"⟩ : MethodName)) d_code_224 (w171 hw) (w172 hw) (nfSel (w173 hw)) (w173 hw) (w164 hw) (by decide) (lenOf pd18 rfl) f837.1 (ct_seqI l Z a0 hw n0 h818 x741) (w165 hw) (w8 hw) (fun x hx => nomatch hx) rfl (Nat.le_of_eq rfl) (Nat.le_of_ble_eq_true rfl) (Nat.le_of_ble_eq_true rfl) ⟨rfl, Nat.le_of_ble_eq_true rfl⟩ ⟨rfl, Nat.le_of_ble_eq_true rfl⟩ rfl (fun _ _ q => nomatch q.1) fun T h843 v so W hQ => ?_
      obtain ⟨hv, rfl, -⟩ := hQ
      obtain rfl := Option.some.inj hv
      refine k_ifY W 232 d_code_227 (by decide) (show ¬ (1 : Int32) = 0 by decide) ?_
      refine k_aload W d_code_232 rfl rfl ?_
      refine k_aload W d_code_234 rfl rfl ?_
      refine k_callV W 1 59 567 (argsL := []) (rest := [(.ref x743)]) (a := x780) (C := "com/example/kourier/kourier/outbox/OutboxEvent") (z0 := (⟨"com/example/kourier/kourier/outbox/OutboxEvent", "key", "()Ljava/lang/String;"⟩ : MethodName)) (z := (⟨"com/example/kourier/kourier/outbox/OutboxEvent", "key", "()Ljava/lang/String;"⟩ : MethodName)) d_code_236 (w174 hw) (w175 hw) (nfSel (w177 hw)) (w177 hw) (w176 hw) (by decide) (lenOf pd27 rfl) f835 (ct_key l Z a0 hw n0 h818 x780 x743 f822) (w178 hw) (w55 hw) (fun x hx => nomatch hx) rfl (Nat.le_of_eq rfl) (Nat.le_of_ble_eq_true rfl) (Nat.le_of_ble_eq_true rfl) ⟨rfl, Nat.le_of_ble_eq_true rfl⟩ ⟨rfl, Nat.le_of_ble_eq_true rfl⟩ rfl (fun _ _ q => nomatch q.1) fun T h844 v so W hQ => ?_
      obtain ⟨hv, rfl, -⟩ := hQ
      obtain rfl := Option.some.inj hv
      refine k_callV W 0 59 567 (argsL := [(.ref x743)]) (rest := []) (a := x743) (C := "java/lang/String") (z0 := (⟨"java/lang/String", "equals", "(Ljava/lang/Object;)Z"⟩ : MethodName)) (z := (⟨"java/lang/String", "equals", "(Ljava/lang/Object;)Z"⟩ : MethodName)) d_code_239 (w171 hw) (w172 hw) (nfSel (w173 hw)) (w173 hw) (w164 hw) (by decide) (lenOf pd18 rfl) f838.1 (ct_seqI l Z a0 hw n0 h818 x743) (w165 hw) (w8 hw) (fun x hx => nomatch hx) rfl (Nat.le_of_eq rfl) (Nat.le_of_ble_eq_true rfl) (Nat.le_of_ble_eq_true rfl) ⟨rfl, Nat.le_of_ble_eq_true rfl⟩ ⟨rfl, Nat.le_of_ble_eq_true rfl⟩ rfl (fun _ _ q => nomatch q.1) fun T h845 v so W hQ => ?_
      obtain ⟨hv, rfl, -⟩ := hQ
      obtain rfl := Option.some.inj hv
      refine k_ifY W 247 d_code_242 (by decide) (show ¬ (1 : Int32) = 0 by decide) ?_
      refine k_aload W d_code_247 rfl rfl ?_
      refine k_aload W d_code_249 rfl rfl ?_
      refine k_callV W 1 59 567 (argsL := []) (rest := [(.ref x745)]) (a := x780) (C := "com/example/kourier/kourier/outbox/OutboxEvent") (z0 := (⟨"com/example/kourier/kourier/outbox/OutboxEvent", "type", "()Ljava/lang/String;"⟩ : MethodName)) (z := (⟨"com/example/kourier/kourier/outbox/OutboxEvent", "type", "()Ljava/lang/String;"⟩ : MethodName)) d_code_251 (w179 hw) (w180 hw) (nfSel (w182 hw)) (w182 hw) (w181 hw) (by decide) (lenOf pd27 rfl) f835 (ct_type l Z a0 hw n0 h818 x780 x745 f823) (w183 hw) (w55 hw) (fun x hx => nomatch hx) rfl (Nat.le_of_eq rfl) (Nat.le_of_ble_eq_true rfl) (Nat.le_of_ble_eq_true rfl) ⟨rfl, Nat.le_of_ble_eq_true rfl⟩ ⟨rfl, Nat.le_of_ble_eq_true rfl⟩ rfl (fun _ _ q => nomatch q.1) fun T h846 v so W hQ => ?_
      obtain ⟨hv, rfl, -⟩ := hQ
      obtain rfl := Option.some.inj hv
      refine k_callV W 0 59 567 (argsL := [(.ref x745)]) (rest := []) (a := x745) (C := "java/lang/String") (z0 := (⟨"java/lang/String", "equals", "(Ljava/lang/Object;)Z"⟩ : MethodName)) (z := (⟨"java/lang/String", "equals", "(Ljava/lang/Object;)Z"⟩ : MethodName)) d_code_254 (w171 hw) (w172 hw) (nfSel (w173 hw)) (w173 hw) (w164 hw) (by decide) (lenOf pd18 rfl) f839.1 (ct_seqI l Z a0 hw n0 h818 x745) (w165 hw) (w8 hw) (fun x hx => nomatch hx) rfl (Nat.le_of_eq rfl) (Nat.le_of_ble_eq_true rfl) (Nat.le_of_ble_eq_true rfl) ⟨rfl, Nat.le_of_ble_eq_true rfl⟩ ⟨rfl, Nat.le_of_ble_eq_true rfl⟩ rfl (fun _ _ q => nomatch q.1) fun T h847 v so W hQ => ?_
      obtain ⟨hv, rfl, -⟩ := hQ
      obtain rfl := Option.some.inj hv
      refine k_ifY W 262 d_code_257 (by decide) (show ¬ (1 : Int32) = 0 by decide) ?_
      refine k_aload W d_code_262 rfl rfl ?_
      have f849 := (f812.keep K818)
      refine k_callV W 0 60 570 (argsL := []) (rest := []) (a := x780) (C := "com/example/kourier/kourier/outbox/OutboxEvent") (z0 := (⟨"com/example/kourier/kourier/outbox/OutboxEvent", "payload", "()[B"⟩ : MethodName)) (z := (⟨"com/example/kourier/kourier/outbox/OutboxEvent", "payload", "()[B"⟩ : MethodName)) d_code_264 (w184 hw) (w185 hw) (nfSel (w187 hw)) (w187 hw) (w186 hw) (by decide) (lenOf pd28 rfl) f835 (ct_payload l Z a0 hw n0 h818 x780 q780 [] (Nat.le_of_ble_eq_true rfl) f824 f831 f849) (w188 hw) (w55 hw) (fun x hx => nomatch hx) rfl (Nat.le_of_eq rfl) (Nat.le_of_ble_eq_true rfl) (Nat.le_of_ble_eq_true rfl) ⟨rfl, Nat.le_of_ble_eq_true rfl⟩ ⟨rfl, Nat.le_of_ble_eq_true rfl⟩ rfl (fun _ _ ⟨_, q, _⟩ => nomatch q) fun T h848 v so W hQ => ?_
      obtain ⟨x848, hv, gx848, K848, A848⟩ := hQ
      obtain rfl := Option.some.inj hv
      have A848 : Av Z h848 x848 .byte [] := A848
      refine k_astore W d_code_267 rfl (L' := #[.val (.long q0), .second, .val (.long q1), .second, .val (.int p2), .val (.int p3), .val (.int p4), .val (.int z247), .val (.int e1), .val (.int (0 : Int32)), .val (.int e3), .val (.ref x248), .val (.ref x739), .val (.ref x741), .val (.ref x743), .val (.ref x745), .val (.int (i2b p3)), .val (.int (i2b (XT.ushr p3 (8 : Int32)))), .val (.ref a748), .val (.ref a750), .val (.ref x780), .val (.ref x800), .val (.ref x818), .val (.ref x848)]) rfl ?_
      refine k_aload W d_code_269 rfl rfl ?_
      refine k_arraylength W (z := (0 : Int32)) d_code_271 A848 rfl ?_
      refine k_iload W d_code_272 rfl ?_
      refine k_icY W 279 d_code_274 (by decide) (show (0 : Int32) = (0 : Int32) by decide) ?_
      refine k_iload W d_code_279 rfl ?_
      refine k_iconst W d_code_281 (z := (1 : Int32)) rfl ?_
      refine k_icY W 296 d_code_282 (by decide) (show (0 : Int32) < (1 : Int32) by decide) ?_
      refine k_iload W d_code_296 rfl ?_
      refine k_iconst W d_code_298 (z := (2 : Int32)) rfl ?_
      refine k_icY W 313 d_code_299 (by decide) (show ¬ (0 : Int32) = (2 : Int32) by decide) ?_
      refine k_aload W d_code_313 rfl rfl ?_
      refine k_aload W d_code_315 rfl rfl ?_
      have f850 := (f820.keep K848 nin0)
      have f851 := (f821.keep K848 nin0)
      have f852 := (f822.keep K848 nin0)
      have f853 := (f823.keep K848 nin0)
      have f854 := (f824.keep K848 nin0)
      have f855 := ((F0_800.keep K818 nin0).keep K848 nin0)
      have f856 := ((F1_800.keep K818 nin0).keep K848 nin0)
      have f857 := ((F2_800.keep K818 nin0).keep K848 nin0)
      have f858 := ((F3_800.keep K818 nin0).keep K848 nin0)
      have f859 := ((FP_800.keep K818 nin0).keep K848 nin0)
      have f860 := (f830.keep K848 nin0 nin0)
      have f861 := ((f807.keep K818 nin0 nin0).keep K848 nin0 nin0)
      have f862 := (f831.keep K848 nin0)
      have f863 := ((AQ800.keep K818 nin0).keep K848 nin0)
      have ne864 : x780 ≠ x800 := (Nat.ne_of_lt (Nat.lt_of_lt_of_le X780.lt gx800))
      have ne865 : q780 ≠ q800 := (Nat.ne_of_lt (Nat.lt_of_lt_of_le AQ780.lt gq800))
      have ne866 : x248 ≠ x739 := (Nat.ne_of_lt (Nat.lt_of_lt_of_le S248.1.lt g739))
      have f867 := (f835.keep K848)
      have f868 := ((X800.keep K818).keep K848)
      have f869 := (f837.keep K848 nin0 nin0)
      have f870 := (f838.keep K848 nin0 nin0)
      have f871 := (f839.keep K848 nin0 nin0)
      have f872 := (Sta.keep f840 K848 ns0)
      refine k_callV W 0 60 570 (argsL := [(.ref x800)]) (rest := []) (a := x780) (C := "com/example/kourier/kourier/outbox/OutboxEvent") (z0 := (⟨"com/example/kourier/kourier/outbox/OutboxEvent", "equals", "(Ljava/lang/Object;)Z"⟩ : MethodName)) (z := (⟨"com/example/kourier/kourier/outbox/OutboxEvent", "equals", "(Ljava/lang/Object;)Z"⟩ : MethodName)) d_code_317 (w146 hw) (w147 hw) (nfSel (w149 hw)) (w149 hw) (w148 hw) (by decide) (lenOf pd18 rfl) f867 (ct_oeqD l Z a0 hw n0 h848 mr x780 x800 x741 x743 x745 q780 q800 x248 b248 x739 b739 bs248 bs739 [] zc (Nat.le_of_ble_eq_true rfl) ne864 ne865 ne866 M0 f867 f850 f851 f852 f853 f854 f868 f855 f856 f857 f858 f859 f860 f861 f869.1 f870.1 f871.1 f862 f863 f872 hzc) (w150 hw) (w55 hw) (fun x hx => nomatch hx) rfl (Nat.le_of_eq rfl) (Nat.le_of_ble_eq_true rfl) (Nat.le_of_ble_eq_true rfl) ⟨rfl, Nat.le_of_ble_eq_true rfl⟩ ⟨rfl, Nat.le_of_ble_eq_true rfl⟩ rfl (fun _ _ q => by rcases q.1 with ⟨_, u⟩ | ⟨_, u⟩ <;> cases u) fun T h874 v so W hQ => ?_
      obtain ⟨hQ, rfl⟩ := hQ
      rcases hQ with ⟨heq873, hv⟩ | ⟨heq873, hv⟩
      · --
        obtain rfl := Option.some.inj hv
        refine k_aload W d_code_320 rfl rfl ?_
        refine k_aload W d_code_322 rfl rfl ?_
        refine k_callV W 1 60 570 (argsL := [(.ref x739)]) (rest := [(.int (1 : Int32))]) (a := x248) (C := "java/lang/String") (z0 := (⟨"java/lang/String", "equals", "(Ljava/lang/Object;)Z"⟩ : MethodName)) (z := (⟨"java/lang/String", "equals", "(Ljava/lang/Object;)Z"⟩ : MethodName)) d_code_324 (w171 hw) (w172 hw) (nfSel (w173 hw)) (w173 hw) (w164 hw) (by decide) (lenOf pd18 rfl) f860.1 (ct_seq l Z a0 hw n0 h848 x248 b248 x739 b739 bs248 bs739 zc ne866 f860 f861 f872 hzc) (w165 hw) (w8 hw) (fun x hx => nomatch hx) rfl (Nat.le_of_eq rfl) (Nat.le_of_ble_eq_true rfl) (Nat.le_of_ble_eq_true rfl) ⟨rfl, Nat.le_of_ble_eq_true rfl⟩ ⟨rfl, Nat.le_of_ble_eq_true rfl⟩ rfl (fun _ _ q => by rcases q.1 with ⟨_, u⟩ | ⟨_, u⟩ <;> cases u) fun T h876 v so W hQ => ?_
        obtain ⟨hQ, rfl⟩ := hQ
        rcases hQ with ⟨heq875, hv⟩ | ⟨heq875, hv⟩
        · --
          obtain rfl := Option.some.inj hv
          refine k_icY W 332 d_code_327 (by decide) (show (1 : Int32) = (1 : Int32) by decide) ?_
          refine k_aload W d_code_332 rfl rfl ?_
          refine k_aload W d_code_334 rfl rfl ?_
          have f877 := (F0_818.keep K848 nin0)
          have f878 := (F1_818.keep K848 nin0)
          have f879 := (F2_818.keep K848 nin0)
          have f880 := (F3_818.keep K848 nin0)
          have f881 := (FP_818.keep K848 nin0)
          have f882 := (AQ818.keep K848 nin0)
          have ne883 : x818 ≠ x800 := (Ne.symm (Nat.ne_of_lt (Nat.lt_of_lt_of_le X800.lt gx818)))
          have ne884 : q818 ≠ q800 := (Ne.symm (Nat.ne_of_lt (Nat.lt_of_lt_of_le AQ800.lt gq818)))
          have f885 := (X818.keep K848)
          refine k_callV W 0 60 570 (argsL := [(.ref x800)]) (rest := []) (a := x818) (C := "com/example/kourier/kourier/outbox/OutboxEvent") (z0 := (⟨"com/example/kourier/kourier/outbox/OutboxEvent", "equals", "(Ljava/lang/Object;)Z"⟩ : MethodName)) (z := (⟨"com/example/kourier/kourier/outbox/OutboxEvent", "equals", "(Ljava/lang/Object;)Z"⟩ : MethodName)) d_code_336 (w146 hw) (w147 hw) (nfSel (w149 hw)) (w149 hw) (w148 hw) (by decide) (lenOf pd18 rfl) f885 (ct_oeqI l Z a0 hw n0 h848 mr x818 x800 x741 x743 x745 q818 q800 x739 b739 0 0 bs739 [] [] zc (Nat.le_of_ble_eq_true rfl) ne883 ne884 M0 f885 f877 f878 f879 f880 f881 f868 f855 f856 f857 f858 f859 f861 f869.1 f870.1 f871.1 f882 f863 f872 hzc) (w150 hw) (w55 hw) (fun x hx => nomatch hx) rfl (Nat.le_of_eq rfl) (Nat.le_of_ble_eq_true rfl) (Nat.le_of_ble_eq_true rfl) ⟨rfl, Nat.le_of_ble_eq_true rfl⟩ ⟨rfl, Nat.le_of_ble_eq_true rfl⟩ rfl (fun _ _ q => nomatch q.1) fun T h886 v so W hQ => ?_
          obtain ⟨hv, rfl, -⟩ := hQ
          obtain rfl := Option.some.inj hv
          exact k_retN W (t := .boolean) (z' := (1 : Int32)) d_code_339 rfl (by simp) (by decide) [] (fun x hx => nomatch hx) (Nat.le_of_ble_eq_true rfl) (Nat.le_of_ble_eq_true rfl) rfl
        · --
          obtain rfl := Option.some.inj hv
          exact absurd heq873 heq875
      · --
        obtain rfl := Option.some.inj hv
        refine k_aload W d_code_320 rfl rfl ?_
        refine k_aload W d_code_322 rfl rfl ?_
        refine k_callV W 1 60 570 (argsL := [(.ref x739)]) (rest := [(.int (0 : Int32))]) (a := x248) (C := "java/lang/String") (z0 := (⟨"java/lang/String", "equals", "(Ljava/lang/Object;)Z"⟩ : MethodName)) (z := (⟨"java/lang/String", "equals", "(Ljava/lang/Object;)Z"⟩ : MethodName)) d_code_324 (w171 hw) (w172 hw) (nfSel (w173 hw)) (w173 hw) (w164 hw) (by decide) (lenOf pd18 rfl) f860.1 (ct_seq l Z a0 hw n0 h848 x248 b248 x739 b739 bs248 bs739 zc ne866 f860 f861 f872 hzc) (w165 hw) (w8 hw) (fun x hx => nomatch hx) rfl (Nat.le_of_eq rfl) (Nat.le_of_ble_eq_true rfl) (Nat.le_of_ble_eq_true rfl) ⟨rfl, Nat.le_of_ble_eq_true rfl⟩ ⟨rfl, Nat.le_of_ble_eq_true rfl⟩ rfl (fun _ _ q => by rcases q.1 with ⟨_, u⟩ | ⟨_, u⟩ <;> cases u) fun T h888 v so W hQ => ?_
        obtain ⟨hQ, rfl⟩ := hQ
        rcases hQ with ⟨heq887, hv⟩ | ⟨heq887, hv⟩
        · --
          obtain rfl := Option.some.inj hv
          exact absurd heq887 heq873
        · --
          obtain rfl := Option.some.inj hv
          refine k_icY W 332 d_code_327 (by decide) (show (0 : Int32) = (0 : Int32) by decide) ?_
          refine k_aload W d_code_332 rfl rfl ?_
          refine k_aload W d_code_334 rfl rfl ?_
          have f889 := (F0_818.keep K848 nin0)
          have f890 := (F1_818.keep K848 nin0)
          have f891 := (F2_818.keep K848 nin0)
          have f892 := (F3_818.keep K848 nin0)
          have f893 := (FP_818.keep K848 nin0)
          have f894 := (AQ818.keep K848 nin0)
          have ne895 : x818 ≠ x800 := (Ne.symm (Nat.ne_of_lt (Nat.lt_of_lt_of_le X800.lt gx818)))
          have ne896 : q818 ≠ q800 := (Ne.symm (Nat.ne_of_lt (Nat.lt_of_lt_of_le AQ800.lt gq818)))
          have f897 := (X818.keep K848)
          refine k_callV W 0 60 570 (argsL := [(.ref x800)]) (rest := []) (a := x818) (C := "com/example/kourier/kourier/outbox/OutboxEvent") (z0 := (⟨"com/example/kourier/kourier/outbox/OutboxEvent", "equals", "(Ljava/lang/Object;)Z"⟩ : MethodName)) (z := (⟨"com/example/kourier/kourier/outbox/OutboxEvent", "equals", "(Ljava/lang/Object;)Z"⟩ : MethodName)) d_code_336 (w146 hw) (w147 hw) (nfSel (w149 hw)) (w149 hw) (w148 hw) (by decide) (lenOf pd18 rfl) f897 (ct_oeqI l Z a0 hw n0 h848 mr x818 x800 x741 x743 x745 q818 q800 x739 b739 0 0 bs739 [] [] zc (Nat.le_of_ble_eq_true rfl) ne895 ne896 M0 f897 f889 f890 f891 f892 f893 f868 f855 f856 f857 f858 f859 f861 f869.1 f870.1 f871.1 f894 f863 f872 hzc) (w150 hw) (w55 hw) (fun x hx => nomatch hx) rfl (Nat.le_of_eq rfl) (Nat.le_of_ble_eq_true rfl) (Nat.le_of_ble_eq_true rfl) ⟨rfl, Nat.le_of_ble_eq_true rfl⟩ ⟨rfl, Nat.le_of_ble_eq_true rfl⟩ rfl (fun _ _ q => nomatch q.1) fun T h898 v so W hQ => ?_
          obtain ⟨hv, rfl, -⟩ := hQ
          obtain rfl := Option.some.inj hv
          exact k_retN W (t := .boolean) (z' := (1 : Int32)) d_code_339 rfl (by simp) (by decide) [] (fun x hx => nomatch hx) (Nat.le_of_ble_eq_true rfl) (Nat.le_of_ble_eq_true rfl) rfl
    · -- plen 1
      refine k_iload W d_code_114 rfl ?_
      refine k_ifY W 127 d_code_116 (by decide) (show ¬ (1 : Int32) = 0 by decide) ?_
      refine k_iload W d_code_127 rfl ?_
      refine k_iconst W d_code_129 (z := (1 : Int32)) rfl ?_
      refine k_icN W d_code_130 (show ¬ (¬ (1 : Int32) = (1 : Int32)) by decide) ?_
      refine k_iconst W d_code_133 (z := (1 : Int32)) rfl ?_
      refine k_newarrE W 1 13 36 "[B" (by decide) d_code_134 (w25 hw) (by decide) (by decide) ⟨rfl, Nat.le_of_ble_eq_true rfl⟩ ⟨rfl, Nat.le_of_ble_eq_true rfl⟩ fun T h899 a900 g900 W E900 A900 X900 => ?_
      have K900 : Keep h745 h899 [] := keep_ext E900 []
      have A900 : Av Z h899 a900 .byte [(.int (0 : Int32))] := A900
      refine k_dup W d_code_136 rfl ?_
      refine k_iconst W d_code_137 (z := (0 : Int32)) rfl ?_
      refine k_iload W d_code_138 rfl ?_
      refine k_bastore W (z := (i2b p3)) 0 d_code_140 (List.mem_of_getElem? (i := 0) rfl) A900 (by decide) (Nat.le_of_ble_eq_true rfl) (nar_i2b _) (fits_i2b _) fun T h901 W Wr901 A901 => ?_
      have K901 : Keep h899 h901 [a900] := Keep.of_wr Wr901
      have A901 : Av Z h901 a900 .byte [(.int (i2b p3))] := A901
      refine k_astore W d_code_141 rfl (L' := #[.val (.long q0), .second, .val (.long q1), .second, .val (.int p2), .val (.int p3), .val (.int p4), .val (.int z247), .val (.int e1), .val (.int (1 : Int32)), .val (.int e3), .val (.ref x248), .val (.ref x739), .val (.ref x741), .val (.ref x743), .val (.ref x745), .val (.int (i2b p3)), .val (.int (i2b (XT.ushr p3 (8 : Int32)))), .val (.ref a900), .unset, .unset, .unset, .unset, .unset]) rfl ?_
      refine k_goto W 161 d_code_143 (by decide) ?_
      refine k_new W 14 41 d_code_161 (w53 hw) (w54 hw) (w55 hw) ⟨rfl, Nat.le_of_ble_eq_true rfl⟩ ⟨rfl, Nat.le_of_ble_eq_true rfl⟩ fun T h902 a903 g903 W E903 X903 D903 => ?_
      have K903 : Keep h901 h902 [] := keep_ext E903 []
      refine k_dup W d_code_164 rfl ?_
      refine k_aload W d_code_165 rfl rfl ?_
      refine k_aload W d_code_167 rfl rfl ?_
      refine k_aload W d_code_169 rfl rfl ?_
      refine k_aload W d_code_171 rfl rfl ?_
      have ne904 : x741 ≠ a900 := (Nat.ne_of_lt (Nat.lt_of_lt_of_le (Nat.lt_of_lt_of_le S741.1.lt (Nat.le_trans K743.1 K745.1)) (Nat.le_of_eq g900.symm)))
      have ne905 : b741 ≠ a900 := (Nat.ne_of_lt (Nat.lt_of_lt_of_le (Nat.lt_of_lt_of_le S741.2.2.2.lt (Nat.le_trans K743.1 K745.1)) (Nat.le_of_eq g900.symm)))
      have f906 := (((((S741.keep K743 nin0 nin0).keep K745 nin0 nin0).keep K900 nin0 nin0).keep K901 (ninS ne904 nin0) (ninS ne905 nin0)).keep K903 nin0 nin0)
      have ne907 : x743 ≠ a900 := (Nat.ne_of_lt (Nat.lt_of_lt_of_le (Nat.lt_of_lt_of_le S743.1.lt K745.1) (Nat.le_of_eq g900.symm)))
      have ne908 : b743 ≠ a900 := (Nat.ne_of_lt (Nat.lt_of_lt_of_le (Nat.lt_of_lt_of_le S743.2.2.2.lt K745.1) (Nat.le_of_eq g900.symm)))
      have f909 := ((((S743.keep K745 nin0 nin0).keep K900 nin0 nin0).keep K901 (ninS ne907 nin0) (ninS ne908 nin0)).keep K903 nin0 nin0)
      have ne910 : x745 ≠ a900 := (Nat.ne_of_lt (Nat.lt_of_lt_of_le S745.1.lt (Nat.le_of_eq g900.symm)))
      have ne911 : b745 ≠ a900 := (Nat.ne_of_lt (Nat.lt_of_lt_of_le S745.2.2.2.lt (Nat.le_of_eq g900.symm)))
      have f912 := (((S745.keep K900 nin0 nin0).keep K901 (ninS ne910 nin0) (ninS ne911 nin0)).keep K903 nin0 nin0)
      have f913 := (A901.keep K903 nin0)
      have f914 := ((X900.keep K901).keep K903)
      have f915 := (Sta.keep (Sta.keep (Sta.keep (Sta.keep f746 K745 ns0) K900 ns0) K901 (nsS (Av.plain A900) ns0)) K903 ns0)
      have f916 := (Sta.keep (Sta.keep (Sta.keep (Sta.keep (Sta.keep (Sta.keep (Sta.keep (Sta.keep CI K248 ns0) K739 ns0) K741 ns0) K743 ns0) K745 ns0) K900 ns0) K901 (nsS (Av.plain A900) ns0)) K903 ns0)
      have f917 := ((((((((CX.keep K248).keep K739).keep K741).keep K743).keep K745).keep K900).keep K901).keep K903)
      have f918 := (Sta.keep (Sta.keep (Sta.keep (Sta.keep (Sta.keep (Sta.keep (Sta.keep (Sta.keep CA K248 ns0) K739 ns0) K741 ns0) K743 ns0) K745 ns0) K900 ns0) K901 (nsS (Av.plain A900) ns0)) K903 ns0)
      have ne919 : ca ≠ a900 := (Nat.ne_of_lt (Nat.lt_of_lt_of_le (Nat.lt_of_lt_of_le CV.lt (Nat.le_trans (Nat.le_trans (Nat.le_trans (Nat.le_trans K248.1 K739.1) K741.1) K743.1) K745.1)) (Nat.le_of_eq g900.symm)))
      have f920 := ((((((((CV.keep K248 nin0).keep K739 nin0).keep K741 nin0).keep K743 nin0).keep K745 nin0).keep K900 nin0).keep K901 (ninS ne919 nin0)).keep K903 nin0)
      refine k_callI0 W 1 23 160 (argsL := [(.ref x741), (.ref x743), (.ref x745), (.ref a900)]) (rest := [(.ref a903)]) (a := a903) d_code_173 rfl rfl (w56 hw) (w57 hw) (by decide) (lenOf pd25 rfl) (ct_oinit4 l Z a0 hw n0 h902 a903 cd ca x741 b741 x743 b743 x745 b745 a900 bs741 bs743 bs745 [(i2b p3)] zc (Nat.le_of_ble_eq_true rfl) nb741 nb743 nb745 X903 (D903 (Or.inr (w64 hw)) (ty := (.object "java/lang/String")) (by decide)) (D903 (Or.inr (w120 hw)) (ty := (.object "java/lang/String")) (by decide)) (D903 (Or.inr (w123 hw)) (ty := (.object "java/lang/String")) (by decide)) (D903 (Or.inr (w126 hw)) (ty := (.object "java/lang/String")) (by decide)) (D903 (Or.inr (w138 hw)) (ty := (.array .byte)) (by decide)) f906 f909 f912 f913 f914 f915 hzc f916 f917 f918 f920) (w58 hw) (w55 hw) (fun x hx => by simp only [List.mem_cons, List.not_mem_nil, or_false] at hx; rcases hx with rfl; all_goals first | exact (List.mem_of_getElem? (i := 0) rfl)) rfl (Nat.le_of_eq rfl) (Nat.le_of_ble_eq_true rfl) (Nat.le_of_ble_eq_true rfl) ⟨rfl, Nat.le_of_ble_eq_true rfl⟩ ⟨rfl, Nat.le_of_ble_eq_true rfl⟩ rfl (fun _ _ _ q => nomatch q.1) fun T h921 so W hQ => ?_
      obtain ⟨-, K921, F0_921, F1_921, F2_921, F3_921, q921, gq921, FP_921, AQ921, XQ921⟩ := hQ
      have AQ921 : Av Z h921 q921 .byte [(.int (i2b p3))] := AQ921
      refine k_astore W d_code_176 rfl (L' := #[.val (.long q0), .second, .val (.long q1), .second, .val (.int p2), .val (.int p3), .val (.int p4), .val (.int z247), .val (.int e1), .val (.int (1 : Int32)), .val (.int e3), .val (.ref x248), .val (.ref x739), .val (.ref x741), .val (.ref x743), .val (.ref x745), .val (.int (i2b p3)), .val (.int (i2b (XT.ushr p3 (8 : Int32)))), .val (.ref a900), .val (.ref a903), .unset, .unset, .unset, .unset]) rfl ?_
      refine k_aload W d_code_178 rfl rfl ?_
      refine k_aload W d_code_180 rfl rfl ?_
      have ne922 : x248 ≠ a900 := (Nat.ne_of_lt (Nat.lt_of_lt_of_le (Nat.lt_of_lt_of_le S248.1.lt (Nat.le_trans (Nat.le_trans (Nat.le_trans K739.1 K741.1) K743.1) K745.1)) (Nat.le_of_eq g900.symm)))
      have ne923 : b248 ≠ a900 := (Nat.ne_of_lt (Nat.lt_of_lt_of_le (Nat.lt_of_lt_of_le S248.2.2.2.lt (Nat.le_trans (Nat.le_trans (Nat.le_trans K739.1 K741.1) K743.1) K745.1)) (Nat.le_of_eq g900.symm)))
      have ne924 : x248 ≠ a903 := (Nat.ne_of_lt (Nat.lt_of_lt_of_le (Nat.lt_of_lt_of_le S248.1.lt (Nat.le_trans (Nat.le_trans (Nat.le_trans (Nat.le_trans (Nat.le_trans K739.1 K741.1) K743.1) K745.1) E900.1) K901.1)) (Nat.le_of_eq g903.symm)))
      have ne925 : b248 ≠ a903 := (Nat.ne_of_lt (Nat.lt_of_lt_of_le (Nat.lt_of_lt_of_le S248.2.2.2.lt (Nat.le_trans (Nat.le_trans (Nat.le_trans (Nat.le_trans (Nat.le_trans K739.1 K741.1) K743.1) K745.1) E900.1) K901.1)) (Nat.le_of_eq g903.symm)))
      have f926 := ((((((((S248.keep K739 nin0 nin0).keep K741 nin0 nin0).keep K743 nin0 nin0).keep K745 nin0 nin0).keep K900 nin0 nin0).keep K901 (ninS ne922 nin0) (ninS ne923 nin0)).keep K903 nin0 nin0).keep K921 (ninS ne924 nin0) (ninS ne925 nin0))
      have ne927 : x741 ≠ a903 := (Nat.ne_of_lt (Nat.lt_of_lt_of_le (Nat.lt_of_lt_of_le S741.1.lt (Nat.le_trans (Nat.le_trans (Nat.le_trans K743.1 K745.1) E900.1) K901.1)) (Nat.le_of_eq g903.symm)))
      have ne928 : b741 ≠ a903 := (Nat.ne_of_lt (Nat.lt_of_lt_of_le (Nat.lt_of_lt_of_le S741.2.2.2.lt (Nat.le_trans (Nat.le_trans (Nat.le_trans K743.1 K745.1) E900.1) K901.1)) (Nat.le_of_eq g903.symm)))
      have f929 := (f906.keep K921 (ninS ne927 nin0) (ninS ne928 nin0))
      have ne930 : x743 ≠ a903 := (Nat.ne_of_lt (Nat.lt_of_lt_of_le (Nat.lt_of_lt_of_le S743.1.lt (Nat.le_trans (Nat.le_trans K745.1 E900.1) K901.1)) (Nat.le_of_eq g903.symm)))
      have ne931 : b743 ≠ a903 := (Nat.ne_of_lt (Nat.lt_of_lt_of_le (Nat.lt_of_lt_of_le S743.2.2.2.lt (Nat.le_trans (Nat.le_trans K745.1 E900.1) K901.1)) (Nat.le_of_eq g903.symm)))
      have f932 := (f909.keep K921 (ninS ne930 nin0) (ninS ne931 nin0))
      have ne933 : x745 ≠ a903 := (Nat.ne_of_lt (Nat.lt_of_lt_of_le (Nat.lt_of_lt_of_le S745.1.lt (Nat.le_trans E900.1 K901.1)) (Nat.le_of_eq g903.symm)))
      have ne934 : b745 ≠ a903 := (Nat.ne_of_lt (Nat.lt_of_lt_of_le (Nat.lt_of_lt_of_le S745.2.2.2.lt (Nat.le_trans E900.1 K901.1)) (Nat.le_of_eq g903.symm)))
      have f935 := (f912.keep K921 (ninS ne933 nin0) (ninS ne934 nin0))
      have f936 := (Sta.keep f915 K921 (nsS (Exa.plain X903) ns0))
      have f937 := (Sta.keep f916 K921 (nsS (Exa.plain X903) ns0))
      have f938 := (f917.keep K921)
      have f939 := (Sta.keep f918 K921 (nsS (Exa.plain X903) ns0))
      have ne940 : ca ≠ a903 := (Nat.ne_of_lt (Nat.lt_of_lt_of_le (Nat.lt_of_lt_of_le CV.lt (Nat.le_trans (Nat.le_trans (Nat.le_trans (Nat.le_trans (Nat.le_trans (Nat.le_trans K248.1 K739.1) K741.1) K743.1) K745.1) E900.1) K901.1)) (Nat.le_of_eq g903.symm)))
      have f941 := (f920.keep K921 (ninS ne940 nin0))
      have f943 := (X903.keep K921)
      refine k_callV W 0 35 296 (argsL := [(.ref x248)]) (rest := []) (a := a903) (C := "com/example/kourier/kourier/outbox/OutboxEvent") (z0 := (⟨"com/example/kourier/kourier/outbox/OutboxEvent", "withId", "(Ljava/lang/String;)Lcom/example/kourier/kourier/outbox/OutboxEvent;"⟩ : MethodName)) (z := (⟨"com/example/kourier/kourier/outbox/OutboxEvent", "withId", "(Ljava/lang/String;)Lcom/example/kourier/kourier/outbox/OutboxEvent;"⟩ : MethodName)) d_code_182 (w139 hw) (w140 hw) (nfSel (w142 hw)) (w142 hw) (w141 hw) (by decide) (lenOf pd26 rfl) f943 (ct_with l Z a0 hw n0 h921 a903 x248 b248 bs248 .null rfl nb248 cd ca x741 b741 x743 b743 x745 b745 q921 bs741 bs743 bs745 [(i2b p3)] zc (Nat.le_of_ble_eq_true rfl) nb741 nb743 nb745 f943 F0_921 F1_921 F2_921 F3_921 FP_921 f926 f929 f932 f935 AQ921 XQ921 f936 hzc f937 f938 f939 f941) (w143 hw) (w55 hw) (fun x hx => nomatch hx) rfl (Nat.le_of_eq rfl) (Nat.le_of_ble_eq_true rfl) (Nat.le_of_ble_eq_true rfl) ⟨rfl, Nat.le_of_ble_eq_true rfl⟩ ⟨rfl, Nat.le_of_ble_eq_true rfl⟩ rfl (fun _ _ ⟨_, q, _⟩ => nomatch q) fun T h942 v so W hQ => ?_
      obtain ⟨x942, hv, gx942, K942, X942, F0_942, F1_942, F2_942, F3_942, q942, gq942, FP_942, AQ942, XQ942⟩ := hQ
      obtain rfl := Option.some.inj hv
      have AQ942 : Av Z h942 q942 .byte [(.int (i2b p3))] := AQ942
      refine k_astore W d_code_185 rfl (L' := #[.val (.long q0), .second, .val (.long q1), .second, .val (.int p2), .val (.int p3), .val (.int p4), .val (.int z247), .val (.int e1), .val (.int (1 : Int32)), .val (.int e3), .val (.ref x248), .val (.ref x739), .val (.ref x741), .val (.ref x743), .val (.ref x745), .val (.int (i2b p3)), .val (.int (i2b (XT.ushr p3 (8 : Int32)))), .val (.ref a900), .val (.ref a903), .val (.ref x942), .unset, .unset, .unset]) rfl ?_
      refine k_aload W d_code_187 rfl rfl ?_
      refine k_aload W d_code_189 rfl rfl ?_
      have f944 := (F0_921.keep K942 nin0)
      have f945 := (F1_921.keep K942 nin0)
      have f946 := (F2_921.keep K942 nin0)
      have f947 := (F3_921.keep K942 nin0)
      have f948 := (FP_921.keep K942 nin0)
      have ne949 : x739 ≠ a900 := (Nat.ne_of_lt (Nat.lt_of_lt_of_le (Nat.lt_of_lt_of_le S739.1.lt (Nat.le_trans (Nat.le_trans K741.1 K743.1) K745.1)) (Nat.le_of_eq g900.symm)))
      have ne950 : b739 ≠ a900 := (Nat.ne_of_lt (Nat.lt_of_lt_of_le (Nat.lt_of_lt_of_le S739.2.2.2.lt (Nat.le_trans (Nat.le_trans K741.1 K743.1) K745.1)) (Nat.le_of_eq g900.symm)))
      have ne951 : x739 ≠ a903 := (Nat.ne_of_lt (Nat.lt_of_lt_of_le (Nat.lt_of_lt_of_le S739.1.lt (Nat.le_trans (Nat.le_trans (Nat.le_trans (Nat.le_trans K741.1 K743.1) K745.1) E900.1) K901.1)) (Nat.le_of_eq g903.symm)))
      have ne952 : b739 ≠ a903 := (Nat.ne_of_lt (Nat.lt_of_lt_of_le (Nat.lt_of_lt_of_le S739.2.2.2.lt (Nat.le_trans (Nat.le_trans (Nat.le_trans (Nat.le_trans K741.1 K743.1) K745.1) E900.1) K901.1)) (Nat.le_of_eq g903.symm)))
      have f953 := ((((((((S739.keep K741 nin0 nin0).keep K743 nin0 nin0).keep K745 nin0 nin0).keep K900 nin0 nin0).keep K901 (ninS ne949 nin0) (ninS ne950 nin0)).keep K903 nin0 nin0).keep K921 (ninS ne951 nin0) (ninS ne952 nin0)).keep K942 nin0 nin0)
      have f954 := (f929.keep K942 nin0 nin0)
      have f955 := (f932.keep K942 nin0 nin0)
      have f956 := (f935.keep K942 nin0 nin0)
      have f957 := (AQ921.keep K942 nin0)
      have f958 := (XQ921.keep K942)
      have f959 := (Sta.keep f936 K942 ns0)
      have f960 := (Sta.keep f937 K942 ns0)
      have f961 := (f938.keep K942)
      have f962 := (Sta.keep f939 K942 ns0)
      have f963 := (f941.keep K942 nin0)
      have f965 := (f943.keep K942)
      refine k_callV W 0 47 432 (argsL := [(.ref x739)]) (rest := []) (a := a903) (C := "com/example/kourier/kourier/outbox/OutboxEvent") (z0 := (⟨"com/example/kourier/kourier/outbox/OutboxEvent", "withId", "(Ljava/lang/String;)Lcom/example/kourier/kourier/outbox/OutboxEvent;"⟩ : MethodName)) (z := (⟨"com/example/kourier/kourier/outbox/OutboxEvent", "withId", "(Ljava/lang/String;)Lcom/example/kourier/kourier/outbox/OutboxEvent;"⟩ : MethodName)) d_code_191 (w139 hw) (w140 hw) (nfSel (w142 hw)) (w142 hw) (w141 hw) (by decide) (lenOf pd26 rfl) f965 (ct_with l Z a0 hw n0 h942 a903 x739 b739 bs739 .null rfl nb739 cd ca x741 b741 x743 b743 x745 b745 q921 bs741 bs743 bs745 [(i2b p3)] zc (Nat.le_of_ble_eq_true rfl) nb741 nb743 nb745 f965 f944 f945 f946 f947 f948 f953 f954 f955 f956 f957 f958 f959 hzc f960 f961 f962 f963) (w143 hw) (w55 hw) (fun x hx => nomatch hx) rfl (Nat.le_of_eq rfl) (Nat.le_of_ble_eq_true rfl) (Nat.le_of_ble_eq_true rfl) ⟨rfl, Nat.le_of_ble_eq_true rfl⟩ ⟨rfl, Nat.le_of_ble_eq_true rfl⟩ rfl (fun _ _ ⟨_, q, _⟩ => nomatch q) fun T h964 v so W hQ => ?_
      obtain ⟨x964, hv, gx964, K964, X964, F0_964, F1_964, F2_964, F3_964, q964, gq964, FP_964, AQ964, XQ964⟩ := hQ
      obtain rfl := Option.some.inj hv
      have AQ964 : Av Z h964 q964 .byte [(.int (i2b p3))] := AQ964
      refine k_astore W d_code_194 rfl (L' := #[.val (.long q0), .second, .val (.long q1), .second, .val (.int p2), .val (.int p3), .val (.int p4), .val (.int z247), .val (.int e1), .val (.int (1 : Int32)), .val (.int e3), .val (.ref x248), .val (.ref x739), .val (.ref x741), .val (.ref x743), .val (.ref x745), .val (.int (i2b p3)), .val (.int (i2b (XT.ushr p3 (8 : Int32)))), .val (.ref a900), .val (.ref a903), .val (.ref x942), .val (.ref x964), .unset, .unset]) rfl ?_
      refine k_aload W d_code_196 rfl rfl ?_
      refine k_aload W d_code_198 rfl rfl ?_
      have f966 := (F0_942.keep K964 nin0)
      have f967 := (F1_942.keep K964 nin0)
      have f968 := (F2_942.keep K964 nin0)
      have f969 := (F3_942.keep K964 nin0)
      have f970 := (FP_942.keep K964 nin0)
      have f971 := (f953.keep K964 nin0 nin0)
      have f972 := (f954.keep K964 nin0 nin0)
      have f973 := (f955.keep K964 nin0 nin0)
      have f974 := (f956.keep K964 nin0 nin0)
      have f975 := (AQ942.keep K964 nin0)
      have f976 := (XQ942.keep K964)
      have f977 := (Sta.keep f959 K964 ns0)
      have f978 := (Sta.keep f960 K964 ns0)
      have f979 := (f961.keep K964)
      have f980 := (Sta.keep f962 K964 ns0)
      have f981 := (f963.keep K964 nin0)
      have f983 := (X942.keep K964)
      refine k_callV W 0 59 568 (argsL := [(.ref x739)]) (rest := []) (a := x942) (C := "com/example/kourier/kourier/outbox/OutboxEvent") (z0 := (⟨"com/example/kourier/kourier/outbox/OutboxEvent", "withId", "(Ljava/lang/String;)Lcom/example/kourier/kourier/outbox/OutboxEvent;"⟩ : MethodName)) (z := (⟨"com/example/kourier/kourier/outbox/OutboxEvent", "withId", "(Ljava/lang/String;)Lcom/example/kourier/kourier/outbox/OutboxEvent;"⟩ : MethodName)) d_code_200 (w139 hw) (w140 hw) (nfSel (w142 hw)) (w142 hw) (w141 hw) (by decide) (lenOf pd26 rfl) f983 (ct_with l Z a0 hw n0 h964 x942 x739 b739 bs739 (.ref x248) rfl nb739 cd ca x741 b741 x743 b743 x745 b745 q942 bs741 bs743 bs745 [(i2b p3)] zc (Nat.le_of_ble_eq_true rfl) nb741 nb743 nb745 f983 f966 f967 f968 f969 f970 f971 f972 f973 f974 f975 f976 f977 hzc f978 f979 f980 f981) (w143 hw) (w55 hw) (fun x hx => nomatch hx) rfl (Nat.le_of_eq rfl) (Nat.le_of_ble_eq_true rfl) (Nat.le_of_ble_eq_true rfl) ⟨rfl, Nat.le_of_ble_eq_true rfl⟩ ⟨rfl, Nat.le_of_ble_eq_true rfl⟩ rfl (fun _ _ ⟨_, q, _⟩ => nomatch q) fun T h982 v so W hQ => ?_
      obtain ⟨x982, hv, gx982, K982, X982, F0_982, F1_982, F2_982, F3_982, q982, gq982, FP_982, AQ982, XQ982⟩ := hQ
      obtain rfl := Option.some.inj hv
      have AQ982 : Av Z h982 q982 .byte [(.int (i2b p3))] := AQ982
      refine k_astore W d_code_203 rfl (L' := #[.val (.long q0), .second, .val (.long q1), .second, .val (.int p2), .val (.int p3), .val (.int p4), .val (.int z247), .val (.int e1), .val (.int (1 : Int32)), .val (.int e3), .val (.ref x248), .val (.ref x739), .val (.ref x741), .val (.ref x743), .val (.ref x745), .val (.int (i2b p3)), .val (.int (i2b (XT.ushr p3 (8 : Int32)))), .val (.ref a900), .val (.ref a903), .val (.ref x942), .val (.ref x964), .val (.ref x982), .unset]) rfl ?_
      refine k_aload W d_code_205 rfl rfl ?_
      refine k_aload W d_code_207 rfl rfl ?_
      have f984 := (f966.keep K982 nin0)
      have f985 := (f967.keep K982 nin0)
      have f986 := (f968.keep K982 nin0)
      have f987 := (f969.keep K982 nin0)
      have f988 := (f970.keep K982 nin0)
      have f989 := ((f944.keep K964 nin0).keep K982 nin0)
      have f990 := ((f945.keep K964 nin0).keep K982 nin0)
      have f991 := ((f946.keep K964 nin0).keep K982 nin0)
      have f992 := ((f947.keep K964 nin0).keep K982 nin0)
      have f993 := ((f948.keep K964 nin0).keep K982 nin0)
      have f994 := (((f926.keep K942 nin0 nin0).keep K964 nin0 nin0).keep K982 nin0 nin0)
      have f995 := (f975.keep K982 nin0)
      have f996 := ((f957.keep K964 nin0).keep K982 nin0)
      have ne997 : x942 ≠ a903 := (Ne.symm (Nat.ne_of_lt (Nat.lt_of_lt_of_le F0_921.lt gx942)))
      have ne998 : q942 ≠ q921 := (Ne.symm (Nat.ne_of_lt (Nat.lt_of_lt_of_le AQ921.lt gq942)))
      have f999 := (f983.keep K982)
      have f1000 := ((f965.keep K964).keep K982)
      have f1001 := (f972.keep K982 nin0 nin0)
      have f1002 := (f973.keep K982 nin0 nin0)
      have f1003 := (f974.keep K982 nin0 nin0)
      have f1004 := (Sta.keep f977 K982 ns0)
      refine k_callV W 0 59 568 (argsL := [(.ref a903)]) (rest := []) (a := x942) (C := "com/example/kourier/kourier/outbox/OutboxEvent") (z0 := (⟨"com/example/kourier/kourier/outbox/OutboxEvent", "equals", "(Ljava/lang/Object;)Z"⟩ : MethodName)) (z := (⟨"com/example/kourier/kourier/outbox/OutboxEvent", "equals", "(Ljava/lang/Object;)Z"⟩ : MethodName)) d_code_209 (w146 hw) (w147 hw) (nfSel (w149 hw)) (w149 hw) (w148 hw) (by decide) (lenOf pd18 rfl) f999 (ct_oeqZ l Z a0 hw n0 h982 mr x942 a903 x741 x743 x745 q942 q921 x248 b248 0 0 bs248 [] [(i2b p3)] zc (Nat.le_of_ble_eq_true rfl) ne997 ne998 M0 f999 f984 f985 f986 f987 f988 f1000 f989 f990 f991 f992 f993 f994 f1001.1 f1002.1 f1003.1 f995 f996 f1004 hzc) (w150 hw) (w55 hw) (fun x hx => nomatch hx) rfl (Nat.le_of_eq rfl) (Nat.le_of_ble_eq_true rfl) (Nat.le_of_ble_eq_true rfl) ⟨rfl, Nat.le_of_ble_eq_true rfl⟩ ⟨rfl, Nat.le_of_ble_eq_true rfl⟩ rfl (fun _ _ q => nomatch q.1) fun T h1005 v so W hQ => ?_
      obtain ⟨hv, rfl, -⟩ := hQ
      obtain rfl := Option.some.inj hv
      refine k_ifY W 217 d_code_212 (by decide) (show (0 : Int32) = 0 by decide) ?_
      refine k_aload W d_code_217 rfl rfl ?_
      refine k_aload W d_code_219 rfl rfl ?_
      refine k_callV W 1 59 568 (argsL := []) (rest := [(.ref x741)]) (a := x942) (C := "com/example/kourier/kourier/outbox/OutboxEvent") (z0 := (⟨"com/example/kourier/kourier/outbox/OutboxEvent", "destination", "()Ljava/lang/String;"⟩ : MethodName)) (z := (⟨"com/example/kourier/kourier/outbox/OutboxEvent", "destination", "()Ljava/lang/String;"⟩ : MethodName)) d_code_221 (w166 hw) (w167 hw) (nfSel (w169 hw)) (w169 hw) (w168 hw) (by decide) (lenOf pd27 rfl) f999 (ct_destination l Z a0 hw n0 h982 x942 x741 f985) (w170 hw) (w55 hw) (fun x hx => nomatch hx) rfl (Nat.le_of_eq rfl) (Nat.le_of_ble_eq_true rfl) (Nat.le_of_ble_eq_true rfl) ⟨rfl, Nat.le_of_ble_eq_true rfl⟩ ⟨rfl, Nat.le_of_ble_eq_true rfl⟩ rfl (fun _ _ q => nomatch q.1) fun T h1006 v so W hQ => ?_
      obtain ⟨hv, rfl, -⟩ := hQ
      obtain rfl := Option.some.inj hv
      refine k_callV W 0 59 568 (argsL := [(.ref x741)]) (rest := []) (a := x741) (C := "java/lang/String") (z0 := (⟨"java/lang/String", "equals", "(Ljava/lang/Object;)Z"⟩ : MethodName)) (z := (⟨"java/lang/String", "equals", "(Ljava/lang/Object;)Z"⟩ : MethodName)) d_code_224 (w171 hw) (w172 hw) (nfSel (w173 hw)) (w173 hw) (w164 hw) (by decide) (lenOf pd18 rfl) f1001.1 (ct_seqI l Z a0 hw n0 h982 x741) (w165 hw) (w8 hw) (fun x hx => nomatch hx) rfl (Nat.le_of_eq rfl) (Nat.le_of_ble_eq_true rfl) (Nat.le_of_ble_eq_true rfl) ⟨rfl, Nat.le_of_ble_eq_true rfl⟩ ⟨rfl, Nat.le_of_ble_eq_true rfl⟩ rfl (fun _ _ q => nomatch q.1) fun T h1007 v so W hQ => ?_
      obtain ⟨hv, rfl, -⟩ := hQ
      obtain rfl := Option.some.inj hv
      refine k_ifY W 232 d_code_227 (by decide) (show ¬ (1 : Int32) = 0 by decide) ?_
      refine k_aload W d_code_232 rfl rfl ?_
      refine k_aload W d_code_234 rfl rfl ?_
      refine k_callV W 1 59 568 (argsL := []) (rest := [(.ref x743)]) (a := x942) (C := "com/example/kourier/kourier/outbox/OutboxEvent") (z0 := (⟨"com/example/kourier/kourier/outbox/OutboxEvent", "key", "()Ljava/lang/String;"⟩ : MethodName)) (z := (⟨"com/example/kourier/kourier/outbox/OutboxEvent", "key", "()Ljava/lang/String;"⟩ : MethodName)) d_code_236 (w174 hw) (w175 hw) (nfSel (w177 hw)) (w177 hw) (w176 hw) (by decide) (lenOf pd27 rfl) f999 (ct_key l Z a0 hw n0 h982 x942 x743 f986) (w178 hw) (w55 hw) (fun x hx => nomatch hx) rfl (Nat.le_of_eq rfl) (Nat.le_of_ble_eq_true rfl) (Nat.le_of_ble_eq_true rfl) ⟨rfl, Nat.le_of_ble_eq_true rfl⟩ ⟨rfl, Nat.le_of_ble_eq_true rfl⟩ rfl (fun _ _ q => nomatch q.1) fun T h1008 v so W hQ => ?_
      obtain ⟨hv, rfl, -⟩ := hQ
      obtain rfl := Option.some.inj hv
      refine k_callV W 0 59 568 (argsL := [(.ref x743)]) (rest := []) (a := x743) (C := "java/lang/String") (z0 := (⟨"java/lang/String", "equals", "(Ljava/lang/Object;)Z"⟩ : MethodName)) (z := (⟨"java/lang/String", "equals", "(Ljava/lang/Object;)Z"⟩ : MethodName)) d_code_239 (w171 hw) (w172 hw) (nfSel (w173 hw)) (w173 hw) (w164 hw) (by decide) (lenOf pd18 rfl) f1002.1 (ct_seqI l Z a0 hw n0 h982 x743) (w165 hw) (w8 hw) (fun x hx => nomatch hx) rfl (Nat.le_of_eq rfl) (Nat.le_of_ble_eq_true rfl) (Nat.le_of_ble_eq_true rfl) ⟨rfl, Nat.le_of_ble_eq_true rfl⟩ ⟨rfl, Nat.le_of_ble_eq_true rfl⟩ rfl (fun _ _ q => nomatch q.1) fun T h1009 v so W hQ => ?_
      obtain ⟨hv, rfl, -⟩ := hQ
      obtain rfl := Option.some.inj hv
      refine k_ifY W 247 d_code_242 (by decide) (show ¬ (1 : Int32) = 0 by decide) ?_
      refine k_aload W d_code_247 rfl rfl ?_
      refine k_aload W d_code_249 rfl rfl ?_
      refine k_callV W 1 59 568 (argsL := []) (rest := [(.ref x745)]) (a := x942) (C := "com/example/kourier/kourier/outbox/OutboxEvent") (z0 := (⟨"com/example/kourier/kourier/outbox/OutboxEvent", "type", "()Ljava/lang/String;"⟩ : MethodName)) (z := (⟨"com/example/kourier/kourier/outbox/OutboxEvent", "type", "()Ljava/lang/String;"⟩ : MethodName)) d_code_251 (w179 hw) (w180 hw) (nfSel (w182 hw)) (w182 hw) (w181 hw) (by decide) (lenOf pd27 rfl) f999 (ct_type l Z a0 hw n0 h982 x942 x745 f987) (w183 hw) (w55 hw) (fun x hx => nomatch hx) rfl (Nat.le_of_eq rfl) (Nat.le_of_ble_eq_true rfl) (Nat.le_of_ble_eq_true rfl) ⟨rfl, Nat.le_of_ble_eq_true rfl⟩ ⟨rfl, Nat.le_of_ble_eq_true rfl⟩ rfl (fun _ _ q => nomatch q.1) fun T h1010 v so W hQ => ?_
      obtain ⟨hv, rfl, -⟩ := hQ
      obtain rfl := Option.some.inj hv
      refine k_callV W 0 59 568 (argsL := [(.ref x745)]) (rest := []) (a := x745) (C := "java/lang/String") (z0 := (⟨"java/lang/String", "equals", "(Ljava/lang/Object;)Z"⟩ : MethodName)) (z := (⟨"java/lang/String", "equals", "(Ljava/lang/Object;)Z"⟩ : MethodName)) d_code_254 (w171 hw) (w172 hw) (nfSel (w173 hw)) (w173 hw) (w164 hw) (by decide) (lenOf pd18 rfl) f1003.1 (ct_seqI l Z a0 hw n0 h982 x745) (w165 hw) (w8 hw) (fun x hx => nomatch hx) rfl (Nat.le_of_eq rfl) (Nat.le_of_ble_eq_true rfl) (Nat.le_of_ble_eq_true rfl) ⟨rfl, Nat.le_of_ble_eq_true rfl⟩ ⟨rfl, Nat.le_of_ble_eq_true rfl⟩ rfl (fun _ _ q => nomatch q.1) fun T h1011 v so W hQ => ?_
      obtain ⟨hv, rfl, -⟩ := hQ
      obtain rfl := Option.some.inj hv
      refine k_ifY W 262 d_code_257 (by decide) (show ¬ (1 : Int32) = 0 by decide) ?_
      refine k_aload W d_code_262 rfl rfl ?_
      have f1013 := (f976.keep K982)
      refine k_callV W 0 60 571 (argsL := []) (rest := []) (a := x942) (C := "com/example/kourier/kourier/outbox/OutboxEvent") (z0 := (⟨"com/example/kourier/kourier/outbox/OutboxEvent", "payload", "()[B"⟩ : MethodName)) (z := (⟨"com/example/kourier/kourier/outbox/OutboxEvent", "payload", "()[B"⟩ : MethodName)) d_code_264 (w184 hw) (w185 hw) (nfSel (w187 hw)) (w187 hw) (w186 hw) (by decide) (lenOf pd28 rfl) f999 (ct_payload l Z a0 hw n0 h982 x942 q942 [(i2b p3)] (Nat.le_of_ble_eq_true rfl) f988 f995 f1013) (w188 hw) (w55 hw) (fun x hx => nomatch hx) rfl (Nat.le_of_eq rfl) (Nat.le_of_ble_eq_true rfl) (Nat.le_of_ble_eq_true rfl) ⟨rfl, Nat.le_of_ble_eq_true rfl⟩ ⟨rfl, Nat.le_of_ble_eq_true rfl⟩ rfl (fun _ _ ⟨_, q, _⟩ => nomatch q) fun T h1012 v so W hQ => ?_
      obtain ⟨x1012, hv, gx1012, K1012, A1012⟩ := hQ
      obtain rfl := Option.some.inj hv
      have A1012 : Av Z h1012 x1012 .byte [(.int (i2b p3))] := A1012
      refine k_astore W d_code_267 rfl (L' := #[.val (.long q0), .second, .val (.long q1), .second, .val (.int p2), .val (.int p3), .val (.int p4), .val (.int z247), .val (.int e1), .val (.int (1 : Int32)), .val (.int e3), .val (.ref x248), .val (.ref x739), .val (.ref x741), .val (.ref x743), .val (.ref x745), .val (.int (i2b p3)), .val (.int (i2b (XT.ushr p3 (8 : Int32)))), .val (.ref a900), .val (.ref a903), .val (.ref x942), .val (.ref x964), .val (.ref x982), .val (.ref x1012)]) rfl ?_
      refine k_aload W d_code_269 rfl rfl ?_
      refine k_arraylength W (z := (1 : Int32)) d_code_271 A1012 rfl ?_
      refine k_iload W d_code_272 rfl ?_
      refine k_icY W 279 d_code_274 (by decide) (show (1 : Int32) = (1 : Int32) by decide) ?_
      refine k_iload W d_code_279 rfl ?_
      refine k_iconst W d_code_281 (z := (1 : Int32)) rfl ?_
      refine k_icN W d_code_282 (show ¬ ((1 : Int32) < (1 : Int32)) by decide) ?_
      refine k_aload W d_code_285 rfl rfl ?_
      refine k_iconst W d_code_287 (z := (0 : Int32)) rfl ?_
      refine k_baload W (v := (.int (i2b p3))) 0 d_code_288 A1012 (by decide) rfl ?_
      refine k_iload W d_code_289 rfl ?_
      refine k_icY W 296 d_code_291 (by decide) (show (i2b p3) = (i2b p3) from rfl) ?_
      refine k_iload W d_code_296 rfl ?_
      refine k_iconst W d_code_298 (z := (2 : Int32)) rfl ?_
      refine k_icY W 313 d_code_299 (by decide) (show ¬ (1 : Int32) = (2 : Int32) by decide) ?_
      refine k_aload W d_code_313 rfl rfl ?_
      refine k_aload W d_code_315 rfl rfl ?_
      have f1014 := (f984.keep K1012 nin0)
      have f1015 := (f985.keep K1012 nin0)
      have f1016 := (f986.keep K1012 nin0)
      have f1017 := (f987.keep K1012 nin0)
      have f1018 := (f988.keep K1012 nin0)
      have f1019 := ((F0_964.keep K982 nin0).keep K1012 nin0)
      have f1020 := ((F1_964.keep K982 nin0).keep K1012 nin0)
      have f1021 := ((F2_964.keep K982 nin0).keep K1012 nin0)
      have f1022 := ((F3_964.keep K982 nin0).keep K1012 nin0)
      have f1023 := ((FP_964.keep K982 nin0).keep K1012 nin0)
      have f1024 := (f994.keep K1012 nin0 nin0)
      have f1025 := ((f971.keep K982 nin0 nin0).keep K1012 nin0 nin0)
      have f1026 := (f995.keep K1012 nin0)
      have f1027 := ((AQ964.keep K982 nin0).keep K1012 nin0)
      have ne1028 : x942 ≠ x964 := (Nat.ne_of_lt (Nat.lt_of_lt_of_le X942.lt gx964))
      have ne1029 : q942 ≠ q964 := (Nat.ne_of_lt (Nat.lt_of_lt_of_le AQ942.lt gq964))
      have ne1030 : x248 ≠ x739 := (Nat.ne_of_lt (Nat.lt_of_lt_of_le S248.1.lt g739))
      have f1031 := (f999.keep K1012)
      have f1032 := ((X964.keep K982).keep K1012)
      have f1033 := (f1001.keep K1012 nin0 nin0)
      have f1034 := (f1002.keep K1012 nin0 nin0)
      have f1035 := (f1003.keep K1012 nin0 nin0)
      have f1036 := (Sta.keep f1004 K1012 ns0)
      refine k_callV W 0 60 571 (argsL := [(.ref x964)]) (rest := []) (a := x942) (C := "com/example/kourier/kourier/outbox/OutboxEvent") (z0 := (⟨"com/example/kourier/kourier/outbox/OutboxEvent", "equals", "(Ljava/lang/Object;)Z"⟩ : MethodName)) (z := (⟨"com/example/kourier/kourier/outbox/OutboxEvent", "equals", "(Ljava/lang/Object;)Z"⟩ : MethodName)) d_code_317 (w146 hw) (w147 hw) (nfSel (w149 hw)) (w149 hw) (w148 hw) (by decide) (lenOf pd18 rfl) f1031 (ct_oeqD l Z a0 hw n0 h1012 mr x942 x964 x741 x743 x745 q942 q964 x248 b248 x739 b739 bs248 bs739 [(i2b p3)] zc (Nat.le_of_ble_eq_true rfl) ne1028 ne1029 ne1030 M0 f1031 f1014 f1015 f1016 f1017 f1018 f1032 f1019 f1020 f1021 f1022 f1023 f1024 f1025 f1033.1 f1034.1 f1035.1 f1026 f1027 f1036 hzc) (w150 hw) (w55 hw) (fun x hx => nomatch hx) rfl (Nat.le_of_eq rfl) (Nat.le_of_ble_eq_true rfl) (Nat.le_of_ble_eq_true rfl) ⟨rfl, Nat.le_of_ble_eq_true rfl⟩ ⟨rfl, Nat.le_of_ble_eq_true rfl⟩ rfl (fun _ _ q => by rcases q.1 with ⟨_, u⟩ | ⟨_, u⟩ <;> cases u) fun T h1038 v so W hQ => ?_
      obtain ⟨hQ, rfl⟩ := hQ
      rcases hQ with ⟨heq1037, hv⟩ | ⟨heq1037, hv⟩
      · --
        obtain rfl := Option.some.inj hv
        refine k_aload W d_code_320 rfl rfl ?_
        refine k_aload W d_code_322 rfl rfl ?_
        refine k_callV W 1 60 571 (argsL := [(.ref x739)]) (rest := [(.int (1 : Int32))]) (a := x248) (C := "java/lang/String") (z0 := (⟨"java/lang/String", "equals", "(Ljava/lang/Object;)Z"⟩ : MethodName)) (z := (⟨"java/lang/String", "equals", "(Ljava/lang/Object;)Z"⟩ : MethodName)) d_code_324 (w171 hw) (w172 hw) (nfSel (w173 hw)) (w173 hw) (w164 hw) (by decide) (lenOf pd18 rfl) f1024.1 (ct_seq l Z a0 hw n0 h1012 x248 b248 x739 b739 bs248 bs739 zc ne1030 f1024 f1025 f1036 hzc) (w165 hw) (w8 hw) (fun x hx => nomatch hx) rfl (Nat.le_of_eq rfl) (Nat.le_of_ble_eq_true rfl) (Nat.le_of_ble_eq_true rfl) ⟨rfl, Nat.le_of_ble_eq_true rfl⟩ ⟨rfl, Nat.le_of_ble_eq_true rfl⟩ rfl (fun _ _ q => by rcases q.1 with ⟨_, u⟩ | ⟨_, u⟩ <;> cases u) fun T h1040 v so W hQ => ?_
        obtain ⟨hQ, rfl⟩ := hQ
        rcases hQ with ⟨heq1039, hv⟩ | ⟨heq1039, hv⟩
        · --
          obtain rfl := Option.some.inj hv
          refine k_icY W 332 d_code_327 (by decide) (show (1 : Int32) = (1 : Int32) by decide) ?_
          refine k_aload W d_code_332 rfl rfl ?_
          refine k_aload W d_code_334 rfl rfl ?_
          have f1041 := (F0_982.keep K1012 nin0)
          have f1042 := (F1_982.keep K1012 nin0)
          have f1043 := (F2_982.keep K1012 nin0)
          have f1044 := (F3_982.keep K1012 nin0)
          have f1045 := (FP_982.keep K1012 nin0)
          have f1046 := (AQ982.keep K1012 nin0)
          have ne1047 : x982 ≠ x964 := (Ne.symm (Nat.ne_of_lt (Nat.lt_of_lt_of_le X964.lt gx982)))
          have ne1048 : q982 ≠ q964 := (Ne.symm (Nat.ne_of_lt (Nat.lt_of_lt_of_le AQ964.lt gq982)))
          have f1049 := (X982.keep K1012)
          refine k_callV W 0 60 571 (argsL := [(.ref x964)]) (rest := []) (a := x982) (C := "com/example/kourier/kourier/outbox/OutboxEvent") (z0 := (⟨"com/example/kourier/kourier/outbox/OutboxEvent", "equals", "(Ljava/lang/Object;)Z"⟩ : MethodName)) (z := (⟨"com/example/kourier/kourier/outbox/OutboxEvent", "equals", "(Ljava/lang/Object;)Z"⟩ : MethodName)) d_code_336 (w146 hw) (w147 hw) (nfSel (w149 hw)) (w149 hw) (w148 hw) (by decide) (lenOf pd18 rfl) f1049 (ct_oeqI l Z a0 hw n0 h1012 mr x982 x964 x741 x743 x745 q982 q964 x739 b739 0 0 bs739 [] [(i2b p3)] zc (Nat.le_of_ble_eq_true rfl) ne1047 ne1048 M0 f1049 f1041 f1042 f1043 f1044 f1045 f1032 f1019 f1020 f1021 f1022 f1023 f1025 f1033.1 f1034.1 f1035.1 f1046 f1027 f1036 hzc) (w150 hw) (w55 hw) (fun x hx => nomatch hx) rfl (Nat.le_of_eq rfl) (Nat.le_of_ble_eq_true rfl) (Nat.le_of_ble_eq_true rfl) ⟨rfl, Nat.le_of_ble_eq_true rfl⟩ ⟨rfl, Nat.le_of_ble_eq_true rfl⟩ rfl (fun _ _ q => nomatch q.1) fun T h1050 v so W hQ => ?_
          obtain ⟨hv, rfl, -⟩ := hQ
          obtain rfl := Option.some.inj hv
          exact k_retN W (t := .boolean) (z' := (1 : Int32)) d_code_339 rfl (by simp) (by decide) [] (fun x hx => nomatch hx) (Nat.le_of_ble_eq_true rfl) (Nat.le_of_ble_eq_true rfl) rfl
        · --
          obtain rfl := Option.some.inj hv
          exact absurd heq1037 heq1039
      · --
        obtain rfl := Option.some.inj hv
        refine k_aload W d_code_320 rfl rfl ?_
        refine k_aload W d_code_322 rfl rfl ?_
        refine k_callV W 1 60 571 (argsL := [(.ref x739)]) (rest := [(.int (0 : Int32))]) (a := x248) (C := "java/lang/String") (z0 := (⟨"java/lang/String", "equals", "(Ljava/lang/Object;)Z"⟩ : MethodName)) (z := (⟨"java/lang/String", "equals", "(Ljava/lang/Object;)Z"⟩ : MethodName)) d_code_324 (w171 hw) (w172 hw) (nfSel (w173 hw)) (w173 hw) (w164 hw) (by decide) (lenOf pd18 rfl) f1024.1 (ct_seq l Z a0 hw n0 h1012 x248 b248 x739 b739 bs248 bs739 zc ne1030 f1024 f1025 f1036 hzc) (w165 hw) (w8 hw) (fun x hx => nomatch hx) rfl (Nat.le_of_eq rfl) (Nat.le_of_ble_eq_true rfl) (Nat.le_of_ble_eq_true rfl) ⟨rfl, Nat.le_of_ble_eq_true rfl⟩ ⟨rfl, Nat.le_of_ble_eq_true rfl⟩ rfl (fun _ _ q => by rcases q.1 with ⟨_, u⟩ | ⟨_, u⟩ <;> cases u) fun T h1052 v so W hQ => ?_
        obtain ⟨hQ, rfl⟩ := hQ
        rcases hQ with ⟨heq1051, hv⟩ | ⟨heq1051, hv⟩
        · --
          obtain rfl := Option.some.inj hv
          exact absurd heq1051 heq1037
        · --
          obtain rfl := Option.some.inj hv
          refine k_icY W 332 d_code_327 (by decide) (show (0 : Int32) = (0 : Int32) by decide) ?_
          refine k_aload W d_code_332 rfl rfl ?_
          refine k_aload W d_code_334 rfl rfl ?_
          have f1053 := (F0_982.keep K1012 nin0)
          have f1054 := (F1_982.keep K1012 nin0)
          have f1055 := (F2_982.keep K1012 nin0)
          have f1056 := (F3_982.keep K1012 nin0)
          have f1057 := (FP_982.keep K1012 nin0)
          have f1058 := (AQ982.keep K1012 nin0)
          have ne1059 : x982 ≠ x964 := (Ne.symm (Nat.ne_of_lt (Nat.lt_of_lt_of_le X964.lt gx982)))
          have ne1060 : q982 ≠ q964 := (Ne.symm (Nat.ne_of_lt (Nat.lt_of_lt_of_le AQ964.lt gq982)))
          have f1061 := (X982.keep K1012)
          refine k_callV W 0 60 571 (argsL := [(.ref x964)]) (rest := []) (a := x982) (C := "com/example/kourier/kourier/outbox/OutboxEvent") (z0 := (⟨"com/example/kourier/kourier/outbox/OutboxEvent", "equals", "(Ljava/lang/Object;)Z"⟩ : MethodName)) (z := (⟨"com/example/kourier/kourier/outbox/OutboxEvent", "equals", "(Ljava/lang/Object;)Z"⟩ : MethodName)) d_code_336 (w146 hw) (w147 hw) (nfSel (w149 hw)) (w149 hw) (w148 hw) (by decide) (lenOf pd18 rfl) f1061 (ct_oeqI l Z a0 hw n0 h1012 mr x982 x964 x741 x743 x745 q982 q964 x739 b739 0 0 bs739 [] [(i2b p3)] zc (Nat.le_of_ble_eq_true rfl) ne1059 ne1060 M0 f1061 f1053 f1054 f1055 f1056 f1057 f1032 f1019 f1020 f1021 f1022 f1023 f1025 f1033.1 f1034.1 f1035.1 f1058 f1027 f1036 hzc) (w150 hw) (w55 hw) (fun x hx => nomatch hx) rfl (Nat.le_of_eq rfl) (Nat.le_of_ble_eq_true rfl) (Nat.le_of_ble_eq_true rfl) ⟨rfl, Nat.le_of_ble_eq_true rfl⟩ ⟨rfl, Nat.le_of_ble_eq_true rfl⟩ rfl (fun _ _ q => nomatch q.1) fun T h1062 v so W hQ => ?_
          obtain ⟨hv, rfl, -⟩ := hQ
          obtain rfl := Option.some.inj hv
          exact k_retN W (t := .boolean) (z' := (1 : Int32)) d_code_339 rfl (by simp) (by decide) [] (fun x hx => nomatch hx) (Nat.le_of_ble_eq_true rfl) (Nat.le_of_ble_eq_true rfl) rfl
    · -- plen 2
      refine k_iload W d_code_114 rfl ?_
      refine k_ifY W 127 d_code_116 (by decide) (show ¬ (2 : Int32) = 0 by decide) ?_
      refine k_iload W d_code_127 rfl ?_
      refine k_iconst W d_code_129 (z := (1 : Int32)) rfl ?_
      refine k_icY W 146 d_code_130 (by decide) (show ¬ (2 : Int32) = (1 : Int32) by decide) ?_
      refine k_iconst W d_code_146 (z := (2 : Int32)) rfl ?_
      refine k_newarrE W 2 13 37 "[B" (by decide) d_code_147 (w25 hw) (by decide) (by decide) ⟨rfl, Nat.le_of_ble_eq_true rfl⟩ ⟨rfl, Nat.le_of_ble_eq_true rfl⟩ fun T h1063 a1064 g1064 W E1064 A1064 X1064 => ?_
      have K1064 : Keep h745 h1063 [] := keep_ext E1064 []
      have A1064 : Av Z h1063 a1064 .byte [(.int (0 : Int32)), (.int (0 : Int32))] := A1064
      refine k_dup W d_code_149 rfl ?_
      refine k_iconst W d_code_150 (z := (0 : Int32)) rfl ?_
      refine k_iload W d_code_151 rfl ?_
      refine k_bastore W (z := (i2b p3)) 0 d_code_153 (List.mem_of_getElem? (i := 0) rfl) A1064 (by decide) (Nat.le_of_ble_eq_true rfl) (nar_i2b _) (fits_i2b _) fun T h1065 W Wr1065 A1065 => ?_
      have K1065 : Keep h1063 h1065 [a1064] := Keep.of_wr Wr1065
      have A1065 : Av Z h1065 a1064 .byte [(.int (i2b p3)), (.int (0 : Int32))] := A1065
      refine k_dup W d_code_154 rfl ?_
      refine k_iconst W d_code_155 (z := (1 : Int32)) rfl ?_
      refine k_iload W d_code_156 rfl ?_
      refine k_bastore W (z := (i2b (XT.ushr p3 (8 : Int32)))) 1 d_code_158 (List.mem_of_getElem? (i := 0) rfl) A1065 (by decide) (Nat.le_of_ble_eq_true rfl) (nar_i2b _) (fits_i2b _) fun T h1066 W Wr1066 A1066 => ?_
      have K1066 : Keep h1065 h1066 [a1064] := Keep.of_wr Wr1066
      have A1066 : Av Z h1066 a1064 .byte [(.int (i2b p3)), (.int (i2b (XT.ushr p3 (8 : Int32))))] := A1066
      refine k_astore W d_code_159 rfl (L' := #[.val (.long q0), .second, .val (.long q1), .second, .val (.int p2), .val (.int p3), .val (.int p4), .val (.int z247), .val (.int e1), .val (.int (2 : Int32)), .val (.int e3), .val (.ref x248), .val (.ref x739), .val (.ref x741), .val (.ref x743), .val (.ref x745), .val (.int (i2b p3)), .val (.int (i2b (XT.ushr p3 (8 : Int32)))), .val (.ref a1064), .unset, .unset, .unset, .unset, .unset]) rfl ?_
      refine k_new W 14 42 d_code_161 (w53 hw) (w54 hw) (w55 hw) ⟨rfl, Nat.le_of_ble_eq_true rfl⟩ ⟨rfl, Nat.le_of_ble_eq_true rfl⟩ fun T h1067 a1068 g1068 W E1068 X1068 D1068 => ?_
      have K1068 : Keep h1066 h1067 [] := keep_ext E1068 []
      refine k_dup W d_code_164 rfl ?_
      refine k_aload W d_code_165 rfl rfl ?_
      refine k_aload W d_code_167 rfl rfl ?_
      refine k_aload W d_code_169 rfl rfl ?_
      refine k_aload W d_code_171 rfl rfl ?_
      have ne1069 : x741 ≠ a1064 := (Nat.ne_of_lt (Nat.lt_of_lt_of_le (Nat.lt_of_lt_of_le S741.1.lt (Nat.le_trans K743.1 K745.1)) (Nat.le_of_eq g1064.symm)))
      have ne1070 : b741 ≠ a1064 := (Nat.ne_of_lt (Nat.lt_of_lt_of_le (Nat.lt_of_lt_of_le S741.2.2.2.lt (Nat.le_trans K743.1 K745.1)) (Nat.le_of_eq g1064.symm)))
      have f1071 := ((((((S741.keep K743 nin0 nin0).keep K745 nin0 nin0).keep K1064 nin0 nin0).keep K1065 (ninS ne1069 nin0) (ninS ne1070 nin0)).keep K1066 (ninS ne1069 nin0) (ninS ne1070 nin0)).keep K1068 nin0 nin0)
      have ne1072 : x743 ≠ a1064 := (Nat.ne_of_lt (Nat.lt_of_lt_of_le (Nat.lt_of_lt_of_le S743.1.lt K745.1) (Nat.le_of_eq g1064.symm)))
      have ne1073 : b743 ≠ a1064 := (Nat.ne_of_lt (Nat.lt_of_lt_of_le (Nat.lt_of_lt_of_le S743.2.2.2.lt K745.1) (Nat.le_of_eq g1064.symm)))
      have f1074 := (((((S743.keep K745 nin0 nin0).keep K1064 nin0 nin0).keep K1065 (ninS ne1072 nin0) (ninS ne1073 nin0)).keep K1066 (ninS ne1072 nin0) (ninS ne1073 nin0)).keep K1068 nin0 nin0)
      have ne1075 : x745 ≠ a1064 := (Nat.ne_of_lt (Nat.lt_of_lt_of_le S745.1.lt (Nat.le_of_eq g1064.symm)))
      have ne1076 : b745 ≠ a1064 := (Nat.ne_of_lt (Nat.lt_of_lt_of_le S745.2.2.2.lt (Nat.le_of_eq g1064.symm)))
      have f1077 := ((((S745.keep K1064 nin0 nin0).keep K1065 (ninS ne1075 nin0) (ninS ne1076 nin0)).keep K1066 (ninS ne1075 nin0) (ninS ne1076 nin0)).keep K1068 nin0 nin0)
      have f1078 := (A1066.keep K1068 nin0)
      have f1079 := (((X1064.keep K1065).keep K1066).keep K1068)
      have f1080 := (Sta.keep (Sta.keep (Sta.keep (Sta.keep (Sta.keep f746 K745 ns0) K1064 ns0) K1065 (nsS (Av.plain A1064) ns0)) K1066 (nsS (Av.plain A1065) ns0)) K1068 ns0)
      have f1081 := (Sta.keep (Sta.keep (Sta.keep (Sta.keep (Sta.keep (Sta.keep (Sta.keep (Sta.keep (Sta.keep CI K248 ns0) K739 ns0) K741 ns0) K743 ns0) K745 ns0) K1064 ns0) K1065 (nsS (Av.plain A1064) ns0)) K1066 (nsS (Av.plain A1065) ns0)) K1068 ns0)
      have f1082 := (((((((((CX.keep K248).keep K739).keep K741).keep K743).keep K745).keep K1064).keep K1065).keep K1066).keep K1068)
      have f1083 := (Sta.keep (Sta.keep (Sta.keep (Sta.keep (Sta.keep (Sta.keep (Sta.keep (Sta.keep (Sta.keep CA K248 ns0) K739 ns0) K741 ns0) K743 ns0) K745 ns0) K1064 ns0) K1065 (nsS (Av.plain A1064) ns0)) K1066 (nsS (Av.plain A1065) ns0)) K1068 ns0)
      have ne1084 : ca ≠ a1064 := (Nat.ne_of_lt (Nat.lt_of_lt_of_le (Nat.lt_of_lt_of_le CV.lt (Nat.le_trans (Nat.le_trans (Nat.le_trans (Nat.le_trans K248.1 K739.1) K741.1) K743.1) K745.1)) (Nat.le_of_eq g1064.symm)))
      have f1085 := (((((((((CV.keep K248 nin0).keep K739 nin0).keep K741 nin0).keep K743 nin0).keep K745 nin0).keep K1064 nin0).keep K1065 (ninS ne1084 nin0)).keep K1066 (ninS ne1084 nin0)).keep K1068 nin0)
      refine k_callI0 W 1 23 161 (argsL := [(.ref x741), (.ref x743), (.ref x745), (.ref a1064)]) (rest := [(.ref a1068)]) (a := a1068) d_code_173 rfl rfl (w56 hw) (w57 hw) (by decide) (lenOf pd25 rfl) (ct_oinit4 l Z a0 hw n0 h1067 a1068 cd ca x741 b741 x743 b743 x745 b745 a1064 bs741 bs743 bs745 [(i2b p3), (i2b (XT.ushr p3 (8 : Int32)))] zc (Nat.le_of_ble_eq_true rfl) nb741 nb743 nb745 X1068 (D1068 (Or.inr (w64 hw)) (ty := (.object "java/lang/String")) (by decide)) (D1068 (Or.inr (w120 hw)) (ty := (.object "java/lang/String")) (by decide)) (D1068 (Or.inr (w123 hw)) (ty := (.object "java/lang/String")) (by decide)) (D1068 (Or.inr (w126 hw)) (ty := (.object "java/lang/String")) (by decide)) (D1068 (Or.inr (w138 hw)) (ty := (.array .byte)) (by decide)) f1071 f1074 f1077 f1078 f1079 f1080 hzc f1081 f1082 f1083 f1085) (w58 hw) (w55 hw) (fun x hx => by simp only [List.mem_cons, List.not_mem_nil, or_false] at hx; rcases hx with rfl; all_goals first | exact (List.mem_of_getElem? (i := 0) rfl)) rfl (Nat.le_of_eq rfl) (Nat.le_of_ble_eq_true rfl) (Nat.le_of_ble_eq_true rfl) ⟨rfl, Nat.le_of_ble_eq_true rfl⟩ ⟨rfl, Nat.le_of_ble_eq_true rfl⟩ rfl (fun _ _ _ q => nomatch q.1) fun T h1086 so W hQ => ?_
      obtain ⟨-, K1086, F0_1086, F1_1086, F2_1086, F3_1086, q1086, gq1086, FP_1086, AQ1086, XQ1086⟩ := hQ
      have AQ1086 : Av Z h1086 q1086 .byte [(.int (i2b p3)), (.int (i2b (XT.ushr p3 (8 : Int32))))] := AQ1086
      refine k_astore W d_code_176 rfl (L' := #[.val (.long q0), .second, .val (.long q1), .second, .val (.int p2), .val (.int p3), .val (.int p4), .val (.int z247), .val (.int e1), .val (.int (2 : Int32)), .val (.int e3), .val (.ref x248), .val (.ref x739), .val (.ref x741), .val (.ref x743), .val (.ref x745), .val (.int (i2b p3)), .val (.int (i2b (XT.ushr p3 (8 : Int32)))), .val (.ref a1064), .val (.ref a1068), .unset, .unset, .unset, .unset]) rfl ?_
      refine k_aload W d_code_178 rfl rfl ?_
      refine k_aload W d_code_180 rfl rfl ?_
      have ne1087 : x248 ≠ a1064 := (Nat.ne_of_lt (Nat.lt_of_lt_of_le (Nat.lt_of_lt_of_le S248.1.lt (Nat.le_trans (Nat.le_trans (Nat.le_trans K739.1 K741.1) K743.1) K745.1)) (Nat.le_of_eq g1064.symm)))
      have ne1088 : b248 ≠ a1064 := (Nat.ne_of_lt (Nat.lt_of_lt_of_le (Nat.lt_of_lt_of_le S248.2.2.2.lt (Nat.le_trans (Nat.le_trans (Nat.le_trans K739.1 K741.1) K743.1) K745.1)) (Nat.le_of_eq g1064.symm)))
      have ne1089 : x248 ≠ a1068 := (Nat.ne_of_lt (Nat.lt_of_lt_of_le (Nat.lt_of_lt_of_le S248.1.lt (Nat.le_trans (Nat.le_trans (Nat.le_trans (Nat.le_trans (Nat.le_trans (Nat.le_trans K739.1 K741.1) K743.1) K745.1) E1064.1) K1065.1) K1066.1)) (Nat.le_of_eq g1068.symm)))
      have ne1090 : b248 ≠ a1068 := (Nat.ne_of_lt (Nat.lt_of_lt_of_le (Nat.lt_of_lt_of_le S248.2.2.2.lt (Nat.le_trans (Nat.le_trans (Nat.le_trans (Nat.le_trans (Nat.le_trans (Nat.le_trans K739.1 K741.1) K743.1) K745.1) E1064.1) K1065.1) K1066.1)) (Nat.le_of_eq g1068.symm)))
      have f1091 := (((((((((S248.keep K739 nin0 nin0).keep K741 nin0 nin0).keep K743 nin0 nin0).keep K745 nin0 nin0).keep K1064 nin0 nin0).keep K1065 (ninS ne1087 nin0) (ninS ne1088 nin0)).keep K1066 (ninS ne1087 nin0) (ninS ne1088 nin0)).keep K1068 nin0 nin0).keep K1086 (ninS ne1089 nin0) (ninS ne1090 nin0))
      have ne1092 : x741 ≠ a1068 := (Nat.ne_of_lt (Nat.lt_of_lt_of_le (Nat.lt_of_lt_of_le S741.1.lt (Nat.le_trans (Nat.le_trans (Nat.le_trans (Nat.le_trans K743.1 K745.1) E1064.1) K1065.1) K1066.1)) (Nat.le_of_eq g1068.symm)))
      have ne1093 : b741 ≠ a1068 := (Nat.ne_of_lt (Nat.lt_of_lt_of_le (Nat.lt_of_lt_of_le S741.2.2.2.lt (Nat.le_trans (Nat.le_trans (Nat.le_trans (Nat.le_trans K743.1 K745.1) E1064.1) K1065.1) K1066.1)) (Nat.le_of_eq g1068.symm)))
      have f1094 := (f1071.keep K1086 (ninS ne1092 nin0) (ninS ne1093 nin0))
      have ne1095 : x743 ≠ a1068 := (Nat.ne_of_lt (Nat.lt_of_lt_of_le (Nat.lt_of_lt_of_le S743.1.lt (Nat.le_trans (Nat.le_trans (Nat.le_trans K745.1 E1064.1) K1065.1) K1066.1)) (Nat.le_of_eq g1068.symm)))
      have ne1096 : b743 ≠ a1068 := (Nat.ne_of_lt (Nat.lt_of_lt_of_le (Nat.lt_of_lt_of_le S743.2.2.2.lt (Nat.le_trans (Nat.le_trans (Nat.le_trans K745.1 E1064.1) K1065.1) K1066.1)) (Nat.le_of_eq g1068.symm)))
      have f1097 := (f1074.keep K1086 (ninS ne1095 nin0) (ninS ne1096 nin0))
      have ne1098 : x745 ≠ a1068 := (Nat.ne_of_lt (Nat.lt_of_lt_of_le (Nat.lt_of_lt_of_le S745.1.lt (Nat.le_trans (Nat.le_trans E1064.1 K1065.1) K1066.1)) (Nat.le_of_eq g1068.symm)))
      have ne1099 : b745 ≠ a1068 := (Nat.ne_of_lt (Nat.lt_of_lt_of_le (Nat.lt_of_lt_of_le S745.2.2.2.lt (Nat.le_trans (Nat.le_trans E1064.1 K1065.1) K1066.1)) (Nat.le_of_eq g1068.symm)))
      have f1100 := (f1077.keep K1086 (ninS ne1098 nin0) (ninS ne1099 nin0))
      have f1101 := (Sta.keep f1080 K1086 (nsS (Exa.plain X1068) ns0))
      have f1102 := (Sta.keep f1081 K1086 (nsS (Exa.plain X1068) ns0))
      have f1103 := (f1082.keep K1086)
      have f1104 := (Sta.keep f1083 K1086 (nsS (Exa.plain X1068) ns0))
      have ne1105 : ca ≠ a1068 := (Nat.ne_of_lt (Nat.lt_of_lt_of_le (Nat.lt_of_lt_of_le CV.lt (Nat.le_trans (Nat.le_trans (Nat.le_trans (Nat.le_trans (Nat.le_trans (Nat.le_trans (Nat.le_trans K248.1 K739.1) K741.1) K743.1) K745.1) E1064.1) K1065.1) K1066.1)) (Nat.le_of_eq g1068.symm)))
      have f1106 := (f1085.keep K1086 (ninS ne1105 nin0))
      have f1108 := (X1068.keep K1086)
      refine k_callV W 0 35 297 (argsL := [(.ref x248)]) (rest := []) (a := a1068) (C := "com/example/kourier/kourier/outbox/OutboxEvent") (z0 := (⟨"com/example/kourier/kourier/outbox/OutboxEvent", "withId", "(Ljava/lang/String;)Lcom/example/kourier/kourier/outbox/OutboxEvent;"⟩ : MethodName)) (z := (⟨"com/example/kourier/kourier/outbox/OutboxEvent", "withId", "(Ljava/lang/String;)Lcom/example/kourier/kourier/outbox/OutboxEvent;"⟩ : MethodName)) d_code_182 (w139 hw) (w140 hw) (nfSel (w142 hw)) (w142 hw) (w141 hw) (by decide) (lenOf pd26 rfl) f1108 (ct_with l Z a0 hw n0 h1086 a1068 x248 b248 bs248 .null rfl nb248 cd ca x741 b741 x743 b743 x745 b745 q1086 bs741 bs743 bs745 [(i2b p3), (i2b (XT.ushr p3 (8 : Int32)))] zc (Nat.le_of_ble_eq_true rfl) nb741 nb743 nb745 f1108 F0_1086 F1_1086 F2_1086 F3_1086 FP_1086 f1091 f1094 f1097 f1100 AQ1086 XQ1086 f1101 hzc f1102 f1103 f1104 f1106) (w143 hw) (w55 hw) (fun x hx => nomatch hx) rfl (Nat.le_of_eq rfl) (Nat.le_of_ble_eq_true rfl) (Nat.le_of_ble_eq_true rfl) ⟨rfl, Nat.le_of_ble_eq_true rfl⟩ ⟨rfl, Nat.le_of_ble_eq_true rfl⟩ rfl (fun _ _ ⟨_, q, _⟩ => nomatch q) fun T h1107 v so W hQ => ?_
      obtain ⟨x1107, hv, gx1107, K1107, X1107, F0_1107, F1_1107, F2_1107, F3_1107, q1107, gq1107, FP_1107, AQ1107, XQ1107⟩ := hQ
      obtain rfl := Option.some.inj hv
      have AQ1107 : Av Z h1107 q1107 .byte [(.int (i2b p3)), (.int (i2b (XT.ushr p3 (8 : Int32))))] := AQ1107
      refine k_astore W d_code_185 rfl (L' := #[.val (.long q0), .second, .val (.long q1), .second, .val (.int p2), .val (.int p3), .val (.int p4), .val (.int z247), .val (.int e1), .val (.int (2 : Int32)), .val (.int e3), .val (.ref x248), .val (.ref x739), .val (.ref x741), .val (.ref x743), .val (.ref x745), .val (.int (i2b p3)), .val (.int (i2b (XT.ushr p3 (8 : Int32)))), .val (.ref a1064), .val (.ref a1068), .val (.ref x1107), .unset, .unset, .unset]) rfl ?_
      refine k_aload W d_code_187 rfl rfl ?_
      refine k_aload W d_code_189 rfl rfl ?_
      have f1109 := (F0_1086.keep K1107 nin0)
      have f1110 := (F1_1086.keep K1107 nin0)
      have f1111 := (F2_1086.keep K1107 nin0)
      have f1112 := (F3_1086.keep K1107 nin0)
      have f1113 := (FP_1086.keep K1107 nin0)
      have ne1114 : x739 ≠ a1064 := (Nat.ne_of_lt (Nat.lt_of_lt_of_le (Nat.lt_of_lt_of_le S739.1.lt (Nat.le_trans (Nat.le_trans K741.1 K743.1) K745.1)) (Nat.le_of_eq g1064.symm)))
      have ne1115 : b739 ≠ a1064 := (Nat.ne_of_lt (Nat.lt_of_lt_of_le (Nat.lt_of_lt_of_le S739.2.2.2.lt (Nat.le_trans (Nat.le_trans K741.1 K743.1) K745.1)) (Nat.le_of_eq g1064.symm)))
      have ne1116 : x739 ≠ a1068 := (Nat.ne_of_lt (Nat.lt_of_lt_of_le (Nat.lt_of_lt_of_le S739.1.lt (Nat.le_trans (Nat.le_trans (Nat.le_trans (Nat.le_trans (Nat.le_trans K741.1 K743.1) K745.1) E1064.1) K1065.1) K1066.1)) (Nat.le_of_eq g1068.symm)))
      have ne1117 : b739 ≠ a1068 := (Nat.ne_of_lt (Nat.lt_of_lt_of_le (Nat.lt_of_lt_of_le S739.2.2.2.lt (Nat.le_trans (Nat.le_trans (Nat.le_trans (Nat.le_trans (Nat.le_trans K741.1 K743.1) K745.1) E1064.1) K1065.1) K1066.1)) (Nat.le_of_eq g1068.symm)))
      have f1118 := (((((((((S739.keep K741 nin0 nin0).keep K743 nin0 nin0).keep K745 nin0 nin0).keep K1064 nin0 nin0).keep K1065 (ninS ne1114 nin0) (ninS ne1115 nin0)).keep K1066 (ninS ne1114 nin0) (ninS ne1115 nin0)).keep K1068 nin0 nin0).keep K1086 (ninS ne1116 nin0) (ninS ne1117 nin0)).keep K1107 nin0 nin0)
      have f1119 := (f1094.keep K1107 nin0 nin0)
      have f1120 := (f1097.keep K1107 nin0 nin0)
      have f1121 := (f1100.keep K1107 nin0 nin0)
      have f1122 := (AQ1086.keep K1107 nin0)
      have f1123 := (XQ1086.keep K1107)
      have f1124 := (Sta.keep f1101 K1107 ns0)
      have f1125 := (Sta.keep f1102 K1107 ns0)
      have f1126 := (f1103.keep K1107)
      have f1127 := (Sta.keep f1104 K1107 ns0)
      have f1128 := (f1106.keep K1107 nin0)
      have f1130 := (f1108.keep K1107)
      refine k_callV W 0 47 433 (argsL := [(.ref x739)]) (rest := []) (a := a1068) (C := "com/example/kourier/kourier/outbox/OutboxEvent") (z0 := (⟨"com/example/kourier/kourier/outbox/OutboxEvent", "withId", "(Ljava/lang/String;)Lcom/example/kourier/kourier/outbox/OutboxEvent;"⟩ : MethodName)) (z := (⟨"com/example/kourier/kourier/outbox/OutboxEvent", "withId", "(Ljava/lang/String;)Lcom/example/kourier/kourier/outbox/OutboxEvent;"⟩ : MethodName)) d_code_191 (w139 hw) (w140 hw) (nfSel (w142 hw)) (w142 hw) (w141 hw) (by decide) (lenOf pd26 rfl) f1130 (ct_with l Z a0 hw n0 h1107 a1068 x739 b739 bs739 .null rfl nb739 cd ca x741 b741 x743 b743 x745 b745 q1086 bs741 bs743 bs745 [(i2b p3), (i2b (XT.ushr p3 (8 : Int32)))] zc (Nat.le_of_ble_eq_true rfl) nb741 nb743 nb745 f1130 f1109 f1110 f1111 f1112 f1113 f1118 f1119 f1120 f1121 f1122 f1123 f1124 hzc f1125 f1126 f1127 f1128) (w143 hw) (w55 hw) (fun x hx => nomatch hx) rfl (Nat.le_of_eq rfl) (Nat.le_of_ble_eq_true rfl) (Nat.le_of_ble_eq_true rfl) ⟨rfl, Nat.le_of_ble_eq_true rfl⟩ ⟨rfl, Nat.le_of_ble_eq_true rfl⟩ rfl (fun _ _ ⟨_, q, _⟩ => nomatch q) fun T h1129 v so W hQ => ?_
      obtain ⟨x1129, hv, gx1129, K1129, X1129, F0_1129, F1_1129, F2_1129, F3_1129, q1129, gq1129, FP_1129, AQ1129, XQ1129⟩ := hQ
      obtain rfl := Option.some.inj hv
      have AQ1129 : Av Z h1129 q1129 .byte [(.int (i2b p3)), (.int (i2b (XT.ushr p3 (8 : Int32))))] := AQ1129
      refine k_astore W d_code_194 rfl (L' := #[.val (.long q0), .second, .val (.long q1), .second, .val (.int p2), .val (.int p3), .val (.int p4), .val (.int z247), .val (.int e1), .val (.int (2 : Int32)), .val (.int e3), .val (.ref x248), .val (.ref x739), .val (.ref x741), .val (.ref x743), .val (.ref x745), .val (.int (i2b p3)), .val (.int (i2b (XT.ushr p3 (8 : Int32)))), .val (.ref a1064), .val (.ref a1068), .val (.ref x1107), .val (.ref x1129), .unset, .unset]) rfl ?_
      refine k_aload W d_code_196 rfl rfl ?_
      refine k_aload W d_code_198 rfl rfl ?_
      have f1131 := (F0_1107.keep K1129 nin0)
      have f1132 := (F1_1107.keep K1129 nin0)
      have f1133 := (F2_1107.keep K1129 nin0)
      have f1134 := (F3_1107.keep K1129 nin0)
      have f1135 := (FP_1107.keep K1129 nin0)
      have f1136 := (f1118.keep K1129 nin0 nin0)
      have f1137 := (f1119.keep K1129 nin0 nin0)
      have f1138 := (f1120.keep K1129 nin0 nin0)
      have f1139 := (f1121.keep K1129 nin0 nin0)
      have f1140 := (AQ1107.keep K1129 nin0)
      have f1141 := (XQ1107.keep K1129)
      have f1142 := (Sta.keep f1124 K1129 ns0)
      have f1143 := (Sta.keep f1125 K1129 ns0)
      have f1144 := (f1126.keep K1129)
      have f1145 := (Sta.keep f1127 K1129 ns0)
      have f1146 := (f1128.keep K1129 nin0)
      have f1148 := (X1107.keep K1129)
      refine k_callV W 0 59 569 (argsL := [(.ref x739)]) (rest := []) (a := x1107) (C := "com/example/kourier/kourier/outbox/OutboxEvent") (z0 := (⟨"com/example/kourier/kourier/outbox/OutboxEvent", "withId", "(Ljava/lang/String;)Lcom/example/kourier/kourier/outbox/OutboxEvent;"⟩ : MethodName)) (z := (⟨"com/example/kourier/kourier/outbox/OutboxEvent", "withId", "(Ljava/lang/String;)Lcom/example/kourier/kourier/outbox/OutboxEvent;"⟩ : MethodName)) d_code_200 (w139 hw) (w140 hw) (nfSel (w142 hw)) (w142 hw) (w141 hw) (by decide) (lenOf pd26 rfl) f1148 (ct_with l Z a0 hw n0 h1129 x1107 x739 b739 bs739 (.ref x248) rfl nb739 cd ca x741 b741 x743 b743 x745 b745 q1107 bs741 bs743 bs745 [(i2b p3), (i2b (XT.ushr p3 (8 : Int32)))] zc (Nat.le_of_ble_eq_true rfl) nb741 nb743 nb745 f1148 f1131 f1132 f1133 f1134 f1135 f1136 f1137 f1138 f1139 f1140 f1141 f1142 hzc f1143 f1144 f1145 f1146) (w143 hw) (w55 hw) (fun x hx => nomatch hx) rfl (Nat.le_of_eq rfl) (Nat.le_of_ble_eq_true rfl) (Nat.le_of_ble_eq_true rfl) ⟨rfl, Nat.le_of_ble_eq_true rfl⟩ ⟨rfl, Nat.le_of_ble_eq_true rfl⟩ rfl (fun _ _ ⟨_, q, _⟩ => nomatch q) fun T h1147 v so W hQ => ?_
      obtain ⟨x1147, hv, gx1147, K1147, X1147, F0_1147, F1_1147, F2_1147, F3_1147, q1147, gq1147, FP_1147, AQ1147, XQ1147⟩ := hQ
      obtain rfl := Option.some.inj hv
      have AQ1147 : Av Z h1147 q1147 .byte [(.int (i2b p3)), (.int (i2b (XT.ushr p3 (8 : Int32))))] := AQ1147
      refine k_astore W d_code_203 rfl (L' := #[.val (.long q0), .second, .val (.long q1), .second, .val (.int p2), .val (.int p3), .val (.int p4), .val (.int z247), .val (.int e1), .val (.int (2 : Int32)), .val (.int e3), .val (.ref x248), .val (.ref x739), .val (.ref x741), .val (.ref x743), .val (.ref x745), .val (.int (i2b p3)), .val (.int (i2b (XT.ushr p3 (8 : Int32)))), .val (.ref a1064), .val (.ref a1068), .val (.ref x1107), .val (.ref x1129), .val (.ref x1147), .unset]) rfl ?_
      refine k_aload W d_code_205 rfl rfl ?_
      refine k_aload W d_code_207 rfl rfl ?_
      have f1149 := (f1131.keep K1147 nin0)
      have f1150 := (f1132.keep K1147 nin0)
      have f1151 := (f1133.keep K1147 nin0)
      have f1152 := (f1134.keep K1147 nin0)
      have f1153 := (f1135.keep K1147 nin0)
      have f1154 := ((f1109.keep K1129 nin0).keep K1147 nin0)
      have f1155 := ((f1110.keep K1129 nin0).keep K1147 nin0)
      have f1156 := ((f1111.keep K1129 nin0).keep K1147 nin0)
      have f1157 := ((f1112.keep K1129 nin0).keep K1147 nin0)
      have f1158 := ((f1113.keep K1129 nin0).keep K1147 nin0)
      have f1159 := (((f1091.keep K1107 nin0 nin0).keep K1129 nin0 nin0).keep K1147 nin0 nin0)
      have f1160 := (f1140.keep K1147 nin0)
      have f1161 := ((f1122.keep K1129 nin0).keep K1147 nin0)
      have ne1162 : x1107 ≠ a1068 := (Ne.symm (Nat.ne_of_lt (Nat.lt_of_lt_of_le F0_1086.lt gx1107)))
      have ne1163 : q1107 ≠ q1086 := (Ne.symm (Nat.ne_of_lt (Nat.lt_of_lt_of_le AQ1086.lt gq1107)))
      have f1164 := (f1148.keep K1147)
      have f1165 := ((f1130.keep K1129).keep K1147)
      have f1166 := (f1137.keep K1147 nin0 nin0)
      have f1167 := (f1138.keep K1147 nin0 nin0)
      have f1168 := (f1139.keep K1147 nin0 nin0)
      have f1169 := (Sta.keep f1142 K1147 ns0)
      refine k_callV W 0 59 569 (argsL := [(.ref a1068)]) (rest := []) (a := x1107) (C := "com/example/kourier/kourier/outbox/OutboxEvent") (z0 := (⟨"com/example/kourier/kourier/outbox/OutboxEvent", "equals", "(Ljava/lang/Object;)Z"⟩ : MethodName)) (z := (⟨"com/example/kourier/kourier/outbox/OutboxEvent", "equals", "(Ljava/lang/Object;)Z"⟩ : MethodName)) d_code_209 (w146 hw) (w147 hw) (nfSel (w149 hw)) (w149 hw) (w148 hw) (by decide) (lenOf pd18 rfl) f1164 (ct_oeqZ l Z a0 hw n0 h1147 mr x1107 a1068 x741 x743 x745 q1107 q1086 x248 b248 0 0 bs248 [] [(i2b p3), (i2b (XT.ushr p3 (8 : Int32)))] zc (Nat.le_of_ble_eq_true rfl) ne1162 ne1163 M0 f1164 f1149 f1150 f1151 f1152 f1153 f1165 f1154 f1155 f1156 f1157 f1158 f1159 f1166.1 f1167.1 f1168.1 f1160 f1161 f1169 hzc) (w150 hw) (w55 hw) (fun x hx => nomatch hx) rfl (Nat.le_of_eq rfl) (Nat.le_of_ble_eq_true rfl) (Nat.le_of_ble_eq_true rfl) ⟨rfl, Nat.le_of_ble_eq_true rfl⟩ ⟨rfl, Nat.le_of_ble_eq_true rfl⟩ rfl (fun _ _ q => nomatch q.1) fun T h1170 v so W hQ => ?_
      obtain ⟨hv, rfl, -⟩ := hQ
      obtain rfl := Option.some.inj hv
      refine k_ifY W 217 d_code_212 (by decide) (show (0 : Int32) = 0 by decide) ?_
      refine k_aload W d_code_217 rfl rfl ?_
      refine k_aload W d_code_219 rfl rfl ?_
      refine k_callV W 1 59 569 (argsL := []) (rest := [(.ref x741)]) (a := x1107) (C := "com/example/kourier/kourier/outbox/OutboxEvent") (z0 := (⟨"com/example/kourier/kourier/outbox/OutboxEvent", "destination", "()Ljava/lang/String;"⟩ : MethodName)) (z := (⟨"com/example/kourier/kourier/outbox/OutboxEvent", "destination", "()Ljava/lang/String;"⟩ : MethodName)) d_code_221 (w166 hw) (w167 hw) (nfSel (w169 hw)) (w169 hw) (w168 hw) (by decide) (lenOf pd27 rfl) f1164 (ct_destination l Z a0 hw n0 h1147 x1107 x741 f1150) (w170 hw) (w55 hw) (fun x hx => nomatch hx) rfl (Nat.le_of_eq rfl) (Nat.le_of_ble_eq_true rfl) (Nat.le_of_ble_eq_true rfl) ⟨rfl, Nat.le_of_ble_eq_true rfl⟩ ⟨rfl, Nat.le_of_ble_eq_true rfl⟩ rfl (fun _ _ q => nomatch q.1) fun T h1171 v so W hQ => ?_
      obtain ⟨hv, rfl, -⟩ := hQ
      obtain rfl := Option.some.inj hv
      refine k_callV W 0 59 569 (argsL := [(.ref x741)]) (rest := []) (a := x741) (C := "java/lang/String") (z0 := (⟨"java/lang/String", "equals", "(Ljava/lang/Object;)Z"⟩ : MethodName)) (z := (⟨"java/lang/String", "equals", "(Ljava/lang/Object;)Z"⟩ : MethodName)) d_code_224 (w171 hw) (w172 hw) (nfSel (w173 hw)) (w173 hw) (w164 hw) (by decide) (lenOf pd18 rfl) f1166.1 (ct_seqI l Z a0 hw n0 h1147 x741) (w165 hw) (w8 hw) (fun x hx => nomatch hx) rfl (Nat.le_of_eq rfl) (Nat.le_of_ble_eq_true rfl) (Nat.le_of_ble_eq_true rfl) ⟨rfl, Nat.le_of_ble_eq_true rfl⟩ ⟨rfl, Nat.le_of_ble_eq_true rfl⟩ rfl (fun _ _ q => nomatch q.1) fun T h1172 v so W hQ => ?_
      obtain ⟨hv, rfl, -⟩ := hQ
      obtain rfl := Option.some.inj hv
      refine k_ifY W 232 d_code_227 (by decide) (show ¬ (1 : Int32) = 0 by decide) ?_
      refine k_aload W d_code_232 rfl rfl ?_
      refine k_aload W d_code_234 rfl rfl ?_
      refine k_callV W 1 59 569 (argsL := []) (rest := [(.ref x743)]) (a := x1107) (C := "com/example/kourier/kourier/outbox/OutboxEvent") (z0 := (⟨"com/example/kourier/kourier/outbox/OutboxEvent", "key", "()Ljava/lang/String;"⟩ : MethodName)) (z := (⟨"com/example/kourier/kourier/outbox/OutboxEvent", "key", "()Ljava/lang/String;"⟩ : MethodName)) d_code_236 (w174 hw) (w175 hw) (nfSel (w177 hw)) (w177 hw) (w176 hw) (by decide) (lenOf pd27 rfl) f1164 (ct_key l Z a0 hw n0 h1147 x1107 x743 f1151) (w178 hw) (w55 hw) (fun x hx => nomatch hx) rfl (Nat.le_of_eq rfl) (Nat.le_of_ble_eq_true rfl) (Nat.le_of_ble_eq_true rfl) ⟨rfl, Nat.le_of_ble_eq_true rfl⟩ ⟨rfl, Nat.le_of_ble_eq_true rfl⟩ rfl (fun _ _ q => nomatch q.1) fun T h1173 v so W hQ => ?_
      obtain ⟨hv, rfl, -⟩ := hQ
      obtain rfl := Option.some.inj hv
      refine k_callV W 0 59 569 (argsL := [(.ref x743)]) (rest := []) (a := x743) (C := "java/lang/String") (z0 := (⟨"java/lang/String", "equals", "(Ljava/lang/Object;)Z"⟩ : MethodName)) (z := (⟨"java/lang/String", "equals", "(Ljava/lang/Object;)Z"⟩ : MethodName)) d_code_239 (w171 hw) (w172 hw) (nfSel (w173 hw)) (w173 hw) (w164 hw) (by decide) (lenOf pd18 rfl) f1167.1 (ct_seqI l Z a0 hw n0 h1147 x743) (w165 hw) (w8 hw) (fun x hx => nomatch hx) rfl (Nat.le_of_eq rfl) (Nat.le_of_ble_eq_true rfl) (Nat.le_of_ble_eq_true rfl) ⟨rfl, Nat.le_of_ble_eq_true rfl⟩ ⟨rfl, Nat.le_of_ble_eq_true rfl⟩ rfl (fun _ _ q => nomatch q.1) fun T h1174 v so W hQ => ?_
      obtain ⟨hv, rfl, -⟩ := hQ
      obtain rfl := Option.some.inj hv
      refine k_ifY W 247 d_code_242 (by decide) (show ¬ (1 : Int32) = 0 by decide) ?_
      refine k_aload W d_code_247 rfl rfl ?_
      refine k_aload W d_code_249 rfl rfl ?_
      refine k_callV W 1 59 569 (argsL := []) (rest := [(.ref x745)]) (a := x1107) (C := "com/example/kourier/kourier/outbox/OutboxEvent") (z0 := (⟨"com/example/kourier/kourier/outbox/OutboxEvent", "type", "()Ljava/lang/String;"⟩ : MethodName)) (z := (⟨"com/example/kourier/kourier/outbox/OutboxEvent", "type", "()Ljava/lang/String;"⟩ : MethodName)) d_code_251 (w179 hw) (w180 hw) (nfSel (w182 hw)) (w182 hw) (w181 hw) (by decide) (lenOf pd27 rfl) f1164 (ct_type l Z a0 hw n0 h1147 x1107 x745 f1152) (w183 hw) (w55 hw) (fun x hx => nomatch hx) rfl (Nat.le_of_eq rfl) (Nat.le_of_ble_eq_true rfl) (Nat.le_of_ble_eq_true rfl) ⟨rfl, Nat.le_of_ble_eq_true rfl⟩ ⟨rfl, Nat.le_of_ble_eq_true rfl⟩ rfl (fun _ _ q => nomatch q.1) fun T h1175 v so W hQ => ?_
      obtain ⟨hv, rfl, -⟩ := hQ
      obtain rfl := Option.some.inj hv
      refine k_callV W 0 59 569 (argsL := [(.ref x745)]) (rest := []) (a := x745) (C := "java/lang/String") (z0 := (⟨"java/lang/String", "equals", "(Ljava/lang/Object;)Z"⟩ : MethodName)) (z := (⟨"java/lang/String", "equals", "(Ljava/lang/Object;)Z"⟩ : MethodName)) d_code_254 (w171 hw) (w172 hw) (nfSel (w173 hw)) (w173 hw) (w164 hw) (by decide) (lenOf pd18 rfl) f1168.1 (ct_seqI l Z a0 hw n0 h1147 x745) (w165 hw) (w8 hw) (fun x hx => nomatch hx) rfl (Nat.le_of_eq rfl) (Nat.le_of_ble_eq_true rfl) (Nat.le_of_ble_eq_true rfl) ⟨rfl, Nat.le_of_ble_eq_true rfl⟩ ⟨rfl, Nat.le_of_ble_eq_true rfl⟩ rfl (fun _ _ q => nomatch q.1) fun T h1176 v so W hQ => ?_
      obtain ⟨hv, rfl, -⟩ := hQ
      obtain rfl := Option.some.inj hv
      refine k_ifY W 262 d_code_257 (by decide) (show ¬ (1 : Int32) = 0 by decide) ?_
      refine k_aload W d_code_262 rfl rfl ?_
      have f1178 := (f1141.keep K1147)
      refine k_callV W 0 60 572 (argsL := []) (rest := []) (a := x1107) (C := "com/example/kourier/kourier/outbox/OutboxEvent") (z0 := (⟨"com/example/kourier/kourier/outbox/OutboxEvent", "payload", "()[B"⟩ : MethodName)) (z := (⟨"com/example/kourier/kourier/outbox/OutboxEvent", "payload", "()[B"⟩ : MethodName)) d_code_264 (w184 hw) (w185 hw) (nfSel (w187 hw)) (w187 hw) (w186 hw) (by decide) (lenOf pd28 rfl) f1164 (ct_payload l Z a0 hw n0 h1147 x1107 q1107 [(i2b p3), (i2b (XT.ushr p3 (8 : Int32)))] (Nat.le_of_ble_eq_true rfl) f1153 f1160 f1178) (w188 hw) (w55 hw) (fun x hx => nomatch hx) rfl (Nat.le_of_eq rfl) (Nat.le_of_ble_eq_true rfl) (Nat.le_of_ble_eq_true rfl) ⟨rfl, Nat.le_of_ble_eq_true rfl⟩ ⟨rfl, Nat.le_of_ble_eq_true rfl⟩ rfl (fun _ _ ⟨_, q, _⟩ => nomatch q) fun T h1177 v so W hQ => ?_
      obtain ⟨x1177, hv, gx1177, K1177, A1177⟩ := hQ
      obtain rfl := Option.some.inj hv
      have A1177 : Av Z h1177 x1177 .byte [(.int (i2b p3)), (.int (i2b (XT.ushr p3 (8 : Int32))))] := A1177
      refine k_astore W d_code_267 rfl (L' := #[.val (.long q0), .second, .val (.long q1), .second, .val (.int p2), .val (.int p3), .val (.int p4), .val (.int z247), .val (.int e1), .val (.int (2 : Int32)), .val (.int e3), .val (.ref x248), .val (.ref x739), .val (.ref x741), .val (.ref x743), .val (.ref x745), .val (.int (i2b p3)), .val (.int (i2b (XT.ushr p3 (8 : Int32)))), .val (.ref a1064), .val (.ref a1068), .val (.ref x1107), .val (.ref x1129), .val (.ref x1147), .val (.ref x1177)]) rfl ?_
      refine k_aload W d_code_269 rfl rfl ?_
      refine k_arraylength W (z := (2 : Int32)) d_code_271 A1177 rfl ?_
      refine k_iload W d_code_272 rfl ?_
      refine k_icY W 279 d_code_274 (by decide) (show (2 : Int32) = (2 : Int32) by decide) ?_
      refine k_iload W d_code_279 rfl ?_
      refine k_iconst W d_code_281 (z := (1 : Int32)) rfl ?_
      refine k_icN W d_code_282 (show ¬ ((2 : Int32) < (1 : Int32)) by decide) ?_
      refine k_aload W d_code_285 rfl rfl ?_
      refine k_iconst W d_code_287 (z := (0 : Int32)) rfl ?_
      refine k_baload W (v := (.int (i2b p3))) 0 d_code_288 A1177 (by decide) rfl ?_
      refine k_iload W d_code_289 rfl ?_
      refine k_icY W 296 d_code_291 (by decide) (show (i2b p3) = (i2b p3) from rfl) ?_
      refine k_iload W d_code_296 rfl ?_
      refine k_iconst W d_code_298 (z := (2 : Int32)) rfl ?_
      refine k_icN W d_code_299 (show ¬ (¬ (2 : Int32) = (2 : Int32)) by decide) ?_
      refine k_aload W d_code_302 rfl rfl ?_
      refine k_iconst W d_code_304 (z := (1 : Int32)) rfl ?_
      refine k_baload W (v := (.int (i2b (XT.ushr p3 (8 : Int32))))) 1 d_code_305 A1177 (by decide) rfl ?_
      refine k_iload W d_code_306 rfl ?_
      refine k_icY W 313 d_code_308 (by decide) (show (i2b (XT.ushr p3 (8 : Int32))) = (i2b (XT.ushr p3 (8 : Int32))) from rfl) ?_
      refine k_aload W d_code_313 rfl rfl ?_
      refine k_aload W d_code_315 rfl rfl ?_
      have f1179 := (f1149.keep K1177 nin0)
      have f1180 := (f1150.keep K1177 nin0)
      have f1181 := (f1151.keep K1177 nin0)
      have f1182 := (f1152.keep K1177 nin0)
      have f1183 := (f1153.keep K1177 nin0)
      have f1184 := ((F0_1129.keep K1147 nin0).keep K1177 nin0)
      have f1185 := ((F1_1129.keep K1147 nin0).keep K1177 nin0)
      have f1186 := ((F2_1129.keep K1147 nin0).keep K1177 nin0)
      have f1187 := ((F3_1129.keep K1147 nin0).keep K1177 nin0)
      have f1188 := ((FP_1129.keep K1147 nin0).keep K1177 nin0)
      have f1189 := (f1159.keep K1177 nin0 nin0)
      have f1190 := ((f1136.keep K1147 nin0 nin0).keep K1177 nin0 nin0)
      have f1191 := (f1160.keep K1177 nin0)
      have f1192 := ((AQ1129.keep K1147 nin0).keep K1177 nin0)
      have ne1193 : x1107 ≠ x1129 := (Nat.ne_of_lt (Nat.lt_of_lt_of_le X1107.lt gx1129))
      have ne1194 : q1107 ≠ q1129 := (Nat.ne_of_lt (Nat.lt_of_lt_of_le AQ1107.lt gq1129))
      have ne1195 : x248 ≠ x739 := (Nat.ne_of_lt (Nat.lt_of_lt_of_le S248.1.lt g739))
      have f1196 := (f1164.keep K1177)
      have f1197 := ((X1129.keep K1147).keep K1177)
      have f1198 := (f1166.keep K1177 nin0 nin0)
      have f1199 := (f1167.keep K1177 nin0 nin0)
      have f1200 := (f1168.keep K1177 nin0 nin0)
      have f1201 := (Sta.keep f1169 K1177 ns0)
      refine k_callV W 0 60 572 (argsL := [(.ref x1129)]) (rest := []) (a := x1107) (C := "com/example/kourier/kourier/outbox/OutboxEvent") (z0 := (⟨"com/example/kourier/kourier/outbox/OutboxEvent", "equals", "(Ljava/lang/Object;)Z"⟩ : MethodName)) (z := (⟨"com/example/kourier/kourier/outbox/OutboxEvent", "equals", "(Ljava/lang/Object;)Z"⟩ : MethodName)) d_code_317 (w146 hw) (w147 hw) (nfSel (w149 hw)) (w149 hw) (w148 hw) (by decide) (lenOf pd18 rfl) f1196 (ct_oeqD l Z a0 hw n0 h1177 mr x1107 x1129 x741 x743 x745 q1107 q1129 x248 b248 x739 b739 bs248 bs739 [(i2b p3), (i2b (XT.ushr p3 (8 : Int32)))] zc (Nat.le_of_ble_eq_true rfl) ne1193 ne1194 ne1195 M0 f1196 f1179 f1180 f1181 f1182 f1183 f1197 f1184 f1185 f1186 f1187 f1188 f1189 f1190 f1198.1 f1199.1 f1200.1 f1191 f1192 f1201 hzc) (w150 hw) (w55 hw) (fun x hx => nomatch hx) rfl (Nat.le_of_eq rfl) (Nat.le_of_ble_eq_true rfl) (Nat.le_of_ble_eq_true rfl) ⟨rfl, Nat.le_of_ble_eq_true rfl⟩ ⟨rfl, Nat.le_of_ble_eq_true rfl⟩ rfl (fun _ _ q => by rcases q.1 with ⟨_, u⟩ | ⟨_, u⟩ <;> cases u) fun T h1203 v so W hQ => ?_
      obtain ⟨hQ, rfl⟩ := hQ
      rcases hQ with ⟨heq1202, hv⟩ | ⟨heq1202, hv⟩
      · --
        obtain rfl := Option.some.inj hv
        refine k_aload W d_code_320 rfl rfl ?_
        refine k_aload W d_code_322 rfl rfl ?_
        refine k_callV W 1 60 572 (argsL := [(.ref x739)]) (rest := [(.int (1 : Int32))]) (a := x248) (C := "java/lang/String") (z0 := (⟨"java/lang/String", "equals", "(Ljava/lang/Object;)Z"⟩ : MethodName)) (z := (⟨"java/lang/String", "equals", "(Ljava/lang/Object;)Z"⟩ : MethodName)) d_code_324 (w171 hw) (w172 hw) (nfSel (w173 hw)) (w173 hw) (w164 hw) (by decide) (lenOf pd18 rfl) f1189.1 (ct_seq l Z a0 hw n0 h1177 x248 b248 x739 b739 bs248 bs739 zc ne1195 f1189 f1190 f1201 hzc) (w165 hw) (w8 hw) (fun x hx => nomatch hx) rfl (Nat.le_of_eq rfl) (Nat.le_of_ble_eq_true rfl) (Nat.le_of_ble_eq_true rfl) ⟨rfl, Nat.le_of_ble_eq_true rfl⟩ ⟨rfl, Nat.le_of_ble_eq_true rfl⟩ rfl (fun _ _ q => by rcases q.1 with ⟨_, u⟩ | ⟨_, u⟩ <;> cases u) fun T h1205 v so W hQ => ?_
        obtain ⟨hQ, rfl⟩ := hQ
        rcases hQ with ⟨heq1204, hv⟩ | ⟨heq1204, hv⟩
        · --
          obtain rfl := Option.some.inj hv
          refine k_icY W 332 d_code_327 (by decide) (show (1 : Int32) = (1 : Int32) by decide) ?_
          refine k_aload W d_code_332 rfl rfl ?_
          refine k_aload W d_code_334 rfl rfl ?_
          have f1206 := (F0_1147.keep K1177 nin0)
          have f1207 := (F1_1147.keep K1177 nin0)
          have f1208 := (F2_1147.keep K1177 nin0)
          have f1209 := (F3_1147.keep K1177 nin0)
          have f1210 := (FP_1147.keep K1177 nin0)
          have f1211 := (AQ1147.keep K1177 nin0)
          have ne1212 : x1147 ≠ x1129 := (Ne.symm (Nat.ne_of_lt (Nat.lt_of_lt_of_le X1129.lt gx1147)))
          have ne1213 : q1147 ≠ q1129 := (Ne.symm (Nat.ne_of_lt (Nat.lt_of_lt_of_le AQ1129.lt gq1147)))
          have f1214 := (X1147.keep K1177)
          refine k_callV W 0 60 572 (argsL := [(.ref x1129)]) (rest := []) (a := x1147) (C := "com/example/kourier/kourier/outbox/OutboxEvent") (z0 := (⟨"com/example/kourier/kourier/outbox/OutboxEvent", "equals", "(Ljava/lang/Object;)Z"⟩ : MethodName)) (z := (⟨"com/example/kourier/kourier/outbox/OutboxEvent", "equals", "(Ljava/lang/Object;)Z"⟩ : MethodName)) d_code_336 (w146 hw) (w147 hw) (nfSel (w149 hw)) (w149 hw) (w148 hw) (by decide) (lenOf pd18 rfl) f1214 (ct_oeqI l Z a0 hw n0 h1177 mr x1147 x1129 x741 x743 x745 q1147 q1129 x739 b739 0 0 bs739 [] [(i2b p3), (i2b (XT.ushr p3 (8 : Int32)))] zc (Nat.le_of_ble_eq_true rfl) ne1212 ne1213 M0 f1214 f1206 f1207 f1208 f1209 f1210 f1197 f1184 f1185 f1186 f1187 f1188 f1190 f1198.1 f1199.1 f1200.1 f1211 f1192 f1201 hzc) (w150 hw) (w55 hw) (fun x hx => nomatch hx) rfl (Nat.le_of_eq rfl) (Nat.le_of_ble_eq_true rfl) (Nat.le_of_ble_eq_true rfl) ⟨rfl, Nat.le_of_ble_eq_true rfl⟩ ⟨rfl, Nat.le_of_ble_eq_true rfl⟩ rfl (fun _ _ q => nomatch q.1) fun T h1215 v so W hQ => ?_
          obtain ⟨hv, rfl, -⟩ := hQ
          obtain rfl := Option.some.inj hv
          exact k_retN W (t := .boolean) (z' := (1 : Int32)) d_code_339 rfl (by simp) (by decide) [] (fun x hx => nomatch hx) (Nat.le_of_ble_eq_true rfl) (Nat.le_of_ble_eq_true rfl) rfl
        · --
          obtain rfl := Option.some.inj hv
          exact absurd heq1202 heq1204
      · --
        obtain rfl := Option.some.inj hv
        refine k_aload W d_code_320 rfl rfl ?_
        refine k_aload W d_code_322 rfl rfl ?_
        refine k_callV W 1 60 572 (argsL := [(.ref x739)]) (rest := [(.int (0 : Int32))]) (a := x248) (C := "java/lang/String") (z0 := (⟨"java/lang/String", "equals", "(Ljava/lang/Object;)Z"⟩ : MethodName)) (z := (⟨"java/lang/String", "equals", "(Ljava/lang/Object;)Z"⟩ : MethodName)) d_code_324 (w171 hw) (w172 hw) (nfSel (w173 hw)) (w173 hw) (w164 hw) (by decide) (lenOf pd18 rfl) f1189.1 (ct_seq l Z a0 hw n0 h1177 x248 b248 x739 b739 bs248 bs739 zc ne1195 f1189 f1190 f1201 hzc) (w165 hw) (w8 hw) (fun x hx => nomatch hx) rfl (Nat.le_of_eq rfl) (Nat.le_of_ble_eq_true rfl) (Nat.le_of_ble_eq_true rfl) ⟨rfl, Nat.le_of_ble_eq_true rfl⟩ ⟨rfl, Nat.le_of_ble_eq_true rfl⟩ rfl (fun _ _ q => by rcases q.1 with ⟨_, u⟩ | ⟨_, u⟩ <;> cases u) fun T h1217 v so W hQ => ?_
        obtain ⟨hQ, rfl⟩ := hQ
        rcases hQ with ⟨heq1216, hv⟩ | ⟨heq1216, hv⟩
        · --
          obtain rfl := Option.some.inj hv
          exact absurd heq1216 heq1202
        · --
          obtain rfl := Option.some.inj hv
          refine k_icY W 332 d_code_327 (by decide) (show (0 : Int32) = (0 : Int32) by decide) ?_
          refine k_aload W d_code_332 rfl rfl ?_
          refine k_aload W d_code_334 rfl rfl ?_
          have f1218 := (F0_1147.keep K1177 nin0)
          have f1219 := (F1_1147.keep K1177 nin0)
          have f1220 := (F2_1147.keep K1177 nin0)
          have f1221 := (F3_1147.keep K1177 nin0)
          have f1222 := (FP_1147.keep K1177 nin0)
          have f1223 := (AQ1147.keep K1177 nin0)
          have ne1224 : x1147 ≠ x1129 := (Ne.symm (Nat.ne_of_lt (Nat.lt_of_lt_of_le X1129.lt gx1147)))
          have ne1225 : q1147 ≠ q1129 := (Ne.symm (Nat.ne_of_lt (Nat.lt_of_lt_of_le AQ1129.lt gq1147)))
          have f1226 := (X1147.keep K1177)
          refine k_callV W 0 60 572 (argsL := [(.ref x1129)]) (rest := []) (a := x1147) (C := "com/example/kourier/kourier/outbox/OutboxEvent") (z0 := (⟨"com/example/kourier/kourier/outbox/OutboxEvent", "equals", "(Ljava/lang/Object;)Z"⟩ : MethodName)) (z := (⟨"com/example/kourier/kourier/outbox/OutboxEvent", "equals", "(Ljava/lang/Object;)Z"⟩ : MethodName)) d_code_336 (w146 hw) (w147 hw) (nfSel (w149 hw)) (w149 hw) (w148 hw) (by decide) (lenOf pd18 rfl) f1226 (ct_oeqI l Z a0 hw n0 h1177 mr x1147 x1129 x741 x743 x745 q1147 q1129 x739 b739 0 0 bs739 [] [(i2b p3), (i2b (XT.ushr p3 (8 : Int32)))] zc (Nat.le_of_ble_eq_true rfl) ne1224 ne1225 M0 f1226 f1218 f1219 f1220 f1221 f1222 f1197 f1184 f1185 f1186 f1187 f1188 f1190 f1198.1 f1199.1 f1200.1 f1223 f1192 f1201 hzc) (w150 hw) (w55 hw) (fun x hx => nomatch hx) rfl (Nat.le_of_eq rfl) (Nat.le_of_ble_eq_true rfl) (Nat.le_of_ble_eq_true rfl) ⟨rfl, Nat.le_of_ble_eq_true rfl⟩ ⟨rfl, Nat.le_of_ble_eq_true rfl⟩ rfl (fun _ _ q => nomatch q.1) fun T h1227 v so W hQ => ?_
          obtain ⟨hv, rfl, -⟩ := hQ
          obtain rfl := Option.some.inj hv
          exact k_retN W (t := .boolean) (z' := (1 : Int32)) d_code_339 rfl (by simp) (by decide) [] (fun x hx => nomatch hx) (Nat.le_of_ble_eq_true rfl) (Nat.le_of_ble_eq_true rfl) rfl
set_option maxRecDepth 65536 in
set_option maxHeartbeats 40000000 in
theorem comes_1 {Post : Tables → Env → Array Value → State → Outcome → State → Prop} (hpost : ∀ tb e args s v u, (limb_1_1.after args s (.returned v) u = true ∧ limb_1_2.after args s (.returned v) u = true ∧ True) → FramedW s (.returned v) u (Jvm.fieldLocs frame_1_writes args s ++ Jvm.arrayLocs frame_1_arrays args s ++ Jvm.staticLocs frame_1_statics s) 64 5376 → Post tb e args s (.returned v) u) :
    ArmFor flags0 classFile x code maxLocals ret World_1 tables_1 room_1 Calls_1 rest_1 Pre_1 Post := by
  intro l hfl _ _ p e ha hc hk s m args below hf hA hF happ hP
  obtain ⟨hcalls, hrest, hpre⟩ := hP
  obtain ⟨-, -, -, hnamed, -, -, -, hat⟩ := (Spec.applies_iff hf).mp happ
  obtain ⟨hg, hnarrow⟩ := and_e (Cond.before_iff.mp (show (Jvm.Cond.and given_1 narrow_1).before args s = true from hpre))
  obtain ⟨h1, h2⟩ := and_e hg
  obtain ⟨ga0, h2⟩ := and_e h2
  obtain ⟨ga1, h2⟩ := and_e h2
  obtain ⟨ga2, h2⟩ := and_e h2
  obtain ⟨ga3, h2⟩ := and_e h2
  have ga4 := h2
  obtain ⟨w0, w1, w2, w3, w4, rfl⟩ : ∃ w0 w1 w2 w3 w4 : Value, args = #[w0, w1, w2, w3, w4] := by
    have hs : args.size = 5 := by simpa [Cond.value, given_1] using h1
    obtain ⟨L⟩ := args
    match L, hs with
    | [w0, w1, w2, w3, w4], _ => exact ⟨w0, w1, w2, w3, w4, rfl⟩
  have hw := fun d (hd : d ∈ tables_1) => atoms_spec (ws := Jvm.Cond.code x code maxLocals ret :: tables_1) hat d (List.mem_cons_of_mem _ hd)
  obtain ⟨hsets, hown0⟩ := atoms_of _ (rest_1_c_eq ▸ (show rest_1_c.before _ s = true from hrest))
  have hfit : Fit s := fun {y c} hc i hi => by
    obtain ⟨ha, rfl⟩ := Array.getElem?_eq_some_iff.mp hc
    have q := List.all_eq_true.mp ((Array.all_eq_true_iff_forall_mem.mp hF) _ (Array.getElem_mem ha)) i (List.mem_range.mpr hi)
    simpa [Array.getElem?_eq_getElem hi] using q
  obtain ⟨i0, ei0⟩ := isL_v ga0
  obtain rfl : w0 = (.long i0) := Option.some.inj ei0
  obtain ⟨i1, ei1⟩ := isL_v ga1
  obtain rfl : w1 = (.long i1) := Option.some.inj ei1
  obtain ⟨i2, ei2⟩ := is_v ga2
  obtain rfl : w2 = (.int i2) := Option.some.inj ei2
  obtain ⟨i3, ei3⟩ := is_v ga3
  obtain rfl : w3 = (.int i3) := Option.some.inj ei3
  obtain ⟨i4, ei4⟩ := is_v ga4
  obtain rfl : w4 = (.int i4) := Option.some.inj ei4
  have n5 := not_v (Cond.before_iff.mp (hsets _ (List.mem_of_getElem? (i := 2) rfl)))
  obtain ⟨zc, ezc⟩ := is_v (Cond.before_iff.mp (hsets _ (List.mem_of_getElem? (i := 1) rfl)))
  have Szc : Sta s s.heap "java/lang/String" "COMPACT_STRINGS" "Z" (.int zc) := Sta.start ezc (Or.inl (hsets _ (List.mem_of_getElem? (i := 0) rfl)))
  have hzc : ¬ (zc = (0 : Int32)) := gotF (Cond.eq_ints ezc (Term.int_eval (0))) n5
  obtain ⟨cd, ecd, CX⟩ := exa_start (Cond.before_iff.mp (hsets _ (List.mem_of_getElem? (i := 11) rfl)))
  have CI : Sta s s.heap "java/lang/CharacterDataLatin1" "instance" "Ljava/lang/CharacterDataLatin1;" (.ref cd) := Sta.start ecd (Or.inl (hsets _ (List.mem_of_getElem? (i := 10) rfl)))
  obtain ⟨ca, eca⟩ := ref_of_arr (Cond.before_iff.mp (hsets _ (List.mem_of_getElem? (i := 14) rfl)))
  have CA : Sta s s.heap "java/lang/CharacterDataLatin1" "A" "[I" (.ref ca) := Sta.start eca (Or.inl (hsets _ (List.mem_of_getElem? (i := 13) rfl)))
  have CV : Av s s.heap ca .int (own_props.map Value.int) := av_start hfit eca (Cond.before_iff.mp (hsets _ (List.mem_of_getElem? (i := 14) rfl))) (eq_start (Cond.before_iff.mp (hsets _ (List.mem_of_getElem? (i := 16) rfl)))) (by rw [List.length_map, own_plen]; rfl) (by rw [List.length_map, own_plen]; decide) ⟨eq_start (Cond.before_iff.mp (hsets _ (List.mem_of_getElem? (i := 17) rfl))), eq_start (Cond.before_iff.mp (hsets _ (List.mem_of_getElem? (i := 18) rfl))), eq_start (Cond.before_iff.mp (hsets _ (List.mem_of_getElem? (i := 19) rfl))), eq_start (Cond.before_iff.mp (hsets _ (List.mem_of_getElem? (i := 20) rfl))), eq_start (Cond.before_iff.mp (hsets _ (List.mem_of_getElem? (i := 21) rfl))), eq_start (Cond.before_iff.mp (hsets _ (List.mem_of_getElem? (i := 22) rfl))), eq_start (Cond.before_iff.mp (hsets _ (List.mem_of_getElem? (i := 23) rfl))), eq_start (Cond.before_iff.mp (hsets _ (List.mem_of_getElem? (i := 24) rfl))), eq_start (Cond.before_iff.mp (hsets _ (List.mem_of_getElem? (i := 25) rfl))), eq_start (Cond.before_iff.mp (hsets _ (List.mem_of_getElem? (i := 26) rfl))), eq_start (Cond.before_iff.mp (hsets _ (List.mem_of_getElem? (i := 27) rfl))), eq_start (Cond.before_iff.mp (hsets _ (List.mem_of_getElem? (i := 28) rfl))), eq_start (Cond.before_iff.mp (hsets _ (List.mem_of_getElem? (i := 29) rfl))), eq_start (Cond.before_iff.mp (hsets _ (List.mem_of_getElem? (i := 30) rfl))), eq_start (Cond.before_iff.mp (hsets _ (List.mem_of_getElem? (i := 31) rfl))), eq_start (Cond.before_iff.mp (hsets _ (List.mem_of_getElem? (i := 32) rfl))), eq_start (Cond.before_iff.mp (hsets _ (List.mem_of_getElem? (i := 33) rfl))), eq_start (Cond.before_iff.mp (hsets _ (List.mem_of_getElem? (i := 34) rfl))), eq_start (Cond.before_iff.mp (hsets _ (List.mem_of_getElem? (i := 35) rfl))), eq_start (Cond.before_iff.mp (hsets _ (List.mem_of_getElem? (i := 36) rfl))), eq_start (Cond.before_iff.mp (hsets _ (List.mem_of_getElem? (i := 37) rfl))), eq_start (Cond.before_iff.mp (hsets _ (List.mem_of_getElem? (i := 38) rfl))), eq_start (Cond.before_iff.mp (hsets _ (List.mem_of_getElem? (i := 39) rfl))), eq_start (Cond.before_iff.mp (hsets _ (List.mem_of_getElem? (i := 40) rfl))), eq_start (Cond.before_iff.mp (hsets _ (List.mem_of_getElem? (i := 41) rfl))), eq_start (Cond.before_iff.mp (hsets _ (List.mem_of_getElem? (i := 42) rfl))), eq_start (Cond.before_iff.mp (hsets _ (List.mem_of_getElem? (i := 43) rfl))), eq_start (Cond.before_iff.mp (hsets _ (List.mem_of_getElem? (i := 44) rfl))), eq_start (Cond.before_iff.mp (hsets _ (List.mem_of_getElem? (i := 45) rfl))), eq_start (Cond.before_iff.mp (hsets _ (List.mem_of_getElem? (i := 46) rfl))), eq_start (Cond.before_iff.mp (hsets _ (List.mem_of_getElem? (i := 47) rfl))), eq_start (Cond.before_iff.mp (hsets _ (List.mem_of_getElem? (i := 48) rfl))), eq_start (Cond.before_iff.mp (hsets _ (List.mem_of_getElem? (i := 49) rfl))), eq_start (Cond.before_iff.mp (hsets _ (List.mem_of_getElem? (i := 50) rfl))), eq_start (Cond.before_iff.mp (hsets _ (List.mem_of_getElem? (i := 51) rfl))), eq_start (Cond.before_iff.mp (hsets _ (List.mem_of_getElem? (i := 52) rfl))), eq_start (Cond.before_iff.mp (hsets _ (List.mem_of_getElem? (i := 53) rfl))), eq_start (Cond.before_iff.mp (hsets _ (List.mem_of_getElem? (i := 54) rfl))), eq_start (Cond.before_iff.mp (hsets _ (List.mem_of_getElem? (i := 55) rfl))), eq_start (Cond.before_iff.mp (hsets _ (List.mem_of_getElem? (i := 56) rfl))), eq_start (Cond.before_iff.mp (hsets _ (List.mem_of_getElem? (i := 57) rfl))), eq_start (Cond.before_iff.mp (hsets _ (List.mem_of_getElem? (i := 58) rfl))), eq_start (Cond.before_iff.mp (hsets _ (List.mem_of_getElem? (i := 59) rfl))), eq_start (Cond.before_iff.mp (hsets _ (List.mem_of_getElem? (i := 60) rfl))), eq_start (Cond.before_iff.mp (hsets _ (List.mem_of_getElem? (i := 61) rfl))), eq_start (Cond.before_iff.mp (hsets _ (List.mem_of_getElem? (i := 62) rfl))), eq_start (Cond.before_iff.mp (hsets _ (List.mem_of_getElem? (i := 63) rfl))), eq_start (Cond.before_iff.mp (hsets _ (List.mem_of_getElem? (i := 64) rfl))), eq_start (Cond.before_iff.mp (hsets _ (List.mem_of_getElem? (i := 65) rfl))), eq_start (Cond.before_iff.mp (hsets _ (List.mem_of_getElem? (i := 66) rfl))), eq_start (Cond.before_iff.mp (hsets _ (List.mem_of_getElem? (i := 67) rfl))), eq_start (Cond.before_iff.mp (hsets _ (List.mem_of_getElem? (i := 68) rfl))), eq_start (Cond.before_iff.mp (hsets _ (List.mem_of_getElem? (i := 69) rfl))), eq_start (Cond.before_iff.mp (hsets _ (List.mem_of_getElem? (i := 70) rfl))), eq_start (Cond.before_iff.mp (hsets _ (List.mem_of_getElem? (i := 71) rfl))), eq_start (Cond.before_iff.mp (hsets _ (List.mem_of_getElem? (i := 72) rfl))), eq_start (Cond.before_iff.mp (hsets _ (List.mem_of_getElem? (i := 73) rfl))), eq_start (Cond.before_iff.mp (hsets _ (List.mem_of_getElem? (i := 74) rfl))), eq_start (Cond.before_iff.mp (hsets _ (List.mem_of_getElem? (i := 75) rfl))), eq_start (Cond.before_iff.mp (hsets _ (List.mem_of_getElem? (i := 76) rfl))), eq_start (Cond.before_iff.mp (hsets _ (List.mem_of_getElem? (i := 77) rfl))), eq_start (Cond.before_iff.mp (hsets _ (List.mem_of_getElem? (i := 78) rfl))), eq_start (Cond.before_iff.mp (hsets _ (List.mem_of_getElem? (i := 79) rfl))), eq_start (Cond.before_iff.mp (hsets _ (List.mem_of_getElem? (i := 80) rfl))), eq_start (Cond.before_iff.mp (hsets _ (List.mem_of_getElem? (i := 81) rfl))), eq_start (Cond.before_iff.mp (hsets _ (List.mem_of_getElem? (i := 82) rfl))), eq_start (Cond.before_iff.mp (hsets _ (List.mem_of_getElem? (i := 83) rfl))), eq_start (Cond.before_iff.mp (hsets _ (List.mem_of_getElem? (i := 84) rfl))), eq_start (Cond.before_iff.mp (hsets _ (List.mem_of_getElem? (i := 85) rfl))), eq_start (Cond.before_iff.mp (hsets _ (List.mem_of_getElem? (i := 86) rfl))), eq_start (Cond.before_iff.mp (hsets _ (List.mem_of_getElem? (i := 87) rfl))), eq_start (Cond.before_iff.mp (hsets _ (List.mem_of_getElem? (i := 88) rfl))), eq_start (Cond.before_iff.mp (hsets _ (List.mem_of_getElem? (i := 89) rfl))), eq_start (Cond.before_iff.mp (hsets _ (List.mem_of_getElem? (i := 90) rfl))), eq_start (Cond.before_iff.mp (hsets _ (List.mem_of_getElem? (i := 91) rfl))), eq_start (Cond.before_iff.mp (hsets _ (List.mem_of_getElem? (i := 92) rfl))), eq_start (Cond.before_iff.mp (hsets _ (List.mem_of_getElem? (i := 93) rfl))), eq_start (Cond.before_iff.mp (hsets _ (List.mem_of_getElem? (i := 94) rfl))), eq_start (Cond.before_iff.mp (hsets _ (List.mem_of_getElem? (i := 95) rfl))), eq_start (Cond.before_iff.mp (hsets _ (List.mem_of_getElem? (i := 96) rfl))), eq_start (Cond.before_iff.mp (hsets _ (List.mem_of_getElem? (i := 97) rfl))), eq_start (Cond.before_iff.mp (hsets _ (List.mem_of_getElem? (i := 98) rfl))), eq_start (Cond.before_iff.mp (hsets _ (List.mem_of_getElem? (i := 99) rfl))), eq_start (Cond.before_iff.mp (hsets _ (List.mem_of_getElem? (i := 100) rfl))), eq_start (Cond.before_iff.mp (hsets _ (List.mem_of_getElem? (i := 101) rfl))), eq_start (Cond.before_iff.mp (hsets _ (List.mem_of_getElem? (i := 102) rfl))), eq_start (Cond.before_iff.mp (hsets _ (List.mem_of_getElem? (i := 103) rfl))), eq_start (Cond.before_iff.mp (hsets _ (List.mem_of_getElem? (i := 104) rfl))), eq_start (Cond.before_iff.mp (hsets _ (List.mem_of_getElem? (i := 105) rfl))), eq_start (Cond.before_iff.mp (hsets _ (List.mem_of_getElem? (i := 106) rfl))), eq_start (Cond.before_iff.mp (hsets _ (List.mem_of_getElem? (i := 107) rfl))), eq_start (Cond.before_iff.mp (hsets _ (List.mem_of_getElem? (i := 108) rfl))), eq_start (Cond.before_iff.mp (hsets _ (List.mem_of_getElem? (i := 109) rfl))), eq_start (Cond.before_iff.mp (hsets _ (List.mem_of_getElem? (i := 110) rfl))), eq_start (Cond.before_iff.mp (hsets _ (List.mem_of_getElem? (i := 111) rfl))), eq_start (Cond.before_iff.mp (hsets _ (List.mem_of_getElem? (i := 112) rfl))), eq_start (Cond.before_iff.mp (hsets _ (List.mem_of_getElem? (i := 113) rfl))), eq_start (Cond.before_iff.mp (hsets _ (List.mem_of_getElem? (i := 114) rfl))), eq_start (Cond.before_iff.mp (hsets _ (List.mem_of_getElem? (i := 115) rfl))), eq_start (Cond.before_iff.mp (hsets _ (List.mem_of_getElem? (i := 116) rfl))), eq_start (Cond.before_iff.mp (hsets _ (List.mem_of_getElem? (i := 117) rfl))), eq_start (Cond.before_iff.mp (hsets _ (List.mem_of_getElem? (i := 118) rfl))), eq_start (Cond.before_iff.mp (hsets _ (List.mem_of_getElem? (i := 119) rfl))), eq_start (Cond.before_iff.mp (hsets _ (List.mem_of_getElem? (i := 120) rfl))), eq_start (Cond.before_iff.mp (hsets _ (List.mem_of_getElem? (i := 121) rfl))), eq_start (Cond.before_iff.mp (hsets _ (List.mem_of_getElem? (i := 122) rfl))), eq_start (Cond.before_iff.mp (hsets _ (List.mem_of_getElem? (i := 123) rfl))), eq_start (Cond.before_iff.mp (hsets _ (List.mem_of_getElem? (i := 124) rfl))), eq_start (Cond.before_iff.mp (hsets _ (List.mem_of_getElem? (i := 125) rfl))), eq_start (Cond.before_iff.mp (hsets _ (List.mem_of_getElem? (i := 126) rfl))), eq_start (Cond.before_iff.mp (hsets _ (List.mem_of_getElem? (i := 127) rfl))), eq_start (Cond.before_iff.mp (hsets _ (List.mem_of_getElem? (i := 128) rfl))), eq_start (Cond.before_iff.mp (hsets _ (List.mem_of_getElem? (i := 129) rfl))), eq_start (Cond.before_iff.mp (hsets _ (List.mem_of_getElem? (i := 130) rfl))), eq_start (Cond.before_iff.mp (hsets _ (List.mem_of_getElem? (i := 131) rfl))), eq_start (Cond.before_iff.mp (hsets _ (List.mem_of_getElem? (i := 132) rfl))), eq_start (Cond.before_iff.mp (hsets _ (List.mem_of_getElem? (i := 133) rfl))), eq_start (Cond.before_iff.mp (hsets _ (List.mem_of_getElem? (i := 134) rfl))), eq_start (Cond.before_iff.mp (hsets _ (List.mem_of_getElem? (i := 135) rfl))), eq_start (Cond.before_iff.mp (hsets _ (List.mem_of_getElem? (i := 136) rfl))), eq_start (Cond.before_iff.mp (hsets _ (List.mem_of_getElem? (i := 137) rfl))), eq_start (Cond.before_iff.mp (hsets _ (List.mem_of_getElem? (i := 138) rfl))), eq_start (Cond.before_iff.mp (hsets _ (List.mem_of_getElem? (i := 139) rfl))), eq_start (Cond.before_iff.mp (hsets _ (List.mem_of_getElem? (i := 140) rfl))), eq_start (Cond.before_iff.mp (hsets _ (List.mem_of_getElem? (i := 141) rfl))), eq_start (Cond.before_iff.mp (hsets _ (List.mem_of_getElem? (i := 142) rfl))), eq_start (Cond.before_iff.mp (hsets _ (List.mem_of_getElem? (i := 143) rfl))), eq_start (Cond.before_iff.mp (hsets _ (List.mem_of_getElem? (i := 144) rfl))), eq_start (Cond.before_iff.mp (hsets _ (List.mem_of_getElem? (i := 145) rfl))), eq_start (Cond.before_iff.mp (hsets _ (List.mem_of_getElem? (i := 146) rfl))), eq_start (Cond.before_iff.mp (hsets _ (List.mem_of_getElem? (i := 147) rfl))), eq_start (Cond.before_iff.mp (hsets _ (List.mem_of_getElem? (i := 148) rfl))), eq_start (Cond.before_iff.mp (hsets _ (List.mem_of_getElem? (i := 149) rfl))), eq_start (Cond.before_iff.mp (hsets _ (List.mem_of_getElem? (i := 150) rfl))), eq_start (Cond.before_iff.mp (hsets _ (List.mem_of_getElem? (i := 151) rfl))), eq_start (Cond.before_iff.mp (hsets _ (List.mem_of_getElem? (i := 152) rfl))), eq_start (Cond.before_iff.mp (hsets _ (List.mem_of_getElem? (i := 153) rfl))), eq_start (Cond.before_iff.mp (hsets _ (List.mem_of_getElem? (i := 154) rfl))), eq_start (Cond.before_iff.mp (hsets _ (List.mem_of_getElem? (i := 155) rfl))), eq_start (Cond.before_iff.mp (hsets _ (List.mem_of_getElem? (i := 156) rfl))), eq_start (Cond.before_iff.mp (hsets _ (List.mem_of_getElem? (i := 157) rfl))), eq_start (Cond.before_iff.mp (hsets _ (List.mem_of_getElem? (i := 158) rfl))), eq_start (Cond.before_iff.mp (hsets _ (List.mem_of_getElem? (i := 159) rfl))), eq_start (Cond.before_iff.mp (hsets _ (List.mem_of_getElem? (i := 160) rfl))), eq_start (Cond.before_iff.mp (hsets _ (List.mem_of_getElem? (i := 161) rfl))), eq_start (Cond.before_iff.mp (hsets _ (List.mem_of_getElem? (i := 162) rfl))), eq_start (Cond.before_iff.mp (hsets _ (List.mem_of_getElem? (i := 163) rfl))), eq_start (Cond.before_iff.mp (hsets _ (List.mem_of_getElem? (i := 164) rfl))), eq_start (Cond.before_iff.mp (hsets _ (List.mem_of_getElem? (i := 165) rfl))), eq_start (Cond.before_iff.mp (hsets _ (List.mem_of_getElem? (i := 166) rfl))), eq_start (Cond.before_iff.mp (hsets _ (List.mem_of_getElem? (i := 167) rfl))), eq_start (Cond.before_iff.mp (hsets _ (List.mem_of_getElem? (i := 168) rfl))), eq_start (Cond.before_iff.mp (hsets _ (List.mem_of_getElem? (i := 169) rfl))), eq_start (Cond.before_iff.mp (hsets _ (List.mem_of_getElem? (i := 170) rfl))), eq_start (Cond.before_iff.mp (hsets _ (List.mem_of_getElem? (i := 171) rfl))), eq_start (Cond.before_iff.mp (hsets _ (List.mem_of_getElem? (i := 172) rfl))), eq_start (Cond.before_iff.mp (hsets _ (List.mem_of_getElem? (i := 173) rfl))), eq_start (Cond.before_iff.mp (hsets _ (List.mem_of_getElem? (i := 174) rfl))), eq_start (Cond.before_iff.mp (hsets _ (List.mem_of_getElem? (i := 175) rfl))), eq_start (Cond.before_iff.mp (hsets _ (List.mem_of_getElem? (i := 176) rfl))), eq_start (Cond.before_iff.mp (hsets _ (List.mem_of_getElem? (i := 177) rfl))), eq_start (Cond.before_iff.mp (hsets _ (List.mem_of_getElem? (i := 178) rfl))), eq_start (Cond.before_iff.mp (hsets _ (List.mem_of_getElem? (i := 179) rfl))), eq_start (Cond.before_iff.mp (hsets _ (List.mem_of_getElem? (i := 180) rfl))), eq_start (Cond.before_iff.mp (hsets _ (List.mem_of_getElem? (i := 181) rfl))), eq_start (Cond.before_iff.mp (hsets _ (List.mem_of_getElem? (i := 182) rfl))), eq_start (Cond.before_iff.mp (hsets _ (List.mem_of_getElem? (i := 183) rfl))), eq_start (Cond.before_iff.mp (hsets _ (List.mem_of_getElem? (i := 184) rfl))), eq_start (Cond.before_iff.mp (hsets _ (List.mem_of_getElem? (i := 185) rfl))), eq_start (Cond.before_iff.mp (hsets _ (List.mem_of_getElem? (i := 186) rfl))), eq_start (Cond.before_iff.mp (hsets _ (List.mem_of_getElem? (i := 187) rfl))), eq_start (Cond.before_iff.mp (hsets _ (List.mem_of_getElem? (i := 188) rfl))), eq_start (Cond.before_iff.mp (hsets _ (List.mem_of_getElem? (i := 189) rfl))), eq_start (Cond.before_iff.mp (hsets _ (List.mem_of_getElem? (i := 190) rfl))), eq_start (Cond.before_iff.mp (hsets _ (List.mem_of_getElem? (i := 191) rfl))), eq_start (Cond.before_iff.mp (hsets _ (List.mem_of_getElem? (i := 192) rfl))), eq_start (Cond.before_iff.mp (hsets _ (List.mem_of_getElem? (i := 193) rfl))), eq_start (Cond.before_iff.mp (hsets _ (List.mem_of_getElem? (i := 194) rfl))), eq_start (Cond.before_iff.mp (hsets _ (List.mem_of_getElem? (i := 195) rfl))), eq_start (Cond.before_iff.mp (hsets _ (List.mem_of_getElem? (i := 196) rfl))), eq_start (Cond.before_iff.mp (hsets _ (List.mem_of_getElem? (i := 197) rfl))), eq_start (Cond.before_iff.mp (hsets _ (List.mem_of_getElem? (i := 198) rfl))), eq_start (Cond.before_iff.mp (hsets _ (List.mem_of_getElem? (i := 199) rfl))), eq_start (Cond.before_iff.mp (hsets _ (List.mem_of_getElem? (i := 200) rfl))), eq_start (Cond.before_iff.mp (hsets _ (List.mem_of_getElem? (i := 201) rfl))), eq_start (Cond.before_iff.mp (hsets _ (List.mem_of_getElem? (i := 202) rfl))), eq_start (Cond.before_iff.mp (hsets _ (List.mem_of_getElem? (i := 203) rfl))), eq_start (Cond.before_iff.mp (hsets _ (List.mem_of_getElem? (i := 204) rfl))), eq_start (Cond.before_iff.mp (hsets _ (List.mem_of_getElem? (i := 205) rfl))), eq_start (Cond.before_iff.mp (hsets _ (List.mem_of_getElem? (i := 206) rfl))), eq_start (Cond.before_iff.mp (hsets _ (List.mem_of_getElem? (i := 207) rfl))), eq_start (Cond.before_iff.mp (hsets _ (List.mem_of_getElem? (i := 208) rfl))), eq_start (Cond.before_iff.mp (hsets _ (List.mem_of_getElem? (i := 209) rfl))), eq_start (Cond.before_iff.mp (hsets _ (List.mem_of_getElem? (i := 210) rfl))), eq_start (Cond.before_iff.mp (hsets _ (List.mem_of_getElem? (i := 211) rfl))), eq_start (Cond.before_iff.mp (hsets _ (List.mem_of_getElem? (i := 212) rfl))), eq_start (Cond.before_iff.mp (hsets _ (List.mem_of_getElem? (i := 213) rfl))), eq_start (Cond.before_iff.mp (hsets _ (List.mem_of_getElem? (i := 214) rfl))), eq_start (Cond.before_iff.mp (hsets _ (List.mem_of_getElem? (i := 215) rfl))), eq_start (Cond.before_iff.mp (hsets _ (List.mem_of_getElem? (i := 216) rfl))), eq_start (Cond.before_iff.mp (hsets _ (List.mem_of_getElem? (i := 217) rfl))), eq_start (Cond.before_iff.mp (hsets _ (List.mem_of_getElem? (i := 218) rfl))), eq_start (Cond.before_iff.mp (hsets _ (List.mem_of_getElem? (i := 219) rfl))), eq_start (Cond.before_iff.mp (hsets _ (List.mem_of_getElem? (i := 220) rfl))), eq_start (Cond.before_iff.mp (hsets _ (List.mem_of_getElem? (i := 221) rfl))), eq_start (Cond.before_iff.mp (hsets _ (List.mem_of_getElem? (i := 222) rfl))), eq_start (Cond.before_iff.mp (hsets _ (List.mem_of_getElem? (i := 223) rfl))), eq_start (Cond.before_iff.mp (hsets _ (List.mem_of_getElem? (i := 224) rfl))), eq_start (Cond.before_iff.mp (hsets _ (List.mem_of_getElem? (i := 225) rfl))), eq_start (Cond.before_iff.mp (hsets _ (List.mem_of_getElem? (i := 226) rfl))), eq_start (Cond.before_iff.mp (hsets _ (List.mem_of_getElem? (i := 227) rfl))), eq_start (Cond.before_iff.mp (hsets _ (List.mem_of_getElem? (i := 228) rfl))), eq_start (Cond.before_iff.mp (hsets _ (List.mem_of_getElem? (i := 229) rfl))), eq_start (Cond.before_iff.mp (hsets _ (List.mem_of_getElem? (i := 230) rfl))), eq_start (Cond.before_iff.mp (hsets _ (List.mem_of_getElem? (i := 231) rfl))), eq_start (Cond.before_iff.mp (hsets _ (List.mem_of_getElem? (i := 232) rfl))), eq_start (Cond.before_iff.mp (hsets _ (List.mem_of_getElem? (i := 233) rfl))), eq_start (Cond.before_iff.mp (hsets _ (List.mem_of_getElem? (i := 234) rfl))), eq_start (Cond.before_iff.mp (hsets _ (List.mem_of_getElem? (i := 235) rfl))), eq_start (Cond.before_iff.mp (hsets _ (List.mem_of_getElem? (i := 236) rfl))), eq_start (Cond.before_iff.mp (hsets _ (List.mem_of_getElem? (i := 237) rfl))), eq_start (Cond.before_iff.mp (hsets _ (List.mem_of_getElem? (i := 238) rfl))), eq_start (Cond.before_iff.mp (hsets _ (List.mem_of_getElem? (i := 239) rfl))), eq_start (Cond.before_iff.mp (hsets _ (List.mem_of_getElem? (i := 240) rfl))), eq_start (Cond.before_iff.mp (hsets _ (List.mem_of_getElem? (i := 241) rfl))), eq_start (Cond.before_iff.mp (hsets _ (List.mem_of_getElem? (i := 242) rfl))), eq_start (Cond.before_iff.mp (hsets _ (List.mem_of_getElem? (i := 243) rfl))), eq_start (Cond.before_iff.mp (hsets _ (List.mem_of_getElem? (i := 244) rfl))), eq_start (Cond.before_iff.mp (hsets _ (List.mem_of_getElem? (i := 245) rfl))), eq_start (Cond.before_iff.mp (hsets _ (List.mem_of_getElem? (i := 246) rfl))), eq_start (Cond.before_iff.mp (hsets _ (List.mem_of_getElem? (i := 247) rfl))), eq_start (Cond.before_iff.mp (hsets _ (List.mem_of_getElem? (i := 248) rfl))), eq_start (Cond.before_iff.mp (hsets _ (List.mem_of_getElem? (i := 249) rfl))), eq_start (Cond.before_iff.mp (hsets _ (List.mem_of_getElem? (i := 250) rfl))), eq_start (Cond.before_iff.mp (hsets _ (List.mem_of_getElem? (i := 251) rfl))), eq_start (Cond.before_iff.mp (hsets _ (List.mem_of_getElem? (i := 252) rfl))), eq_start (Cond.before_iff.mp (hsets _ (List.mem_of_getElem? (i := 253) rfl))), eq_start (Cond.before_iff.mp (hsets _ (List.mem_of_getElem? (i := 254) rfl))), eq_start (Cond.before_iff.mp (hsets _ (List.mem_of_getElem? (i := 255) rfl))), eq_start (Cond.before_iff.mp (hsets _ (List.mem_of_getElem? (i := 256) rfl))), eq_start (Cond.before_iff.mp (hsets _ (List.mem_of_getElem? (i := 257) rfl))), eq_start (Cond.before_iff.mp (hsets _ (List.mem_of_getElem? (i := 258) rfl))), eq_start (Cond.before_iff.mp (hsets _ (List.mem_of_getElem? (i := 259) rfl))), eq_start (Cond.before_iff.mp (hsets _ (List.mem_of_getElem? (i := 260) rfl))), eq_start (Cond.before_iff.mp (hsets _ (List.mem_of_getElem? (i := 261) rfl))), eq_start (Cond.before_iff.mp (hsets _ (List.mem_of_getElem? (i := 262) rfl))), eq_start (Cond.before_iff.mp (hsets _ (List.mem_of_getElem? (i := 263) rfl))), eq_start (Cond.before_iff.mp (hsets _ (List.mem_of_getElem? (i := 264) rfl))), eq_start (Cond.before_iff.mp (hsets _ (List.mem_of_getElem? (i := 265) rfl))), eq_start (Cond.before_iff.mp (hsets _ (List.mem_of_getElem? (i := 266) rfl))), eq_start (Cond.before_iff.mp (hsets _ (List.mem_of_getElem? (i := 267) rfl))), eq_start (Cond.before_iff.mp (hsets _ (List.mem_of_getElem? (i := 268) rfl))), eq_start (Cond.before_iff.mp (hsets _ (List.mem_of_getElem? (i := 269) rfl))), eq_start (Cond.before_iff.mp (hsets _ (List.mem_of_getElem? (i := 270) rfl))), eq_start (Cond.before_iff.mp (hsets _ (List.mem_of_getElem? (i := 271) rfl))), eq_start (Cond.before_iff.mp (hsets _ (List.mem_of_getElem? (i := 272) rfl))), trivial⟩
  obtain ⟨mc, mk_, mr, mm1, mm2, mm3, mm4⟩ := hcalls.1
  have M0 : Mir s "com/example/kourier/kourier/outbox/OutboxEvent" mr := ⟨mc, mk_, mm1, mm2, mm3, mm4⟩
  obtain ⟨n, o, k1, k2, k3, v, L, so, rfl, hQ, N, -, -, hnw, hq⟩ := rm0 l s _ hw s.heap.size s.heap i0 i1 i2 i3 i4 zc cd ca mr M0 Szc hzc CI CX CA CV tables_1 p e ha hc hk s m _ below hf ((Spec.applies_iff_loose hf).mp happ).1 ⟨rfl, State.Warmed39.refl s, rfl, (fun p hp => nomatch hp), Nat.le_refl _, own_EW hw, fun x hx => nomatch hx⟩ trivial
  subst hQ
  refine ⟨n, _, k1, k2, k3, hpost _ _ _ _ _ _ ⟨Cond.after_iff.mpr rfl, Cond.after_iff.mpr (eq_i res_at (Term.int_eval (1)) rfl), trivial⟩ ⟨hq.1, hq.2.1, hq.2.2.1, (hq.2.2.2.sift fun y hy => Or.inr (N y hy)).mono (by decide) (by decide)⟩⟩
theorem main_1_1 : Claimed_1_1 := comes_1 fun _ _ _ _ _ _ h hF => ⟨h.1, hF⟩
theorem main_1_2 : Claimed_1_2 := comes_1 fun _ _ _ _ _ _ h hF => ⟨h.2.1, hF⟩
end Jvm.Pilot.@@N@@
namespace Jvm.Pilot.@@N@@
open Jvm Jvm.ClassFile Sem Op Lib Jvm.Free Jvm.Stand Jvm.Pilot.@@N@@.Jvm.D
/-! MADE BY PROGRAM (witnessworld.py) out of the Statement's table words and the real class files: 25 classes; the members and pool entries that the words name. The judged class is class 1, her method 3. -/
namespace start1
open Jvm.ClassFile
def u (s : String) : CpInfo := .utf8 (stringToUtf16 s)
/-- a pool by its gaps: so many unusable entries, then the entry; so many at the end -/
def gap : Nat → List CpInfo → List CpInfo
  | 0, r => r
  | n + 1, r => .unusable :: gap n r
def poolList (es : List (Nat × CpInfo)) (last : Nat) : List CpInfo := es.foldr (fun e r => gap e.1 (e.2 :: r)) (gap last [])
def pool (es : List (Nat × CpInfo)) (last : Nat) : Array CpInfo := ⟨poolList es last⟩
def fileOf (pool : Array CpInfo) (this : Nat) (attrs : Array Attribute := #[]) (ms : Array MethodInfo := #[]) (fl : Nat := 33) (sup : Nat := 0) (ifs : Array Nat := #[]) (fds : Array FieldInfo := #[]) : ClassFile where
  minorVersion := 0
  majorVersion := 65
  constantPool := pool
  accessFlags := fl
  thisClass := this
  superClass := sup
  interfaces := ifs
  fields := fds
  methods := ms
  attributes := attrs
def plain (name : String) (sup : Option ClassId) : Class where
  name := name
  kind := .ordinary
  loader := none
  accessFlags := 33
  super := sup
  interfaces := #[]
  cf := none
  fields := #[]
  methods := #[]
  instanceTypes := #[]
  staticTypes := #[]
  resolved := #[]
  callSites := []
  init := .initialized
  statics := none
  mirror := none

def pool0 : Array CpInfo := pool [(5, u "<init>"), (0, u "()V"), (1, .class_ 10), (1, u "java/lang/Object"), (0, u "getClass"), (0, u "()Ljava/lang/Class;"), (79, u "equals"), (0, u "(Ljava/lang/Object;)Z"), (2, u "clone"), (0, u "()Ljava/lang/Object;")] 26

def k0c0 : Code := { maxStack := 0, maxLocals := 1, code := object_method_1_code, exceptionTable := #[], attributes := #[] }
def k0m0 : Method := { name := "<init>", desc := "()V", sig := { parameters := [], returnType := none }, accessFlags := 1, code := some k0c0 }
def k0m1 : Method := { name := "getClass", desc := "()Ljava/lang/Class;", sig := { parameters := [], returnType := some (.object "java/lang/Class") }, accessFlags := 273, code := none }
def k0c2 : Code := { maxStack := 2, maxLocals := 2, code := ⟨#[0x2a, 0x2b, 0xa6, 0x00, 0x07, 0x04, 0xa7, 0x00, 0x04, 0x03, 0xac]⟩, exceptionTable := #[], attributes := #[] }
def k0m2 : Method := { name := "equals", desc := "(Ljava/lang/Object;)Z", sig := { parameters := [(.object "java/lang/Object")], returnType := some .boolean }, accessFlags := 1, code := some k0c2 }
def k0m3 : Method := { name := "clone", desc := "()Ljava/lang/Object;", sig := { parameters := [], returnType := some (.object "java/lang/Object") }, accessFlags := 260, code := none }
/-- java/lang/Object -/
def k0 : Class := { plain "java/lang/Object" none with
  accessFlags := 33
  interfaces := #[]
  cf := some (fileOf pool0 8 #[] #[{ accessFlags := 1, nameIndex := 5, descriptorIndex := 6, attributes := #[] }, { accessFlags := 273, nameIndex := 11, descriptorIndex := 12, attributes := #[] }, { accessFlags := 1, nameIndex := 92, descriptorIndex := 93, attributes := #[] }, { accessFlags := 260, nameIndex := 96, descriptorIndex := 97, attributes := #[] }] 33 0 #[] #[])
  fields := #[]
  methods := #[k0m0, k0m1, k0m2, k0m3]
  instanceTypes := #[]
  staticTypes := #[]
  resolved := Array.replicate 124 none
  statics := none }

def pool1 : Array CpInfo := pool [(2, .class_ 4), (1, u "java/lang/Object"), (0, u "<init>"), (0, u "()V"), (0, .methodref 8 9), (0, .class_ 10), (0, .nameAndType 11 12), (0, u "java/lang/String"), (0, u "valueOf"), (0, u "(C)Ljava/lang/String;"), (0, .long 255), (1, .long 94), (1, .methodref 8 18), (0, .nameAndType 5 19), (0, u "([C)V"), (0, .methodref 21 22), (0, .class_ 23), (0, .nameAndType 24 25), (0, u "com/example/kourier/kourier/outbox/OutboxEventWithIdPinLaw"), (0, u "mk"), (0, u "(JI)Ljava/lang/String;"), (0, .methodref 21 27), (0, .nameAndType 28 29), (0, u "text"), (0, u "(I)Ljava/lang/String;"), (0, .class_ 31), (0, u "com/example/kourier/kourier/outbox/OutboxEvent"), (0, .methodref 30 33), (0, .nameAndType 5 34), (0, u "(Ljava/lang/String;Ljava/lang/String;Ljava/lang/String;[B)V"), (0, .methodref 30 36), (0, .nameAndType 37 38), (0, u "withId"), (0, u "(Ljava/lang/String;)Lcom/example/kourier/kourier/outbox/OutboxEvent;"), (0, .methodref 30 40), (0, .nameAndType 41 42), (0, u "equals"), (0, u "(Ljava/lang/Object;)Z"), (0, .methodref 30 44), (0, .nameAndType 45 46), (0, u "destination"), (0, u "()Ljava/lang/String;"), (0, .methodref 8 40), (0, .methodref 30 49), (0, .nameAndType 50 46), (0, u "key"), (0, .methodref 30 52), (0, .nameAndType 53 46), (0, u "type"), (0, .methodref 30 55), (0, .nameAndType 56 57), (0, u "payload"), (0, u "()[B"), (3, u "law"), (0, u "(JJIII)Z")] 4

def k1m0 : Method := { name := "<init>", desc := "()V", sig := { parameters := [], returnType := none }, accessFlags := 1, code := none }
def k1c1 : Code := { maxStack := 3, maxLocals := 1, code := method_2_code, exceptionTable := #[], attributes := #[] }
def k1m1 : Method := { name := "text", desc := "(I)Ljava/lang/String;", sig := { parameters := [.int], returnType := some (.object "java/lang/String") }, accessFlags := 10, code := some k1c1 }
def k1c2 : Code := { maxStack := 6, maxLocals := 6, code := method_3_code, exceptionTable := #[], attributes := #[] }
def k1m2 : Method := { name := "mk", desc := "(JI)Ljava/lang/String;", sig := { parameters := [.long, .int], returnType := some (.object "java/lang/String") }, accessFlags := 10, code := some k1c2 }
def k1c3 : Code := { maxStack := 6, maxLocals := 24, code := code, exceptionTable := #[], attributes := #[] }
def k1m3 : Method := { name := "law", desc := "(JJIII)Z", sig := { parameters := [.long, .long, .int, .int, .int], returnType := some .boolean }, accessFlags := 9, code := some k1c3 }
/-- com/example/kourier/kourier/outbox/OutboxEventWithIdPinLaw -/
def k1 : Class := { plain "com/example/kourier/kourier/outbox/OutboxEventWithIdPinLaw" (some 0) with
  accessFlags := 49
  interfaces := #[]
  cf := some (fileOf pool1 21 #[] #[{ accessFlags := 1, nameIndex := 5, descriptorIndex := 6, attributes := #[] }, { accessFlags := 10, nameIndex := 28, descriptorIndex := 29, attributes := #[] }, { accessFlags := 10, nameIndex := 24, descriptorIndex := 25, attributes := #[] }, { accessFlags := 9, nameIndex := 61, descriptorIndex := 62, attributes := #[] }] 49 2 #[] #[])
  fields := #[]
  methods := #[k1m0, k1m1, k1m2, k1m3]
  instanceTypes := #[]
  staticTypes := #[]
  resolved := Array.replicate 67 none
  statics := none }

def pool2 : Array CpInfo := pool [(1, .class_ 2), (0, u "java/io/Serializable"), (0, .class_ 4), (0, u "java/lang/Object")] 2

/-- java/io/Serializable -/
def k2 : Class := { plain "java/io/Serializable" (some 0) with
  accessFlags := 1537
  interfaces := #[]
  cf := some (fileOf pool2 1 #[] #[] 1537 3 #[] #[])
  fields := #[]
  methods := #[]
  instanceTypes := #[]
  staticTypes := #[]
  resolved := Array.replicate 7 none
  statics := none }

def pool3 : Array CpInfo := pool [(1, .class_ 2), (0, u "java/lang/Comparable"), (0, .class_ 4), (0, u "java/lang/Object")] 7

/-- java/lang/Comparable -/
def k3 : Class := { plain "java/lang/Comparable" (some 0) with
  accessFlags := 1537
  interfaces := #[]
  cf := some (fileOf pool3 1 #[] #[] 1537 3 #[] #[])
  fields := #[]
  methods := #[]
  instanceTypes := #[]
  staticTypes := #[]
  resolved := Array.replicate 12 none
  statics := none }

def pool4 : Array CpInfo := pool [(2, .class_ 4), (1, u "java/lang/CharSequence"), (42, .class_ 48), (0, u "java/lang/CharSequence$1CodePointIterator"), (10, .class_ 60), (0, u "java/lang/CharSequence$1CharIterator"), (5, .class_ 67), (0, u "java/lang/Object")] 63

/-- java/lang/CharSequence -/
def k4 : Class := { plain "java/lang/CharSequence" (some 0) with
  accessFlags := 1537
  interfaces := #[]
  cf := some (fileOf pool4 2 #[.nestMembers #[47, 59]] #[] 1537 66 #[] #[])
  fields := #[]
  methods := #[]
  instanceTypes := #[]
  staticTypes := #[]
  resolved := Array.replicate 131 none
  statics := none }

def pool5 : Array CpInfo := pool [(1, .class_ 2), (0, u "java/lang/constant/Constable"), (0, .class_ 4), (0, u "java/lang/Object")] 6

/-- java/lang/constant/Constable -/
def k5 : Class := { plain "java/lang/constant/Constable" (some 0) with
  accessFlags := 1537
  interfaces := #[]
  cf := some (fileOf pool5 1 #[] #[] 1537 3 #[] #[])
  fields := #[]
  methods := #[]
  instanceTypes := #[]
  staticTypes := #[]
  resolved := Array.replicate 11 none
  statics := none }

def pool6 : Array CpInfo := pool [(1, .class_ 2), (0, u "java/lang/constant/ConstantDesc"), (0, .class_ 4), (0, u "java/lang/Object")] 32

/-- java/lang/constant/ConstantDesc -/
def k6 : Class := { plain "java/lang/constant/ConstantDesc" (some 0) with
  accessFlags := 1537
  interfaces := #[]
  cf := some (fileOf pool6 1 #[] #[] 1537 3 #[] #[])
  fields := #[]
  methods := #[]
  instanceTypes := #[]
  staticTypes := #[]
  resolved := Array.replicate 37 none
  statics := none }

def pool7 : Array CpInfo := pool [(1, .methodref 2 3), (0, .class_ 4), (0, .nameAndType 5 6), (0, u "java/lang/Object"), (0, u "<init>"), (0, u "()V"), (2, .fieldref 10 11), (0, .class_ 12), (0, .nameAndType 13 14), (0, u "java/lang/String"), (0, u "value"), (0, u "[B"), (0, .fieldref 10 16), (0, .nameAndType 17 18), (0, u "coder"), (0, u "B"), (2, u "hash"), (0, u "I"), (2, u "hashIsZero"), (0, u "Z"), (0, .methodref 10 28), (0, .nameAndType 5 29), (0, u "([CIILjava/lang/Void;)V"), (8, .fieldref 10 39), (0, .nameAndType 40 26), (0, u "COMPACT_STRINGS"), (1, .class_ 44), (1, u "java/lang/StringUTF16"), (0, u "compress"), (1, .methodref 42 48), (0, .nameAndType 49 50), (0, u "coderFromArrayLen"), (0, u "([BI)B"), (2, u "toBytes"), (53, .class_ 109), (1, u "java/lang/StringLatin1"), (32, u "()Z"), (34, .methodref 42 178), (0, .nameAndType 45 179), (0, u "([CII)[B"), (29, .methodref 10 210), (0, .nameAndType 5 211), (0, u "([BB)V"), (122, u "()I"), (0, .methodref 10 336), (0, .nameAndType 17 337), (0, u "()B"), (31, u "(C)Z"), (122, .methodref 10 493), (0, .nameAndType 494 142), (0, u "isLatin1"), (10, .methodref 10 506), (0, .nameAndType 507 334), (0, u "length"), (33, .methodref 107 542), (0, .nameAndType 543 544), (0, u "equals"), (0, u "([B[B)Z"), (28, u "(Ljava/lang/Object;)Z"), (1, .class_ 576), (0, u "java/lang/CharSequence"), (22, u "CASE_INSENSITIVE_ORDER"), (0, u "Ljava/util/Comparator;"), (30, u "([B)I"), (150, u "valueOf"), (0, u "(C)Ljava/lang/String;"), (92, .methodref 10 877), (0, .nameAndType 878 334), (0, u "indexOfNonWhitespace"), (45, .methodref 107 925), (0, .nameAndType 878 631), (26, u "isBlank"), (57, u "([C)V"), (4, .methodref 107 1016), (0, .nameAndType 1017 369), (0, u "canEncode"), (0, .methodref 107 1019), (0, .nameAndType 53 1020), (0, u "(C)[B"), (80, u "serialPersistentFields"), (0, u "[Ljava/io/ObjectStreamField;"), (0, .class_ 1104), (0, u "java/lang/String$CaseInsensitiveComparator"), (1, .class_ 1107), (0, u "java/io/Serializable"), (0, .class_ 1109), (0, u "java/lang/Comparable"), (0, .class_ 1111), (0, u "java/lang/constant/Constable"), (0, .class_ 1113), (0, u "java/lang/constant/ConstantDesc"), (2, u "serialVersionUID"), (0, u "J"), (3, u "REPL"), (0, u "C"), (2, u "LATIN1"), (1, u "UTF16")] 323

def k7m0 : Method := { name := "<init>", desc := "()V", sig := { parameters := [], returnType := none }, accessFlags := 1, code := none }
def k7c1 : Code := { maxStack := 5, maxLocals := 2, code := jdk_42_method_3_code, exceptionTable := #[], attributes := #[] }
def k7m1 : Method := { name := "<init>", desc := "([C)V", sig := { parameters := [(.array .char)], returnType := none }, accessFlags := 1, code := some k7c1 }
def k7c2 : Code := { maxStack := 2, maxLocals := 1, code := jdk_42_method_54_code, exceptionTable := #[], attributes := #[] }
def k7m2 : Method := { name := "length", desc := "()I", sig := { parameters := [], returnType := some .int }, accessFlags := 1, code := some k7c2 }
def k7c3 : Code := { maxStack := 2, maxLocals := 3, code := jdk_42_method_66_code, exceptionTable := #[], attributes := #[] }
def k7m3 : Method := { name := "equals", desc := "(Ljava/lang/Object;)Z", sig := { parameters := [(.object "java/lang/Object")], returnType := some .boolean }, accessFlags := 1, code := some k7c3 }
def k7c4 : Code := { maxStack := 2, maxLocals := 1, code := jdk_42_method_117_code, exceptionTable := #[], attributes := #[] }
def k7m4 : Method := { name := "isBlank", desc := "()Z", sig := { parameters := [], returnType := some .boolean }, accessFlags := 1, code := some k7c4 }
def k7c5 : Code := { maxStack := 1, maxLocals := 1, code := jdk_42_method_120_code, exceptionTable := #[], attributes := #[] }
def k7m5 : Method := { name := "indexOfNonWhitespace", desc := "()I", sig := { parameters := [], returnType := some .int }, accessFlags := 2, code := some k7c5 }
def k7c6 : Code := { maxStack := 4, maxLocals := 1, code := jdk_42_method_139_code, exceptionTable := #[], attributes := #[] }
def k7m6 : Method := { name := "valueOf", desc := "(C)Ljava/lang/String;", sig := { parameters := [.char], returnType := some (.object "java/lang/String") }, accessFlags := 9, code := some k7c6 }
def k7c7 : Code := { maxStack := 4, maxLocals := 6, code := jdk_42_method_149_code, exceptionTable := #[], attributes := #[] }
def k7m7 : Method := { name := "<init>", desc := "([CIILjava/lang/Void;)V", sig := { parameters := [(.array .char), .int, .int, (.object "java/lang/Void")], returnType := none }, accessFlags := 2, code := some k7c7 }
def k7c8 : Code := { maxStack := 2, maxLocals := 3, code := jdk_42_method_151_code, exceptionTable := #[], attributes := #[] }
def k7m8 : Method := { name := "<init>", desc := "([BB)V", sig := { parameters := [(.array .byte), .byte], returnType := none }, accessFlags := 0, code := some k7c8 }
def k7c9 : Code := { maxStack := 1, maxLocals := 1, code := jdk_42_method_152_code, exceptionTable := #[], attributes := #[] }
def k7m9 : Method := { name := "coder", desc := "()B", sig := { parameters := [], returnType := some .byte }, accessFlags := 0, code := some k7c9 }
def k7c10 : Code := { maxStack := 1, maxLocals := 1, code := jdk_42_method_154_code, exceptionTable := #[], attributes := #[] }
def k7m10 : Method := { name := "isLatin1", desc := "()Z", sig := { parameters := [], returnType := some .boolean }, accessFlags := 0, code := some k7c10 }
/-- java/lang/String -/
def k7 : Class := { plain "java/lang/String" (some 0) with
  accessFlags := 49
  interfaces := #[2, 3, 4, 5, 6]
  cf := some (fileOf pool7 10 #[.nestMembers #[1103]] #[{ accessFlags := 1, nameIndex := 5, descriptorIndex := 6, attributes := #[] }, { accessFlags := 1, nameIndex := 5, descriptorIndex := 1010, attributes := #[] }, { accessFlags := 1, nameIndex := 507, descriptorIndex := 334, attributes := #[] }, { accessFlags := 1, nameIndex := 543, descriptorIndex := 573, attributes := #[] }, { accessFlags := 1, nameIndex := 952, descriptorIndex := 142, attributes := #[] }, { accessFlags := 2, nameIndex := 878, descriptorIndex := 334, attributes := #[] }, { accessFlags := 9, nameIndex := 782, descriptorIndex := 783, attributes := #[] }, { accessFlags := 2, nameIndex := 5, descriptorIndex := 29, attributes := #[] }, { accessFlags := 0, nameIndex := 5, descriptorIndex := 211, attributes := #[] }, { accessFlags := 0, nameIndex := 17, descriptorIndex := 337, attributes := #[] }, { accessFlags := 0, nameIndex := 494, descriptorIndex := 142, attributes := #[] }] 49 2 #[1106, 1108, 575, 1110, 1112] #[{ accessFlags := 18, nameIndex := 13, descriptorIndex := 14, attributes := #[] }, { accessFlags := 18, nameIndex := 17, descriptorIndex := 18, attributes := #[] }, { accessFlags := 2, nameIndex := 21, descriptorIndex := 22, attributes := #[] }, { accessFlags := 2, nameIndex := 25, descriptorIndex := 26, attributes := #[] }, { accessFlags := 26, nameIndex := 1116, descriptorIndex := 1117, attributes := #[] }, { accessFlags := 24, nameIndex := 40, descriptorIndex := 26, attributes := #[] }, { accessFlags := 26, nameIndex := 1101, descriptorIndex := 1102, attributes := #[] }, { accessFlags := 26, nameIndex := 1121, descriptorIndex := 1122, attributes := #[] }, { accessFlags := 25, nameIndex := 599, descriptorIndex := 600, attributes := #[] }, { accessFlags := 24, nameIndex := 1125, descriptorIndex := 18, attributes := #[] }, { accessFlags := 24, nameIndex := 1127, descriptorIndex := 18, attributes := #[] }])
  fields := #[{ name := "value", type := (.array .byte), accessFlags := 18, slot := 0, constantValue := 0 }, { name := "coder", type := .byte, accessFlags := 18, slot := 1, constantValue := 0 }, { name := "hash", type := .int, accessFlags := 2, slot := 2, constantValue := 0 }, { name := "hashIsZero", type := .boolean, accessFlags := 2, slot := 3, constantValue := 0 }, { name := "serialVersionUID", type := .long, accessFlags := 26, slot := 0, constantValue := 0 }, { name := "COMPACT_STRINGS", type := .boolean, accessFlags := 24, slot := 1, constantValue := 0 }, { name := "serialPersistentFields", type := (.array (.object "java/io/ObjectStreamField")), accessFlags := 26, slot := 2, constantValue := 0 }, { name := "REPL", type := .char, accessFlags := 26, slot := 3, constantValue := 0 }, { name := "CASE_INSENSITIVE_ORDER", type := (.object "java/util/Comparator"), accessFlags := 25, slot := 4, constantValue := 0 }, { name := "LATIN1", type := .byte, accessFlags := 24, slot := 5, constantValue := 0 }, { name := "UTF16", type := .byte, accessFlags := 24, slot := 6, constantValue := 0 }]
  methods := #[k7m0, k7m1, k7m2, k7m3, k7m4, k7m5, k7m6, k7m7, k7m8, k7m9, k7m10]
  instanceTypes := #[(.array .byte), .byte, .int, .boolean]
  staticTypes := #[.long, .boolean, (.array (.object "java/io/ObjectStreamField")), .char, (.object "java/util/Comparator"), .byte, .byte]
  resolved := Array.replicate 1451 none
  statics := some 0 }

def pool8 : Array CpInfo := pool [(6, .class_ 8), (1, u "java/lang/Object"), (0, u "<init>"), (0, u "()V"), (1, .class_ 14), (1, u "java/lang/StringUTF16"), (31, u "$assertionsDisabled"), (0, u "Z"), (13, u "HI_BYTE_SHIFT"), (0, u "I"), (2, u "LO_BYTE_SHIFT"), (49, .methodref 12 116), (0, .nameAndType 117 118), (0, u "compress"), (0, u "([CI[BII)I"), (3, u "([CII)[B"), (138, u "coderFromArrayLen"), (0, u "([BI)B"), (106, .class_ 371), (1, u "java/lang/StringUTF16$LinesSpliterator"), (58, u "MAX_LENGTH"), (196, .class_ 628), (0, u "java/lang/StringUTF16$CodePointsSpliterator"), (0, .class_ 630), (0, u "java/lang/StringUTF16$CharsSpliterator")] 4

def k8m0 : Method := { name := "<init>", desc := "()V", sig := { parameters := [], returnType := none }, accessFlags := 0, code := none }
def k8c1 : Code := { maxStack := 2, maxLocals := 2, code := jdk_52_method_15_code, exceptionTable := #[], attributes := #[] }
def k8m1 : Method := { name := "coderFromArrayLen", desc := "([BI)B", sig := { parameters := [(.array .byte), .int], returnType := some .byte }, accessFlags := 8, code := some k8c1 }
def k8c2 : Code := { maxStack := 5, maxLocals := 6, code := jdk_52_method_16_code, exceptionTable := #[], attributes := #[] }
def k8m2 : Method := { name := "compress", desc := "([CII)[B", sig := { parameters := [(.array .char), .int, .int], returnType := some (.array .byte) }, accessFlags := 9, code := some k8c2 }
def k8c3 : Code := { maxStack := 3, maxLocals := 7, code := jdk_52_method_21_code, exceptionTable := #[], attributes := #[] }
def k8m3 : Method := { name := "compress", desc := "([CI[BII)I", sig := { parameters := [(.array .char), .int, (.array .byte), .int, .int], returnType := some .int }, accessFlags := 9, code := some k8c3 }
/-- java/lang/StringUTF16 -/
def k8 : Class := { plain "java/lang/StringUTF16" (some 0) with
  accessFlags := 48
  interfaces := #[]
  cf := some (fileOf pool8 12 #[.nestMembers #[627, 629, 369]] #[{ accessFlags := 0, nameIndex := 9, descriptorIndex := 10, attributes := #[] }, { accessFlags := 8, nameIndex := 261, descriptorIndex := 262, attributes := #[] }, { accessFlags := 9, nameIndex := 117, descriptorIndex := 122, attributes := #[] }, { accessFlags := 9, nameIndex := 117, descriptorIndex := 118, attributes := #[] }] 48 6 #[] #[{ accessFlags := 26, nameIndex := 61, descriptorIndex := 62, attributes := #[] }, { accessFlags := 26, nameIndex := 65, descriptorIndex := 62, attributes := #[] }, { accessFlags := 24, nameIndex := 430, descriptorIndex := 62, attributes := #[] }, { accessFlags := 4120, nameIndex := 46, descriptorIndex := 47, attributes := #[] }])
  fields := #[{ name := "HI_BYTE_SHIFT", type := .int, accessFlags := 26, slot := 0, constantValue := 0 }, { name := "LO_BYTE_SHIFT", type := .int, accessFlags := 26, slot := 1, constantValue := 0 }, { name := "MAX_LENGTH", type := .int, accessFlags := 24, slot := 2, constantValue := 0 }, { name := "$assertionsDisabled", type := .boolean, accessFlags := 4120, slot := 3, constantValue := 0 }]
  methods := #[k8m0, k8m1, k8m2, k8m3]
  instanceTypes := #[]
  staticTypes := #[.int, .int, .int, .boolean]
  resolved := Array.replicate 635 none
  statics := none }

def pool9 : Array CpInfo := pool [(4, .class_ 6), (1, u "java/lang/Object"), (0, u "<init>"), (0, u "()V"), (5, .class_ 16), (1, u "java/lang/StringLatin1"), (33, .methodref 14 51), (0, .nameAndType 52 53), (0, u "getChar"), (0, u "([BI)C"), (3, u "([B)I"), (8, .fieldref 67 68), (0, .class_ 69), (0, .nameAndType 70 71), (0, u "java/lang/CharacterDataLatin1"), (0, u "instance"), (0, u "Ljava/lang/CharacterDataLatin1;"), (18, u "canEncode"), (0, u "(I)Z"), (13, u "(C)Z"), (15, u "$assertionsDisabled"), (0, u "Z"), (88, .methodref 67 212), (0, .nameAndType 213 91), (0, u "isWhitespace"), (2, u "indexOfNonWhitespace"), (4, .class_ 223), (1, u "java/lang/StringLatin1$LinesSpliterator"), (57, u "equals"), (0, u "([B[B)Z"), (97, u "toBytes"), (1, u "(C)[B"), (7, .class_ 391), (0, u "java/lang/StringLatin1$CharsSpliterator")] 3

def k9m0 : Method := { name := "<init>", desc := "()V", sig := { parameters := [], returnType := none }, accessFlags := 0, code := none }
def k9c1 : Code := { maxStack := 2, maxLocals := 1, code := jdk_43_method_3_code, exceptionTable := #[], attributes := #[] }
def k9m1 : Method := { name := "canEncode", desc := "(C)Z", sig := { parameters := [.char], returnType := some .boolean }, accessFlags := 9, code := some k9c1 }
def k9c2 : Code := { maxStack := 3, maxLocals := 3, code := jdk_43_method_13_code, exceptionTable := #[], attributes := #[] }
def k9m2 : Method := { name := "equals", desc := "([B[B)Z", sig := { parameters := [(.array .byte), (.array .byte)], returnType := some .boolean }, accessFlags := 9, code := some k9c2 }
def k9c3 : Code := { maxStack := 2, maxLocals := 4, code := jdk_43_method_37_code, exceptionTable := #[], attributes := #[] }
def k9m3 : Method := { name := "indexOfNonWhitespace", desc := "([B)I", sig := { parameters := [(.array .byte)], returnType := some .int }, accessFlags := 9, code := some k9c3 }
def k9c4 : Code := { maxStack := 2, maxLocals := 2, code := jdk_43_method_44_code, exceptionTable := #[], attributes := #[] }
def k9m4 : Method := { name := "getChar", desc := "([BI)C", sig := { parameters := [(.array .byte), .int], returnType := some .char }, accessFlags := 9, code := some k9c4 }
def k9c5 : Code := { maxStack := 4, maxLocals := 1, code := jdk_43_method_46_code, exceptionTable := #[], attributes := #[] }
def k9m5 : Method := { name := "toBytes", desc := "(C)[B", sig := { parameters := [.char], returnType := some (.array .byte) }, accessFlags := 9, code := some k9c5 }
/-- java/lang/StringLatin1 -/
def k9 : Class := { plain "java/lang/StringLatin1" (some 0) with
  accessFlags := 48
  interfaces := #[]
  cf := some (fileOf pool9 14 #[.nestMembers #[390, 221]] #[{ accessFlags := 0, nameIndex := 7, descriptorIndex := 8, attributes := #[] }, { accessFlags := 9, nameIndex := 90, descriptorIndex := 105, attributes := #[] }, { accessFlags := 9, nameIndex := 281, descriptorIndex := 282, attributes := #[] }, { accessFlags := 9, nameIndex := 216, descriptorIndex := 57, attributes := #[] }, { accessFlags := 9, nameIndex := 52, descriptorIndex := 53, attributes := #[] }, { accessFlags := 9, nameIndex := 380, descriptorIndex := 382, attributes := #[] }] 48 4 #[] #[{ accessFlags := 4120, nameIndex := 121, descriptorIndex := 122, attributes := #[] }])
  fields := #[{ name := "$assertionsDisabled", type := .boolean, accessFlags := 4120, slot := 0, constantValue := 0 }]
  methods := #[k9m0, k9m1, k9m2, k9m3, k9m4, k9m5]
  instanceTypes := #[]
  staticTypes := #[.boolean]
  resolved := Array.replicate 395 none
  statics := none }

def pool10 : Array CpInfo := pool [(1, .methodref 2 3), (0, .class_ 4), (0, .nameAndType 5 6), (0, u "com/example/kourier/kourier/outbox/OutboxEvent"), (0, u "<init>"), (0, u "(Ljava/lang/String;Ljava/lang/String;Ljava/lang/String;Ljava/lang/String;[B)V"), (0, .methodref 8 9), (0, .class_ 10), (0, .nameAndType 5 11), (0, u "java/lang/Object"), (0, u "()V"), (0, .fieldref 2 13), (0, .nameAndType 14 15), (0, u "id"), (0, u "Ljava/lang/String;"), (0, .string 17), (0, u "destination"), (0, .methodref 2 19), (0, .nameAndType 20 21), (0, u "requireText"), (0, u "(Ljava/lang/String;Ljava/lang/String;)Ljava/lang/String;"), (0, .fieldref 2 23), (0, .nameAndType 17 15), (0, .string 25), (0, u "key"), (0, .fieldref 2 27), (0, .nameAndType 25 15), (0, .string 29), (0, u "type"), (0, .fieldref 2 31), (0, .nameAndType 29 15), (0, .string 33), (0, u "payload"), (0, .methodref 35 36), (0, .class_ 37), (0, .nameAndType 38 39), (0, u "java/util/Objects"), (0, u "requireNonNull"), (0, u "(Ljava/lang/Object;Ljava/lang/String;)Ljava/lang/Object;"), (0, .class_ 41), (0, u "[B"), (0, .methodref 40 43), (0, .nameAndType 44 45), (0, u "clone"), (0, u "()Ljava/lang/Object;"), (0, .fieldref 2 47), (0, .nameAndType 33 41), (0, .string 14), (6, .methodref 8 56), (0, .nameAndType 57 58), (0, u "getClass"), (0, u "()Ljava/lang/Class;"), (0, .methodref 35 60), (0, .nameAndType 61 62), (0, u "equals"), (0, u "(Ljava/lang/Object;Ljava/lang/Object;)Z"), (0, .methodref 64 65), (0, .class_ 66), (0, .nameAndType 61 67), (0, u "java/lang/String"), (0, u "(Ljava/lang/Object;)Z"), (0, .methodref 69 70), (0, .class_ 71), (0, .nameAndType 61 72), (0, u "java/util/Arrays"), (0, u "([B[B)Z"), (20, .methodref 64 94), (0, .nameAndType 95 96), (0, u "isBlank"), (0, u "()Z"), (9, u "(Ljava/lang/String;Ljava/lang/String;Ljava/lang/String;[B)V"), (2, u "withId"), (0, u "(Ljava/lang/String;)Lcom/example/kourier/kourier/outbox/OutboxEvent;"), (3, u "()Ljava/lang/String;"), (0, u "()[B")] 20

def k10c0 : Code := { maxStack := 6, maxLocals := 5, code := prog_10_method_1_code, exceptionTable := #[], attributes := #[] }
def k10m0 : Method := { name := "<init>", desc := "(Ljava/lang/String;Ljava/lang/String;Ljava/lang/String;[B)V", sig := { parameters := [(.object "java/lang/String"), (.object "java/lang/String"), (.object "java/lang/String"), (.array .byte)], returnType := none }, accessFlags := 1, code := some k10c0 }
def k10c1 : Code := { maxStack := 3, maxLocals := 6, code := prog_10_method_2_code, exceptionTable := #[], attributes := #[] }
def k10m1 : Method := { name := "<init>", desc := "(Ljava/lang/String;Ljava/lang/String;Ljava/lang/String;Ljava/lang/String;[B)V", sig := { parameters := [(.object "java/lang/String"), (.object "java/lang/String"), (.object "java/lang/String"), (.object "java/lang/String"), (.array .byte)], returnType := none }, accessFlags := 2, code := some k10c1 }
def k10c2 : Code := { maxStack := 7, maxLocals := 2, code := prog_10_method_3_code, exceptionTable := #[], attributes := #[] }
def k10m2 : Method := { name := "withId", desc := "(Ljava/lang/String;)Lcom/example/kourier/kourier/outbox/OutboxEvent;", sig := { parameters := [(.object "java/lang/String")], returnType := some (.object "com/example/kourier/kourier/outbox/OutboxEvent") }, accessFlags := 1, code := some k10c2 }
def k10c3 : Code := { maxStack := 1, maxLocals := 1, code := prog_10_method_5_code, exceptionTable := #[], attributes := #[] }
def k10m3 : Method := { name := "destination", desc := "()Ljava/lang/String;", sig := { parameters := [], returnType := some (.object "java/lang/String") }, accessFlags := 1, code := some k10c3 }
def k10c4 : Code := { maxStack := 1, maxLocals := 1, code := prog_10_method_6_code, exceptionTable := #[], attributes := #[] }
def k10m4 : Method := { name := "key", desc := "()Ljava/lang/String;", sig := { parameters := [], returnType := some (.object "java/lang/String") }, accessFlags := 1, code := some k10c4 }
def k10c5 : Code := { maxStack := 1, maxLocals := 1, code := prog_10_method_7_code, exceptionTable := #[], attributes := #[] }
def k10m5 : Method := { name := "type", desc := "()Ljava/lang/String;", sig := { parameters := [], returnType := some (.object "java/lang/String") }, accessFlags := 1, code := some k10c5 }
def k10c6 : Code := { maxStack := 1, maxLocals := 1, code := prog_10_method_8_code, exceptionTable := #[], attributes := #[] }
def k10m6 : Method := { name := "payload", desc := "()[B", sig := { parameters := [], returnType := some (.array .byte) }, accessFlags := 1, code := some k10c6 }
def k10c7 : Code := { maxStack := 2, maxLocals := 3, code := prog_10_method_9_code, exceptionTable := #[], attributes := #[] }
def k10m7 : Method := { name := "equals", desc := "(Ljava/lang/Object;)Z", sig := { parameters := [(.object "java/lang/Object")], returnType := some .boolean }, accessFlags := 1, code := some k10c7 }
def k10c8 : Code := { maxStack := 3, maxLocals := 2, code := prog_10_method_12_code, exceptionTable := #[], attributes := #[] }
def k10m8 : Method := { name := "requireText", desc := "(Ljava/lang/String;Ljava/lang/String;)Ljava/lang/String;", sig := { parameters := [(.object "java/lang/String"), (.object "java/lang/String")], returnType := some (.object "java/lang/String") }, accessFlags := 10, code := some k10c8 }
/-- com/example/kourier/kourier/outbox/OutboxEvent -/
def k10 : Class := { plain "com/example/kourier/kourier/outbox/OutboxEvent" (some 0) with
  accessFlags := 33
  interfaces := #[]
  cf := some (fileOf pool10 2 #[] #[{ accessFlags := 1, nameIndex := 5, descriptorIndex := 106, attributes := #[] }, { accessFlags := 2, nameIndex := 5, descriptorIndex := 6, attributes := #[] }, { accessFlags := 1, nameIndex := 109, descriptorIndex := 110, attributes := #[] }, { accessFlags := 1, nameIndex := 17, descriptorIndex := 114, attributes := #[] }, { accessFlags := 1, nameIndex := 25, descriptorIndex := 114, attributes := #[] }, { accessFlags := 1, nameIndex := 29, descriptorIndex := 114, attributes := #[] }, { accessFlags := 1, nameIndex := 33, descriptorIndex := 115, attributes := #[] }, { accessFlags := 1, nameIndex := 61, descriptorIndex := 67, attributes := #[] }, { accessFlags := 10, nameIndex := 20, descriptorIndex := 21, attributes := #[] }] 33 8 #[] #[{ accessFlags := 18, nameIndex := 14, descriptorIndex := 15, attributes := #[] }, { accessFlags := 18, nameIndex := 17, descriptorIndex := 15, attributes := #[] }, { accessFlags := 18, nameIndex := 25, descriptorIndex := 15, attributes := #[] }, { accessFlags := 18, nameIndex := 29, descriptorIndex := 15, attributes := #[] }, { accessFlags := 18, nameIndex := 33, descriptorIndex := 41, attributes := #[] }])
  fields := #[{ name := "id", type := (.object "java/lang/String"), accessFlags := 18, slot := 0, constantValue := 0 }, { name := "destination", type := (.object "java/lang/String"), accessFlags := 18, slot := 1, constantValue := 0 }, { name := "key", type := (.object "java/lang/String"), accessFlags := 18, slot := 2, constantValue := 0 }, { name := "type", type := (.object "java/lang/String"), accessFlags := 18, slot := 3, constantValue := 0 }, { name := "payload", type := (.array .byte), accessFlags := 18, slot := 4, constantValue := 0 }]
  methods := #[k10m0, k10m1, k10m2, k10m3, k10m4, k10m5, k10m6, k10m7, k10m8]
  instanceTypes := #[(.object "java/lang/String"), (.object "java/lang/String"), (.object "java/lang/String"), (.object "java/lang/String"), (.array .byte)]
  staticTypes := #[]
  resolved := Array.replicate 136 none
  mirror := some 3
  statics := none }

def pool11 : Array CpInfo := pool [(2, .class_ 4), (1, u "java/lang/Object"), (0, u "<init>"), (0, u "()V"), (7, .methodref 2 15), (0, .nameAndType 16 17), (0, u "equals"), (0, u "(Ljava/lang/Object;)Z"), (5, u "(Ljava/lang/Object;Ljava/lang/Object;)Z"), (18, .class_ 44), (1, u "java/util/Objects"), (0, u "requireNonNull"), (48, u "(Ljava/lang/Object;Ljava/lang/String;)Ljava/lang/Object;")] 89

def k11m0 : Method := { name := "<init>", desc := "()V", sig := { parameters := [], returnType := none }, accessFlags := 2, code := none }
def k11c1 : Code := { maxStack := 2, maxLocals := 2, code := jdk_31_method_2_code, exceptionTable := #[], attributes := #[] }
def k11m1 : Method := { name := "equals", desc := "(Ljava/lang/Object;Ljava/lang/Object;)Z", sig := { parameters := [(.object "java/lang/Object"), (.object "java/lang/Object")], returnType := some .boolean }, accessFlags := 9, code := some k11c1 }
def k11c2 : Code := { maxStack := 3, maxLocals := 2, code := jdk_31_method_11_code, exceptionTable := #[], attributes := #[] }
def k11m2 : Method := { name := "requireNonNull", desc := "(Ljava/lang/Object;Ljava/lang/String;)Ljava/lang/Object;", sig := { parameters := [(.object "java/lang/Object"), (.object "java/lang/String")], returnType := some (.object "java/lang/Object") }, accessFlags := 9, code := some k11c2 }
/-- java/util/Objects -/
def k11 : Class := { plain "java/util/Objects" (some 0) with
  accessFlags := 49
  interfaces := #[]
  cf := some (fileOf pool11 42 #[] #[{ accessFlags := 2, nameIndex := 5, descriptorIndex := 6, attributes := #[] }, { accessFlags := 9, nameIndex := 16, descriptorIndex := 23, attributes := #[] }, { accessFlags := 9, nameIndex := 45, descriptorIndex := 94, attributes := #[] }] 49 2 #[] #[])
  fields := #[]
  methods := #[k11m0, k11m1, k11m2]
  instanceTypes := #[]
  staticTypes := #[]
  resolved := Array.replicate 184 none
  statics := none }

def pool12 : Array CpInfo := pool [(2, .class_ 4), (1, u "java/lang/Object"), (0, u "<init>"), (0, u "()V"), (1, .class_ 10), (1, u "java/lang/CharacterData")] 75

def k12m0 : Method := { name := "<init>", desc := "()V", sig := { parameters := [], returnType := none }, accessFlags := 0, code := none }
/-- java/lang/CharacterData -/
def k12 : Class := { plain "java/lang/CharacterData" (some 0) with
  accessFlags := 1056
  interfaces := #[]
  cf := some (fileOf pool12 8 #[] #[{ accessFlags := 0, nameIndex := 5, descriptorIndex := 6, attributes := #[] }] 1056 2 #[] #[])
  fields := #[]
  methods := #[k12m0]
  instanceTypes := #[]
  staticTypes := #[]
  resolved := Array.replicate 86 none
  statics := none }

def pool13 : Array CpInfo := pool [(1, .fieldref 2 3), (0, .class_ 4), (0, .nameAndType 5 6), (0, u "java/lang/CharacterDataLatin1"), (0, u "A"), (0, u "[I"), (2, u "B"), (0, u "[C"), (3, u "(I)I"), (0, .methodref 2 16), (0, .nameAndType 17 14), (0, u "getProperties"), (3, u "(I)Z"), (5, u "DIGITS"), (0, u "[B"), (8, u "sharpsMap"), (1, .class_ 41), (1, u "java/lang/CharacterData"), (0, u "<init>"), (0, u "()V"), (3, u "instance"), (0, u "Ljava/lang/CharacterDataLatin1;"), (78, u "isWhitespace")] 13

def k13c0 : Code := { maxStack := 2, maxLocals := 4, code := jdk_116_method_1_code, exceptionTable := #[], attributes := #[] }
def k13m0 : Method := { name := "getProperties", desc := "(I)I", sig := { parameters := [.int], returnType := some .int }, accessFlags := 0, code := some k13c0 }
def k13c1 : Code := { maxStack := 2, maxLocals := 3, code := jdk_116_method_26_code, exceptionTable := #[], attributes := #[] }
def k13m1 : Method := { name := "isWhitespace", desc := "(I)Z", sig := { parameters := [.int], returnType := some .boolean }, accessFlags := 0, code := some k13c1 }
def k13m2 : Method := { name := "<init>", desc := "()V", sig := { parameters := [], returnType := none }, accessFlags := 2, code := none }
/-- java/lang/CharacterDataLatin1 -/
def k13 : Class := { plain "java/lang/CharacterDataLatin1" (some 12) with
  accessFlags := 32
  interfaces := #[]
  cf := some (fileOf pool13 2 #[] #[{ accessFlags := 0, nameIndex := 17, descriptorIndex := 14, attributes := #[] }, { accessFlags := 0, nameIndex := 127, descriptorIndex := 21, attributes := #[] }, { accessFlags := 2, nameIndex := 42, descriptorIndex := 43, attributes := #[] }] 32 39 #[] #[{ accessFlags := 26, nameIndex := 27, descriptorIndex := 28, attributes := #[] }, { accessFlags := 8, nameIndex := 37, descriptorIndex := 10, attributes := #[] }, { accessFlags := 24, nameIndex := 47, descriptorIndex := 48, attributes := #[] }, { accessFlags := 24, nameIndex := 5, descriptorIndex := 6, attributes := #[] }, { accessFlags := 24, nameIndex := 9, descriptorIndex := 10, attributes := #[] }])
  fields := #[{ name := "DIGITS", type := (.array .byte), accessFlags := 26, slot := 0, constantValue := 0 }, { name := "sharpsMap", type := (.array .char), accessFlags := 8, slot := 1, constantValue := 0 }, { name := "instance", type := (.object "java/lang/CharacterDataLatin1"), accessFlags := 24, slot := 2, constantValue := 0 }, { name := "A", type := (.array .int), accessFlags := 24, slot := 3, constantValue := 0 }, { name := "B", type := (.array .char), accessFlags := 24, slot := 4, constantValue := 0 }]
  methods := #[k13m0, k13m1, k13m2]
  instanceTypes := #[]
  staticTypes := #[(.array .byte), (.array .char), (.object "java/lang/CharacterDataLatin1"), (.array .int), (.array .char)]
  resolved := Array.replicate 141 none
  statics := some 1 }

def pool14 : Array CpInfo := pool [(1, .class_ 2), (0, u "java/lang/Cloneable"), (0, .class_ 4), (0, u "java/lang/Object")] 2

/-- java/lang/Cloneable -/
def k14 : Class := { plain "java/lang/Cloneable" (some 0) with
  accessFlags := 1537
  interfaces := #[]
  cf := some (fileOf pool14 1 #[] #[] 1537 3 #[] #[])
  fields := #[]
  methods := #[]
  instanceTypes := #[]
  staticTypes := #[]
  resolved := Array.replicate 7 none
  statics := none }

def pool15 : Array CpInfo := pool [(2, .class_ 4), (1, u "java/lang/Object"), (0, u "<init>"), (0, u "()V"), (7, .class_ 16), (1, u "java/util/Arrays"), (57, .class_ 76), (1, u "java/util/Arrays$NaturalOrder"), (36, .class_ 115), (1, u "java/util/Arrays$LegacyMergeSort"), (1, u "Z"), (128, .class_ 248), (1, u "jdk/internal/util/ArraysSupport"), (0, u "mismatch"), (22, .methodref 246 273), (0, .nameAndType 249 274), (0, u "([B[BI)I"), (23, u "equals"), (76, .class_ 376), (0, u "java/util/Arrays$ArrayList"), (68, u "$assertionsDisabled"), (9, u "([B[B)Z"), (259, u "MIN_ARRAY_SORT_GRAN"), (0, u "I"), (2, u "INSERTIONSORT_THRESHOLD"), (255, .class_ 976), (0, u "java/util/Arrays$ArrayItr")] 52

def k15m0 : Method := { name := "<init>", desc := "()V", sig := { parameters := [], returnType := none }, accessFlags := 2, code := none }
def k15c1 : Code := { maxStack := 3, maxLocals := 3, code := jdk_65_method_89_code, exceptionTable := #[], attributes := #[] }
def k15m1 : Method := { name := "equals", desc := "([B[B)Z", sig := { parameters := [(.array .byte), (.array .byte)], returnType := some .boolean }, accessFlags := 9, code := some k15c1 }
/-- java/util/Arrays -/
def k15 : Class := { plain "java/util/Arrays" (some 0) with
  accessFlags := 49
  interfaces := #[]
  cf := some (fileOf pool15 14 #[.nestMembers #[975, 375, 113, 74]] #[{ accessFlags := 2, nameIndex := 5, descriptorIndex := 6, attributes := #[] }, { accessFlags := 9, nameIndex := 298, descriptorIndex := 455, attributes := #[] }] 49 2 #[] #[{ accessFlags := 26, nameIndex := 715, descriptorIndex := 716, attributes := #[] }, { accessFlags := 26, nameIndex := 719, descriptorIndex := 716, attributes := #[] }, { accessFlags := 4120, nameIndex := 445, descriptorIndex := 117, attributes := #[] }])
  fields := #[{ name := "MIN_ARRAY_SORT_GRAN", type := .int, accessFlags := 26, slot := 0, constantValue := 0 }, { name := "INSERTIONSORT_THRESHOLD", type := .int, accessFlags := 26, slot := 1, constantValue := 0 }, { name := "$assertionsDisabled", type := .boolean, accessFlags := 4120, slot := 2, constantValue := 0 }]
  methods := #[k15m0, k15m1]
  instanceTypes := #[]
  staticTypes := #[.int, .int, .boolean]
  resolved := Array.replicate 1029 none
  statics := none }

def pool16 : Array CpInfo := pool [(9, u "<init>"), (6, .class_ 18), (1, u "java/lang/Object"), (0, u "()V"), (1, .class_ 23), (1, u "jdk/internal/util/ArraysSupport"), (0, u "LOG2_ARRAY_LONG_INDEX_SCALE"), (0, u "I"), (2, u "U"), (0, u "Ljdk/internal/misc/Unsafe;"), (8, u "BIG_ENDIAN"), (0, u "Z"), (8, u "LOG2_BYTE_BIT_SIZE"), (4, u "LOG2_ARRAY_INT_INDEX_SCALE"), (54, u "JLA"), (0, u "Ljdk/internal/access/JavaLangAccess;"), (11, u "LOG2_ARRAY_BOOLEAN_INDEX_SCALE"), (9, u "LOG2_ARRAY_BYTE_INDEX_SCALE"), (5, u "LOG2_ARRAY_CHAR_INDEX_SCALE"), (5, u "LOG2_ARRAY_SHORT_INDEX_SCALE"), (5, u "mismatch"), (12, u "LOG2_ARRAY_FLOAT_INDEX_SCALE"), (24, u "LOG2_ARRAY_DOUBLE_INDEX_SCALE"), (89, u "T_BOOLEAN"), (2, u "T_CHAR"), (1, u "T_FLOAT"), (1, u "T_DOUBLE"), (1, u "T_BYTE"), (1, u "T_SHORT"), (1, u "T_INT"), (1, u "T_LONG"), (1, u "SOFT_MAX_ARRAY_LENGTH"), (41, u "([B[BI)I")] 41

def k16m0 : Method := { name := "<init>", desc := "()V", sig := { parameters := [], returnType := none }, accessFlags := 2, code := none }
def k16c1 : Code := { maxStack := 8, maxLocals := 4, code := jdk_48_method_13_code, exceptionTable := #[], attributes := #[] }
def k16m1 : Method := { name := "mismatch", desc := "([B[BI)I", sig := { parameters := [(.array .byte), (.array .byte), .int], returnType := some .int }, accessFlags := 9, code := some k16c1 }
/-- jdk/internal/util/ArraysSupport -/
def k16 : Class := { plain "jdk/internal/util/ArraysSupport" (some 0) with
  accessFlags := 33
  interfaces := #[]
  cf := some (fileOf pool16 21 #[] #[{ accessFlags := 2, nameIndex := 9, descriptorIndex := 19, attributes := #[] }, { accessFlags := 9, nameIndex := 149, descriptorIndex := 336, attributes := #[] }] 33 16 #[] #[{ accessFlags := 24, nameIndex := 28, descriptorIndex := 29, attributes := #[] }, { accessFlags := 26, nameIndex := 38, descriptorIndex := 39, attributes := #[] }, { accessFlags := 25, nameIndex := 121, descriptorIndex := 25, attributes := #[] }, { accessFlags := 25, nameIndex := 131, descriptorIndex := 25, attributes := #[] }, { accessFlags := 25, nameIndex := 137, descriptorIndex := 25, attributes := #[] }, { accessFlags := 25, nameIndex := 143, descriptorIndex := 25, attributes := #[] }, { accessFlags := 25, nameIndex := 53, descriptorIndex := 25, attributes := #[] }, { accessFlags := 25, nameIndex := 24, descriptorIndex := 25, attributes := #[] }, { accessFlags := 25, nameIndex := 162, descriptorIndex := 25, attributes := #[] }, { accessFlags := 25, nameIndex := 187, descriptorIndex := 25, attributes := #[] }, { accessFlags := 26, nameIndex := 48, descriptorIndex := 25, attributes := #[] }, { accessFlags := 25, nameIndex := 277, descriptorIndex := 25, attributes := #[] }, { accessFlags := 25, nameIndex := 280, descriptorIndex := 25, attributes := #[] }, { accessFlags := 25, nameIndex := 282, descriptorIndex := 25, attributes := #[] }, { accessFlags := 25, nameIndex := 284, descriptorIndex := 25, attributes := #[] }, { accessFlags := 25, nameIndex := 286, descriptorIndex := 25, attributes := #[] }, { accessFlags := 25, nameIndex := 288, descriptorIndex := 25, attributes := #[] }, { accessFlags := 25, nameIndex := 290, descriptorIndex := 25, attributes := #[] }, { accessFlags := 25, nameIndex := 292, descriptorIndex := 25, attributes := #[] }, { accessFlags := 26, nameIndex := 108, descriptorIndex := 109, attributes := #[] }, { accessFlags := 25, nameIndex := 294, descriptorIndex := 25, attributes := #[] }])
  fields := #[{ name := "U", type := (.object "jdk/internal/misc/Unsafe"), accessFlags := 24, slot := 0, constantValue := 0 }, { name := "BIG_ENDIAN", type := .boolean, accessFlags := 26, slot := 1, constantValue := 0 }, { name := "LOG2_ARRAY_BOOLEAN_INDEX_SCALE", type := .int, accessFlags := 25, slot := 2, constantValue := 0 }, { name := "LOG2_ARRAY_BYTE_INDEX_SCALE", type := .int, accessFlags := 25, slot := 3, constantValue := 0 }, { name := "LOG2_ARRAY_CHAR_INDEX_SCALE", type := .int, accessFlags := 25, slot := 4, constantValue := 0 }, { name := "LOG2_ARRAY_SHORT_INDEX_SCALE", type := .int, accessFlags := 25, slot := 5, constantValue := 0 }, { name := "LOG2_ARRAY_INT_INDEX_SCALE", type := .int, accessFlags := 25, slot := 6, constantValue := 0 }, { name := "LOG2_ARRAY_LONG_INDEX_SCALE", type := .int, accessFlags := 25, slot := 7, constantValue := 0 }, { name := "LOG2_ARRAY_FLOAT_INDEX_SCALE", type := .int, accessFlags := 25, slot := 8, constantValue := 0 }, { name := "LOG2_ARRAY_DOUBLE_INDEX_SCALE", type := .int, accessFlags := 25, slot := 9, constantValue := 0 }, { name := "LOG2_BYTE_BIT_SIZE", type := .int, accessFlags := 26, slot := 10, constantValue := 0 }, { name := "T_BOOLEAN", type := .int, accessFlags := 25, slot := 11, constantValue := 0 }, { name := "T_CHAR", type := .int, accessFlags := 25, slot := 12, constantValue := 0 }, { name := "T_FLOAT", type := .int, accessFlags := 25, slot := 13, constantValue := 0 }, { name := "T_DOUBLE", type := .int, accessFlags := 25, slot := 14, constantValue := 0 }, { name := "T_BYTE", type := .int, accessFlags := 25, slot := 15, constantValue := 0 }, { name := "T_SHORT", type := .int, accessFlags := 25, slot := 16, constantValue := 0 }, { name := "T_INT", type := .int, accessFlags := 25, slot := 17, constantValue := 0 }, { name := "T_LONG", type := .int, accessFlags := 25, slot := 18, constantValue := 0 }, { name := "JLA", type := (.object "jdk/internal/access/JavaLangAccess"), accessFlags := 26, slot := 19, constantValue := 0 }, { name := "SOFT_MAX_ARRAY_LENGTH", type := .int, accessFlags := 25, slot := 20, constantValue := 0 }]
  methods := #[k16m0, k16m1]
  instanceTypes := #[]
  staticTypes := #[(.object "jdk/internal/misc/Unsafe"), .boolean, .int, .int, .int, .int, .int, .int, .int, .int, .int, .int, .int, .int, .int, .int, .int, .int, .int, (.object "jdk/internal/access/JavaLangAccess"), .int]
  resolved := Array.replicate 378 none
  statics := none }

def pool17 : Array CpInfo := pool [(2, .class_ 4), (1, u "java/lang/Object"), (0, u "<init>"), (0, u "()V"), (17, .class_ 26), (1, u "jdk/internal/util/Preconditions"), (28, .class_ 56), (0, u "jdk/internal/util/Preconditions$4"), (57, .class_ 115), (0, u "jdk/internal/util/Preconditions$1"), (7, u "SIOOBE_FORMATTER"), (0, u "Ljava/util/function/BiFunction;"), (0, .class_ 126), (0, u "jdk/internal/util/Preconditions$2"), (3, u "AIOOBE_FORMATTER"), (0, .class_ 132), (0, u "jdk/internal/util/Preconditions$3"), (3, u "IOOBE_FORMATTER")] 57

def k17m0 : Method := { name := "<init>", desc := "()V", sig := { parameters := [], returnType := none }, accessFlags := 1, code := none }
/-- jdk/internal/util/Preconditions -/
def k17 : Class := { plain "jdk/internal/util/Preconditions" (some 0) with
  accessFlags := 33
  interfaces := #[]
  cf := some (fileOf pool17 24 #[.nestMembers #[55, 131, 125, 114]] #[{ accessFlags := 1, nameIndex := 5, descriptorIndex := 6, attributes := #[] }] 33 2 #[] #[{ accessFlags := 25, nameIndex := 123, descriptorIndex := 124, attributes := #[] }, { accessFlags := 25, nameIndex := 130, descriptorIndex := 124, attributes := #[] }, { accessFlags := 25, nameIndex := 136, descriptorIndex := 124, attributes := #[] }])
  fields := #[{ name := "SIOOBE_FORMATTER", type := (.object "java/util/function/BiFunction"), accessFlags := 25, slot := 0, constantValue := 0 }, { name := "AIOOBE_FORMATTER", type := (.object "java/util/function/BiFunction"), accessFlags := 25, slot := 1, constantValue := 0 }, { name := "IOOBE_FORMATTER", type := (.object "java/util/function/BiFunction"), accessFlags := 25, slot := 2, constantValue := 0 }]
  methods := #[k17m0]
  instanceTypes := #[]
  staticTypes := #[(.object "java/util/function/BiFunction"), (.object "java/util/function/BiFunction"), (.object "java/util/function/BiFunction")]
  resolved := Array.replicate 194 none
  statics := some 2 }

def pool18 : Array CpInfo := pool [(1, .class_ 2), (0, u "java/lang/Class"), (0, .class_ 4), (0, u "java/lang/Object")] 0

/-- java/lang/Class -/
def k18 : Class := { plain "java/lang/Class" (some 0) with
  accessFlags := 49
  interfaces := #[]
  cf := some (fileOf pool18 1 #[] #[] 49 3 #[] #[])
  fields := #[]
  methods := #[]
  instanceTypes := #[]
  staticTypes := #[]
  resolved := Array.replicate 5 none
  statics := none }

/-- the primitive byte -/
def k19 : Class := { plain "byte" none with kind := .primitive 'B', accessFlags := 0x411 }
/-- [B -/
def k20 : Class := { plain "[B" (some 0) with kind := .array 19 .byte, interfaces := #[14, 2], accessFlags := 1041 }

/-- the primitive char -/
def k21 : Class := { plain "char" none with kind := .primitive 'C', accessFlags := 0x411 }
/-- [C -/
def k22 : Class := { plain "[C" (some 0) with kind := .array 21 .char, interfaces := #[14, 2], accessFlags := 1041 }

/-- the primitive int -/
def k23 : Class := { plain "int" none with kind := .primitive 'I', accessFlags := 0x411 }
/-- [I -/
def k24 : Class := { plain "[I" (some 0) with kind := .array 23 .int, interfaces := #[14, 2], accessFlags := 1041 }

def heap : Heap := #[{ cls := 7, slots := #[.long 0, .int 1, .null, .int 0, .null, .int 0, .int 0], vm := .statics 7 },
  { cls := 13, slots := #[.null, .null, .ref 4, .ref 5, .null], vm := .statics 13 },
  { cls := 17, slots := #[.null, .null, .null], vm := .statics 17 },
  { cls := 18, slots := #[], vm := .mirror 10 },
  { cls := 13, slots := #[], vm := .none },
  { cls := 24, slots := #[.int 1207963663, .int 1207963663, .int 1207963663, .int 1207963663, .int 1207963663, .int 1207963663, .int 1207963663, .int 1207963663, .int 1207963663, .int 1476411407, .int 1342193679, .int 1476411407, .int 1610629135, .int 1342193679, .int 1207963663, .int 1207963663, .int 1207963663, .int 1207963663, .int 1207963663, .int 1207963663, .int 1207963663, .int 1207963663, .int 1207963663, .int 1207963663, .int 1207963663, .int 1207963663, .int 1207963663, .int 1207963663, .int 1342193679, .int 1342193679, .int 1342193679, .int 1476411407, .int 1610629132, .int 1744830488, .int 1744830488, .int 671088664, .int 671113242, .int 671088664, .int 1744830488, .int 1744830488, .int (-402653163), .int (-402653162), .int 1744830488, .int 536870937, .int 939524120, .int 536870932, .int 939524120, .int 939524120, .int 402667017, .int 402667017, .int 402667017, .int 402667017, .int 402667017, .int 402667017, .int 402667017, .int 402667017, .int 402667017, .int 402667017, .int 939524120, .int 1744830488, .int (-402653159), .int 1744830489, .int (-402653159), .int 1744830488, .int 1744830488, .int 8552417, .int 8552417, .int 8552417, .int 8552417, .int 8552417, .int 8552417, .int 8552417, .int 8552417, .int 8552417, .int 8552417, .int 8552417, .int 8552417, .int 8552417, .int 8552417, .int 8552417, .int 8552417, .int 8552417, .int 8552417, .int 8552417, .int 8552417, .int 8552417, .int 8552417, .int 8552417, .int 8552417, .int 8552417, .int 8552417, .int (-402653163), .int 1744830488, .int (-402653162), .int 1744830491, .int 1744850967, .int 1744830491, .int 8486882, .int 8486882, .int 8486882, .int 8486882, .int 8486882, .int 8486882, .int 8486882, .int 8486882, .int 8486882, .int 8486882, .int 8486882, .int 8486882, .int 8486882, .int 8486882, .int 8486882, .int 8486882, .int 8486882, .int 8486882, .int 8486882, .int 8486882, .int 8486882, .int 8486882, .int 8486882, .int 8486882, .int 8486882, .int 8486882, .int (-402653163), .int 1744830489, .int (-402653162), .int 1744830489, .int 1207963663, .int 1207963663, .int 1207963663, .int 1207963663, .int 1207963663, .int 1207963663, .int 1342181391, .int 1207963663, .int 1207963663, .int 1207963663, .int 1207963663, .int 1207963663, .int 1207963663, .int 1207963663, .int 1207963663, .int 1207963663, .int 1207963663, .int 1207963663, .int 1207963663, .int 1207963663, .int 1207963663, .int 1207963663, .int 1207963663, .int 1207963663, .int 1207963663, .int 1207963663, .int 1207963663, .int 1207963663, .int 1207963663, .int 1207963663, .int 1207963663, .int 1207963663, .int 1207963663, .int 939524108, .int 1744830488, .int 671113242, .int 671113242, .int 671113242, .int 671113242, .int 1744830492, .int 1744830488, .int 1744830491, .int 1744830492, .int 28677, .int (-402653155), .int 1744830489, .int 1207963664, .int 1744830492, .int 1744830491, .int 671088668, .int 671088665, .int 402654731, .int 402654731, .int 1744830491, .int 134049794, .int 1744830488, .int 1744830488, .int 1744830491, .int 402654475, .int 28677, .int (-402653154), .int 1744832523, .int 1744832523, .int 1744832523, .int 1744830488, .int 8548353, .int 8548353, .int 8548353, .int 8548353, .int 8548353, .int 8548353, .int 8548353, .int 8548353, .int 8548353, .int 8548353, .int 8548353, .int 8548353, .int 8548353, .int 8548353, .int 8548353, .int 8548353, .int 8548353, .int 8548353, .int 8548353, .int 8548353, .int 8548353, .int 8548353, .int 8548353, .int 1744830489, .int 8548353, .int 8548353, .int 8548353, .int 8548353, .int 8548353, .int 8548353, .int 8548353, .int 134049794, .int 8482818, .int 8482818, .int 8482818, .int 8482818, .int 8482818, .int 8482818, .int 8482818, .int 8482818, .int 8482818, .int 8482818, .int 8482818, .int 8482818, .int 8482818, .int 8482818, .int 8482818, .int 8482818, .int 8482818, .int 8482818, .int 8482818, .int 8482818, .int 8482818, .int 8482818, .int 8482818, .int 1744830489, .int 8482818, .int 8482818, .int 8482818, .int 8482818, .int 8482818, .int 8482818, .int 8482818, .int 102592514], vm := .none }]
def classes : Array Class := #[k0, k1, k2, k3, k4, k5, k6, k7, k8, k9, k10, k11, k12, k13, k14, k15, k16, k17, k18, k19, k20, k21, k22, k23, k24]
def interned : List (Array UInt16 × Addr) := []
def slotsUsed : Nat := 271
def theMethod : MethodId := ⟨1, 3⟩
def args0 : Array Value := #[.long 5, .long 6, .int 7, .int 8, .int 9]
def aboutOver (below : List Frame) : State where
  vm := { classes := classes, interned := interned.toArray }
  heap := heap
  slotsUsed := slotsUsed
  threads := #[{ frames := .invoking theMethod args0 :: below }]
def below0 : List Frame := [.native { method := ⟨0, 0⟩, args := #[] }]
def about1 : State := aboutOver below0
def p0 : Program := .bare "" "" ""
def e0 : Env := launch0.env 0 0 0
theorem w_frames : about1.frames = Frame.invoking theMethod args0 :: below0 := rfl
set_option maxRecDepth 65536 in
theorem w_args : argsFit about1.vm theMethod args0 = true := by decide +kernel
set_option maxRecDepth 65536 in
theorem w_heap : heapFits about1 = true := by decide +kernel
set_option maxRecDepth 65536 in
theorem w_runnable : about1.curStatus? = some .runnable := by decide +kernel
set_option maxRecDepth 65536 in
theorem w_alone : about1.alone = true := by decide +kernel
set_option maxRecDepth 65536 in
theorem w_named : about1.methodNamed? x = some theMethod := by decide +kernel
set_option maxRecDepth 65536 in
theorem w_hears : about1.hears theMethod below0 = true := by decide +kernel
set_option maxRecDepth 65536 in
theorem w_ripe : about1.ripe theMethod args0 below0 = true := by decide +kernel
theorem w_running : about1.status = .running := rfl
set_option maxRecDepth 65536 in
theorem w_room : about1.hasRoom e0.platform room_1 = true :=
  launch0.hasRoom_least _ room_1 (by decide +kernel) (by decide +kernel) (by decide +kernel) (by decide +kernel) (by decide +kernel) (by decide +kernel)
theorem allAtoms_all (ts : List Jvm.Cond) (a : Array Jvm.Value) (st : Jvm.State) : (allAtoms ts).before a st = ts.all (fun c => c.before a st) := by
  induction ts with
  | nil => rfl
  | cons c t ih =>
    show (Jvm.Cond.and c (allAtoms t)).before a st = _
    rw [Jvm.Cond.before_and, ih, List.all_cons]
def words1 : List Jvm.Cond := Jvm.Cond.code x code maxLocals ret :: tables_1
/-- a 'code' word, met by the world's own term for the bytes: nothing is compared byte by byte -/
theorem code_word {y : MethodName} {bytes : ByteArray} {mx : Nat} {rt : Option FieldType} {a : Array Value} {s : State} {m : MethodId} {meth : Method} {c : Code} (h1 : s.methodNamed? y = some m) (h2 : s.vm.method? m = some meth) (h3 : meth.code = some c) (h4 : c.code = bytes)
    (h5 : (c.maxLocals == mx && c.exceptionTable.isEmpty && decide (c.maxStack ≤ mostOperands) && decide (meth.sig.returnType = rt) && !meth.locks && decide (parseMethodDescriptor y.desc = some meth.sig)) = true) : (Jvm.Cond.code y bytes mx rt).before a s = true := by
  simp only [Bool.and_eq_true, beq_iff_eq, Bool.not_eq_true', decide_eq_true_eq] at h5
  obtain ⟨⟨⟨⟨⟨g1, g2⟩, g3⟩, g4⟩, g5⟩, g6⟩ := h5
  simp [Cond.before, Cond.holds, Cond.value, h1, h2, h3, h4, g1, g2, g3, g4, g5, g6]
def isCode : Jvm.Cond → Bool
  | .code _ _ _ _ => true
  | _ => false
theorem all_split {L : List Jvm.Cond} {P : Jvm.Cond → Bool} (h1 : L.all (fun c => isCode c || P c) = true) (h2 : ∀ c ∈ L.filter isCode, P c = true) : L.all P = true := by
  refine List.all_eq_true.mpr fun c hc => ?_
  have h := List.all_eq_true.mp h1 c hc
  rcases Bool.eq_false_or_eq_true (isCode c) with hi | hi
  · exact h2 c (List.mem_filter.mpr ⟨hc, hi⟩)
  · simpa [hi] using h
set_option maxRecDepth 65536 in
theorem w_c0 : (Jvm.Cond.code x code maxLocals ret).before args0 about1 = true := code_word (m := ⟨1, 3⟩) (meth := k1m3) (c := k1c3) (by decide +kernel) rfl rfl rfl (by decide +kernel)
set_option maxRecDepth 65536 in
theorem w_c1 : (Jvm.Cond.code ({ cls := "com/example/kourier/kourier/outbox/OutboxEventWithIdPinLaw", name := "mk", desc := "(JI)Ljava/lang/String;" } : Jvm.MethodName) method_3_code (6 : Nat) (Option.some (Jvm.ClassFile.FieldType.object "java/lang/String"))).before args0 about1 = true := code_word (m := ⟨1, 2⟩) (meth := k1m2) (c := k1c2) (by decide +kernel) rfl rfl rfl (by decide +kernel)
set_option maxRecDepth 65536 in
theorem w_c2 : (Jvm.Cond.code ({ cls := "java/lang/String", name := "<init>", desc := "([C)V" } : Jvm.MethodName) jdk_42_method_3_code (2 : Nat) (Option.none : Option Jvm.ClassFile.FieldType)).before args0 about1 = true := code_word (m := ⟨7, 1⟩) (meth := k7m1) (c := k7c1) (by decide +kernel) rfl rfl rfl (by decide +kernel)
set_option maxRecDepth 65536 in
theorem w_c3 : (Jvm.Cond.code ({ cls := "java/lang/String", name := "<init>", desc := "([CIILjava/lang/Void;)V" } : Jvm.MethodName) jdk_42_method_149_code (6 : Nat) (Option.none : Option Jvm.ClassFile.FieldType)).before args0 about1 = true := code_word (m := ⟨7, 7⟩) (meth := k7m7) (c := k7c7) (by decide +kernel) rfl rfl rfl (by decide +kernel)
set_option maxRecDepth 65536 in
theorem w_c4 : (Jvm.Cond.code ({ cls := "java/lang/Object", name := "<init>", desc := "()V" } : Jvm.MethodName) object_method_1_code (1 : Nat) (Option.none : Option Jvm.ClassFile.FieldType)).before args0 about1 = true := code_word (m := ⟨0, 0⟩) (meth := k0m0) (c := k0c0) (by decide +kernel) rfl rfl rfl (by decide +kernel)
set_option maxRecDepth 65536 in
theorem w_c5 : (Jvm.Cond.code ({ cls := "java/lang/StringUTF16", name := "compress", desc := "([CII)[B" } : Jvm.MethodName) jdk_52_method_16_code (6 : Nat) (Option.some (Jvm.ClassFile.FieldType.array Jvm.ClassFile.FieldType.byte))).before args0 about1 = true := code_word (m := ⟨8, 2⟩) (meth := k8m2) (c := k8c2) (by decide +kernel) rfl rfl rfl (by decide +kernel)
set_option maxRecDepth 65536 in
theorem w_c6 : (Jvm.Cond.code ({ cls := "java/lang/StringUTF16", name := "compress", desc := "([CI[BII)I" } : Jvm.MethodName) jdk_52_method_21_code (7 : Nat) (Option.some Jvm.ClassFile.FieldType.int)).before args0 about1 = true := code_word (m := ⟨8, 3⟩) (meth := k8m3) (c := k8c3) (by decide +kernel) rfl rfl rfl (by decide +kernel)
set_option maxRecDepth 65536 in
theorem w_c7 : (Jvm.Cond.code ({ cls := "java/lang/StringUTF16", name := "coderFromArrayLen", desc := "([BI)B" } : Jvm.MethodName) jdk_52_method_15_code (2 : Nat) (Option.some Jvm.ClassFile.FieldType.byte)).before args0 about1 = true := code_word (m := ⟨8, 1⟩) (meth := k8m1) (c := k8c1) (by decide +kernel) rfl rfl rfl (by decide +kernel)
set_option maxRecDepth 65536 in
theorem w_c8 : (Jvm.Cond.code ({ cls := "com/example/kourier/kourier/outbox/OutboxEventWithIdPinLaw", name := "text", desc := "(I)Ljava/lang/String;" } : Jvm.MethodName) method_2_code (1 : Nat) (Option.some (Jvm.ClassFile.FieldType.object "java/lang/String"))).before args0 about1 = true := code_word (m := ⟨1, 1⟩) (meth := k1m1) (c := k1c1) (by decide +kernel) rfl rfl rfl (by decide +kernel)
set_option maxRecDepth 65536 in
theorem w_c9 : (Jvm.Cond.code ({ cls := "java/lang/String", name := "valueOf", desc := "(C)Ljava/lang/String;" } : Jvm.MethodName) jdk_42_method_139_code (1 : Nat) (Option.some (Jvm.ClassFile.FieldType.object "java/lang/String"))).before args0 about1 = true := code_word (m := ⟨7, 6⟩) (meth := k7m6) (c := k7c6) (by decide +kernel) rfl rfl rfl (by decide +kernel)
set_option maxRecDepth 65536 in
theorem w_c10 : (Jvm.Cond.code ({ cls := "java/lang/StringLatin1", name := "canEncode", desc := "(C)Z" } : Jvm.MethodName) jdk_43_method_3_code (1 : Nat) (Option.some Jvm.ClassFile.FieldType.boolean)).before args0 about1 = true := code_word (m := ⟨9, 1⟩) (meth := k9m1) (c := k9c1) (by decide +kernel) rfl rfl rfl (by decide +kernel)
set_option maxRecDepth 65536 in
theorem w_c11 : (Jvm.Cond.code ({ cls := "java/lang/StringLatin1", name := "toBytes", desc := "(C)[B" } : Jvm.MethodName) jdk_43_method_46_code (1 : Nat) (Option.some (Jvm.ClassFile.FieldType.array Jvm.ClassFile.FieldType.byte))).before args0 about1 = true := code_word (m := ⟨9, 5⟩) (meth := k9m5) (c := k9c5) (by decide +kernel) rfl rfl rfl (by decide +kernel)
set_option maxRecDepth 65536 in
theorem w_c12 : (Jvm.Cond.code ({ cls := "java/lang/String", name := "<init>", desc := "([BB)V" } : Jvm.MethodName) jdk_42_method_151_code (3 : Nat) (Option.none : Option Jvm.ClassFile.FieldType)).before args0 about1 = true := code_word (m := ⟨7, 8⟩) (meth := k7m8) (c := k7c8) (by decide +kernel) rfl rfl rfl (by decide +kernel)
set_option maxRecDepth 65536 in
theorem w_c13 : (Jvm.Cond.code ({ cls := "com/example/kourier/kourier/outbox/OutboxEvent", name := "<init>", desc := "(Ljava/lang/String;Ljava/lang/String;Ljava/lang/String;[B)V" } : Jvm.MethodName) prog_10_method_1_code (5 : Nat) (Option.none : Option Jvm.ClassFile.FieldType)).before args0 about1 = true := code_word (m := ⟨10, 0⟩) (meth := k10m0) (c := k10c0) (by decide +kernel) rfl rfl rfl (by decide +kernel)
set_option maxRecDepth 65536 in
theorem w_c14 : (Jvm.Cond.code ({ cls := "com/example/kourier/kourier/outbox/OutboxEvent", name := "<init>", desc := "(Ljava/lang/String;Ljava/lang/String;Ljava/lang/String;Ljava/lang/String;[B)V" } : Jvm.MethodName) prog_10_method_2_code (6 : Nat) (Option.none : Option Jvm.ClassFile.FieldType)).before args0 about1 = true := code_word (m := ⟨10, 1⟩) (meth := k10m1) (c := k10c1) (by decide +kernel) rfl rfl rfl (by decide +kernel)
set_option maxRecDepth 65536 in
theorem w_c15 : (Jvm.Cond.code ({ cls := "com/example/kourier/kourier/outbox/OutboxEvent", name := "requireText", desc := "(Ljava/lang/String;Ljava/lang/String;)Ljava/lang/String;" } : Jvm.MethodName) prog_10_method_12_code (2 : Nat) (Option.some (Jvm.ClassFile.FieldType.object "java/lang/String"))).before args0 about1 = true := code_word (m := ⟨10, 8⟩) (meth := k10m8) (c := k10c8) (by decide +kernel) rfl rfl rfl (by decide +kernel)
set_option maxRecDepth 65536 in
theorem w_c16 : (Jvm.Cond.code ({ cls := "java/util/Objects", name := "requireNonNull", desc := "(Ljava/lang/Object;Ljava/lang/String;)Ljava/lang/Object;" } : Jvm.MethodName) jdk_31_method_11_code (2 : Nat) (Option.some (Jvm.ClassFile.FieldType.object "java/lang/Object"))).before args0 about1 = true := code_word (m := ⟨11, 2⟩) (meth := k11m2) (c := k11c2) (by decide +kernel) rfl rfl rfl (by decide +kernel)
set_option maxRecDepth 65536 in
theorem w_c17 : (Jvm.Cond.code ({ cls := "java/lang/String", name := "isBlank", desc := "()Z" } : Jvm.MethodName) jdk_42_method_117_code (1 : Nat) (Option.some Jvm.ClassFile.FieldType.boolean)).before args0 about1 = true := code_word (m := ⟨7, 4⟩) (meth := k7m4) (c := k7c4) (by decide +kernel) rfl rfl rfl (by decide +kernel)
set_option maxRecDepth 65536 in
theorem w_c18 : (Jvm.Cond.code ({ cls := "java/lang/String", name := "indexOfNonWhitespace", desc := "()I" } : Jvm.MethodName) jdk_42_method_120_code (1 : Nat) (Option.some Jvm.ClassFile.FieldType.int)).before args0 about1 = true := code_word (m := ⟨7, 5⟩) (meth := k7m5) (c := k7c5) (by decide +kernel) rfl rfl rfl (by decide +kernel)
set_option maxRecDepth 65536 in
theorem w_c19 : (Jvm.Cond.code ({ cls := "java/lang/String", name := "isLatin1", desc := "()Z" } : Jvm.MethodName) jdk_42_method_154_code (1 : Nat) (Option.some Jvm.ClassFile.FieldType.boolean)).before args0 about1 = true := code_word (m := ⟨7, 10⟩) (meth := k7m10) (c := k7c10) (by decide +kernel) rfl rfl rfl (by decide +kernel)
set_option maxRecDepth 65536 in
theorem w_c20 : (Jvm.Cond.code ({ cls := "java/lang/StringLatin1", name := "indexOfNonWhitespace", desc := "([B)I" } : Jvm.MethodName) jdk_43_method_37_code (4 : Nat) (Option.some Jvm.ClassFile.FieldType.int)).before args0 about1 = true := code_word (m := ⟨9, 3⟩) (meth := k9m3) (c := k9c3) (by decide +kernel) rfl rfl rfl (by decide +kernel)
set_option maxRecDepth 65536 in
theorem w_c21 : (Jvm.Cond.code ({ cls := "java/lang/StringLatin1", name := "getChar", desc := "([BI)C" } : Jvm.MethodName) jdk_43_method_44_code (2 : Nat) (Option.some Jvm.ClassFile.FieldType.char)).before args0 about1 = true := code_word (m := ⟨9, 4⟩) (meth := k9m4) (c := k9c4) (by decide +kernel) rfl rfl rfl (by decide +kernel)
set_option maxRecDepth 65536 in
theorem w_c22 : (Jvm.Cond.code ({ cls := "java/lang/CharacterDataLatin1", name := "isWhitespace", desc := "(I)Z" } : Jvm.MethodName) jdk_116_method_26_code (3 : Nat) (Option.some Jvm.ClassFile.FieldType.boolean)).before args0 about1 = true := code_word (m := ⟨13, 1⟩) (meth := k13m1) (c := k13c1) (by decide +kernel) rfl rfl rfl (by decide +kernel)
set_option maxRecDepth 65536 in
theorem w_c23 : (Jvm.Cond.code ({ cls := "java/lang/CharacterDataLatin1", name := "getProperties", desc := "(I)I" } : Jvm.MethodName) jdk_116_method_1_code (4 : Nat) (Option.some Jvm.ClassFile.FieldType.int)).before args0 about1 = true := code_word (m := ⟨13, 0⟩) (meth := k13m0) (c := k13c0) (by decide +kernel) rfl rfl rfl (by decide +kernel)
set_option maxRecDepth 65536 in
theorem w_c24 : (Jvm.Cond.code ({ cls := "java/lang/String", name := "length", desc := "()I" } : Jvm.MethodName) jdk_42_method_54_code (1 : Nat) (Option.some Jvm.ClassFile.FieldType.int)).before args0 about1 = true := code_word (m := ⟨7, 2⟩) (meth := k7m2) (c := k7c2) (by decide +kernel) rfl rfl rfl (by decide +kernel)
set_option maxRecDepth 65536 in
theorem w_c25 : (Jvm.Cond.code ({ cls := "java/lang/String", name := "coder", desc := "()B" } : Jvm.MethodName) jdk_42_method_152_code (1 : Nat) (Option.some Jvm.ClassFile.FieldType.byte)).before args0 about1 = true := code_word (m := ⟨7, 9⟩) (meth := k7m9) (c := k7c9) (by decide +kernel) rfl rfl rfl (by decide +kernel)
set_option maxRecDepth 65536 in
theorem w_c26 : (Jvm.Cond.code ({ cls := "com/example/kourier/kourier/outbox/OutboxEvent", name := "withId", desc := "(Ljava/lang/String;)Lcom/example/kourier/kourier/outbox/OutboxEvent;" } : Jvm.MethodName) prog_10_method_3_code (2 : Nat) (Option.some (Jvm.ClassFile.FieldType.object "com/example/kourier/kourier/outbox/OutboxEvent"))).before args0 about1 = true := code_word (m := ⟨10, 2⟩) (meth := k10m2) (c := k10c2) (by decide +kernel) rfl rfl rfl (by decide +kernel)
set_option maxRecDepth 65536 in
theorem w_c27 : (Jvm.Cond.code ({ cls := "com/example/kourier/kourier/outbox/OutboxEvent", name := "equals", desc := "(Ljava/lang/Object;)Z" } : Jvm.MethodName) prog_10_method_9_code (3 : Nat) (Option.some Jvm.ClassFile.FieldType.boolean)).before args0 about1 = true := code_word (m := ⟨10, 7⟩) (meth := k10m7) (c := k10c7) (by decide +kernel) rfl rfl rfl (by decide +kernel)
set_option maxRecDepth 65536 in
theorem w_c28 : (Jvm.Cond.code ({ cls := "java/util/Objects", name := "equals", desc := "(Ljava/lang/Object;Ljava/lang/Object;)Z" } : Jvm.MethodName) jdk_31_method_2_code (2 : Nat) (Option.some Jvm.ClassFile.FieldType.boolean)).before args0 about1 = true := code_word (m := ⟨11, 1⟩) (meth := k11m1) (c := k11c1) (by decide +kernel) rfl rfl rfl (by decide +kernel)
set_option maxRecDepth 65536 in
theorem w_c29 : (Jvm.Cond.code ({ cls := "java/lang/String", name := "equals", desc := "(Ljava/lang/Object;)Z" } : Jvm.MethodName) jdk_42_method_66_code (3 : Nat) (Option.some Jvm.ClassFile.FieldType.boolean)).before args0 about1 = true := code_word (m := ⟨7, 3⟩) (meth := k7m3) (c := k7c3) (by decide +kernel) rfl rfl rfl (by decide +kernel)
set_option maxRecDepth 65536 in
theorem w_c30 : (Jvm.Cond.code ({ cls := "com/example/kourier/kourier/outbox/OutboxEvent", name := "destination", desc := "()Ljava/lang/String;" } : Jvm.MethodName) prog_10_method_5_code (1 : Nat) (Option.some (Jvm.ClassFile.FieldType.object "java/lang/String"))).before args0 about1 = true := code_word (m := ⟨10, 3⟩) (meth := k10m3) (c := k10c3) (by decide +kernel) rfl rfl rfl (by decide +kernel)
set_option maxRecDepth 65536 in
theorem w_c31 : (Jvm.Cond.code ({ cls := "com/example/kourier/kourier/outbox/OutboxEvent", name := "key", desc := "()Ljava/lang/String;" } : Jvm.MethodName) prog_10_method_6_code (1 : Nat) (Option.some (Jvm.ClassFile.FieldType.object "java/lang/String"))).before args0 about1 = true := code_word (m := ⟨10, 4⟩) (meth := k10m4) (c := k10c4) (by decide +kernel) rfl rfl rfl (by decide +kernel)
set_option maxRecDepth 65536 in
theorem w_c32 : (Jvm.Cond.code ({ cls := "com/example/kourier/kourier/outbox/OutboxEvent", name := "type", desc := "()Ljava/lang/String;" } : Jvm.MethodName) prog_10_method_7_code (1 : Nat) (Option.some (Jvm.ClassFile.FieldType.object "java/lang/String"))).before args0 about1 = true := code_word (m := ⟨10, 5⟩) (meth := k10m5) (c := k10c5) (by decide +kernel) rfl rfl rfl (by decide +kernel)
set_option maxRecDepth 65536 in
theorem w_c33 : (Jvm.Cond.code ({ cls := "com/example/kourier/kourier/outbox/OutboxEvent", name := "payload", desc := "()[B" } : Jvm.MethodName) prog_10_method_8_code (1 : Nat) (Option.some (Jvm.ClassFile.FieldType.array Jvm.ClassFile.FieldType.byte))).before args0 about1 = true := code_word (m := ⟨10, 6⟩) (meth := k10m6) (c := k10c6) (by decide +kernel) rfl rfl rfl (by decide +kernel)
set_option maxRecDepth 65536 in
theorem w_c34 : (Jvm.Cond.code ({ cls := "java/lang/StringLatin1", name := "equals", desc := "([B[B)Z" } : Jvm.MethodName) jdk_43_method_13_code (3 : Nat) (Option.some Jvm.ClassFile.FieldType.boolean)).before args0 about1 = true := code_word (m := ⟨9, 2⟩) (meth := k9m2) (c := k9c2) (by decide +kernel) rfl rfl rfl (by decide +kernel)
set_option maxRecDepth 65536 in
theorem w_c35 : (Jvm.Cond.code ({ cls := "java/util/Arrays", name := "equals", desc := "([B[B)Z" } : Jvm.MethodName) jdk_65_method_89_code (3 : Nat) (Option.some Jvm.ClassFile.FieldType.boolean)).before args0 about1 = true := code_word (m := ⟨15, 1⟩) (meth := k15m1) (c := k15c1) (by decide +kernel) rfl rfl rfl (by decide +kernel)
set_option maxRecDepth 65536 in
theorem w_c36 : (Jvm.Cond.code ({ cls := "jdk/internal/util/ArraysSupport", name := "mismatch", desc := "([B[BI)I" } : Jvm.MethodName) jdk_48_method_13_code (4 : Nat) (Option.some Jvm.ClassFile.FieldType.int)).before args0 about1 = true := code_word (m := ⟨16, 1⟩) (meth := k16m1) (c := k16c1) (by decide +kernel) rfl rfl rfl (by decide +kernel)
def codes1 : List Jvm.Cond := [Jvm.Cond.code x code maxLocals ret, Jvm.Cond.code ({ cls := "com/example/kourier/kourier/outbox/OutboxEventWithIdPinLaw", name := "mk", desc := "(JI)Ljava/lang/String;" } : Jvm.MethodName) method_3_code (6 : Nat) (Option.some (Jvm.ClassFile.FieldType.object "java/lang/String")), Jvm.Cond.code ({ cls := "java/lang/String", name := "<init>", desc := "([C)V" } : Jvm.MethodName) jdk_42_method_3_code (2 : Nat) (Option.none : Option Jvm.ClassFile.FieldType), Jvm.Cond.code ({ cls := "java/lang/String", name := "<init>", desc := "([CIILjava/lang/Void;)V" } : Jvm.MethodName) jdk_42_method_149_code (6 : Nat) (Option.none : Option Jvm.ClassFile.FieldType), Jvm.Cond.code ({ cls := "java/lang/Object", name := "<init>", desc := "()V" } : Jvm.MethodName) object_method_1_code (1 : Nat) (Option.none : Option Jvm.ClassFile.FieldType), Jvm.Cond.code ({ cls := "java/lang/StringUTF16", name := "compress", desc := "([CII)[B" } : Jvm.MethodName) jdk_52_method_16_code (6 : Nat) (Option.some (Jvm.ClassFile.FieldType.array Jvm.ClassFile.FieldType.byte)), Jvm.Cond.code ({ cls := "java/lang/StringUTF16", name := "compress", desc := "([CI[BII)I" } : Jvm.MethodName) jdk_52_method_21_code (7 : Nat) (Option.some Jvm.ClassFile.FieldType.int), Jvm.Cond.code ({ cls := "java/lang/StringUTF16", name := "coderFromArrayLen", desc := "([BI)B" } : Jvm.MethodName) jdk_52_method_15_code (2 : Nat) (Option.some Jvm.ClassFile.FieldType.byte), Jvm.Cond.code ({ cls := "com/example/kourier/kourier/outbox/OutboxEventWithIdPinLaw", name := "text", desc := "(I)Ljava/lang/String;" } : Jvm.MethodName) method_2_code (1 : Nat) (Option.some (Jvm.ClassFile.FieldType.object "java/lang/String")), Jvm.Cond.code ({ cls := "java/lang/String", name := "valueOf", desc := "(C)Ljava/lang/String;" } : Jvm.MethodName) jdk_42_method_139_code (1 : Nat) (Option.some (Jvm.ClassFile.FieldType.object "java/lang/String")), Jvm.Cond.code ({ cls := "java/lang/StringLatin1", name := "canEncode", desc := "(C)Z" } : Jvm.MethodName) jdk_43_method_3_code (1 : Nat) (Option.some Jvm.ClassFile.FieldType.boolean), Jvm.Cond.code ({ cls := "java/lang/StringLatin1", name := "toBytes", desc := "(C)[B" } : Jvm.MethodName) jdk_43_method_46_code (1 : Nat) (Option.some (Jvm.ClassFile.FieldType.array Jvm.ClassFile.FieldType.byte)), Jvm.Cond.code ({ cls := "java/lang/String", name := "<init>", desc := "([BB)V" } : Jvm.MethodName) jdk_42_method_151_code (3 : Nat) (Option.none : Option Jvm.ClassFile.FieldType), Jvm.Cond.code ({ cls := "com/example/kourier/kourier/outbox/OutboxEvent", name := "<init>", desc := "(Ljava/lang/String;Ljava/lang/String;Ljava/lang/String;[B)V" } : Jvm.MethodName) prog_10_method_1_code (5 : Nat) (Option.none : Option Jvm.ClassFile.FieldType), Jvm.Cond.code ({ cls := "com/example/kourier/kourier/outbox/OutboxEvent", name := "<init>", desc := "(Ljava/lang/String;Ljava/lang/String;Ljava/lang/String;Ljava/lang/String;[B)V" } : Jvm.MethodName) prog_10_method_2_code (6 : Nat) (Option.none : Option Jvm.ClassFile.FieldType), Jvm.Cond.code ({ cls := "com/example/kourier/kourier/outbox/OutboxEvent", name := "requireText", desc := "(Ljava/lang/String;Ljava/lang/String;)Ljava/lang/String;" } : Jvm.MethodName) prog_10_method_12_code (2 : Nat) (Option.some (Jvm.ClassFile.FieldType.object "java/lang/String")), Jvm.Cond.code ({ cls := "java/util/Objects", name := "requireNonNull", desc := "(Ljava/lang/Object;Ljava/lang/String;)Ljava/lang/Object;" } : Jvm.MethodName) jdk_31_method_11_code (2 : Nat) (Option.some (Jvm.ClassFile.FieldType.object "java/lang/Object")), Jvm.Cond.code ({ cls := "java/lang/String", name := "isBlank", desc := "()Z" } : Jvm.MethodName) jdk_42_method_117_code (1 : Nat) (Option.some Jvm.ClassFile.FieldType.boolean), Jvm.Cond.code ({ cls := "java/lang/String", name := "indexOfNonWhitespace", desc := "()I" } : Jvm.MethodName) jdk_42_method_120_code (1 : Nat) (Option.some Jvm.ClassFile.FieldType.int), Jvm.Cond.code ({ cls := "java/lang/String", name := "isLatin1", desc := "()Z" } : Jvm.MethodName) jdk_42_method_154_code (1 : Nat) (Option.some Jvm.ClassFile.FieldType.boolean), Jvm.Cond.code ({ cls := "java/lang/StringLatin1", name := "indexOfNonWhitespace", desc := "([B)I" } : Jvm.MethodName) jdk_43_method_37_code (4 : Nat) (Option.some Jvm.ClassFile.FieldType.int), Jvm.Cond.code ({ cls := "java/lang/StringLatin1", name := "getChar", desc := "([BI)C" } : Jvm.MethodName) jdk_43_method_44_code (2 : Nat) (Option.some Jvm.ClassFile.FieldType.char), Jvm.Cond.code ({ cls := "java/lang/CharacterDataLatin1", name := "isWhitespace", desc := "(I)Z" } : Jvm.MethodName) jdk_116_method_26_code (3 : Nat) (Option.some Jvm.ClassFile.FieldType.boolean), Jvm.Cond.code ({ cls := "java/lang/CharacterDataLatin1", name := "getProperties", desc := "(I)I" } : Jvm.MethodName) jdk_116_method_1_code (4 : Nat) (Option.some Jvm.ClassFile.FieldType.int), Jvm.Cond.code ({ cls := "java/lang/String", name := "length", desc := "()I" } : Jvm.MethodName) jdk_42_method_54_code (1 : Nat) (Option.some Jvm.ClassFile.FieldType.int), Jvm.Cond.code ({ cls := "java/lang/String", name := "coder", desc := "()B" } : Jvm.MethodName) jdk_42_method_152_code (1 : Nat) (Option.some Jvm.ClassFile.FieldType.byte), Jvm.Cond.code ({ cls := "com/example/kourier/kourier/outbox/OutboxEvent", name := "withId", desc := "(Ljava/lang/String;)Lcom/example/kourier/kourier/outbox/OutboxEvent;" } : Jvm.MethodName) prog_10_method_3_code (2 : Nat) (Option.some (Jvm.ClassFile.FieldType.object "com/example/kourier/kourier/outbox/OutboxEvent")), Jvm.Cond.code ({ cls := "com/example/kourier/kourier/outbox/OutboxEvent", name := "equals", desc := "(Ljava/lang/Object;)Z" } : Jvm.MethodName) prog_10_method_9_code (3 : Nat) (Option.some Jvm.ClassFile.FieldType.boolean), Jvm.Cond.code ({ cls := "java/util/Objects", name := "equals", desc := "(Ljava/lang/Object;Ljava/lang/Object;)Z" } : Jvm.MethodName) jdk_31_method_2_code (2 : Nat) (Option.some Jvm.ClassFile.FieldType.boolean), Jvm.Cond.code ({ cls := "java/lang/String", name := "equals", desc := "(Ljava/lang/Object;)Z" } : Jvm.MethodName) jdk_42_method_66_code (3 : Nat) (Option.some Jvm.ClassFile.FieldType.boolean), Jvm.Cond.code ({ cls := "com/example/kourier/kourier/outbox/OutboxEvent", name := "destination", desc := "()Ljava/lang/String;" } : Jvm.MethodName) prog_10_method_5_code (1 : Nat) (Option.some (Jvm.ClassFile.FieldType.object "java/lang/String")), Jvm.Cond.code ({ cls := "com/example/kourier/kourier/outbox/OutboxEvent", name := "key", desc := "()Ljava/lang/String;" } : Jvm.MethodName) prog_10_method_6_code (1 : Nat) (Option.some (Jvm.ClassFile.FieldType.object "java/lang/String")), Jvm.Cond.code ({ cls := "com/example/kourier/kourier/outbox/OutboxEvent", name := "type", desc := "()Ljava/lang/String;" } : Jvm.MethodName) prog_10_method_7_code (1 : Nat) (Option.some (Jvm.ClassFile.FieldType.object "java/lang/String")), Jvm.Cond.code ({ cls := "com/example/kourier/kourier/outbox/OutboxEvent", name := "payload", desc := "()[B" } : Jvm.MethodName) prog_10_method_8_code (1 : Nat) (Option.some (Jvm.ClassFile.FieldType.array Jvm.ClassFile.FieldType.byte)), Jvm.Cond.code ({ cls := "java/lang/StringLatin1", name := "equals", desc := "([B[B)Z" } : Jvm.MethodName) jdk_43_method_13_code (3 : Nat) (Option.some Jvm.ClassFile.FieldType.boolean), Jvm.Cond.code ({ cls := "java/util/Arrays", name := "equals", desc := "([B[B)Z" } : Jvm.MethodName) jdk_65_method_89_code (3 : Nat) (Option.some Jvm.ClassFile.FieldType.boolean), Jvm.Cond.code ({ cls := "jdk/internal/util/ArraysSupport", name := "mismatch", desc := "([B[BI)I" } : Jvm.MethodName) jdk_48_method_13_code (4 : Nat) (Option.some Jvm.ClassFile.FieldType.int)]
set_option maxRecDepth 65536 in
theorem codes_eq : words1.filter isCode = codes1 := rfl
theorem w_codes : ∀ c ∈ words1.filter isCode, c.before args0 about1 = true := by
  rw [codes_eq]
  intro c hc
  simp only [codes1, List.mem_cons, List.not_mem_nil, or_false] at hc
  rcases hc with rfl | rfl | rfl | rfl | rfl | rfl | rfl | rfl | rfl | rfl | rfl | rfl | rfl | rfl | rfl | rfl | rfl | rfl | rfl | rfl | rfl | rfl | rfl | rfl | rfl | rfl | rfl | rfl | rfl | rfl | rfl | rfl | rfl | rfl | rfl | rfl | rfl
  · exact w_c0
  · exact w_c1
  · exact w_c2
  · exact w_c3
  · exact w_c4
  · exact w_c5
  · exact w_c6
  · exact w_c7
  · exact w_c8
  · exact w_c9
  · exact w_c10
  · exact w_c11
  · exact w_c12
  · exact w_c13
  · exact w_c14
  · exact w_c15
  · exact w_c16
  · exact w_c17
  · exact w_c18
  · exact w_c19
  · exact w_c20
  · exact w_c21
  · exact w_c22
  · exact w_c23
  · exact w_c24
  · exact w_c25
  · exact w_c26
  · exact w_c27
  · exact w_c28
  · exact w_c29
  · exact w_c30
  · exact w_c31
  · exact w_c32
  · exact w_c33
  · exact w_c34
  · exact w_c35
  · exact w_c36
set_option maxRecDepth 65536 in
theorem w_t1 : (words1.take 24).all (fun c => isCode c || c.before args0 about1) = true := by decide +kernel
set_option maxRecDepth 65536 in
theorem w_t2 : ((words1.drop 24).take 24).all (fun c => isCode c || c.before args0 about1) = true := by decide +kernel
set_option maxRecDepth 65536 in
theorem w_t3 : (((words1.drop 24).drop 24).take 24).all (fun c => isCode c || c.before args0 about1) = true := by decide +kernel
set_option maxRecDepth 65536 in
theorem w_t4 : ((((words1.drop 24).drop 24).drop 24).take 24).all (fun c => isCode c || c.before args0 about1) = true := by decide +kernel
set_option maxRecDepth 65536 in
theorem w_t5 : (((((words1.drop 24).drop 24).drop 24).drop 24).take 24).all (fun c => isCode c || c.before args0 about1) = true := by decide +kernel
set_option maxRecDepth 65536 in
theorem w_t6 : ((((((words1.drop 24).drop 24).drop 24).drop 24).drop 24).take 24).all (fun c => isCode c || c.before args0 about1) = true := by decide +kernel
set_option maxRecDepth 65536 in
theorem w_t7 : (((((((words1.drop 24).drop 24).drop 24).drop 24).drop 24).drop 24).take 24).all (fun c => isCode c || c.before args0 about1) = true := by decide +kernel
set_option maxRecDepth 65536 in
theorem w_t8 : ((((((((words1.drop 24).drop 24).drop 24).drop 24).drop 24).drop 24).drop 24).take 24).all (fun c => isCode c || c.before args0 about1) = true := by decide +kernel
set_option maxRecDepth 65536 in
theorem w_t9 : ((((((((words1.drop 24).drop 24).drop 24).drop 24).drop 24).drop 24).drop 24).drop 24).all (fun c => isCode c || c.before args0 about1) = true := by decide +kernel
theorem w_tables : (allAtoms (Jvm.Cond.code x code maxLocals ret :: tables_1)).before args0 about1 = true := by
  rw [allAtoms_all]
  show words1.all (fun c => c.before args0 about1) = true
  refine all_split ?_ w_codes
  rw [← List.take_append_drop 24 words1, List.all_append, w_t1, ← List.take_append_drop 24 (words1.drop 24), List.all_append, w_t2, ← List.take_append_drop 24 ((words1.drop 24).drop 24), List.all_append, w_t3, ← List.take_append_drop 24 (((words1.drop 24).drop 24).drop 24), List.all_append, w_t4, ← List.take_append_drop 24 ((((words1.drop 24).drop 24).drop 24).drop 24), List.all_append, w_t5, ← List.take_append_drop 24 (((((words1.drop 24).drop 24).drop 24).drop 24).drop 24), List.all_append, w_t6, ← List.take_append_drop 24 ((((((words1.drop 24).drop 24).drop 24).drop 24).drop 24).drop 24), List.all_append, w_t7, ← List.take_append_drop 24 (((((((words1.drop 24).drop 24).drop 24).drop 24).drop 24).drop 24).drop 24), List.all_append, w_t8, w_t9]
  rfl
set_option maxRecDepth 65536 in
theorem w_rest : rest_1_c.before args0 about1 = true := by decide +kernel
set_option maxRecDepth 65536 in
theorem w_case : (Jvm.Cond.and given_1 narrow_1).before args0 about1 = true := by decide +kernel
theorem w_applies : (headSpec (Jvm.Cond.code x code maxLocals ret :: tables_1) room_1).applies x e0.platform about1 = true :=
  (Spec.applies_iff w_frames).mpr ⟨w_running, w_runnable, w_alone, w_named, w_hears, w_ripe, w_room, w_tables⟩
theorem atStart : AtStart classFile x code maxLocals ret World_1 tables_1 room_1 Calls_1 rest_1 Pre_1 launch0 p0 e0 about1 theMethod args0 below0 :=
  ⟨lists_1, trivial, launch0.admits_env _ _ _, launch0.least_env, fairChoices_fair.cas, fairChoices_fair.clock, w_frames, w_args, w_heap, w_applies, ⟨⟨10, k10, 3, by decide +kernel, rfl, rfl, _, rfl, rfl⟩, trivial⟩, w_rest, w_case⟩
end start1
theorem witness_1 : WitnessClaimed_1 := ⟨start1.p0, start1.e0, start1.about1, start1.theMethod, start1.args0, start1.below0, start1.atStart⟩
end Jvm.Pilot.@@N@@
