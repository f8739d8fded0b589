import JvmDerived
import JvmDerived.Pilot.@@N@@Statement
import JvmDerived.Pilot.@@N@@Code
set_option linter.unusedVariables false
set_option linter.unusedSimpArgs false
namespace Jvm.OwnK
open Sem ClassFile Op Lib Bundle Jvm.Stand Jvm.Free Jvm.LawKit Jvm.RoadKit
/-! ## the end of a body, the goal, the point -/
def Fne (s : State) (n0 : Nat) (Z : State) (EL : List (String × Nat)) (nw : Bool) (rm : Room) (Q : Option Value → Heap → List Addr → Prop) (o : Outcome) (U : State) : Prop :=
  ∃ v L so, o = .returned v ∧ Q v U.heap so ∧ Fr n0 L ∧ CHr Z EL s.vm s.heap U.vm U.heap ∧ (∀ x ∈ so, n0 ≤ x ∧ x < U.heap.size ∧ Safe Z EL U.vm U.heap x) ∧ (nw = true → s.WarmedH U.vm) ∧ ReturnedEndW s o U L rm.cells rm.slots
def WP (p : Program) (e : Env) (below : List Frame) (Φ : Outcome → State → Prop) (T : State) (g : JFrame) : Prop :=
  ∃ s₂ o, Steps p.tables e below (T.setTop g) s₂ ∧ s₂.status = .running ∧ Ended s₂ below o ∧ Φ o s₂
def WS (p : Program) (l : Launch) (e : Env) (R : Room) (s : State) (m : MethodId) (args : Array Value) (below : List Frame) (meth : Method) (c : Code) (Z : State) (a0 : Array Value) (EL : List (String × Nat)) (nw : Bool) (n0 : Nat) (y : MethodName) (code : ByteArray) (maxL : Nat) (ret : Option FieldType)
    (T : State) (h : Heap) (sf : List Addr) (cells slots : Nat) : Prop :=
  ∃ locs, Stand p l e R (s.setVm T.vm) m args below meth c T locs cells slots ∧ T.heap = h ∧ s.Since T.vm h.size ∧ Z.Warmed39 T.vm ∧ T.vm.findClass y.cls = some m.cls ∧ CHr Z EL s.vm s.heap T.vm h ∧ Fr n0 locs ∧ n0 ≤ h.size ∧
    (∀ x ∈ sf, n0 ≤ x ∧ x < h.size ∧ Safe Z EL T.vm h x) ∧ EW Z a0 EL ∧ (nw = true → s.WarmedH T.vm) ∧ (p.tables.exec = Jvm.exec ∧ c.code = code ∧ meth.sig.returnType = ret ∧ meth.locks = false ∧ c.maxLocals = maxL ∧ meth.name = y.name)
def Ct (l : Launch) (Z : State) (a0 : Array Value) (EL : List (String × Nat)) (nw : Bool) (y : MethodName) (bytes : ByteArray) (maxL : Nat) (ret : Option FieldType) (rm : Room) (as' : Array Value) (h : Heap) (sf : List Addr) (n0 : Nat) (Q : Option Value → Heap → List Addr → Prop) : Prop :=
  ∀ ws, MetFree l y (head1 (Cond.code y bytes maxL ret :: ws) rm) (fun a U => a = as' ∧ Z.Warmed39 U.vm ∧ U.heap = h ∧ CHv Z EL U.vm h ∧ n0 ≤ h.size ∧ EW Z a0 EL ∧ ∀ x ∈ sf, n0 ≤ x ∧ x < h.size ∧ Safe Z EL U.vm h x) (fun _ _ _ _ _ => True)
    (fun _ U o U' => Fne U n0 Z EL nw rm Q o U')
def D (code : ByteArray) (pc : Nat) (i : Instr) (n pc' : Nat) : Prop := decode code pc = .ok (i, n) ∧ pc' = pc + n
section Base
variable {p : Program} {l : Launch} {e : Env} {R : Room} {s : State} {m : MethodId} {args : Array Value} {below : List Frame} {meth : Method} {c : Code} {Z : State} {EL : List (String × Nat)} {nw : Bool} {n0 : Nat} {y : MethodName} {code : ByteArray} {maxL : Nat} {ret : Option FieldType} {T : State} {h : Heap} {sf : List Addr} {cells slots : Nat} {Φ : Outcome → State → Prop} {a0 : Array Value} {pc pc' : Nat} {L : Array Slot} {S : List Value}
theorem WP.st {T' : State} {g g' : JFrame} (k : ∀ t, Steps p.tables e below (T'.setTop g') t → Steps p.tables e below (T.setTop g) t) (w : WP p e below Φ T' g') : WP p e below Φ T g := by
  obtain ⟨s₂, o, h1, h2⟩ := w; exact ⟨s₂, o, k _ h1, h2⟩
theorem WP.cast {g g' : JFrame} (q : g = g') (w : WP p e below Φ T g') : WP p e below Φ T g := q ▸ w
theorem WP.steps {T' : State} {g g' : JFrame} (k : Steps p.tables e below (T.setTop g) (T'.setTop g')) (w : WP p e below Φ T' g') : WP p e below Φ T g := WP.st (fun _ q => k.trans q) w

theorem WS.here (W : WS p l e R s m args below meth c Z a0 EL nw n0 y code maxL ret T h sf cells slots) : At T m c below := by obtain ⟨_, X, -⟩ := W; exact X.here
theorem WS.hx (W : WS p l e R s m args below meth c Z a0 EL nw n0 y code maxL ret T h sf cells slots) : p.tables.exec = Jvm.exec := by obtain ⟨_, _, _, _, _, _, _, _, _, _, _, _, q, -⟩ := W; exact q
theorem WS.hby (W : WS p l e R s m args below meth c Z a0 EL nw n0 y code maxL ret T h sf cells slots) : c.code = code := by obtain ⟨_, _, _, _, _, _, _, _, _, _, _, _, _, q, -⟩ := W; exact q
theorem WS.hn (W : WS p l e R s m args below meth c Z a0 EL nw n0 y code maxL ret T h sf cells slots) : n0 ≤ h.size := by obtain ⟨_, _, _, _, _, _, _, _, q, -⟩ := W; exact q
theorem WS.hT (W : WS p l e R s m args below meth c Z a0 EL nw n0 y code maxL ret T h sf cells slots) : T.heap = h := by obtain ⟨_, _, q, -⟩ := W; exact q
theorem WS.hZ (W : WS p l e R s m args below meth c Z a0 EL nw n0 y code maxL ret T h sf cells slots) : Z.Warmed39 T.vm := by obtain ⟨_, _, _, _, q, -⟩ := W; exact q
theorem WS.lt (W : WS p l e R s m args below meth c Z a0 EL nw n0 y code maxL ret T h sf cells slots) {x : Addr} (q : x ∈ sf) : x < h.size := by obtain ⟨_, _, _, _, _, _, _, _, _, w, -⟩ := W; exact (w x q).2.1
theorem WS.ge (W : WS p l e R s m args below meth c Z a0 EL nw n0 y code maxL ret T h sf cells slots) {x : Addr} (q : x ∈ sf) : n0 ≤ x := by obtain ⟨_, _, _, _, _, _, _, _, _, w, -⟩ := W; exact (w x q).1
theorem WS.hd (W : WS p l e R s m args below meth c Z a0 EL nw n0 y code maxL ret T h sf cells slots) {i : Instr} {n : Nat} (d : D code pc i n pc') : decode c.code pc = .ok (i, n) := hb W.hby d.1
theorem WS.mono (W : WS p l e R s m args below meth c Z a0 EL nw n0 y code maxL ret T h sf cells slots) {cells' slots' : Nat} {sf' : List Addr} (hc : cells ≤ cells') (hs : slots ≤ slots') (hf : ∀ x ∈ sf', x ∈ sf) : WS p l e R s m args below meth c Z a0 EL nw n0 y code maxL ret T h sf' cells' slots' := by
  obtain ⟨locs, X, a1, a2, a3, a4, a5, a6, a7, a8, a9⟩ := W
  exact ⟨locs, X.mono hc hs, a1, a2, a3, a4, a5, a6, a7, fun x hx => a8 x (hf x hx), a9⟩
/-- a step by a law of the library over the point's own start: the point behind it -/
theorem WS.pack {T' : State} {h' : Heap} {sf' : List Addr} {locs' : List Loc} {cells' slots' : Nat} (W : WS p l e R s m args below meth c Z a0 EL nw n0 y code maxL ret T h sf cells slots) (X' : Stand p l e R (s.setVm T.vm) m args below meth c T' locs' cells' slots') (eT : T'.heap = h') (N : Fr n0 locs') (hle : h.size ≤ h'.size) (K : CHv Z EL T.vm h → CHv Z EL T.vm h' ∧ ∀ y, Bk Z EL T.vm h' y → Bk Z EL T.vm h y) (hf : ∀ x ∈ sf', x ∈ sf ∨ (h.size ≤ x ∧ x < h'.size)) :
    WS p l e R s m args below meth c Z a0 EL nw n0 y code maxL ret T' h' sf' cells' slots' := by
  obtain ⟨locs, X, a1, a2, a3, a4, a5, a6, a7, a8, hE, aW, a10⟩ := W
  have C0 := K a5.1
  have C1 : CHr Z EL T.vm h T.vm h' := ⟨C0.1, hle, fun z q => Or.inl (C0.2 z q)⟩
  have C2 := CHv.at X' a3 hE C1.1
  have hS2 : (s.setVm T.vm).Since T'.vm h'.size := X'.warmed.since _
  refine ⟨locs', X'.retabled X'.warmed.wide, eT, a2.trans hS2 hle, wtrans (s := s.setVm T.vm) a3 X'.warmed, by rw [X'.warmed.alike.findClass]; exact a4, (a5.trans C1).trans C2, N, Nat.le_trans a7 hle, fun x hx => ?_, hE, fun u => State.WarmedH.trans (t := s.setVm T.vm) (aW u) X'.warmed, a10⟩
  rcases hf x hx with q | ⟨q1, q2⟩
  · obtain ⟨b1, b2, b3⟩ := a8 x q
    exact ⟨b1, Nat.lt_of_lt_of_le b2 hle, C2.safe (Nat.lt_of_lt_of_le b2 hle) (C1.safe b2 b3)⟩
  · refine ⟨Nat.le_trans a7 q1, q2, C2.safe q2 fun B => ?_⟩
    obtain ⟨cell, z⟩ := (C0.2 x B).there
    have := (Array.getElem?_eq_some_iff.mp z).1; omega
/-- nothing of the heap moved -/
theorem WS.same {T' : State} (W : WS p l e R s m args below meth c Z a0 EL nw n0 y code maxL ret T h sf cells slots) (f : ∀ locs, Stand p l e R (s.setVm T.vm) m args below meth c T locs cells slots → Stand p l e R (s.setVm T.vm) m args below meth c T' locs cells slots) (eT : T'.heap = h) : WS p l e R s m args below meth c Z a0 EL nw n0 y code maxL ret T' h sf cells slots := by
  obtain ⟨locs, X, a1, a2, a3, a4, a5, a6, a7, a8, a9⟩ := id W
  exact W.pack (f _ X) eT a6 (Nat.le_refl _) (fun H => ⟨H, fun _ q => q⟩) (fun x hx => Or.inl hx)

theorem k_aloadN (W : WS p l e R s m args below meth c Z a0 EL nw n0 y code maxL ret T h sf cells slots) {k : Fin 4} {v : Value} (d : D code pc (.aload_n k) 1 pc')   (hl : L[k.val]? = some (.val v)) (hv : v.isRef = true) (w : WP p e below Φ T (mkF m pc' L (v :: S))) : WP p e below Φ T (mkF m pc L (S)) := by
  obtain ⟨hd, rfl⟩ := d
  exact WP.st (fun _ q => XS.aloadN W.here W.hx rfl (hb W.hby hd) hl hv q) w
theorem k_aload (W : WS p l e R s m args below meth c Z a0 EL nw n0 y code maxL ret T h sf cells slots) {k : Nat} {v : Value} (d : D code pc (.aload k) 2 pc')   (hl : L[k]? = some (.val v)) (hv : v.isRef = true) (w : WP p e below Φ T (mkF m pc' L (v :: S))) : WP p e below Φ T (mkF m pc L (S)) := by
  obtain ⟨hd, rfl⟩ := d
  exact WP.st (fun _ q => XS.aload W.here W.hx rfl (hb W.hby hd) hl hv q) w
theorem k_iloadN (W : WS p l e R s m args below meth c Z a0 EL nw n0 y code maxL ret T h sf cells slots) {k : Fin 4} {v : Int32} (d : D code pc (.iload_n k) 1 pc')   (hl : L[k.val]? = some (.val (.int v))) (w : WP p e below Φ T (mkF m pc' L (.int v :: S))) : WP p e below Φ T (mkF m pc L (S)) := by
  obtain ⟨hd, rfl⟩ := d
  exact WP.st (fun _ q => XS.iloadN W.here W.hx rfl (hb W.hby hd) hl q) w
theorem k_iload (W : WS p l e R s m args below meth c Z a0 EL nw n0 y code maxL ret T h sf cells slots) {k : Nat} {v : Int32} (d : D code pc (.iload k) 2 pc')   (hl : L[k]? = some (.val (.int v))) (w : WP p e below Φ T (mkF m pc' L (.int v :: S))) : WP p e below Φ T (mkF m pc L (S)) := by
  obtain ⟨hd, rfl⟩ := d
  exact WP.st (fun _ q => XS.iload W.here W.hx rfl (hb W.hby hd) hl q) w
theorem k_lloadN (W : WS p l e R s m args below meth c Z a0 EL nw n0 y code maxL ret T h sf cells slots) {k : Fin 4} {v : Int64} (d : D code pc (.lload_n k) 1 pc')   (hl : L[k.val]? = some (.val (.long v))) (w : WP p e below Φ T (mkF m pc' L (.long v :: S))) : WP p e below Φ T (mkF m pc L (S)) := by
  obtain ⟨hd, rfl⟩ := d
  exact WP.st (fun _ q => XS.lloadN W.here W.hx rfl (hb W.hby hd) hl q) w
theorem k_lload (W : WS p l e R s m args below meth c Z a0 EL nw n0 y code maxL ret T h sf cells slots) {k : Nat} {v : Int64} (d : D code pc (.lload k) 2 pc')   (hl : L[k]? = some (.val (.long v))) (w : WP p e below Φ T (mkF m pc' L (.long v :: S))) : WP p e below Φ T (mkF m pc L (S)) := by
  obtain ⟨hd, rfl⟩ := d
  exact WP.st (fun _ q => XS.lload W.here W.hx rfl (hb W.hby hd) hl q) w
theorem k_istoreN (W : WS p l e R s m args below meth c Z a0 EL nw n0 y code maxL ret T h sf cells slots) {k : Fin 4} {x : Int32} {L' : Array Slot} (d : D code pc (.istore_n k) 1 pc')    (hl : storeLocals L k.val (.int x) = some L') (w : WP p e below Φ T (mkF m pc' L' (S))) : WP p e below Φ T (mkF m pc L (.int x :: S)) := by
  obtain ⟨hd, rfl⟩ := d
  exact WP.st (fun _ q => XS.istoreN W.here W.hx rfl (hb W.hby hd) rfl hl q) w
theorem k_istore (W : WS p l e R s m args below meth c Z a0 EL nw n0 y code maxL ret T h sf cells slots) {k : Nat} {x : Int32} {L' : Array Slot} (d : D code pc (.istore k) 2 pc')    (hl : storeLocals L k (.int x) = some L') (w : WP p e below Φ T (mkF m pc' L' (S))) : WP p e below Φ T (mkF m pc L (.int x :: S)) := by
  obtain ⟨hd, rfl⟩ := d
  exact WP.st (fun _ q => XS.istore W.here W.hx rfl (hb W.hby hd) rfl hl q) w
theorem k_lstoreN (W : WS p l e R s m args below meth c Z a0 EL nw n0 y code maxL ret T h sf cells slots) {k : Fin 4} {x : Int64} {L' : Array Slot} (d : D code pc (.lstore_n k) 1 pc')    (hl : storeLocals L k.val (.long x) = some L') (w : WP p e below Φ T (mkF m pc' L' (S))) : WP p e below Φ T (mkF m pc L (.long x :: S)) := by
  obtain ⟨hd, rfl⟩ := d
  exact WP.st (fun _ q => XS.lstoreN W.here W.hx rfl (hb W.hby hd) rfl hl q) w
theorem k_lstore (W : WS p l e R s m args below meth c Z a0 EL nw n0 y code maxL ret T h sf cells slots) {k : Nat} {x : Int64} {L' : Array Slot} (d : D code pc (.lstore k) 2 pc')    (hl : storeLocals L k (.long x) = some L') (w : WP p e below Φ T (mkF m pc' L' (S))) : WP p e below Φ T (mkF m pc L (.long x :: S)) := by
  obtain ⟨hd, rfl⟩ := d
  exact WP.st (fun _ q => XS.lstore W.here W.hx rfl (hb W.hby hd) rfl hl q) w
theorem k_astoreN (W : WS p l e R s m args below meth c Z a0 EL nw n0 y code maxL ret T h sf cells slots) {k : Fin 4} {x : Value} {L' : Array Slot} (d : D code pc (.astore_n k) 1 pc')    (hv : x.isRef = true) (hl : storeLocals L k.val x = some L') (w : WP p e below Φ T (mkF m pc' L' (S))) : WP p e below Φ T (mkF m pc L (x :: S)) := by
  obtain ⟨hd, rfl⟩ := d
  exact WP.st (fun _ q => XS.astoreN W.here W.hx rfl (hb W.hby hd) rfl hv hl q) w
theorem k_astore (W : WS p l e R s m args below meth c Z a0 EL nw n0 y code maxL ret T h sf cells slots) {k : Nat} {x : Value} {L' : Array Slot} (d : D code pc (.astore k) 2 pc')    (hv : x.isRef = true) (hl : storeLocals L k x = some L') (w : WP p e below Φ T (mkF m pc' L' (S))) : WP p e below Φ T (mkF m pc L (x :: S)) := by
  obtain ⟨hd, rfl⟩ := d
  exact WP.st (fun _ q => XS.astore W.here W.hx rfl (hb W.hby hd) rfl hv hl q) w
theorem k_iconst (W : WS p l e R s m args below meth c Z a0 EL nw n0 y code maxL ret T h sf cells slots) {i : Int} {z : Int32} (d : D code pc (.iconst i) 1 pc')   (hz : Int32.ofInt i = z) (w : WP p e below Φ T (mkF m pc' L (.int z :: S))) : WP p e below Φ T (mkF m pc L (S)) := by
  obtain ⟨hd, rfl⟩ := d
  exact WP.st (fun _ q => XS.iconst W.here W.hx rfl (hb W.hby hd) (by rw [hz]; exact q)) w
theorem k_bipush (W : WS p l e R s m args below meth c Z a0 EL nw n0 y code maxL ret T h sf cells slots) {i : Int} {z : Int32} (d : D code pc (.bipush i) 2 pc')   (hz : (Int8.ofInt i).toInt32 = z) (w : WP p e below Φ T (mkF m pc' L (.int z :: S))) : WP p e below Φ T (mkF m pc L (S)) := by
  obtain ⟨hd, rfl⟩ := d
  exact WP.st (fun _ q => XS.bipush W.here W.hx rfl (hb W.hby hd) (by rw [hz]; exact q)) w
theorem k_sipush (W : WS p l e R s m args below meth c Z a0 EL nw n0 y code maxL ret T h sf cells slots) {i : Int} {z : Int32} (d : D code pc (.sipush i) 3 pc')   (hz : (Int16.ofInt i).toInt32 = z) (w : WP p e below Φ T (mkF m pc' L (.int z :: S))) : WP p e below Φ T (mkF m pc L (S)) := by
  obtain ⟨hd, rfl⟩ := d
  exact WP.st (fun _ q => XS.sipush W.here W.hx rfl (hb W.hby hd) (by rw [hz]; exact q)) w
theorem k_lconst (W : WS p l e R s m args below meth c Z a0 EL nw n0 y code maxL ret T h sf cells slots) {k : Fin 2} {z : Int64} (d : D code pc (.lconst k) 1 pc')   (hz : Int64.ofNat k = z) (w : WP p e below Φ T (mkF m pc' L (.long z :: S))) : WP p e below Φ T (mkF m pc L (S)) := by
  obtain ⟨hd, rfl⟩ := d
  exact WP.st (fun _ q => XS.lconst W.here W.hx rfl (hb W.hby hd) (by rw [hz]; exact q)) w
theorem k_aconst (W : WS p l e R s m args below meth c Z a0 EL nw n0 y code maxL ret T h sf cells slots)  (d : D code pc (.aconst_null) 1 pc')  (w : WP p e below Φ T (mkF m pc' L (.null :: S))) : WP p e below Φ T (mkF m pc L (S)) := by
  obtain ⟨hd, rfl⟩ := d
  exact WP.st (fun _ q => XS.aconstNull W.here W.hx rfl (hb W.hby hd) q) w
theorem k_iadd (W : WS p l e R s m args below meth c Z a0 EL nw n0 y code maxL ret T h sf cells slots) {x y z : Int32} (d : D code pc (.iadd) 1 pc')  (hz : x + y = z) (w : WP p e below Φ T (mkF m pc' L (.int z :: S))) : WP p e below Φ T (mkF m pc L (.int y :: .int x :: S)) := by
  obtain ⟨hd, rfl⟩ := d
  exact WP.st (fun _ q => XS.iadd W.here W.hx rfl (hb W.hby hd) rfl (by rw [hz]; exact q)) w
theorem k_isub (W : WS p l e R s m args below meth c Z a0 EL nw n0 y code maxL ret T h sf cells slots) {x y z : Int32} (d : D code pc (.isub) 1 pc')  (hz : x - y = z) (w : WP p e below Φ T (mkF m pc' L (.int z :: S))) : WP p e below Φ T (mkF m pc L (.int y :: .int x :: S)) := by
  obtain ⟨hd, rfl⟩ := d
  exact WP.st (fun _ q => XS.isub W.here W.hx rfl (hb W.hby hd) rfl (by rw [hz]; exact q)) w
theorem k_iand (W : WS p l e R s m args below meth c Z a0 EL nw n0 y code maxL ret T h sf cells slots) {x y z : Int32} (d : D code pc (.iand) 1 pc')  (hz : x &&& y = z) (w : WP p e below Φ T (mkF m pc' L (.int z :: S))) : WP p e below Φ T (mkF m pc L (.int y :: .int x :: S)) := by
  obtain ⟨hd, rfl⟩ := d
  exact WP.st (fun _ q => XS.iand W.here W.hx rfl (hb W.hby hd) rfl (by rw [hz]; exact q)) w
theorem k_imul (W : WS p l e R s m args below meth c Z a0 EL nw n0 y code maxL ret T h sf cells slots) {x y z : Int32} (d : D code pc (.imul) 1 pc')  (hz : x * y = z) (w : WP p e below Φ T (mkF m pc' L (.int z :: S))) : WP p e below Φ T (mkF m pc L (.int y :: .int x :: S)) := by
  obtain ⟨hd, rfl⟩ := d
  exact WP.st (fun _ q => XS.imul W.here W.hx rfl (hb W.hby hd) rfl (by rw [hz]; exact q)) w
theorem k_ixor (W : WS p l e R s m args below meth c Z a0 EL nw n0 y code maxL ret T h sf cells slots) {x y z : Int32} (d : D code pc (.ixor) 1 pc')  (hz : x ^^^ y = z) (w : WP p e below Φ T (mkF m pc' L (.int z :: S))) : WP p e below Φ T (mkF m pc L (.int y :: .int x :: S)) := by
  obtain ⟨hd, rfl⟩ := d
  exact WP.st (fun _ q => XS.ixor W.here W.hx rfl (hb W.hby hd) rfl (by rw [hz]; exact q)) w
theorem k_ior (W : WS p l e R s m args below meth c Z a0 EL nw n0 y code maxL ret T h sf cells slots) {x y z : Int32} (d : D code pc (.ior) 1 pc')  (hz : x ||| y = z) (w : WP p e below Φ T (mkF m pc' L (.int z :: S))) : WP p e below Φ T (mkF m pc L (.int y :: .int x :: S)) := by
  obtain ⟨hd, rfl⟩ := d
  exact WP.st (fun _ q => XS.ior W.here W.hx rfl (hb W.hby hd) rfl (by rw [hz]; exact q)) w
theorem k_ishl (W : WS p l e R s m args below meth c Z a0 EL nw n0 y code maxL ret T h sf cells slots) {x y z : Int32} (d : D code pc (.ishl) 1 pc')  (hz : x <<< (y &&& 31) = z) (w : WP p e below Φ T (mkF m pc' L (.int z :: S))) : WP p e below Φ T (mkF m pc L (.int y :: .int x :: S)) := by
  obtain ⟨hd, rfl⟩ := d
  exact WP.st (fun _ q => XS.ishl W.here W.hx rfl (hb W.hby hd) rfl (by rw [hz]; exact q)) w
theorem k_ishr (W : WS p l e R s m args below meth c Z a0 EL nw n0 y code maxL ret T h sf cells slots) {x y z : Int32} (d : D code pc (.ishr) 1 pc')  (hz : x >>> (y &&& 31) = z) (w : WP p e below Φ T (mkF m pc' L (.int z :: S))) : WP p e below Φ T (mkF m pc L (.int y :: .int x :: S)) := by
  obtain ⟨hd, rfl⟩ := d
  exact WP.st (fun _ q => XS.ishr W.here W.hx rfl (hb W.hby hd) rfl (by rw [hz]; exact q)) w
theorem k_iushr (W : WS p l e R s m args below meth c Z a0 EL nw n0 y code maxL ret T h sf cells slots) {x y z : Int32} (d : D code pc (.iushr) 1 pc')  (hz : XT.ushr x y = z) (w : WP p e below Φ T (mkF m pc' L (.int z :: S))) : WP p e below Φ T (mkF m pc L (.int y :: .int x :: S)) := by
  obtain ⟨hd, rfl⟩ := d
  exact WP.st (fun _ q => XT.iushr W.here W.hx rfl (hb W.hby hd) rfl (by rw [hz]; exact q)) w
theorem k_idiv (W : WS p l e R s m args below meth c Z a0 EL nw n0 y code maxL ret T h sf cells slots) {x y z : Int32} (d : D code pc (.idiv) 1 pc')  (hy : y ≠ 0) (hz : x / y = z) (w : WP p e below Φ T (mkF m pc' L (.int z :: S))) : WP p e below Φ T (mkF m pc L (.int y :: .int x :: S)) := by
  obtain ⟨hd, rfl⟩ := d
  exact WP.st (fun _ q => XS.idiv W.here W.hx rfl (hb W.hby hd) rfl hy (by rw [hz]; exact q)) w
theorem k_irem (W : WS p l e R s m args below meth c Z a0 EL nw n0 y code maxL ret T h sf cells slots) {x y z : Int32} (d : D code pc (.irem) 1 pc')  (hy : y ≠ 0) (hz : x % y = z) (w : WP p e below Φ T (mkF m pc' L (.int z :: S))) : WP p e below Φ T (mkF m pc L (.int y :: .int x :: S)) := by
  obtain ⟨hd, rfl⟩ := d
  exact WP.st (fun _ q => XS.irem W.here W.hx rfl (hb W.hby hd) rfl hy (by rw [irem_eq_mod x y, hz]; exact q)) w
theorem k_ineg (W : WS p l e R s m args below meth c Z a0 EL nw n0 y code maxL ret T h sf cells slots) {x z : Int32} (d : D code pc (.ineg) 1 pc')  (hz : -x = z) (w : WP p e below Φ T (mkF m pc' L (.int z :: S))) : WP p e below Φ T (mkF m pc L (.int x :: S)) := by
  obtain ⟨hd, rfl⟩ := d
  exact WP.st (fun _ q => XS.ineg W.here W.hx rfl (hb W.hby hd) rfl (by rw [hz]; exact q)) w
theorem k_ladd (W : WS p l e R s m args below meth c Z a0 EL nw n0 y code maxL ret T h sf cells slots) {x y z : Int64} (d : D code pc (.ladd) 1 pc')  (hz : x + y = z) (w : WP p e below Φ T (mkF m pc' L (.long z :: S))) : WP p e below Φ T (mkF m pc L (.long y :: .long x :: S)) := by
  obtain ⟨hd, rfl⟩ := d
  exact WP.st (fun _ q => XS.ladd W.here W.hx rfl (hb W.hby hd) rfl (by rw [hz]; exact q)) w
theorem k_lsub (W : WS p l e R s m args below meth c Z a0 EL nw n0 y code maxL ret T h sf cells slots) {x y z : Int64} (d : D code pc (.lsub) 1 pc')  (hz : x - y = z) (w : WP p e below Φ T (mkF m pc' L (.long z :: S))) : WP p e below Φ T (mkF m pc L (.long y :: .long x :: S)) := by
  obtain ⟨hd, rfl⟩ := d
  exact WP.st (fun _ q => XS.lsub W.here W.hx rfl (hb W.hby hd) rfl (by rw [hz]; exact q)) w
theorem k_land (W : WS p l e R s m args below meth c Z a0 EL nw n0 y code maxL ret T h sf cells slots) {x y z : Int64} (d : D code pc (.land) 1 pc')  (hz : x &&& y = z) (w : WP p e below Φ T (mkF m pc' L (.long z :: S))) : WP p e below Φ T (mkF m pc L (.long y :: .long x :: S)) := by
  obtain ⟨hd, rfl⟩ := d
  exact WP.st (fun _ q => XS.land W.here W.hx rfl (hb W.hby hd) rfl (by rw [hz]; exact q)) w
theorem k_lmul (W : WS p l e R s m args below meth c Z a0 EL nw n0 y code maxL ret T h sf cells slots) {x y z : Int64} (d : D code pc (.lmul) 1 pc')  (hz : x * y = z) (w : WP p e below Φ T (mkF m pc' L (.long z :: S))) : WP p e below Φ T (mkF m pc L (.long y :: .long x :: S)) := by
  obtain ⟨hd, rfl⟩ := d
  exact WP.st (fun _ q => XS.lmul W.here W.hx rfl (hb W.hby hd) rfl (by rw [hz]; exact q)) w
theorem k_lxor (W : WS p l e R s m args below meth c Z a0 EL nw n0 y code maxL ret T h sf cells slots) {x y z : Int64} (d : D code pc (.lxor) 1 pc')  (hz : x ^^^ y = z) (w : WP p e below Φ T (mkF m pc' L (.long z :: S))) : WP p e below Φ T (mkF m pc L (.long y :: .long x :: S)) := by
  obtain ⟨hd, rfl⟩ := d
  exact WP.st (fun _ q => XS.lxor W.here W.hx rfl (hb W.hby hd) rfl (by rw [hz]; exact q)) w
theorem k_lor (W : WS p l e R s m args below meth c Z a0 EL nw n0 y code maxL ret T h sf cells slots) {x y z : Int64} (d : D code pc (.lor) 1 pc')  (hz : x ||| y = z) (w : WP p e below Φ T (mkF m pc' L (.long z :: S))) : WP p e below Φ T (mkF m pc L (.long y :: .long x :: S)) := by
  obtain ⟨hd, rfl⟩ := d
  exact WP.st (fun _ q => XS.lor W.here W.hx rfl (hb W.hby hd) rfl (by rw [hz]; exact q)) w
theorem k_lshl (W : WS p l e R s m args below meth c Z a0 EL nw n0 y code maxL ret T h sf cells slots) {x z : Int64} {y : Int32} (d : D code pc (.lshl) 1 pc')   (hz : x <<< (y.toInt64 &&& 63) = z) (w : WP p e below Φ T (mkF m pc' L (.long z :: S))) : WP p e below Φ T (mkF m pc L (.int y :: .long x :: S)) := by
  obtain ⟨hd, rfl⟩ := d
  exact WP.st (fun _ q => XT.lshl W.here W.hx rfl (hb W.hby hd) rfl (by rw [hz]; exact q)) w
theorem k_lshr (W : WS p l e R s m args below meth c Z a0 EL nw n0 y code maxL ret T h sf cells slots) {x z : Int64} {y : Int32} (d : D code pc (.lshr) 1 pc')   (hz : x >>> (y.toInt64 &&& 63) = z) (w : WP p e below Φ T (mkF m pc' L (.long z :: S))) : WP p e below Φ T (mkF m pc L (.int y :: .long x :: S)) := by
  obtain ⟨hd, rfl⟩ := d
  exact WP.st (fun _ q => XT.lshr W.here W.hx rfl (hb W.hby hd) rfl (by rw [hz]; exact q)) w
theorem k_lushr (W : WS p l e R s m args below meth c Z a0 EL nw n0 y code maxL ret T h sf cells slots) {x z : Int64} {y : Int32} (d : D code pc (.lushr) 1 pc')   (hz : XT.ushrL x y = z) (w : WP p e below Φ T (mkF m pc' L (.long z :: S))) : WP p e below Φ T (mkF m pc L (.int y :: .long x :: S)) := by
  obtain ⟨hd, rfl⟩ := d
  exact WP.st (fun _ q => XT.lushr W.here W.hx rfl (hb W.hby hd) rfl (by rw [hz]; exact q)) w
theorem k_lrem (W : WS p l e R s m args below meth c Z a0 EL nw n0 y code maxL ret T h sf cells slots) {x y z : Int64} (d : D code pc (.lrem) 1 pc')  (hy : y ≠ 0) (hz : x - (x / y) * y = z) (w : WP p e below Φ T (mkF m pc' L (.long z :: S))) : WP p e below Φ T (mkF m pc L (.long y :: .long x :: S)) := by
  obtain ⟨hd, rfl⟩ := d
  exact WP.st (fun _ q => XS.lrem W.here W.hx rfl (hb W.hby hd) rfl hy (by rw [hz]; exact q)) w
theorem k_ldiv (W : WS p l e R s m args below meth c Z a0 EL nw n0 y code maxL ret T h sf cells slots) {x y z : Int64} (d : D code pc (.ldiv) 1 pc')  (hy : y ≠ 0) (hz : x / y = z) (w : WP p e below Φ T (mkF m pc' L (.long z :: S))) : WP p e below Φ T (mkF m pc L (.long y :: .long x :: S)) := by
  obtain ⟨hd, rfl⟩ := d
  exact WP.st (fun _ q => XS.ldiv W.here W.hx rfl (hb W.hby hd) rfl hy (by rw [hz]; exact q)) w
theorem k_lneg (W : WS p l e R s m args below meth c Z a0 EL nw n0 y code maxL ret T h sf cells slots) {x z : Int64} (d : D code pc (.lneg) 1 pc')  (hz : -x = z) (w : WP p e below Φ T (mkF m pc' L (.long z :: S))) : WP p e below Φ T (mkF m pc L (.long x :: S)) := by
  obtain ⟨hd, rfl⟩ := d
  exact WP.st (fun _ q => XS.lneg W.here W.hx rfl (hb W.hby hd) rfl (by rw [hz]; exact q)) w
theorem k_lcmp (W : WS p l e R s m args below meth c Z a0 EL nw n0 y code maxL ret T h sf cells slots) {x y : Int64} {z : Int32} (d : D code pc (.lcmp) 1 pc')   (hz : XT.cmpL x y = z) (w : WP p e below Φ T (mkF m pc' L (.int z :: S))) : WP p e below Φ T (mkF m pc L (.long y :: .long x :: S)) := by
  obtain ⟨hd, rfl⟩ := d
  exact WP.st (fun _ q => XT.lcmp W.here W.hx rfl (hb W.hby hd) rfl (by rw [hz]; exact q)) w
theorem k_i2b (W : WS p l e R s m args below meth c Z a0 EL nw n0 y code maxL ret T h sf cells slots) {x z : Int32} (d : D code pc (.i2b) 1 pc')  (hz : x.toInt8.toInt32 = z) (w : WP p e below Φ T (mkF m pc' L (.int z :: S))) : WP p e below Φ T (mkF m pc L (.int x :: S)) := by
  obtain ⟨hd, rfl⟩ := d
  exact WP.st (fun _ q => XS.i2b W.here W.hx rfl (hb W.hby hd) rfl (by rw [hz]; exact q)) w
theorem k_i2c (W : WS p l e R s m args below meth c Z a0 EL nw n0 y code maxL ret T h sf cells slots) {x z : Int32} (d : D code pc (.i2c) 1 pc')  (hz : x.toUInt32.toUInt16.toUInt32.toInt32 = z) (w : WP p e below Φ T (mkF m pc' L (.int z :: S))) : WP p e below Φ T (mkF m pc L (.int x :: S)) := by
  obtain ⟨hd, rfl⟩ := d
  exact WP.st (fun _ q => XS.i2c W.here W.hx rfl (hb W.hby hd) rfl (by rw [hz]; exact q)) w
theorem k_i2s (W : WS p l e R s m args below meth c Z a0 EL nw n0 y code maxL ret T h sf cells slots) {x z : Int32} (d : D code pc (.i2s) 1 pc')  (hz : x.toInt16.toInt32 = z) (w : WP p e below Φ T (mkF m pc' L (.int z :: S))) : WP p e below Φ T (mkF m pc L (.int x :: S)) := by
  obtain ⟨hd, rfl⟩ := d
  exact WP.st (fun _ q => XS.i2s W.here W.hx rfl (hb W.hby hd) rfl (by rw [hz]; exact q)) w
theorem k_i2l (W : WS p l e R s m args below meth c Z a0 EL nw n0 y code maxL ret T h sf cells slots) {x : Int32} {z : Int64} (d : D code pc (.i2l) 1 pc')   (hz : x.toInt64 = z) (w : WP p e below Φ T (mkF m pc' L (.long z :: S))) : WP p e below Φ T (mkF m pc L (.int x :: S)) := by
  obtain ⟨hd, rfl⟩ := d
  exact WP.st (fun _ q => XS.i2l W.here W.hx rfl (hb W.hby hd) rfl (by rw [hz]; exact q)) w
theorem k_l2i (W : WS p l e R s m args below meth c Z a0 EL nw n0 y code maxL ret T h sf cells slots) {x : Int64} {z : Int32} (d : D code pc (.l2i) 1 pc')   (hz : x.toInt32 = z) (w : WP p e below Φ T (mkF m pc' L (.int z :: S))) : WP p e below Φ T (mkF m pc L (.long x :: S)) := by
  obtain ⟨hd, rfl⟩ := d
  exact WP.st (fun _ q => XS.l2i W.here W.hx rfl (hb W.hby hd) rfl (by rw [hz]; exact q)) w
theorem k_dup (W : WS p l e R s m args below meth c Z a0 EL nw n0 y code maxL ret T h sf cells slots) {x : Value} (d : D code pc (.dup) 1 pc')  (hc : x.category = 1) (w : WP p e below Φ T (mkF m pc' L (x :: x :: S))) : WP p e below Φ T (mkF m pc L (x :: S)) := by
  obtain ⟨hd, rfl⟩ := d
  exact WP.st (fun _ q => XS.dup W.here W.hx rfl (hb W.hby hd) rfl hc q) w
theorem k_pop (W : WS p l e R s m args below meth c Z a0 EL nw n0 y code maxL ret T h sf cells slots) {x : Value} (d : D code pc (.pop) 1 pc')  (hc : x.category = 1) (w : WP p e below Φ T (mkF m pc' L (S))) : WP p e below Φ T (mkF m pc L (x :: S)) := by
  obtain ⟨hd, rfl⟩ := d
  exact WP.st (fun _ q => XS.pop W.here W.hx rfl (hb W.hby hd) rfl hc q) w
theorem k_dupX1 (W : WS p l e R s m args below meth c Z a0 EL nw n0 y code maxL ret T h sf cells slots) {x z : Value} (d : D code pc (.dup_x1) 1 pc')  (hc : x.category = 1) (hc' : z.category = 1) (w : WP p e below Φ T (mkF m pc' L (x :: z :: x :: S))) : WP p e below Φ T (mkF m pc L (x :: z :: S)) := by
  obtain ⟨hd, rfl⟩ := d
  exact WP.st (fun _ q => XS.dupX1 W.here W.hx rfl (hb W.hby hd) rfl hc hc' q) w
theorem k_dup2 (W : WS p l e R s m args below meth c Z a0 EL nw n0 y code maxL ret T h sf cells slots) {x z : Value} (d : D code pc (.dup2) 1 pc')  (hc : x.category = 1) (hc' : z.category = 1) (w : WP p e below Φ T (mkF m pc' L (x :: z :: x :: z :: S))) : WP p e below Φ T (mkF m pc L (x :: z :: S)) := by
  obtain ⟨hd, rfl⟩ := d
  exact WP.st (fun _ q => XT.dup2 W.here W.hx rfl (hb W.hby hd) rfl hc hc' q) w
theorem k_dup2L (W : WS p l e R s m args below meth c Z a0 EL nw n0 y code maxL ret T h sf cells slots) {x : Int64} (d : D code pc (.dup2) 1 pc')  (w : WP p e below Φ T (mkF m pc' L (.long x :: .long x :: S))) : WP p e below Φ T (mkF m pc L (.long x :: S)) := by
  obtain ⟨hd, rfl⟩ := d
  exact WP.st (fun _ q => XT.dup2L W.here W.hx rfl (hb W.hby hd) rfl q) w
theorem k_iinc (W : WS p l e R s m args below meth c Z a0 EL nw n0 y code maxL ret T h sf cells slots) {k : Nat} {cst : Int} {x z : Int32} {L' : Array Slot} (d : D code pc (.iinc k cst) 3 pc')     (hl : L[k]? = some (.val (.int x))) (hz : x + Int32.ofInt cst = z) (hl' : storeLocals L k (.int z) = some L') (w : WP p e below Φ T (mkF m pc' L' (S))) : WP p e below Φ T (mkF m pc L (S)) := by
  obtain ⟨hd, rfl⟩ := d
  exact WP.st (fun _ q => XS.iinc W.here W.hx rfl (hb W.hby hd) hl (by rw [hz]; exact hl') q) w
theorem k_goto (W : WS p l e R s m args below meth c Z a0 EL nw n0 y code maxL ret T h sf cells slots) {o : Int} (pc1 : Nat) (d : D code pc (.goto o) 3 pc') (ho : 0 ≤ (pc : Int) + o ∧ ((pc : Int) + o).toNat = pc1) (w : WP p e below Φ T (mkF m pc1 L S)) : WP p e below Φ T (mkF m pc L S) := by
  obtain ⟨hd, rfl⟩ := d
  exact WP.st (fun _ q => XS.goto W.here W.hx rfl (pc0 := pc) (pc' := pc1) rfl (hb W.hby hd) ho.1 ho.2 q) w
def icP : ClassFile.Cond → Int32 → Prop
  | .eq, x => x = 0
  | .ne, x => ¬ x = 0
  | .lt, x => x < 0
  | .ge, x => ¬ x < 0
  | .gt, x => 0 < x
  | .le, x => ¬ 0 < x
def ic2 : ClassFile.Cond → Int32 → Int32 → Prop
  | .eq, x, y => x = y
  | .ne, x, y => ¬ x = y
  | .lt, x, y => x < y
  | .ge, x, y => ¬ x < y
  | .gt, x, y => y < x
  | .le, x, y => ¬ y < x
theorem icP_iff (cd : ClassFile.Cond) (x : Int32) : ifCond.holds cd x = true ↔ icP cd x := by
  cases cd <;> simp [ifCond.holds, icP, Int32.not_lt, Int32.not_le]
theorem ic2_iff (cd : ClassFile.Cond) (x y : Int32) : if_icmp.holds cd x y = true ↔ ic2 cd x y := by
  cases cd <;> simp [if_icmp.holds, ic2, Int32.not_lt, Int32.not_le]
theorem k_ifY (W : WS p l e R s m args below meth c Z a0 EL nw n0 y code maxL ret T h sf cells slots) {cd : ClassFile.Cond} {x : Int32} {o : Int} (pc1 : Nat) (d : D code pc (.ifCond cd o) 3 pc') (ho : 0 ≤ (pc : Int) + o ∧ ((pc : Int) + o).toNat = pc1) (hc : icP cd x) (w : WP p e below Φ T (mkF m pc1 L S)) : WP p e below Φ T (mkF m pc L (.int x :: S)) := by
  obtain ⟨hd, rfl⟩ := d
  exact WP.st (fun _ q => XS.ifYes W.here W.hx rfl (pc0 := pc) (pc' := pc1) rfl (hb W.hby hd) rfl ((icP_iff _ _).mpr hc) ho.1 ho.2 q) w
theorem k_ifN (W : WS p l e R s m args below meth c Z a0 EL nw n0 y code maxL ret T h sf cells slots) {cd : ClassFile.Cond} {x : Int32} {o : Int} (d : D code pc (.ifCond cd o) 3 pc') (hc : ¬ icP cd x) (w : WP p e below Φ T (mkF m pc' L S)) : WP p e below Φ T (mkF m pc L (.int x :: S)) := by
  obtain ⟨hd, rfl⟩ := d
  exact WP.st (fun _ q => XS.ifNo W.here W.hx rfl (hb W.hby hd) rfl (by cases hh : ifCond.holds cd x with | false => rfl | true => exact absurd ((icP_iff _ _).mp hh) hc) q) w
theorem k_if (W : WS p l e R s m args below meth c Z a0 EL nw n0 y code maxL ret T h sf cells slots) {cd : ClassFile.Cond} {x : Int32} {o : Int} (pc1 : Nat) (d : D code pc (.ifCond cd o) 3 pc') (ho : 0 ≤ (pc : Int) + o ∧ ((pc : Int) + o).toNat = pc1) (w1 : icP cd x → WP p e below Φ T (mkF m pc1 L S)) (w2 : ¬ icP cd x → WP p e below Φ T (mkF m pc' L S)) : WP p e below Φ T (mkF m pc L (.int x :: S)) := by
  by_cases q : icP cd x
  · exact k_ifY W pc1 d ho q (w1 q)
  · exact k_ifN W d q (w2 q)
theorem k_icY (W : WS p l e R s m args below meth c Z a0 EL nw n0 y code maxL ret T h sf cells slots) {cd : ClassFile.Cond} {x z : Int32} {o : Int} (pc1 : Nat) (d : D code pc (.if_icmp cd o) 3 pc') (ho : 0 ≤ (pc : Int) + o ∧ ((pc : Int) + o).toNat = pc1) (hc : ic2 cd x z) (w : WP p e below Φ T (mkF m pc1 L S)) : WP p e below Φ T (mkF m pc L (.int z :: .int x :: S)) := by
  obtain ⟨hd, rfl⟩ := d
  exact WP.st (fun _ q => XS.icmpYes W.here W.hx rfl (pc0 := pc) (pc' := pc1) rfl (hb W.hby hd) rfl ((ic2_iff _ _ _).mpr hc) ho.1 ho.2 q) w
theorem k_icN (W : WS p l e R s m args below meth c Z a0 EL nw n0 y code maxL ret T h sf cells slots) {cd : ClassFile.Cond} {x z : Int32} {o : Int} (d : D code pc (.if_icmp cd o) 3 pc') (hc : ¬ ic2 cd x z) (w : WP p e below Φ T (mkF m pc' L S)) : WP p e below Φ T (mkF m pc L (.int z :: .int x :: S)) := by
  obtain ⟨hd, rfl⟩ := d
  exact WP.st (fun _ q => XS.icmpNo W.here W.hx rfl (hb W.hby hd) rfl (by cases hh : if_icmp.holds cd x z with | false => rfl | true => exact absurd ((ic2_iff _ _ _).mp hh) hc) q) w
theorem k_ic (W : WS p l e R s m args below meth c Z a0 EL nw n0 y code maxL ret T h sf cells slots) {cd : ClassFile.Cond} {x z : Int32} {o : Int} (pc1 : Nat) (d : D code pc (.if_icmp cd o) 3 pc') (ho : 0 ≤ (pc : Int) + o ∧ ((pc : Int) + o).toNat = pc1) (w1 : ic2 cd x z → WP p e below Φ T (mkF m pc1 L S)) (w2 : ¬ ic2 cd x z → WP p e below Φ T (mkF m pc' L S)) : WP p e below Φ T (mkF m pc L (.int z :: .int x :: S)) := by
  by_cases q : ic2 cd x z
  · exact k_icY W pc1 d ho q (w1 q)
  · exact k_icN W d q (w2 q)
theorem k_nullY (W : WS p l e R s m args below meth c Z a0 EL nw n0 y code maxL ret T h sf cells slots) {o : Int} (pc1 : Nat) (d : D code pc (.ifnull o) 3 pc') (ho : 0 ≤ (pc : Int) + o ∧ ((pc : Int) + o).toNat = pc1) (w : WP p e below Φ T (mkF m pc1 L S)) : WP p e below Φ T (mkF m pc L (.null :: S)) := by
  obtain ⟨hd, rfl⟩ := d
  exact WP.st (fun _ q => XS.ifnullYes W.here W.hx rfl (pc0 := pc) (pc' := pc1) rfl (hb W.hby hd) rfl ho.1 ho.2 q) w
theorem k_nullN (W : WS p l e R s m args below meth c Z a0 EL nw n0 y code maxL ret T h sf cells slots) {o : Int} {b : Addr} (d : D code pc (.ifnull o) 3 pc') (w : WP p e below Φ T (mkF m pc' L S)) : WP p e below Φ T (mkF m pc L (.ref b :: S)) := by
  obtain ⟨hd, rfl⟩ := d
  exact WP.st (fun _ q => XS.ifnullNo W.here W.hx rfl (hb W.hby hd) rfl q) w
theorem k_nnY (W : WS p l e R s m args below meth c Z a0 EL nw n0 y code maxL ret T h sf cells slots) {o : Int} {b : Addr} (pc1 : Nat) (d : D code pc (.ifnonnull o) 3 pc') (ho : 0 ≤ (pc : Int) + o ∧ ((pc : Int) + o).toNat = pc1) (w : WP p e below Φ T (mkF m pc1 L S)) : WP p e below Φ T (mkF m pc L (.ref b :: S)) := by
  obtain ⟨hd, rfl⟩ := d
  exact WP.st (fun _ q => XS.ifnonnullYes W.here W.hx rfl (pc0 := pc) (pc' := pc1) rfl (hb W.hby hd) rfl ho.1 ho.2 q) w
theorem k_nnN (W : WS p l e R s m args below meth c Z a0 EL nw n0 y code maxL ret T h sf cells slots) {o : Int} (d : D code pc (.ifnonnull o) 3 pc') (w : WP p e below Φ T (mkF m pc' L S)) : WP p e below Φ T (mkF m pc L (.null :: S)) := by
  obtain ⟨hd, rfl⟩ := d
  exact WP.st (fun _ q => XS.ifnonnullNo W.here W.hx rfl (hb W.hby hd) rfl q) w
def acP : ACond → Value → Value → Prop
  | .eq, x, y => x = y
  | .ne, x, y => ¬ x = y
theorem k_acY (W : WS p l e R s m args below meth c Z a0 EL nw n0 y code maxL ret T h sf cells slots) {cd : ACond} {x z : Value} {o : Int} (pc1 : Nat) (d : D code pc (.if_acmp cd o) 3 pc') (h1 : x.isRef = true) (h2 : z.isRef = true) (ho : 0 ≤ (pc : Int) + o ∧ ((pc : Int) + o).toNat = pc1) (hc : acP cd x z) (w : WP p e below Φ T (mkF m pc1 L S)) : WP p e below Φ T (mkF m pc L (z :: x :: S)) := by
  obtain ⟨hd, rfl⟩ := d
  obtain ⟨locs, X, -⟩ := id W
  cases cd
  · exact WP.st (fun _ q => Jvm.RoadKit.acmp X W.hx rfl h1 h2 (pc0 := pc) (pc' := pc1) (same := true) rfl (hb W.hby hd) rfl (decide_eq_true hc) ho.1 (by simp [acV, ho.2]) q) w
  · exact WP.st (fun _ q => Jvm.RoadKit.acmp X W.hx rfl h1 h2 (pc0 := pc) (pc' := pc1) (same := false) rfl (hb W.hby hd) rfl (decide_eq_false hc) ho.1 (by simp [acV, ho.2]) q) w
theorem k_acN (W : WS p l e R s m args below meth c Z a0 EL nw n0 y code maxL ret T h sf cells slots) {cd : ACond} {x z : Value} {o : Int} (d : D code pc (.if_acmp cd o) 3 pc') (h1 : x.isRef = true) (h2 : z.isRef = true) (ho : 0 ≤ (pc : Int) + o) (hc : ¬ acP cd x z) (w : WP p e below Φ T (mkF m pc' L S)) : WP p e below Φ T (mkF m pc L (z :: x :: S)) := by
  obtain ⟨hd, rfl⟩ := d
  obtain ⟨locs, X, -⟩ := id W
  cases cd
  · exact WP.st (fun _ q => Jvm.RoadKit.acmp X W.hx rfl h1 h2 (pc0 := pc) (pc' := pc + 3) (same := false) rfl (hb W.hby hd) rfl (decide_eq_false hc) ho (by simp [acV]) q) w
  · exact WP.st (fun _ q => Jvm.RoadKit.acmp X W.hx rfl h1 h2 (pc0 := pc) (pc' := pc + 3) (same := true) rfl (hb W.hby hd) rfl (decide_eq_true (Classical.not_not.mp hc)) ho (by simp [acV]) q) w
end Base

/-! ## small facts on numbers -/
abbrev i2c (x : Int32) : Int32 := x.toUInt32.toUInt16.toUInt32.toInt32
abbrev i2b (x : Int32) : Int32 := x.toInt8.toInt32
abbrev Rg (x : Int32) (n : Int) : Prop := 0 ≤ x.toInt ∧ x.toInt < n
theorem Rg.mono {x : Int32} {n k : Int} (q : Rg x n) (h : n ≤ k) : Rg x k := ⟨q.1, Int.lt_of_lt_of_le q.2 h⟩
theorem toInt_and_nonneg (x m : Int32) (hm : 0 ≤ m.toInt) : 0 ≤ (x &&& m).toInt ∧ (x &&& m).toInt ≤ m.toInt := by
  have e1 : (x &&& m).toBitVec = x.toBitVec &&& m.toBitVec := rfl
  have h1 : m.toInt = m.toBitVec.toNat := by
    have : m.toInt = m.toBitVec.toInt := rfl
    rw [this] at hm ⊢
    rw [BitVec.toInt_eq_toNat_cond] at hm ⊢
    split at hm <;> split <;> omega
  have h2 : (x.toBitVec &&& m.toBitVec).toNat ≤ m.toBitVec.toNat := by rw [BitVec.toNat_and]; exact Nat.and_le_right
  have hm2 : 2 * m.toBitVec.toNat < 2 ^ 32 := by
    have : m.toInt < 2 ^ 31 := Int32.toInt_lt m
    omega
  have h3 : (x &&& m).toInt = (x.toBitVec &&& m.toBitVec).toNat := by
    show (x.toBitVec &&& m.toBitVec).toInt = _
    rw [BitVec.toInt_eq_toNat_cond, if_pos (by omega)]
  rw [h3, h1]; omega
theorem Rg.and (x m : Int32) {n : Int} (hm : 0 ≤ m.toInt ∧ m.toInt < n) : Rg (x &&& m) n := by
  have := toInt_and_nonneg x m hm.1; exact ⟨this.1, by omega⟩
theorem toInt_i2c (x : Int32) : (i2c x).toInt = x.toBitVec.toNat % 65536 := by
  have h : (i2c x).toBitVec = (x.toBitVec.setWidth 16).setWidth 32 := rfl
  show (i2c x).toBitVec.toInt = _
  rw [h, BitVec.toInt_eq_toNat_cond, BitVec.toNat_setWidth, BitVec.toNat_setWidth]
  have : x.toBitVec.toNat % 2 ^ 16 < 2 ^ 16 := Nat.mod_lt _ (by decide)
  rw [Nat.mod_eq_of_lt (a := x.toBitVec.toNat % 2 ^ 16) (by omega), if_pos (by omega)]
  rfl
theorem rg_i2c (x : Int32) : Rg (i2c x) 65536 := by rw [Rg, toInt_i2c]; omega
theorem natOf {x : Int32} (q : 0 ≤ x.toInt) : (x.toBitVec.toNat : Int) = x.toInt := by
  have : x.toInt = x.toBitVec.toInt := rfl
  rw [this] at q ⊢
  rw [BitVec.toInt_eq_toNat_cond] at q ⊢
  split at q <;> split <;> omega
theorem Rg.c {x : Int32} (q : Rg x 65536) : i2c x = x := by
  apply Int32.toInt_inj.mp
  have := natOf q.1; rw [toInt_i2c]; have h2 := q.2; omega
theorem Rg.nar {x : Int32} (q : Rg x 65536) : nar .char x = x := q.c
theorem Rg.fits {x : Int32} (q : Rg x 65536) : fits .char (.int x) = true := by
  have h0 : (0 : Int32) ≤ x := Int32.le_iff_toInt_le.mpr q.1
  have h1 : x ≤ 65535 := Int32.le_iff_toInt_le.mpr (by have := q.2; have e : (65535 : Int32).toInt = 65535 := by decide
                                                       omega)
  simp [Jvm.fits, h0, h1]
theorem Rg.le255 {x : Int32} (q : Rg x 256) : ¬ 255 < x := by rw [Int32.lt_iff_toInt_lt]; have := q.2; have h : (255 : Int32).toInt = 255 := by decide
                                                              omega
theorem nar_i2b (x : Int32) : nar .byte (i2b x) = i2b x := by simp [nar, i2b]
theorem fits_i2b (x : Int32) : Jvm.fits .byte (.int (i2b x)) = true := by
  have e : (i2b x).toInt = x.toInt8.toInt := Int8.toInt_toInt32 _
  have h0 : (-128 : Int32) ≤ i2b x := Int32.le_iff_toInt_le.mpr (by rw [e]; exact Int8.le_toInt _)
  have h1 : i2b x ≤ 127 := Int32.le_iff_toInt_le.mpr (by rw [e]; exact Int8.toInt_le _)
  simp [Jvm.fits, h0, h1]
theorem shr0 (x : Int32) : x >>> ((0 : Int32) &&& 31) = x := by
  have : ((0 : Int32) &&& 31) = 0 := by decide
  rw [this]; simp
theorem Rg.fin {x : Int32} (q : Rg x 256) : ∃ k : Fin 256, x = Int32.ofNat k.val := by
  obtain ⟨h1, h2⟩ := q
  obtain ⟨n, hn⟩ : ∃ n : Nat, x.toInt = n := ⟨x.toInt.toNat, (Int.toNat_of_nonneg h1).symm⟩
  refine ⟨⟨n, by omega⟩, ?_⟩
  apply Int32.toInt_inj.mp
  rw [Int32.toInt_ofNat_of_lt (by simp; omega), hn]
theorem lo_all : ∀ k : Fin 256, (i2b (Int32.ofNat k.val)) &&& 255 = Int32.ofNat k.val := by decide +kernel
theorem lo_i2b {x : Int32} (q : Rg x 256) : (i2b x) &&& 255 = x := by
  obtain ⟨k, rfl⟩ := q.fin; exact lo_all k
theorem i2b_inj {x y : Int32} (q : Rg x 256) (r : Rg y 256) (h : i2b x = i2b y) : x = y := by
  rw [← lo_i2b q, ← lo_i2b r, h]
theorem Rg.mod {x k : Int32} {n : Int} (q : Rg x n) (hk : 0 < k.toInt) : Rg (x % k) k.toInt := by
  have h : (x % k).toInt = x.toInt.tmod k.toInt := Int32.toInt_mod _ _
  rw [Rg, h]
  have h1 := q.1
  rw [Int.tmod_eq_emod_of_nonneg h1]
  exact ⟨Int.emod_nonneg _ (by omega), Int.emod_lt_of_pos _ hk⟩
theorem Rg.add {x y : Int32} {n k : Int} (q : Rg x n) (r : Rg y k) (h : n + k ≤ 2147483648) : Rg (x + y) (n + k - 1) := by
  have e : (x + y).toInt = x.toInt + y.toInt := by
    rw [Int32.toInt_add]
    have h1 := q.1; have h2 := q.2; have h3 := r.1; have h4 := r.2
    rw [Int.bmod_eq_of_le (by omega) (by omega)]
  rw [Rg, e]
  have h1 := q.1; have h2 := q.2; have h3 := r.1; have h4 := r.2
  omega
theorem toInt_land_nonneg (x m : Int64) (hm : 0 ≤ m.toInt) : 0 ≤ (x &&& m).toInt ∧ (x &&& m).toInt ≤ m.toInt := by
  have h1 : m.toInt = m.toBitVec.toNat := by
    have : m.toInt = m.toBitVec.toInt := rfl
    rw [this] at hm ⊢
    rw [BitVec.toInt_eq_toNat_cond] at hm ⊢
    split at hm <;> split <;> omega
  have h2 : (x.toBitVec &&& m.toBitVec).toNat ≤ m.toBitVec.toNat := by rw [BitVec.toNat_and]; exact Nat.and_le_right
  have hm2 : 2 * m.toBitVec.toNat < 2 ^ 64 := by
    have : m.toInt < 2 ^ 63 := Int64.toInt_lt m
    omega
  have h3 : (x &&& m).toInt = (x.toBitVec &&& m.toBitVec).toNat := by
    show (x.toBitVec &&& m.toBitVec).toInt = _
    rw [BitVec.toInt_eq_toNat_cond, if_pos (by omega)]
  rw [h3, h1]; omega
theorem lrem_rg {x y : Int64} (hx : 0 ≤ x.toInt) (hy : 0 < y.toInt) : 0 ≤ (x - x / y * y).toInt ∧ (x - x / y * y).toInt < y.toInt := by
  have hxl : x.toInt < 2 ^ 63 := Int64.toInt_lt x
  have hyl : y.toInt < 2 ^ 63 := Int64.toInt_lt y
  have e0 : x.toInt.tdiv y.toInt = x.toInt / y.toInt := Int.tdiv_eq_ediv_of_nonneg hx
  have d0 : 0 ≤ x.toInt / y.toInt := Int.ediv_nonneg hx (by omega)
  have d1 : x.toInt / y.toInt ≤ x.toInt := Int.ediv_le_self _ hx
  have e1 : (x / y).toInt = x.toInt / y.toInt := by rw [Int64.toInt_div, e0, Int.bmod_eq_of_le (by omega) (by omega)]
  have d2 : x.toInt / y.toInt * y.toInt ≤ x.toInt := Int.ediv_mul_le _ (by omega)
  have d3 : 0 ≤ x.toInt / y.toInt * y.toInt := Int.mul_nonneg d0 (by omega)
  have e2 : (x / y * y).toInt = x.toInt / y.toInt * y.toInt := by rw [Int64.toInt_mul, e1, Int.bmod_eq_of_le (by omega) (by omega)]
  have e3 : (x - x / y * y).toInt = x.toInt - x.toInt / y.toInt * y.toInt := by rw [Int64.toInt_sub, e2, Int.bmod_eq_of_le (by omega) (by omega)]
  have e4 : x.toInt % y.toInt = x.toInt - x.toInt / y.toInt * y.toInt := by
    have := Int.emod_add_mul_ediv x.toInt y.toInt; rw [Int.mul_comm] at this; omega
  rw [e3, ← e4]
  exact ⟨Int.emod_nonneg _ (by omega), Int.emod_lt_of_pos _ hy⟩
theorem cmpL_eq {x y : Int64} : XT.cmpL x y = 0 ↔ x = y := by
  unfold XT.cmpL; split
  · rename_i h; constructor
    · intro q; exact absurd q (by decide)
    · intro q; subst q; exact absurd h (Int64.lt_irrefl)
  · split <;> simp_all
theorem cmpL_lt {x y : Int64} : XT.cmpL x y < 0 ↔ x < y := by
  unfold XT.cmpL; split
  · rename_i h; constructor
    · intro q; exact absurd q (by decide)
    · intro q; rw [Int64.lt_iff_toInt_lt] at h q; omega
  · rename_i h; split
    · rename_i h2; subst h2; simp
    · rename_i h2; constructor
      · intro _; rw [Int64.lt_iff_toInt_lt] at h ⊢; have : x.toInt ≠ y.toInt := fun q => h2 (Int64.toInt_inj.mp q); omega
      · intro _; decide
theorem cmpL_gt {x y : Int64} : 0 < XT.cmpL x y ↔ y < x := by
  unfold XT.cmpL; split
  · rename_i h; constructor
    · intro _; exact h
    · intro _; decide
  · rename_i h; split
    · constructor
      · intro q; exact absurd q (by decide)
      · intro q; exact absurd q h
    · constructor
      · intro q; exact absurd q (by decide)
      · intro q; exact absurd q h
theorem bit01 {x : Int32} (q : Rg x 2) : x = 0 ∨ x = 1 := by
  have h1 := q.1; have h2 := q.2
  rcases (by omega : x.toInt = 0 ∨ x.toInt = 1) with h | h
  · exact Or.inl (Int32.toInt_inj.mp (h.trans (by decide)))
  · exact Or.inr (Int32.toInt_inj.mp (h.trans (by decide)))
theorem toInt_of {i : Nat} (h : i < 2147483648) : (Int32.ofNat i).toInt = i := Int32.toInt_ofNat_of_lt (by simpa using h)
theorem ix_of {i : Nat} (h : i < 2147483648) : ¬ Int32.ofNat i < 0 ∧ (Int32.ofNat i).toNatClampNeg = i := by
  refine ⟨?_, ?_⟩
  · rw [Int32.lt_iff_toInt_lt, toInt_of h]; simp
  · unfold Int32.toNatClampNeg; rw [toInt_of h]; rfl
theorem of_lt {i n : Nat} (h : i < n) (hn : n < 2147483648) : Int32.ofNat i < Int32.ofNat n := by
  rw [Int32.lt_iff_toInt_lt, toInt_of hn, toInt_of (by omega)]; omega
theorem of_ge {i n : Nat} (h : n ≤ i) (hn : i < 2147483648) : ¬ Int32.ofNat i < Int32.ofNat n := by
  rw [Int32.lt_iff_toInt_lt, toInt_of hn, toInt_of (by omega)]; omega
theorem of_sub {i n : Nat} (h : n ≤ i) (hi : i < 2147483648) : ¬ Int32.ofNat i - Int32.ofNat n < 0 := by
  have e : Int32.ofNat i - Int32.ofNat n = Int32.ofNat (i - n) := by
    apply Int32.toInt_inj.mp
    rw [Int32.toInt_sub, toInt_of hi, toInt_of (i := n) (by omega), toInt_of (i := i - n) (by omega), Int.bmod_eq_of_le (by omega) (by omega)]; omega
  rw [e]; exact (ix_of (by omega)).1
theorem of_subn {i n : Nat} (h : n ≤ i) : Int32.ofNat i - Int32.ofNat n = Int32.ofNat (i - n) := by
  have e : Int32.ofNat i = Int32.ofNat (i - n) + Int32.ofNat n := by rw [← Int32.ofNat_add, Nat.sub_add_cancel h]
  rw [e, Int32.add_sub_cancel]
theorem of_addn (i n : Nat) : Int32.ofNat i + Int32.ofNat n = Int32.ofNat (i + n) := (Int32.ofNat_add i n).symm
theorem lt_as {x y : Int32} (h : ¬ x < y) (q : ¬ y < x) : x = y := by
  rw [Int32.lt_iff_toInt_lt] at h q; exact Int32.toInt_inj.mp (by omega)
theorem acp0 {bs : List Int32} {ud : List Value} {i n : Nat} (h : ud.length = n) : ud.take 0 ++ ((bs.map Value.int).drop i).take n ++ ud.drop (0 + n) = ((bs.drop i).take n).map Value.int := by
  rw [List.take_zero, List.nil_append, Nat.zero_add, List.drop_eq_nil_of_le (as := ud) (by omega), List.append_nil, List.map_take, List.map_drop]
theorem take_dropL (bs : List Int32) (i : Nat) : (bs.drop i).take (bs.length - i) = bs.drop i := List.take_of_length_le (by rw [List.length_drop]; exact Nat.le_refl _)
theorem shl0 (x : Int32) : x <<< ((0 : Int32) &&& 31) = x := by
  have e : ((0 : Int32) &&& 31) = 0 := by decide
  rw [e]; apply Int32.toBitVec_inj.mp; simp
theorem sub_le0 {n k : Nat} (h : n ≤ k) (hk : k < 2147483648) : ¬ 0 < Int32.ofNat n - Int32.ofNat k := by
  have h0 : (0 : Int32).toInt = 0 := by decide
  have e1 : (Int32.ofNat n).toInt = n := Int32.toInt_ofNat_of_lt (by omega)
  have e2 : (Int32.ofNat k).toInt = k := Int32.toInt_ofNat_of_lt (by omega)
  rw [Int32.lt_iff_toInt_lt, Int32.toInt_sub, e1, e2, h0, Int.bmod_eq_of_le (by omega) (by omega)]; omega
theorem sub_gt0 {n k : Nat} (h : k < n) (hn : n < 2147483648) : 0 < Int32.ofNat n - Int32.ofNat k := by
  have h0 : (0 : Int32).toInt = 0 := by decide
  have e1 : (Int32.ofNat n).toInt = n := Int32.toInt_ofNat_of_lt (by omega)
  have e2 : (Int32.ofNat k).toInt = k := Int32.toInt_ofNat_of_lt (by omega)
  rw [Int32.lt_iff_toInt_lt, Int32.toInt_sub, e1, e2, h0, Int.bmod_eq_of_le (by omega) (by omega)]; omega
theorem acpB {cs bs r : List Int32} : ((cs ++ r).map Value.int).take cs.length ++ ((bs.map Value.int).drop 0).take bs.length ++ ((cs ++ r).map Value.int).drop (cs.length + bs.length) = (cs ++ bs ++ r.drop bs.length).map Value.int := by
  rw [List.drop_zero, List.take_of_length_le (i := bs.length) (by simp), ← List.map_take, ← List.map_drop, List.take_left, List.drop_append, List.drop_eq_nil_of_le (by omega), List.nil_append, Nat.add_sub_cancel_left, List.map_append, List.map_append]
theorem acpG {u : List Int32} {k : Nat} (h : u.length ≤ k) : ((List.replicate k (Value.int 0)).take 0 ++ ((u.map Value.int).drop 0).take u.length ++ (List.replicate k (Value.int 0)).drop (0 + u.length)) = (u ++ List.replicate (k - u.length) 0).map Value.int := by
  rw [List.take_zero, List.nil_append, List.drop_zero, List.take_of_length_le (by simp), Nat.zero_add, List.drop_replicate, List.map_append, List.map_replicate]
theorem of_pred (n : Nat) : Int32.ofNat (n + 1) + Int32.ofInt (-1) = Int32.ofNat n := by
  have e : Int32.ofNat (n + 1) = Int32.ofNat n + 1 := Int32.ofNat_add n 1
  have e2 : Int32.ofInt (-1) = -1 := by decide
  rw [e, e2, Int32.add_assoc]
  have e3 : (1 : Int32) + -1 = 0 := by decide
  rw [e3, Int32.add_zero]
theorem setB {cs r : List Int32} {d : Int32} (h : 0 < r.length) : ((cs ++ r).map Value.int).set cs.length (.int d) = (cs ++ [d] ++ r.drop 1).map Value.int := by
  cases r with
  | nil => simp at h
  | cons a r => simp
theorem allM {P : Int32 → Prop} {x : Int32} {L : List Int32} (q : P x) (r : ∀ z ∈ L, P z) : ∀ z ∈ x :: L, P z := fun z hz => (List.mem_cons.mp hz).elim (fun e => e ▸ q) (r z)
theorem of_inj {i n : Nat} (hi : i < 2147483648) (hn : n < 2147483648) (h : Int32.ofNat i = Int32.ofNat n) : i = n := by
  have := congrArg Int32.toInt h; rw [toInt_of hi, toInt_of hn] at this; omega
theorem subne {i e n : Nat} (hi : i < 2147483648) (he : e < 2147483648) (hn : n < 2147483648) (h : i ≠ 0 ∨ e ≠ n) (q : ¬ ¬ Int32.ofNat i = 0) : ¬ Int32.ofNat e = Int32.ofNat n := fun u => by
  have h1 : i = 0 := of_inj hi (by decide) (Classical.not_not.mp q)
  have h2 := of_inj he hn u
  rcases h with h | h
  · exact h h1
  · exact h h2
theorem of_ne0 {n : Nat} (h : 0 < n) (hn : n < 2147483648) : ¬ Int32.ofNat n = 0 := fun q => by
  have h1 := congrArg Int32.toInt q; rw [toInt_of hn] at h1
  have h2 : (0 : Int32).toInt = 0 := by decide
  omega
theorem cmp_step {cs : List Int32} {vs : List Value} {i : Nat} {ci : Int32} (hci : cs[i]? = some ci) (hl : vs.length = cs.length) : (((cs.take i).map i2b).map Value.int ++ vs.drop i).set i (.int (i2b ci)) = ((cs.take (i + 1)).map i2b).map Value.int ++ vs.drop (i + 1) := by
  have h0 : i < cs.length := (List.getElem?_eq_some_iff.mp hci).1
  have h1 : (((cs.take i).map i2b).map Value.int).length = i := by simp; omega
  have h2 : i < vs.length := by omega
  rw [List.set_append_right _ _ (by omega), h1, Nat.sub_self, List.drop_eq_getElem_cons h2, List.set_cons_zero, List.take_add_one, hci]
  simp
theorem le7 {n : Nat} (h : n ≤ 7) : ¬ (7 : Int32) < Int32.ofNat n := by
  have h7 : (7 : Int32) = Int32.ofNat 7 := rfl
  rw [h7]; exact of_ge h (by decide)
theorem of_succ (i : Nat) : Int32.ofNat i + Int32.ofInt 1 = Int32.ofNat (i + 1) := by
  rw [Int32.ofNat_add]; rfl
theorem rgS {x : Int32} {L : List Int32} {n : Int} (q : Rg x n) (r : ∀ c ∈ L, Rg c n) : ∀ c ∈ x :: L, Rg c n := fun c hc => (List.mem_cons.mp hc).elim (fun e => e ▸ q) (r c)
theorem cat_ref {v : Value} (h : v.isRef = true) : v.category = 1 := by cases v <;> simp_all [Value.isRef, Value.category]
theorem cat_i (x : Int32) : (Value.int x).category = 1 := rfl
theorem cat_l (x : Int64) : (Value.long x).category = 2 := rfl
theorem cat_r (x : Addr) : (Value.ref x).category = 1 := rfl
theorem cat_n : Value.null.category = 1 := rfl
theorem nar_refv {t : FieldType} {v : Value} (h : v.isRef = true) (ht : t.isReference = true) : narrow t v = v := by cases t <;> simp_all [narrow, FieldType.isReference]
theorem fits_refv {t : FieldType} {v : Value} (h : v.isRef = true) (ht : t.isReference = true) : Jvm.fits t v = true := by cases t <;> cases v <;> simp_all [Jvm.fits, Value.isRef, FieldType.isReference]

/-! ## what is known of a heap -/
section Facts
variable {Z : State} {h h' : Heap} {a b : Addr} {ty : FieldType} {vs : List Value} {ws : List Addr} {C : String}
def Av (Z : State) (h : Heap) (a : Addr) (ty : FieldType) (vs : List Value) : Prop :=
  ∃ c : Cell, Arr Z h a c ty ∧ c.slots.toList = vs ∧ vs.length < 2147483648 ∧ ∀ v ∈ vs, fits ty v = true
theorem Av.lt (F : Av Z h a ty vs) : a < h.size := by obtain ⟨c, A, -⟩ := F; exact A.lt
theorem Av.keep (F : Av Z h a ty vs) (K : Keep h h' ws) (q : a ∉ ws) : Av Z h' a ty vs := by obtain ⟨c, A, r⟩ := F; exact ⟨c, ⟨K.2.1 a c A.1 q, A.2⟩, r⟩
theorem Av.len (F : Av Z h a ty vs) : vs.length < 2147483648 := F.choose_spec.2.2.1
theorem fits_default (ty : FieldType) : fits ty (defaultValue ty) = true := by cases ty <;> simp [fits, defaultValue]
theorem Av.new {k : ClassId} {z : Int32} (A : Arr Z h a (newA k ty z) ty) (n : Nat) (q : z.toNatClampNeg = n) : Av Z h a ty (List.replicate n (defaultValue ty)) := by
  refine ⟨_, A, by simp [newA, q], ?_, fun v hv => ?_⟩
  · rw [List.length_replicate, ← q]; have := Int32.toInt_lt z; unfold Int32.toNatClampNeg; omega
  · rw [List.eq_of_mem_replicate hv]; exact fits_default ty
theorem Av.set {j : Nat} {v : Value} (F : Av Z h a ty vs) (W : Wr h h' a j v) (hv : fits ty v = true) : Av Z h' a ty (vs.set j v) := by
  obtain ⟨c, A, r1, r2, r3⟩ := F
  refine ⟨c.setSlot j v, A.same W, by simp [Cell.setSlot, r1], by simpa using r2, fun u hu => ?_⟩
  rcases List.mem_or_eq_of_mem_set hu with q | q
  · exact r3 u q
  · rw [q]; exact hv
theorem Av.arv (F : Av Z h a ty vs) (d : Value) : ∃ k, Arv Z h a k ty (Int32.ofNat vs.length) vs d := by
  obtain ⟨c, A, r1, r2, r3⟩ := F
  have hs : c.slots.size = vs.length := by rw [← r1]; simp
  have hx := ix_of r2
  refine ⟨c.cls, c, A, rfl, by rw [hx.2, hs], hx.1, fun k hk => ?_, fun i hi => ?_⟩
  · rw [← Array.getElem?_toList, r1, List.getD_eq_getElem?_getD, List.getElem?_eq_getElem (by omega)]; rfl
  · rw [List.getD_eq_getElem?_getD, List.getElem?_eq_getElem (by omega)]; exact r3 _ (List.getElem_mem _)
theorem Av.fitc {c : Cell} (A : Arr Z h a c ty) (r1 : c.slots.toList = vs) (r3 : ∀ v ∈ vs, fits ty v = true) : FitC Z c := fun i v hv => by
  obtain ⟨-, k, hk, comp, hkind⟩ := A.2.1
  have : v ∈ vs := by rw [← r1]; exact List.mem_of_getElem? (i := i) (by rw [Array.getElem?_toList]; exact hv)
  simp [State.fitsSlot, State.slotType?, hk, hkind, r3 v this]
theorem Av.of_arv {k : ClassId} {z : Int32} {d : Value} (F : Arv Z h a k ty z vs d) (q : z.toNatClampNeg = vs.length) : Av Z h a ty vs := by
  obtain ⟨c, A, -, r1, r2, H, G⟩ := F
  have e : c.slots.toList = vs := by
    apply List.ext_getElem?; intro i
    by_cases hi : i < c.slots.size
    · have := H i hi
      rw [Array.getElem?_toList, this, List.getD_eq_getElem?_getD]
      have hv : i < vs.length := by omega
      simp [hv]
    · rw [Array.getElem?_toList, Array.getElem?_eq_none (by omega), List.getElem?_eq_none (by omega)]
  refine ⟨c, A, e, ?_, fun v hv => ?_⟩
  · rw [← q]; have := Int32.toInt_lt z; unfold Int32.toNatClampNeg; omega
  · obtain ⟨i, hi, rfl⟩ := List.mem_iff_getElem.mp hv
    have := G i (by omega)
    rwa [List.getD_eq_getElem?_getD, List.getElem?_eq_getElem hi] at this
theorem keep_ext (E : Ext h h') (ws : List Addr) : Keep h h' ws := (Keep.refl h ws).ext E
theorem nin1 {x y : Addr} (q : x ≠ y) : x ∉ [y] := ninS q nin0
def AllExa (Z : State) (h : Heap) (C : String) (vs : List Value) : Prop := ∀ v ∈ vs, ∃ r, v = .ref r ∧ Exa Z h r C
theorem AllExa.keep (F : AllExa Z h C vs) (K : Keep h h' ws) : AllExa Z h' C vs := fun v hv => by obtain ⟨r, e, E⟩ := F v hv; exact ⟨r, e, E.keep K⟩
theorem Sta.keep {n d : String} {v : Value} (F : Sta Z h C n d v) (K : Keep h h' ws) (q : ∀ x ∈ ws, ∀ cell : Cell, h[x]? = some cell → cell.vm.isStatics = false) : Sta Z h' C n d v := by
  obtain ⟨cf, i, k, f, st, cell, h1, h2, h3, h4, h5, h6, h7⟩ := F
  exact ⟨cf, i, k, f, st, cell, h1, h2, h3, h4, K.2.1 _ _ h5 (fun hm => by have := q _ hm _ h5; rw [h6] at this; cases this), h6, h7⟩
theorem Av.plain (F : Av Z h a ty vs) : ∀ cell : Cell, h[a]? = some cell → cell.vm.isStatics = false := fun cell q => by
  obtain ⟨c, A, -⟩ := F; cases A.1.symm.trans q; exact Arr.plain A
theorem Exa.plain (F : Exa Z h a C) : ∀ cell : Cell, h[a]? = some cell → cell.vm.isStatics = false := fun cell q => by
  obtain ⟨c, _, h1, _, _, h4, _⟩ := F; cases h1.symm.trans q; exact h4
theorem ne_av {ty' : FieldType} {vs' : List Value} (F : Av Z h a ty vs) (G : Av Z h b ty' vs') (q : ty ≠ ty') : a ≠ b := fun e => by
  subst e
  obtain ⟨c, A, -⟩ := F; obtain ⟨c', A', -⟩ := G
  cases A.1.symm.trans A'.1
  obtain ⟨-, k, hk, comp, hkind⟩ := A.2.1
  obtain ⟨-, k', hk', comp', hkind'⟩ := A'.2.1
  cases hk.symm.trans hk'
  have := hkind.symm.trans hkind'
  injection this with _ e
  exact q e
theorem ne_len {vs' : List Value} (F : Av Z h a ty vs) (G : Av Z h b ty vs') (q : vs ≠ vs') : a ≠ b := fun e => by
  subst e
  obtain ⟨c, A, r, -⟩ := F; obtain ⟨c', A', r', -⟩ := G
  cases A.1.symm.trans A'.1
  exact q (r.symm.trans r')
theorem ne_exav {n : Nat} {a0 : Array Value} (E : Exa Z h a C) (w : (Cond.instantiable C n).before a0 Z = true) (F : Av Z h b ty vs) : a ≠ b := by
  obtain ⟨c, A, -⟩ := F; exact ne_arr E w A
/-- a String of Latin-1 bytes (as signed), its byte[] at b -/
def St (Z : State) (h : Heap) (a b : Addr) (bs : List Int32) : Prop :=
  Exa Z h a "java/lang/String" ∧ Fld Z h a "java/lang/String" "coder" "B" (.int 0) ∧ Fld Z h a "java/lang/String" "value" "[B" (.ref b) ∧ Av Z h b .byte (bs.map Value.int)
theorem St.mk {bs : List Int32} (h1 : Exa Z h a "java/lang/String") (h2 : Fld Z h a "java/lang/String" "coder" "B" (.int 0)) (h3 : Fld Z h a "java/lang/String" "value" "[B" (.ref b)) (h4 : Av Z h b .byte (bs.map Value.int)) : St Z h a b bs := ⟨h1, h2, h3, h4⟩
theorem St.keep {bs : List Int32} (F : St Z h a b bs) (K : Keep h h' ws) (q : a ∉ ws) (r : b ∉ ws) : St Z h' a b bs := ⟨F.1.keep K, F.2.1.keep K q, F.2.2.1.keep K q, F.2.2.2.keep K r⟩
end Facts

/-! ## a body's entry and its ends -/
section Ends
variable {p : Program} {l : Launch} {e : Env} {R : Room} {s : State} {m : MethodId} {args : Array Value} {below : List Frame} {meth : Method} {c : Code} {Z : State} {EL : List (String × Nat)} {nw : Bool} {n0 : Nat} {y : MethodName} {code : ByteArray} {maxL : Nat} {ret : Option FieldType} {T : State} {h : Heap} {sf : List Addr} {cells slots : Nat} {Φ : Outcome → State → Prop} {a0 : Array Value} {pc pc' : Nat} {L : Array Slot} {S : List Value} {rm : Room} {Q : Option Value → Heap → List Addr → Prop}
theorem Ct.body {as' : Array Value} (hp : plainFor y = true)
    (body : ∀ p e s m below meth c s₁, WS p l e rm s m as' below meth c Z a0 EL nw n0 y code maxL ret s₁ h sf 0 0 → WP p e below (Fne s n0 Z EL nw rm Q) s₁ (entryFrame m as' maxL)) : Ct l Z a0 EL nw y code maxL ret rm as' h sf n0 Q := by
  intro ws
  refine MetFree.of_bodySF hp hisR ?_
  intro p e s m args below meth c s₁ Bd hml hP hK
  obtain ⟨rfl, hZ, hh, hC, hn, hE, hsf⟩ := hP
  have X0 : Stand p l e rm s m args below meth c s₁ [] 0 0 := Stand.of_body Bd
  have e0 : s₁.heap = h := by rw [← hh, Bd.state]; rfl
  have ev : s₁.vm = s.vm := by rw [Bd.state]; rfl
  have hs : s.heap = h := hh
  refine body p e s m below meth c s₁ ⟨[], X0.retabled X0.warmed.wide, e0, X0.warmed.since _, wtrans hZ X0.warmed, ?_, ?_, Fr.nil _, hn, ?_, hE, fun _ => X0.warmed, Bd.exec, Bd.bytes, Bd.returns, Bd.notSynchronized, hml, (name_of_methodNamed Bd.named Bd.method).1⟩
  · rw [ev]; exact findClass_of_methodNamed Bd.named
  · rw [ev, hs]; exact CHr.refl hC
  · rw [ev]; exact hsf
theorem WS.fin (W : WS p l e R s m args below meth c Z a0 EL nw n0 y code maxL ret T h sf cells slots) (so : List Addr) (hso : ∀ x ∈ so, x ∈ sf) {v : Option Value} (hv : meth.sig.returnType = none → v = none) (hc : cells ≤ rm.cells) (hs : slots ≤ rm.slots) (q : Q v h so) :
    ∃ fs, (∀ (f : JFrame) (acts : List Action), f.method = m → f.locked = none → f.entered = [] → (doReturn e (T.setTop f) acts v).1 = T.setFrames fs) ∧ (T.setFrames fs).status = .running ∧ Ended (T.setFrames fs) below (.returned v) ∧ Fne s n0 Z EL nw rm Q (.returned v) (T.setFrames fs) := by
  obtain ⟨locs, X, a1, a2, a3, a4, a5, a6, a7, a8, a9, aW, b1, b2, b3, b4, b5⟩ := W
  obtain ⟨fs, q1, q2, q3, q4⟩ := (X.mono hc hs).leaveW a2 (by rw [a1]; exact Nat.le_refl _) hv b4
  refine ⟨fs, q1, q2, q3, v, locs, so, rfl, ?_, a6, ?_, ?_, aW, q4⟩
  · show Q v T.heap so; rw [a1]; exact q
  · show CHr Z EL s.vm s.heap T.vm T.heap; rw [a1]; exact a5
  · show ∀ x ∈ so, n0 ≤ x ∧ x < T.heap.size ∧ Safe Z EL T.vm T.heap x; rw [a1]; exact fun x hx => a8 x (hso x hx)
theorem k_ret (W : WS p l e R s m args below meth c Z a0 EL nw n0 y code maxL ret T h sf cells slots) (d : D code pc .return_ 1 pc') (hr : ret = none) (so : List Addr) (hso : ∀ x ∈ so, x ∈ sf) (hc : cells ≤ rm.cells) (hs : slots ≤ rm.slots) (q : Q none h so) : WP p e below (Fne s n0 Z EL nw rm Q) T (mkF m pc L []) := by
  have hret : meth.sig.returnType = ret := by obtain ⟨_, _, _, _, _, _, _, _, _, _, _, _, _, _, q, -⟩ := W; exact q
  obtain ⟨fs, q1, q2, q3, q4⟩ := W.fin so hso (v := none) (fun _ => rfl) hc hs q
  obtain ⟨locs, X, -⟩ := id W
  exact ⟨_, _, X.returnOut W.hx (hret.trans hr) (W.hd d) q1, q2, q3, q4⟩
theorem k_ireturn (W : WS p l e R s m args below meth c Z a0 EL nw n0 y code maxL ret T h sf cells slots) {z : Int32} (d : D code pc .ireturn 1 pc') (hr : ret = some .int) (so : List Addr) (hso : ∀ x ∈ so, x ∈ sf) (hc : cells ≤ rm.cells) (hs : slots ≤ rm.slots) (q : Q (some (.int z)) h so) : WP p e below (Fne s n0 Z EL nw rm Q) T (mkF m pc L (.int z :: S)) := by
  have hret : meth.sig.returnType = ret := by obtain ⟨_, _, _, _, _, _, _, _, _, _, _, _, _, _, q, -⟩ := W; exact q
  obtain ⟨fs, q1, q2, q3, q4⟩ := W.fin so hso (v := some (.int z)) (fun u => by rw [hret, hr] at u; cases u) hc hs q
  obtain ⟨locs, X, -⟩ := id W
  exact ⟨_, _, retOut X W.hx (hret.trans hr) rfl (Or.inl ⟨rfl, Or.inl rfl, z, rfl⟩) (W.hd d) q1, q2, q3, q4⟩
theorem k_retN (W : WS p l e R s m args below meth c Z a0 EL nw n0 y code maxL ret T h sf cells slots) {z z' : Int32} {t : FieldType} (d : D code pc .ireturn 1 pc') (hr : ret = some t) (ht : t = .boolean ∨ t = .byte ∨ t = .char ∨ t = .short) (hz : nar t z = z') (so : List Addr) (hso : ∀ x ∈ so, x ∈ sf) (hc : cells ≤ rm.cells) (hs : slots ≤ rm.slots) (q : Q (some (.int z')) h so) : WP p e below (Fne s n0 Z EL nw rm Q) T (mkF m pc L (.int z :: S)) := by
  have hret : meth.sig.returnType = ret := by obtain ⟨_, _, _, _, _, _, _, _, _, _, _, _, _, _, q, -⟩ := W; exact q
  obtain ⟨fs, q1, q2, q3, q4⟩ := W.fin so hso (v := some (.int z')) (fun u => by rw [hret, hr] at u; cases u) hc hs q
  obtain ⟨locs, X, -⟩ := id W
  subst hz
  exact ⟨_, _, retN X W.hx (t := t) (hret.trans hr) ht (W.hd d) q1, q2, q3, q4⟩
theorem k_lreturn (W : WS p l e R s m args below meth c Z a0 EL nw n0 y code maxL ret T h sf cells slots) {z : Int64} (d : D code pc .lreturn 1 pc') (hr : ret = some .long) (so : List Addr) (hso : ∀ x ∈ so, x ∈ sf) (hc : cells ≤ rm.cells) (hs : slots ≤ rm.slots) (q : Q (some (.long z)) h so) : WP p e below (Fne s n0 Z EL nw rm Q) T (mkF m pc L (.long z :: S)) := by
  have hret : meth.sig.returnType = ret := by obtain ⟨_, _, _, _, _, _, _, _, _, _, _, _, _, _, q, -⟩ := W; exact q
  obtain ⟨fs, q1, q2, q3, q4⟩ := W.fin so hso (v := some (.long z)) (fun u => by rw [hret, hr] at u; cases u) hc hs q
  obtain ⟨locs, X, -⟩ := id W
  exact ⟨_, _, retOut X W.hx (hret.trans hr) rfl (Or.inr (Or.inl ⟨rfl, rfl, z, rfl⟩)) (W.hd d) q1, q2, q3, q4⟩
theorem k_areturn (W : WS p l e R s m args below meth c Z a0 EL nw n0 y code maxL ret T h sf cells slots) {v : Value} {t : FieldType} (d : D code pc .areturn 1 pc') (hr : ret = some t) (ht : t.isReference = true) (hv : v.isRef = true) (so : List Addr) (hso : ∀ x ∈ so, x ∈ sf) (hc : cells ≤ rm.cells) (hs : slots ≤ rm.slots) (q : Q (some v) h so) : WP p e below (Fne s n0 Z EL nw rm Q) T (mkF m pc L (v :: S)) := by
  have hret : meth.sig.returnType = ret := by obtain ⟨_, _, _, _, _, _, _, _, _, _, _, _, _, _, q, -⟩ := W; exact q
  obtain ⟨fs, q1, q2, q3, q4⟩ := W.fin so hso (v := some v) (fun u => by rw [hret, hr] at u; cases u) hc hs q
  obtain ⟨locs, X, -⟩ := id W
  have hn : narrow t v = v := by cases t <;> simp_all [narrow, FieldType.isReference]
  exact ⟨_, _, retOut X W.hx (hret.trans hr) hn (Or.inr (Or.inr (Or.inr (Or.inr ⟨rfl, ht, hv⟩)))) (W.hd d) q1, q2, q3, q4⟩
end Ends

/-! ## steps on the heap -/
section Steps
variable {p : Program} {l : Launch} {e : Env} {R : Room} {s : State} {m : MethodId} {args : Array Value} {below : List Frame} {meth : Method} {c : Code} {Z : State} {EL : List (String × Nat)} {nw : Bool} {n0 : Nat} {y : MethodName} {code : ByteArray} {maxL : Nat} {ret : Option FieldType} {T : State} {h : Heap} {sf : List Addr} {cells slots : Nat} {Φ : Outcome → State → Prop} {a0 : Array Value} {pc pc' : Nat} {L : Array Slot} {S : List Value}
abbrev catS (S : List Value) : Nat := (S.map fun v => v.category).sum
theorem cat0 : catS [] = 0 := rfl
theorem catC {v : Value} {S : List Value} {a n : Nat} (h : v.category = a) (q : catS S = n) : catS (v :: S) = a + n := by
  have : catS (v :: S) = v.category + catS S := by simp [catS]
  rw [this, h, q]
abbrev Ix (j : Int32) (i : Nat) : Prop := ¬ j < 0 ∧ j.toNatClampNeg = i
theorem Ix.ok {j : Int32} {i n : Nat} (q : Ix j i) (hi : i < n) : ¬ (j < 0 ∨ n ≤ j.toNatClampNeg) := by
  rintro (u | u)
  · exact q.1 u
  · rw [q.2] at u; omega

theorem k_getF (W : WS p l e R s m args below meth c Z a0 EL nw n0 y code maxL ret T h sf cells slots) {index : Nat} {R0 O n d host : String} (dd : D code pc (.getfield index) 3 pc') (w : (Cond.fieldLink y.cls index R0 n d).before a0 Z = true ∨ (Cond.fieldLinkNest y.cls index R0 n d host).before a0 Z = true) (via : Via Z R0 O n d) {a : Addr} {v : Value} (F : Fld Z h a O n d v)
    (k : ∀ T', WS p l e R s m args below meth c Z a0 EL nw n0 y code maxL ret T' h sf cells slots → WP p e below Φ T' (mkF m pc' L (v :: S))) : WP p e below Φ T (mkF m pc L (.ref a :: S)) := by
  obtain ⟨locs, X, eT, hS, hZ, hown, hC, hN, hn, hsf, hE, hWm, b1, b2, b3, b4, b5, b6⟩ := id W
  obtain ⟨T', X', e', st⟩ := getF X W.hx hZ hown w via eT F (g := mkF m pc L (.ref a :: S)) rfl rfl (W.hd dd)
  obtain ⟨hd, rfl⟩ := dd
  exact WP.st (fun t q => st t q) (k T' (W.pack X' e' hN (Nat.le_refl _) (fun H => ⟨H, fun _ q => q⟩) (fun x hx => Or.inl hx)))

theorem k_getS (W : WS p l e R s m args below meth c Z a0 EL nw n0 y code maxL ret T h sf cells slots) {index : Nat} {R0 O n d : String} (dd : D code pc (.getstatic index) 3 pc') (w : (Cond.fieldLink y.cls index R0 n d).before a0 Z = true) (via : Via Z R0 O n d) {v : Value} (F : Sta Z h O n d v)
    (k : ∀ T', WS p l e R s m args below meth c Z a0 EL nw n0 y code maxL ret T' h sf cells slots → WP p e below Φ T' (mkF m pc' L (v :: S))) : WP p e below Φ T (mkF m pc L (S)) := by
  obtain ⟨locs, X, eT, hS, hZ, hown, hC, hN, hn, hsf, hE, hWm, b1, b2, b3, b4, b5, b6⟩ := id W
  obtain ⟨T', X', e', st⟩ := getS X W.hx hZ (host := "") hown w via eT F (g := mkF m pc L S) rfl (W.hd dd)
  obtain ⟨hd, rfl⟩ := dd
  exact WP.st (fun t q => st t q) (k T' (W.pack X' e' hN (Nat.le_refl _) (fun H => ⟨H, fun _ q => q⟩) (fun x hx => Or.inl hx)))

theorem k_putF (W : WS p l e R s m args below meth c Z a0 EL nw n0 y code maxL ret T h sf cells slots) {index kk : Nat} {R0 O n d C : String} {ty : FieldType} (dd : D code pc (.putfield index) 3 pc') (w : (Cond.fieldLink y.cls index R0 n d).before a0 Z = true) (via : Via Z R0 O n d) {a : Addr} {v v' old : Value} (ha : a ∈ sf) (F : Fld Z h a O n d old) (E : Exa Z h a C)
    (Lw : (Cond.lays C O n d).before a0 Z = true ∨ ((Cond.laysFinal C O n d).before a0 Z = true ∧ y.cls = O ∧ y.name = "<init>")) (wi : (Cond.instantiable C kk).before a0 Z = true) (hty : parseFieldDescriptor d = some ty) (hnr : narrow ty v = v') (hf : fits ty v' = true)
    (k : ∀ T' h', WS p l e R s m args below meth c Z a0 EL nw n0 y code maxL ret T' h' sf cells slots → Wr h h' a (Jvm.RoadKit.slotOf Z O n d) v' → WP p e below Φ T' (mkF m pc' L (S))) : WP p e below Φ T (mkF m pc L (v :: .ref a :: S)) := by
  obtain ⟨locs, X, eT, hS, hZ, hown, hC, hN, hn, hsf, hE, hWm, b1, b2, b3, b4, b5, b6⟩ := id W
  obtain ⟨T', h', X', e', Wh, st⟩ := putFN X W.hx hZ hown w via eT F E (Lw.imp id fun q => ⟨q.1, q.2.1, b6.trans q.2.2⟩) wi hty hnr hf (g := mkF m pc L (v :: .ref a :: S)) rfl rfl (W.hd dd)
  obtain ⟨hd, rfl⟩ := dd
  exact WP.st (fun t q => st t q) (k T' h' (W.pack X' e' (Fr.snoc X' hN (hsf a ha).1) (Nat.le_of_eq Wh.size.symm) (fun H => H.wrStep Wh (hsf a ha).2.2) (fun x hx => Or.inl hx)) Wh)

theorem k_new (W : WS p l e R s m args below meth c Z a0 EL nw n0 y code maxL ret T h sf cells slots) {index n : Nat} {C : String} (c' s' : Nat) (dd : D code pc (.new index) 3 pc') (w : (Cond.classLink y.cls index C).before a0 Z = true) (wi : (Cond.instantiable C n).before a0 Z = true) (wz : (Cond.initialized C).before a0 Z = true) (hc : cells + 1 = c' ∧ c' ≤ R.cells) (hl : slots + n = s' ∧ s' ≤ R.slots)
    (k : ∀ T' h' a, a = h.size → WS p l e R s m args below meth c Z a0 EL nw n0 y code maxL ret T' h' (a :: sf) c' s' → Ext h h' → Exa Z h' a C → (∀ {O nm d : String} {ty : FieldType}, Laid Z a0 C O nm d → parseFieldDescriptor d = some ty → Fld Z h' a O nm d (defaultValue ty)) → WP p e below Φ T' (mkF m pc' L (.ref a :: S))) : WP p e below Φ T (mkF m pc L (S)) := by
  obtain ⟨locs, X, eT, hS, hZ, hown, hC, hN, hn, hsf, hE, hWm, b1, b2, b3, b4, b5, b6⟩ := id W
  obtain ⟨rfl, hc⟩ := hc
  obtain ⟨rfl, hl⟩ := hl
  obtain ⟨T', h', X', e', E, A, Dd, -, st⟩ := newO X W.hx hZ hown w wi wz eT (g := mkF m pc L S) rfl (W.hd dd) hc hl
  obtain ⟨hd, rfl⟩ := dd
  exact WP.st (fun t q => st t q) (k T' h' _ rfl (W.pack X' e' hN E.1 (fun H => H.step fun _ _ _ q => E.2 _ _ q) (fun x hx => (List.mem_cons.mp hx).elim (fun q => Or.inr (by subst q; exact ⟨Nat.le_refl _, A.lt⟩)) Or.inl)) E A Dd)

theorem k_newarr (W : WS p l e R s m args below meth c Z a0 EL nw n0 y code maxL ret T h sf cells slots) {aty : ArrayType} {z : Int32} (n c' s' : Nat) (dd : D code pc (.newarray aty) 2 pc') (w : (Cond.arrayClass (newarray.typeOf aty)).before a0 Z = true) (hz : Ix z n) (hb : n * 8 ≤ 536870912) (hc : cells + 1 = c' ∧ c' ≤ R.cells) (hl : slots + n = s' ∧ s' ≤ R.slots)
    (k : ∀ T' h' a, a = h.size → WS p l e R s m args below meth c Z a0 EL nw n0 y code maxL ret T' h' (a :: sf) c' s' → Ext h h' → Av Z h' a (newarray.typeOf aty) (List.replicate n (defaultValue (newarray.typeOf aty))) → WP p e below Φ T' (mkF m pc' L (.ref a :: S))) : WP p e below Φ T (mkF m pc L (.int z :: S)) := by
  obtain ⟨locs, X, eT, hS, hZ, hown, hC, hN, hn, hsf, hE, hWm, b1, b2, b3, b4, b5, b6⟩ := id W
  obtain ⟨rfl, hc⟩ := hc
  obtain ⟨rfl, hl⟩ := hl
  obtain ⟨T', h', cA, X', e', E, A, st⟩ := newP X W.hx hZ w eT (g := mkF m pc L (.int z :: S)) rfl (W.hd dd) rfl hz.1 (cap := n) (Nat.le_of_eq hz.2) hb hc hl
  obtain ⟨hd, rfl⟩ := dd
  exact WP.st (fun t q => st t q) (k T' h' _ rfl (W.pack X' e' hN E.1 (fun H => H.step fun _ _ _ q => E.2 _ _ q) (fun x hx => (List.mem_cons.mp hx).elim (fun q => Or.inr (by subst q; exact ⟨Nat.le_refl _, A.lt⟩)) Or.inl)) E (Av.new A n hz.2))

theorem k_newarrE (W : WS p l e R s m args below meth c Z a0 EL nw n0 y code maxL ret T h sf cells slots) {aty : ArrayType} {z : Int32} (n c' s' : Nat) (ad : String) (had : "[" ++ (newarray.typeOf aty).toString = ad) (dd : D code pc (.newarray aty) 2 pc') (w : (Cond.arrayClass (newarray.typeOf aty)).before a0 Z = true) (hz : Ix z n) (hb : n * 8 ≤ 536870912) (hc : cells + 1 = c' ∧ c' ≤ R.cells) (hl : slots + n = s' ∧ s' ≤ R.slots)
    (k : ∀ T' h' a, a = h.size → WS p l e R s m args below meth c Z a0 EL nw n0 y code maxL ret T' h' (a :: sf) c' s' → Ext h h' → Av Z h' a (newarray.typeOf aty) (List.replicate n (defaultValue (newarray.typeOf aty))) → Exa Z h' a ad → WP p e below Φ T' (mkF m pc' L (.ref a :: S))) : WP p e below Φ T (mkF m pc L (.int z :: S)) := by
  obtain ⟨locs, X, eT, hS, hZ, hown, hC, hN, hn, hsf, hE, hWm, b1, b2, b3, b4, b5, b6⟩ := id W
  obtain ⟨rfl, hc⟩ := hc
  obtain ⟨rfl, hl⟩ := hl
  obtain ⟨T', h', cA, X', e', E, A, E', st⟩ := newPE X W.hx hZ w eT (g := mkF m pc L (.int z :: S)) rfl (W.hd dd) rfl hz.1 (cap := n) (Nat.le_of_eq hz.2) hb hc hl had
  obtain ⟨hd, rfl⟩ := dd
  exact WP.st (fun t q => st t q) (k T' h' _ rfl (W.pack X' e' hN E.1 (fun H => H.step fun _ _ _ q => E.2 _ _ q) (fun x hx => (List.mem_cons.mp hx).elim (fun q => Or.inr (by subst q; exact ⟨Nat.le_refl _, A.lt⟩)) Or.inl)) E (Av.new A n hz.2) E')

theorem k_castore (W : WS p l e R s m args below meth c Z a0 EL nw n0 y code maxL ret T h sf cells slots) {a : Addr} {vs : List Value} {j x z : Int32} (i : Nat) (dd : D code pc (.castore) 1 pc') (ha : a ∈ sf) (F : Av Z h a .char vs) (hj : Ix j i) (hi : i < vs.length) (hz : nar .char x = z) (hf : fits .char (.int z) = true)
    (k : ∀ T' h', WS p l e R s m args below meth c Z a0 EL nw n0 y code maxL ret T' h' sf cells slots → Wr h h' a i (.int z) → Av Z h' a .char (vs.set i (.int z)) → WP p e below Φ T' (mkF m pc' L (S))) : WP p e below Φ T (mkF m pc L (.int x :: .int j :: .ref a :: S)) := by
  obtain ⟨locs, X, eT, hS, hZ, hown, hC, hN, hn, hsf, hE, hWm, b1, b2, b3, b4, b5, b6⟩ := id W
  obtain ⟨cl, A, r1, r2, r3⟩ := id F
  have hsz : cl.slots.size = vs.length := by rw [← r1]; simp
  obtain ⟨T', h', X', e', Wh, st⟩ := stC X W.hx hZ eT A (j := j) (x := x) (hj.ok (by rw [hsz]; exact hi)) (g := mkF m pc L (.int x :: .int j :: .ref a :: S)) rfl rfl (W.hd dd)
  rw [hj.2] at X' Wh
  subst hz
  obtain ⟨hd, rfl⟩ := dd
  exact WP.st (fun t q => st t q) (k T' h' (W.pack X' e' (Fr.snoc X' hN (hsf a ha).1) (Nat.le_of_eq Wh.size.symm) (fun H => H.wrStep Wh (hsf a ha).2.2) (fun x hx => Or.inl hx)) Wh (F.set Wh hf))

theorem k_bastore (W : WS p l e R s m args below meth c Z a0 EL nw n0 y code maxL ret T h sf cells slots) {a : Addr} {vs : List Value} {j x z : Int32} (i : Nat) (dd : D code pc (.bastore) 1 pc') (ha : a ∈ sf) (F : Av Z h a .byte vs) (hj : Ix j i) (hi : i < vs.length) (hz : nar .byte x = z) (hf : fits .byte (.int z) = true)
    (k : ∀ T' h', WS p l e R s m args below meth c Z a0 EL nw n0 y code maxL ret T' h' sf cells slots → Wr h h' a i (.int z) → Av Z h' a .byte (vs.set i (.int z)) → WP p e below Φ T' (mkF m pc' L (S))) : WP p e below Φ T (mkF m pc L (.int x :: .int j :: .ref a :: S)) := by
  obtain ⟨locs, X, eT, hS, hZ, hown, hC, hN, hn, hsf, hE, hWm, b1, b2, b3, b4, b5, b6⟩ := id W
  obtain ⟨cl, A, r1, r2, r3⟩ := id F
  have hsz : cl.slots.size = vs.length := by rw [← r1]; simp
  obtain ⟨T', h', X', e', Wh, st⟩ := stB X W.hx hZ eT A (j := j) (x := x) (hj.ok (by rw [hsz]; exact hi)) (g := mkF m pc L (.int x :: .int j :: .ref a :: S)) rfl rfl (W.hd dd)
  rw [hj.2] at X' Wh
  subst hz
  obtain ⟨hd, rfl⟩ := dd
  exact WP.st (fun t q => st t q) (k T' h' (W.pack X' e' (Fr.snoc X' hN (hsf a ha).1) (Nat.le_of_eq Wh.size.symm) (fun H => H.wrStep Wh (hsf a ha).2.2) (fun x hx => Or.inl hx)) Wh (F.set Wh hf))

theorem k_iastore (W : WS p l e R s m args below meth c Z a0 EL nw n0 y code maxL ret T h sf cells slots) {a : Addr} {vs : List Value} {j x z : Int32} (i : Nat) (dd : D code pc (.iastore) 1 pc') (ha : a ∈ sf) (F : Av Z h a .int vs) (hj : Ix j i) (hi : i < vs.length) (hz : x = z) (hf : fits .int (.int z) = true)
    (k : ∀ T' h', WS p l e R s m args below meth c Z a0 EL nw n0 y code maxL ret T' h' sf cells slots → Wr h h' a i (.int z) → Av Z h' a .int (vs.set i (.int z)) → WP p e below Φ T' (mkF m pc' L (S))) : WP p e below Φ T (mkF m pc L (.int x :: .int j :: .ref a :: S)) := by
  obtain ⟨locs, X, eT, hS, hZ, hown, hC, hN, hn, hsf, hE, hWm, b1, b2, b3, b4, b5, b6⟩ := id W
  obtain ⟨cl, A, r1, r2, r3⟩ := id F
  have hsz : cl.slots.size = vs.length := by rw [← r1]; simp
  obtain ⟨T', h', X', e', Wh, st⟩ := stI X W.hx hZ eT A (j := j) (x := x) (hj.ok (by rw [hsz]; exact hi)) (g := mkF m pc L (.int x :: .int j :: .ref a :: S)) rfl rfl (W.hd dd)
  rw [hj.2] at X' Wh
  subst hz
  obtain ⟨hd, rfl⟩ := dd
  exact WP.st (fun t q => st t q) (k T' h' (W.pack X' e' (Fr.snoc X' hN (hsf a ha).1) (Nat.le_of_eq Wh.size.symm) (fun H => H.wrStep Wh (hsf a ha).2.2) (fun x hx => Or.inl hx)) Wh (F.set Wh hf))

theorem k_sastore (W : WS p l e R s m args below meth c Z a0 EL nw n0 y code maxL ret T h sf cells slots) {a : Addr} {vs : List Value} {j x z : Int32} (i : Nat) (dd : D code pc (.sastore) 1 pc') (ha : a ∈ sf) (F : Av Z h a .short vs) (hj : Ix j i) (hi : i < vs.length) (hz : nar .short x = z) (hf : fits .short (.int z) = true)
    (k : ∀ T' h', WS p l e R s m args below meth c Z a0 EL nw n0 y code maxL ret T' h' sf cells slots → Wr h h' a i (.int z) → Av Z h' a .short (vs.set i (.int z)) → WP p e below Φ T' (mkF m pc' L (S))) : WP p e below Φ T (mkF m pc L (.int x :: .int j :: .ref a :: S)) := by
  obtain ⟨locs, X, eT, hS, hZ, hown, hC, hN, hn, hsf, hE, hWm, b1, b2, b3, b4, b5, b6⟩ := id W
  obtain ⟨cl, A, r1, r2, r3⟩ := id F
  have hsz : cl.slots.size = vs.length := by rw [← r1]; simp
  obtain ⟨T', h', X', e', Wh, st⟩ := stS X W.hx hZ eT A (j := j) (x := x) (hj.ok (by rw [hsz]; exact hi)) (g := mkF m pc L (.int x :: .int j :: .ref a :: S)) rfl rfl (W.hd dd)
  rw [hj.2] at X' Wh
  subst hz
  obtain ⟨hd, rfl⟩ := dd
  exact WP.st (fun t q => st t q) (k T' h' (W.pack X' e' (Fr.snoc X' hN (hsf a ha).1) (Nat.le_of_eq Wh.size.symm) (fun H => H.wrStep Wh (hsf a ha).2.2) (fun x hx => Or.inl hx)) Wh (F.set Wh hf))

theorem k_zastore (W : WS p l e R s m args below meth c Z a0 EL nw n0 y code maxL ret T h sf cells slots) {a : Addr} {vs : List Value} {j x z : Int32} (i : Nat) (dd : D code pc (.bastore) 1 pc') (ha : a ∈ sf) (F : Av Z h a .boolean vs) (hj : Ix j i) (hi : i < vs.length) (hz : nar .boolean x = z) (hf : fits .boolean (.int z) = true)
    (k : ∀ T' h', WS p l e R s m args below meth c Z a0 EL nw n0 y code maxL ret T' h' sf cells slots → Wr h h' a i (.int z) → Av Z h' a .boolean (vs.set i (.int z)) → WP p e below Φ T' (mkF m pc' L (S))) : WP p e below Φ T (mkF m pc L (.int x :: .int j :: .ref a :: S)) := by
  obtain ⟨locs, X, eT, hS, hZ, hown, hC, hN, hn, hsf, hE, hWm, b1, b2, b3, b4, b5, b6⟩ := id W
  obtain ⟨cl, A, r1, r2, r3⟩ := id F
  have hsz : cl.slots.size = vs.length := by rw [← r1]; simp
  obtain ⟨T', h', X', e', Wh, st⟩ := stZ X W.hx hZ eT A (j := j) (x := x) (hj.ok (by rw [hsz]; exact hi)) (g := mkF m pc L (.int x :: .int j :: .ref a :: S)) rfl rfl (W.hd dd)
  rw [hj.2] at X' Wh
  subst hz
  obtain ⟨hd, rfl⟩ := dd
  exact WP.st (fun t q => st t q) (k T' h' (W.pack X' e' (Fr.snoc X' hN (hsf a ha).1) (Nat.le_of_eq Wh.size.symm) (fun H => H.wrStep Wh (hsf a ha).2.2) (fun x hx => Or.inl hx)) Wh (F.set Wh hf))

theorem k_caload (W : WS p l e R s m args below meth c Z a0 EL nw n0 y code maxL ret T h sf cells slots) {a : Addr} {vs : List Value} {j : Int32} {v : Value} (i : Nat) (dd : D code pc (.caload) 1 pc') (F : Av Z h a .char vs) (hj : Ix j i) (hi : vs[i]? = some v)
    (w : WP p e below Φ T (mkF m pc' L (v :: S))) : WP p e below Φ T (mkF m pc L (.int j :: .ref a :: S)) := by
  obtain ⟨locs, X, eT, hS, hZ, hown, hC, hN, hn, hsf, hE, hWm, b1, b2, b3, b4, b5, b6⟩ := id W
  obtain ⟨cl, A, r1, r2, r3⟩ := id F
  have hsz : cl.slots.size = vs.length := by rw [← r1]; simp
  have hlt : i < vs.length := (List.getElem?_eq_some_iff.mp hi).1
  have hv : cl.slots[j.toNatClampNeg]? = some v := by rw [hj.2, ← Array.getElem?_toList, r1]; exact hi
  have hA : (s.setVm T.vm).isArrayOf cl .char := State.isArrayOf_alike hZ.alike A.2.1
  obtain ⟨hd, rfl⟩ := id dd
  exact WP.st (fun t q => X.caload W.hx (by rw [eT]; exact A.1) hA A.2.2 (hj.ok (by rw [hsz]; exact hlt)) hv (g := mkF m pc L (.int j :: .ref a :: S)) rfl rfl (W.hd dd) _ q) w

theorem k_iaload (W : WS p l e R s m args below meth c Z a0 EL nw n0 y code maxL ret T h sf cells slots) {a : Addr} {vs : List Value} {j : Int32} {v : Value} (i : Nat) (dd : D code pc (.iaload) 1 pc') (F : Av Z h a .int vs) (hj : Ix j i) (hi : vs[i]? = some v)
    (w : WP p e below Φ T (mkF m pc' L (v :: S))) : WP p e below Φ T (mkF m pc L (.int j :: .ref a :: S)) := by
  obtain ⟨locs, X, eT, hS, hZ, hown, hC, hN, hn, hsf, hE, hWm, b1, b2, b3, b4, b5, b6⟩ := id W
  obtain ⟨cl, A, r1, r2, r3⟩ := id F
  have hsz : cl.slots.size = vs.length := by rw [← r1]; simp
  have hlt : i < vs.length := (List.getElem?_eq_some_iff.mp hi).1
  have hv : cl.slots[j.toNatClampNeg]? = some v := by rw [hj.2, ← Array.getElem?_toList, r1]; exact hi
  have hA : (s.setVm T.vm).isArrayOf cl .int := State.isArrayOf_alike hZ.alike A.2.1
  obtain ⟨hd, rfl⟩ := id dd
  exact WP.st (fun t q => X.iaload W.hx (by rw [eT]; exact A.1) hA A.2.2 (hj.ok (by rw [hsz]; exact hlt)) hv (g := mkF m pc L (.int j :: .ref a :: S)) rfl rfl (W.hd dd) _ q) w

theorem k_baload (W : WS p l e R s m args below meth c Z a0 EL nw n0 y code maxL ret T h sf cells slots) {a : Addr} {vs : List Value} {j : Int32} {v : Value} (i : Nat) (dd : D code pc (.baload) 1 pc') (F : Av Z h a .byte vs) (hj : Ix j i) (hi : vs[i]? = some v)
    (w : WP p e below Φ T (mkF m pc' L (v :: S))) : WP p e below Φ T (mkF m pc L (.int j :: .ref a :: S)) := by
  obtain ⟨locs, X, eT, hS, hZ, hown, hC, hN, hn, hsf, hE, hWm, b1, b2, b3, b4, b5, b6⟩ := id W
  obtain ⟨cl, A, r1, r2, r3⟩ := id F
  have hsz : cl.slots.size = vs.length := by rw [← r1]; simp
  have hlt : i < vs.length := (List.getElem?_eq_some_iff.mp hi).1
  have hv : cl.slots[j.toNatClampNeg]? = some v := by rw [hj.2, ← Array.getElem?_toList, r1]; exact hi
  have hA : (s.setVm T.vm).isArrayOf cl .byte := State.isArrayOf_alike hZ.alike A.2.1
  obtain ⟨hd, rfl⟩ := id dd
  exact WP.st (fun t q => X.baloadBytes W.hx (by rw [eT]; exact A.1) hA A.2.2 (hj.ok (by rw [hsz]; exact hlt)) hv (g := mkF m pc L (.int j :: .ref a :: S)) rfl rfl (W.hd dd) _ q) w

theorem k_aaload (W : WS p l e R s m args below meth c Z a0 EL nw n0 y code maxL ret T h sf cells slots) {a : Addr} {vs : List Value} {ty : FieldType} {j : Int32} {v : Value} (i : Nat) (dd : D code pc .aaload 1 pc') (F : Av Z h a ty vs) (hty : ty.isReference = true) (hj : Ix j i) (hi : vs[i]? = some v)
    (w : WP p e below Φ T (mkF m pc' L (v :: S))) : WP p e below Φ T (mkF m pc L (.int j :: .ref a :: S)) := by
  obtain ⟨locs, X, eT, hS, hZ, hown, hC, hN, hn, hsf, hE, hWm, b1, b2, b3, b4, b5, b6⟩ := id W
  obtain ⟨cl, A, r1, r2, r3⟩ := id F
  have hsz : cl.slots.size = vs.length := by rw [← r1]; simp
  have hlt : i < vs.length := (List.getElem?_eq_some_iff.mp hi).1
  have hv : cl.slots[j.toNatClampNeg]? = some v := by rw [hj.2, ← Array.getElem?_toList, r1]; exact hi
  have hA : (s.setVm T.vm).isArrayOf cl ty := State.isArrayOf_alike hZ.alike A.2.1
  obtain ⟨hd, rfl⟩ := id dd
  exact WP.st (fun t q => X.aaload W.hx (by rw [eT]; exact A.1) hA hty A.2.2 (hj.ok (by rw [hsz]; exact hlt)) hv (g := mkF m pc L (.int j :: .ref a :: S)) rfl rfl (W.hd dd) _ q) w

theorem k_arraylength (W : WS p l e R s m args below meth c Z a0 EL nw n0 y code maxL ret T h sf cells slots) {a : Addr} {ty : FieldType} {vs : List Value} {z : Int32} (dd : D code pc .arraylength 1 pc') (F : Av Z h a ty vs) (hz : vs.length.toInt32 = z) (w : WP p e below Φ T (mkF m pc' L (.int z :: S))) : WP p e below Φ T (mkF m pc L (.ref a :: S)) := by
  obtain ⟨locs, X, eT, hS, hZ, hown, hC, hN, hn, hsf, hE, hWm, b1, b2, b3, b4, b5, b6⟩ := id W
  obtain ⟨cl, A, r1, r2, r3⟩ := id F
  have hsz : cl.slots.size = vs.length := by rw [← r1]; simp
  have hA : (s.setVm T.vm).isArrayOf cl ty := State.isArrayOf_alike hZ.alike A.2.1
  obtain ⟨hd, rfl⟩ := id dd
  exact WP.st (fun t q => X.arraylength W.hx (by rw [eT]; exact A.1) hA (g := mkF m pc L (.ref a :: S)) rfl rfl (W.hd dd) _ (by rw [hsz, hz]; exact q)) w

theorem k_cast (W : WS p l e R s m args below meth c Z a0 EL nw n0 y code maxL ret T h sf cells slots) {index : Nat} {K : String} {a : Addr} (dd : D code pc (.checkcast index) 3 pc') (w : (Cond.classLink y.cls index K).before a0 Z = true) (F : Ins Z h a K true)
    (k : ∀ T', WS p l e R s m args below meth c Z a0 EL nw n0 y code maxL ret T' h sf cells slots → WP p e below Φ T' (mkF m pc' L (.ref a :: S))) : WP p e below Φ T (mkF m pc L (.ref a :: S)) := by
  obtain ⟨locs, X, eT, hS, hZ, hown, hC, hN, hn, hsf, hE, hWm, b1, b2, b3, b4, b5, b6⟩ := id W
  obtain ⟨T', X', e', st⟩ := castY X W.hx hZ hown w eT F (g := mkF m pc L (.ref a :: S)) rfl rfl (W.hd dd)
  obtain ⟨hd, rfl⟩ := dd
  exact WP.st (fun t q => st t q) (k T' (W.pack X' e' hN (Nat.le_refl _) (fun H => ⟨H, fun _ q => q⟩) (fun x hx => Or.inl hx)))
theorem k_instY (W : WS p l e R s m args below meth c Z a0 EL nw n0 y code maxL ret T h sf cells slots) {index : Nat} {K : String} {a : Addr} (dd : D code pc (.instanceof index) 3 pc') (w : (Cond.classLink y.cls index K).before a0 Z = true) (F : Ins Z h a K true)
    (k : ∀ T', WS p l e R s m args below meth c Z a0 EL nw n0 y code maxL ret T' h sf cells slots → WP p e below Φ T' (mkF m pc' L (.int 1 :: S))) : WP p e below Φ T (mkF m pc L (.ref a :: S)) := by
  obtain ⟨locs, X, eT, hS, hZ, hown, hC, hN, hn, hsf, hE, hWm, b1, b2, b3, b4, b5, b6⟩ := id W
  obtain ⟨T', X', e', st⟩ := instY X W.hx hZ hown w eT F (g := mkF m pc L (.ref a :: S)) rfl rfl (W.hd dd)
  obtain ⟨hd, rfl⟩ := dd
  exact WP.st (fun t q => st t q) (k T' (W.pack X' e' hN (Nat.le_refl _) (fun H => ⟨H, fun _ q => q⟩) (fun x hx => Or.inl hx)))

theorem nsRoot {O K : String} {n : Nat} (w : (Cond.noSuperclass O).before a0 Z = true) (wk : (Cond.instantiable K n).before a0 Z = true) (hn : O ≠ K) : NS Z O K := by
  obtain ⟨c, k, h1, h2, h3, -, -⟩ := Cond.noSuperclass_spec w
  obtain ⟨t, -, g1, -⟩ := Cond.instantiable_spec wk
  have ne := ids_ne h1 g1 hn
  refine ⟨c, t, h1, g1, fun fuel => ?_⟩
  cases fuel with
  | zero => rfl
  | succ f => simp [Vm.isSubclassAux, ne, h2, h3]
theorem nsNo {C S K : String} {n : Nat} (w : (Cond.superclass C S).before a0 Z = true) (wk : (Cond.instantiable K n).before a0 Z = true) (q : NS Z C K) (hn : C ≠ K) : ∃ c t, Z.vm.findClass C = some c ∧ Z.vm.findClass K = some t ∧ Z.vm.assignable c t = false := by
  obtain ⟨c, t, h0, g0, n3⟩ := q
  obtain ⟨p, k, kp, h1, h2, h3, h4, h5, -, h7⟩ := Cond.superclass_spec h0 w
  obtain ⟨t', k', g1, g2, g3, g4, -⟩ := Cond.instantiable_spec wk
  cases g0.symm.trans g1
  have g5 : k'.isInterface = false := by cases hh : k'.isInterface <;> simp [hh] at g4 ⊢
  have ne := ids_ne h0 g0 hn
  refine ⟨c, t, h0, g0, ?_⟩
  show Z.vm.assignableAux (255 + 1) c t = false
  simp [Vm.assignableAux, ne, h2, g2, h5, g3, g5, Vm.isSubclass, n3]
theorem k_instN (W : WS p l e R s m args below meth c Z a0 EL nw n0 y code maxL ret T h sf cells slots) {index : Nat} {K C : String} {a : Addr} (dd : D code pc (.instanceof index) 3 pc') (w : (Cond.classLink y.cls index K).before a0 Z = true) (E : Exa Z h a C) (F : ∃ c t, Z.vm.findClass C = some c ∧ Z.vm.findClass K = some t ∧ Z.vm.assignable c t = false)
    (k : ∀ T', WS p l e R s m args below meth c Z a0 EL nw n0 y code maxL ret T' h sf cells slots → WP p e below Φ T' (mkF m pc' L (.int 0 :: S))) : WP p e below Φ T (mkF m pc L (.ref a :: S)) := by
  obtain ⟨locs, X, eT, hS, hZ, hown, hC, hN, hn, hsf, hE, hWm, b1, b2, b3, b4, b5, b6⟩ := id W
  obtain ⟨T', X', e', st⟩ := instNo X W.hx hZ hown w eT E F (g := mkF m pc L (.ref a :: S)) rfl rfl (W.hd dd)
  obtain ⟨hd, rfl⟩ := dd
  exact WP.st (fun t q => st t q) (k T' (W.pack X' e' hN (Nat.le_refl _) (fun H => ⟨H, fun _ q => q⟩) (fun x hx => Or.inl hx)))
theorem k_instNull (W : WS p l e R s m args below meth c Z a0 EL nw n0 y code maxL ret T h sf cells slots) {index : Nat} (dd : D code pc (.instanceof index) 3 pc') (w : WP p e below Φ T (mkF m pc' L (.int 0 :: S))) : WP p e below Φ T (mkF m pc L (.null :: S)) := by
  obtain ⟨locs, X, eT, hS, hZ, hown, hC, hN, hn, hsf, hE, hWm, b1, b2, b3, b4, b5, b6⟩ := id W
  obtain ⟨hd, rfl⟩ := id dd
  exact WP.st (fun t q => X.instanceofNull W.hx (g := mkF m pc L (.null :: S)) rfl rfl (W.hd dd) _ q) w
theorem k_castNull (W : WS p l e R s m args below meth c Z a0 EL nw n0 y code maxL ret T h sf cells slots) {index : Nat} (dd : D code pc (.checkcast index) 3 pc') (w : WP p e below Φ T (mkF m pc' L (.null :: S))) : WP p e below Φ T (mkF m pc L (.null :: S)) := by
  obtain ⟨locs, X, eT, hS, hZ, hown, hC, hN, hn, hsf, hE, hWm, b1, b2, b3, b4, b5, b6⟩ := id W
  obtain ⟨hd, rfl⟩ := id dd
  exact WP.st (fun t q => X.checkcastNull W.hx (g := mkF m pc L (.null :: S)) rfl rfl (W.hd dd) _ q) w

theorem k_ldcI (W : WS p l e R s m args below meth c Z a0 EL nw n0 y code maxL ret T h sf cells slots) {index : Nat} {v : Int32} (dd : D code pc (.ldc index) 2 pc') (w : (Cond.constant y.cls index v).before a0 Z = true) (k : WP p e below Φ T (mkF m pc' L (.int v :: S))) : WP p e below Φ T (mkF m pc L (S)) := by
  obtain ⟨locs, X, eT, hS, hZ, hown, hC, hN, hn, hsf, hE, hWm, b1, b2, b3, b4, b5, b6⟩ := id W
  obtain ⟨hd, rfl⟩ := id dd
  exact WP.st (fun t q => Jvm.Stand.ldcI X W.hx hown (mv (s := s.setVm T.vm) hZ w) (g := mkF m pc L S) rfl (W.hd dd) q) k
theorem k_ldc2J (W : WS p l e R s m args below meth c Z a0 EL nw n0 y code maxL ret T h sf cells slots) {index : Nat} {v : Int64} (dd : D code pc (.ldc2_w index) 3 pc') (w : (Cond.constantLong y.cls index v).before a0 Z = true) (k : WP p e below Φ T (mkF m pc' L (.long v :: S))) : WP p e below Φ T (mkF m pc L (S)) := by
  obtain ⟨locs, X, eT, hS, hZ, hown, hC, hN, hn, hsf, hE, hWm, b1, b2, b3, b4, b5, b6⟩ := id W
  obtain ⟨hd, rfl⟩ := id dd
  exact WP.st (fun t q => Jvm.Stand.ldc2J X W.hx hown (mv (s := s.setVm T.vm) hZ w) (g := mkF m pc L S) rfl (W.hd dd) q) k

theorem k_initO (W : WS p l e R s m args below meth c Z a0 EL nw n0 y code maxL ret T h sf cells slots) {index : Nat} {a : Addr} (Wd : Nat) (dd : D code pc (.invokespecial index) 3 pc') (w1 : (Cond.methodLink y.cls index Lib.objectInit).before a0 Z = true) (w2 : (Cond.instanceMethod Lib.objectInit).before a0 Z = true) (w3 : (Cond.code Lib.objectInit ⟨#[0xb1]⟩ 1 none).before a0 Z = true)
    (hL : L.size = maxL) (hW : catS S ≤ Wd) (hf : 1 ≤ R.frames) (hl : Wd + 12 ≤ R.locals) (k : ∀ T', WS p l e R s m args below meth c Z a0 EL nw n0 y code maxL ret T' h sf cells slots → WP p e below Φ T' (mkF m pc' L (S))) : WP p e below Φ T (mkF m pc L (.ref a :: S)) := by
  obtain ⟨locs, X, eT, hS, hZ, hown, hC, hN, hn, hsf, hE, hWm, b1, b2, b3, b4, b5, b6⟩ := id W
  obtain ⟨T', X', e', st⟩ := initO X W.hx hZ hown w1 w2 w3 eT (g := mkF m pc L (.ref a :: S)) rfl (hL.trans b5.symm) rfl (W.hd dd) hf (W := Wd) (by show 2 * 0 + _ ≤ _; rw [Nat.mul_zero, Nat.zero_add]; exact hW) hl
  obtain ⟨hd, rfl⟩ := dd
  exact WP.st (fun t q => st t q) (k T' (W.pack X' e' hN (Nat.le_refl _) (fun H => ⟨H, fun _ q => q⟩) (fun x hx => Or.inl hx)))

theorem k_getClass (W : WS p l e R s m args below meth c Z a0 EL nw n0 y code maxL ret T h sf cells slots) {index : Nat} {C : String} {a mr : Addr} (Wd : Nat) (dd : D code pc (.invokevirtual index) 3 pc') (w1 : (Cond.methodLink y.cls index ⟨"java/lang/Object", "getClass", "()Ljava/lang/Class;"⟩).before a0 Z = true) (w2 : (Cond.declares ⟨"java/lang/Object", "getClass", "()Ljava/lang/Class;"⟩).before a0 Z = true) (w4 : (Cond.selects C ⟨"java/lang/Object", "getClass", "()Ljava/lang/Class;"⟩ ⟨"java/lang/Object", "getClass", "()Ljava/lang/Class;"⟩).before a0 Z = true)
    (w5 : (Cond.instanceMethod ⟨"java/lang/Object", "getClass", "()Ljava/lang/Class;"⟩).before a0 Z = true) (w6 : (Cond.native ⟨"java/lang/Object", "getClass", "()Ljava/lang/Class;"⟩).before a0 Z = true) (E : Exa Z h a C) (M : Mir Z C mr)
    (hL : L.size = maxL) (hW : catS S ≤ Wd) (hf : 1 ≤ R.frames) (hlo : Wd + 14 ≤ R.locals) (k : ∀ T', WS p l e R s m args below meth c Z a0 EL nw n0 y code maxL ret T' h sf cells slots → WP p e below Φ T' (mkF m pc' L (.ref mr :: S))) : WP p e below Φ T (mkF m pc L (.ref a :: S)) := by
  obtain ⟨locs, X, eT, hS, hZ, hown, hC, hN, hn, hsf, hE, hWm, b1, b2, b3, b4, b5, b6⟩ := id W
  obtain ⟨cB, kB, i1, i2, i3⟩ := isOf (s := s.setVm T.vm) hZ eT E
  obtain ⟨cc, kc, m1, m2, m3, -⟩ := M
  have i1 : T.vm.findClass C = some cB := i1
  rw [hZ.alike.findClass (vm := Z.vm)] at i1
  cases i1.symm.trans m1
  obtain ⟨k', q, ek⟩ := hZ.alike.2.2 _ _ m2
  obtain ⟨vm', X', st⟩ := X.getClassOf W.hx hown (mvT (s := s.setVm T.vm) hZ w1) (mvT (s := s.setVm T.vm) hZ w2) (notFace_of_selects (args := #[]) (mvT (s := s.setVm T.vm) hZ w4)) (mvT (s := s.setVm T.vm) hZ w4) (mvT (s := s.setVm T.vm) hZ w5) (mvT (s := s.setVm T.vm) hZ w6) (show T.vm.findClass C = some _ by rw [hZ.alike.findClass (vm := Z.vm)]; exact m1) i3 q (by rw [ek]; exact m3) (g := mkF m pc L (.ref a :: S)) rfl (hL.trans b5.symm) rfl (W.hd dd) hf (by show 2 * 0 + _ + 14 ≤ _; rw [Nat.mul_zero, Nat.zero_add]; exact Nat.le_trans (Nat.add_le_add_right hW 14) hlo)
  obtain ⟨hd, rfl⟩ := dd
  exact WP.st (fun t q => st t q) (k _ (W.pack X' eT hN (Nat.le_refl _) (fun H => ⟨H, fun _ q => q⟩) (fun x hx => Or.inl hx)))

theorem k_clone (W : WS p l e R s m args below meth c Z a0 EL nw n0 y code maxL ret T h sf cells slots) {index : Nat} {ad : String} {a : Addr} {vs : List Value} {ty : FieldType} (Wd n c' s' : Nat) (dd : D code pc (.invokevirtual index) 3 pc') (w1 : (Cond.methodLink y.cls index ⟨ad, "clone", "()Ljava/lang/Object;"⟩).before a0 Z = true) (w2 : (Cond.sameMethod ad "java/lang/Object" "clone" "()Ljava/lang/Object;").before a0 Z = true) (w3 : (Cond.native ⟨"java/lang/Object", "clone", "()Ljava/lang/Object;"⟩).before a0 Z = true)
    (w4 : (Cond.instanceMethod ⟨"java/lang/Object", "clone", "()Ljava/lang/Object;"⟩).before a0 Z = true) (w5 : (Cond.selects ad ⟨ad, "clone", "()Ljava/lang/Object;"⟩ ⟨"java/lang/Object", "clone", "()Ljava/lang/Object;"⟩).before a0 Z = true) (w6 : (Cond.castable ad "java/lang/Cloneable").before a0 Z = true) (F : Av Z h a ty vs) (E : Exa Z h a ad) (hn : vs.length ≤ n)
    (hL : L.size = maxL) (hW : catS S ≤ Wd) (hf : 1 ≤ R.frames) (hlo : Wd + 14 ≤ R.locals) (hc : cells + 1 = c' ∧ c' ≤ R.cells) (hl : slots + n = s' ∧ s' ≤ R.slots)
    (k : ∀ T' h' b, b = h.size → WS p l e R s m args below meth c Z a0 EL nw n0 y code maxL ret T' h' (b :: sf) c' s' → Ext h h' → Av Z h' b ty vs → Exa Z h' b ad → WP p e below Φ T' (mkF m pc' L (.ref b :: S))) : WP p e below Φ T (mkF m pc L (.ref a :: S)) := by
  obtain ⟨locs, X, eT, hS, hZ, hown, hC, hN, hn, hsf, hE, hWm, b1, b2, b3, b4, b5, b6⟩ := id W
  obtain ⟨rfl, hc⟩ := hc
  obtain ⟨rfl, hl⟩ := hl
  obtain ⟨cl, A, r1, r2, r3⟩ := id F
  have hsz : cl.slots.size = vs.length := by rw [← r1]; simp
  obtain ⟨T', h', X', e', Eh, B, E', st⟩ := cloneA X W.hx hZ hown w1 w2 w3 w4 w5 w6 eT A E (Av.fitc A r1 r3) (g := mkF m pc L (.ref a :: S)) rfl (hL.trans b5.symm) rfl (W.hd dd) hf (W := Wd) (cap := n) (by show 2 * 0 + _ ≤ _; rw [Nat.mul_zero, Nat.zero_add]; exact hW) hlo (by omega) hc hl
  obtain ⟨hd, rfl⟩ := dd
  exact WP.st (fun t q => st t q) (k T' h' _ rfl (W.pack X' e' hN Eh.1 (fun H => H.step fun _ _ _ q => Eh.2 _ _ q) (fun x hx => (List.mem_cons.mp hx).elim (fun q => Or.inr (by subst q; exact ⟨Nat.le_refl _, B.lt⟩)) Or.inl)) Eh ⟨_, B, r1, r2, r3⟩ E')

theorem k_acopy (W : WS p l e R s m args below meth c Z a0 EL nw n0 y code maxL ret T h sf cells slots) {index : Nat} {a b : Addr} {vs ud : List Value} {ty : FieldType} {sp dp nn : Int32} (Wd i j n : Nat) (dd : D code pc (.invokestatic index) 3 pc') (w1 : (Cond.methodLink y.cls index Jvm.Stand.acN).before a0 Z = true) (w2 : (Cond.native Jvm.Stand.acN).before a0 Z = true) (w3 : (Cond.static Jvm.Stand.acN).before a0 Z = true) (w4 : (Cond.initialized "java/lang/System").before a0 Z = true)
    (F : Av Z h a ty vs) (G : Av Z h b ty ud) (hty : refKind ty = false) (hb' : b ∈ sf) (h1 : Ix sp i) (h2 : Ix dp j) (h3 : Ix nn n) (h4 : i + n ≤ vs.length) (h5 : j + n ≤ ud.length)
    (hL : L.size = maxL) (hW : catS S ≤ Wd) (hf : 1 ≤ R.frames) (hlo : Wd + 18 ≤ R.locals)
    (k : ∀ T' h', WS p l e R s m args below meth c Z a0 EL nw n0 y code maxL ret T' h' sf cells slots → Keep h h' [b] → Av Z h' b ty (ud.take j ++ (vs.drop i).take n ++ ud.drop (j + n)) → WP p e below Φ T' (mkF m pc' L (S))) : WP p e below Φ T (mkF m pc L (.int nn :: .int dp :: .ref b :: .int sp :: .ref a :: S)) := by
  obtain ⟨locs, X, eT, hS, hZ, hown, hC, hN, hn, hsf, hE, hWm, b1, b2, b3, b4, b5, b6⟩ := id W
  obtain ⟨k1, A⟩ := F.arv (defaultValue ty)
  obtain ⟨k2, B⟩ := G.arv (defaultValue ty)
  have hx1 := ix_of F.len
  have hx2 := ix_of G.len
  have hus : (vs.drop i).take n = (List.range nn.toNatClampNeg).map fun q => vs.getD (sp.toNatClampNeg + q) (defaultValue ty) := by
    rw [h1.2, h3.2]
    apply List.ext_getElem?; intro q
    by_cases hq : q < n
    · rw [List.getElem?_take_of_lt hq, List.getElem?_drop, List.getElem?_map, List.getElem?_range hq]
      show _ = some (vs.getD (i + q) (defaultValue ty))
      rw [List.getD_eq_getElem?_getD, List.getElem?_eq_getElem (by omega)]; rfl
    · rw [List.getElem?_eq_none (by rw [List.length_take]; omega), List.getElem?_eq_none (by simp; omega)]
  obtain ⟨T', h', L', X', e', N', K', B', st⟩ := cpA X W.hx hZ hown w1 w2 w3 w4 eT A B (Or.inl ⟨rfl, hty⟩) h1.1 h2.1 h3.1 (by rw [h1.2, h3.2, hx1.2]; exact h4) (by rw [h2.2, h3.2, hx2.2]; exact h5) hus (by rw [h2.2, h3.2]; exact h5) hN (hsf b hb').1 (g := mkF m pc L (.int nn :: .int dp :: .ref b :: .int sp :: .ref a :: S)) rfl (hL.trans b5.symm) rfl (W.hd dd) hf (W := Wd) (by show 2 * 0 + _ ≤ _; rw [Nat.mul_zero, Nat.zero_add]; exact hW) hlo
  rw [h2.2, h3.2] at B'
  obtain ⟨hd, rfl⟩ := dd
  exact WP.st (fun t q => st t q) (k T' h' (W.pack X' e' N' K'.1 (fun H => H.step fun z hz c q => K'.2.1 z c q (fun u => (hsf b hb').2.2 ((List.mem_singleton.mp u) ▸ hz))) (fun x hx => Or.inl hx)) K' (Av.of_arv B' (by rw [hx2.2]; simp; omega)))

def OvA (Z : State) (h : Heap) (a : Addr) (C : String) : Prop := ∃ c : Cell, h[a]? = some c ∧ Ovr Z c.cls C
theorem OvA.keep {h' : Heap} {a : Addr} {C : String} {ws : List Addr} (F : OvA Z h a C) (K : Keep h h' ws) : OvA Z h' a C := by
  obtain ⟨cc, q1, q2⟩ := F
  obtain ⟨c', r1, r2, -, -⟩ := K.2.2 a cc q1
  exact ⟨c', r1, by rw [r2]; exact q2⟩
theorem k_anew (W : WS p l e R s m args below meth c Z a0 EL nw n0 y code maxL ret T h sf cells slots) {index : Nat} {z : Int32} {C : String} (n c' s' : Nat) (ad : String) (had : "[" ++ (FieldType.object C).toString = ad) (dd : D code pc (.anewarray index) 3 pc') (w1 : (Cond.classLink y.cls index C).before a0 Z = true) (w2 : (Cond.arrayOver (.object C)).before a0 Z = true) (hz : Ix z n) (hb : n * 8 ≤ 536870912) (hc : cells + 1 = c' ∧ c' ≤ R.cells) (hl : slots + n = s' ∧ s' ≤ R.slots)
    (k : ∀ T' h' a, a = h.size → WS p l e R s m args below meth c Z a0 EL nw n0 y code maxL ret T' h' (a :: sf) c' s' → Ext h h' → Av Z h' a (.object C) (List.replicate n .null) → Exa Z h' a ad → OvA Z h' a C → WP p e below Φ T' (mkF m pc' L (.ref a :: S))) : WP p e below Φ T (mkF m pc L (.int z :: S)) := by
  obtain ⟨locs, X, eT, hS, hZ, hown, hC, hN, hn, hsf, hE, hWm, b1, b2, b3, b4, b5, b6⟩ := id W
  obtain ⟨rfl, hc⟩ := hc
  obtain ⟨rfl, hl⟩ := hl
  obtain ⟨T', h', cA, X', e', E, A, E', O, st⟩ := newRE X W.hx hZ hown w1 w2 eT (g := mkF m pc L (.int z :: S)) rfl (W.hd dd) rfl hz.1 (cap := n) (Nat.le_of_eq hz.2) hb hc hl had
  obtain ⟨hd, rfl⟩ := dd
  exact WP.st (fun t q => st t q) (k T' h' _ rfl (W.pack X' e' hN E.1 (fun H => H.step fun _ _ _ q => E.2 _ _ q) (fun x hx => (List.mem_cons.mp hx).elim (fun q => Or.inr (by subst q; exact ⟨Nat.le_refl _, A.lt⟩)) Or.inl)) E (Av.new A n hz.2) E' ⟨_, A.1, O⟩)
theorem k_aastore (W : WS p l e R s m args below meth c Z a0 EL nw n0 y code maxL ret T h sf cells slots) {a : Addr} {C : String} {vs : List Value} {j : Int32} {v : Value} (i : Nat) (dd : D code pc (.aastore) 1 pc') (ha : a ∈ sf) (F : Av Z h a (.object C) vs) (O : OvA Z h a C) (hj : Ix j i) (hi : i < vs.length) (hv : v = .null ∨ ∃ r, v = .ref r ∧ Ins Z h r C true)
    (k : ∀ T' h', WS p l e R s m args below meth c Z a0 EL nw n0 y code maxL ret T' h' sf cells slots → Wr h h' a i v → Av Z h' a (.object C) (vs.set i v) → WP p e below Φ T' (mkF m pc' L (S))) : WP p e below Φ T (mkF m pc L (v :: .int j :: .ref a :: S)) := by
  obtain ⟨locs, X, eT, hS, hZ, hown, hC, hN, hn, hsf, hE, hWm, b1, b2, b3, b4, b5, b6⟩ := id W
  obtain ⟨cl, A, r1, r2, r3⟩ := id F
  have hsz : cl.slots.size = vs.length := by rw [← r1]; simp
  have hst : Sto Z h a v := by
    rcases hv with rfl | ⟨r, rfl, I⟩
    · exact Or.inl rfl
    · obtain ⟨c2, q1, q2⟩ := O
      cases q1.symm.trans A.1
      exact Sto.of A q2 I
  have hfit : fits (.object C) v = true := by
    rcases hv with rfl | ⟨r, rfl, -⟩ <;> rfl
  obtain ⟨T', h', X', e', Wh, st⟩ := stR X W.hx hZ eT A (j := j) (v := v) (hj.ok (by rw [hsz]; exact hi)) rfl hst (g := mkF m pc L (v :: .int j :: .ref a :: S)) rfl rfl (W.hd dd)
  rw [hj.2] at X' Wh
  obtain ⟨hd, rfl⟩ := dd
  exact WP.st (fun t q => st t q) (k T' h' (W.pack X' e' (Fr.snoc X' hN (hsf a ha).1) (Nat.le_of_eq Wh.size.symm) (fun H => H.wrStep Wh (hsf a ha).2.2) (fun x hx => Or.inl hx)) Wh (F.set Wh hfit))
theorem k_lswH (W : WS p l e R s m args below meth c Z a0 EL nw n0 y code maxL ret T h sf cells slots) {k : Int32} {dflt : Int} {pairs : Array (Int × Int)} {len : Nat} {a off : Int} (pc1 : Nat) (d : D code pc (.lookupswitch dflt pairs) len pc') (hso : (pairs.toList.zip (pairs.toList.drop 1)).all (fun (a, next) => a.1 < next.1) = true) (hf : pairs.find? (·.1 == k.toInt) = some (a, off)) (ho : 0 ≤ (pc : Int) + off ∧ ((pc : Int) + off).toNat = pc1) (w : WP p e below Φ T (mkF m pc1 L S)) : WP p e below Φ T (mkF m pc L (.int k :: S)) := by
  obtain ⟨locs, X, eT, hS, hZ, hown, hC, hN, hn, hsf, hE, hWm, b1, b2, b3, b4, b5, b6⟩ := id W
  obtain ⟨hd, rfl⟩ := id d
  refine WP.st (fun t q => X.lookupswitchHit W.hx (g := mkF m pc L (.int k :: S)) rfl rfl (W.hd d) hso hf ho.1 t ?_) w
  show Steps p.tables e below (T.setTop (mkF m ((pc : Int) + off).toNat L S)) t
  rw [ho.2]; exact q
theorem k_lswM (W : WS p l e R s m args below meth c Z a0 EL nw n0 y code maxL ret T h sf cells slots) {k : Int32} {dflt : Int} {pairs : Array (Int × Int)} {len : Nat} (pc1 : Nat) (d : D code pc (.lookupswitch dflt pairs) len pc') (hso : (pairs.toList.zip (pairs.toList.drop 1)).all (fun (a, next) => a.1 < next.1) = true) (hf : pairs.find? (·.1 == k.toInt) = none) (ho : 0 ≤ (pc : Int) + dflt ∧ ((pc : Int) + dflt).toNat = pc1) (w : WP p e below Φ T (mkF m pc1 L S)) : WP p e below Φ T (mkF m pc L (.int k :: S)) := by
  obtain ⟨locs, X, eT, hS, hZ, hown, hC, hN, hn, hsf, hE, hWm, b1, b2, b3, b4, b5, b6⟩ := id W
  obtain ⟨hd, rfl⟩ := id d
  refine WP.st (fun t q => X.lookupswitchMiss W.hx (g := mkF m pc L (.int k :: S)) rfl rfl (W.hd d) hso hf ho.1 t ?_) w
  show Steps p.tables e below (T.setTop (mkF m ((pc : Int) + dflt).toNat L S)) t
  rw [ho.2]; exact q
theorem k_tsw (W : WS p l e R s m args below meth c Z a0 EL nw n0 y code maxL ret T h sf cells slots) {k : Int32} {dflt low high : Int} {offs : Array Int} {len : Nat} {off : Int} (pc1 : Nat) (d : D code pc (.tableswitch dflt low high offs) len pc') (hin : ¬ (k.toInt < low ∨ k.toInt > high)) (hf : offs[(k.toInt - low).toNat]? = some off) (ho : 0 ≤ (pc : Int) + off ∧ ((pc : Int) + off).toNat = pc1) (w : WP p e below Φ T (mkF m pc1 L S)) : WP p e below Φ T (mkF m pc L (.int k :: S)) := by
  obtain ⟨hd, rfl⟩ := id d
  exact WP.st (fun t q => XS.tswIn W.here W.hx (g := mkF m pc L (.int k :: S)) rfl (pc0 := pc) (pc' := pc1) rfl (W.hd d) rfl hin hf ho.1 ho.2 q) w
theorem k_tswO (W : WS p l e R s m args below meth c Z a0 EL nw n0 y code maxL ret T h sf cells slots) {k : Int32} {dflt low high : Int} {offs : Array Int} {len : Nat} (pc1 : Nat) (d : D code pc (.tableswitch dflt low high offs) len pc') (hin : k.toInt < low ∨ k.toInt > high) (ho : 0 ≤ (pc : Int) + dflt ∧ ((pc : Int) + dflt).toNat = pc1) (w : WP p e below Φ T (mkF m pc1 L S)) : WP p e below Φ T (mkF m pc L (.int k :: S)) := by
  obtain ⟨hd, rfl⟩ := id d
  exact WP.st (fun t q => XS.tswOut W.here W.hx (g := mkF m pc L (.int k :: S)) rfl (pc0 := pc) (pc' := pc1) rfl (W.hd d) rfl hin ho.1 ho.2 q) w

theorem k_ldcO (W : WS p l e R s m args below meth c Z a0 EL nw n0 y code maxL ret T h sf cells slots) {index : Nat} {text : String} (n c' s' : Nat) (hnw : nw = false) (dd : D code pc (.ldc index) 2 pc') (w : (Cond.stringLink y.cls index text).before a0 Z = true) (wS : ∀ a ∈ Bundle.stringAtoms, a.before a0 Z = true) (hn1 : 4 * text.toList.length ≤ n ∧ n ≤ 536870912) (hc : cells + 2 = c' ∧ c' ≤ R.cells) (hl : slots + (n + 4) = s' ∧ s' ≤ R.slots)
    (k : ∀ T' h' a, WS p l e R s m args below meth c Z a0 EL nw n0 y code maxL ret T' h' sf c' s' → Ext h h' → WP p e below Φ T' (mkF m pc' L (.ref a :: S))) : WP p e below Φ T (mkF m pc L (S)) := by
  obtain ⟨locs, X, eT, hS, hZ, hown, hC, hN, hn, hsf, hE, hWm, b1, b2, b3, b4, b5, b6⟩ := id W
  obtain ⟨rfl, hc⟩ := hc
  obtain ⟨rfl, hl⟩ := hl
  obtain ⟨a, T', h', k1, X', e', E, hS', hk', hW', hown', hC', -, st⟩ := ldcOH (EL := EL) X W.hx hZ hown w wS eT hS (Nat.le_refl _) hE hC.1 (g := mkF m pc L S) rfl (W.hd dd) hn1.1 hn1.2 hc hl
  obtain ⟨hd, rfl⟩ := dd
  refine WP.st (fun t q => st t q) (k T' h' a ⟨locs, X', e', ⟨hS'.1, fun j p u v => ⟨(hS'.2 j p u v).1, Nat.lt_of_lt_of_le (hS'.2 j p u v).2 hk'⟩⟩, hW', hown', hC.trans hC', hN, Nat.le_trans hn E.1, fun x hx => ?_, hE, fun u => by (rw [hnw] at u; cases u), b1, b2, b3, b4, b5, b6⟩ E)
  obtain ⟨g1, g2, g3⟩ := hsf x hx
  exact ⟨g1, Nat.lt_of_lt_of_le g2 E.1, hC'.safe g2 g3⟩
theorem k_ldcS (W : WS p l e R s m args below meth c Z a0 EL nw n0 y code maxL ret T h sf cells slots) {index : Nat} {text : String} (bs : List Int32) (n c' s' : Nat) (hnw : nw = false) (dd : D code pc (.ldc index) 2 pc') (w : (Cond.stringLink y.cls index text).before a0 Z = true) (wS : ∀ a ∈ Bundle.stringAtoms, a.before a0 Z = true) (hmem : (y.cls, index) ∈ EL)
    (ht : (∀ c ∈ text.toList, c.toNat < 256) ∧ text.toList.map (fun c => Value.int (Jvm.Lit.byteI c.toNat.toUInt16)) = bs.map Value.int) (hlen : bs.length < 2147483648) (hn1 : 4 * text.toList.length ≤ n ∧ n ≤ 536870912) (hc : cells + 2 = c' ∧ c' ≤ R.cells) (hl : slots + (n + 4) = s' ∧ s' ≤ R.slots)
    (k : ∀ T' h' a b, WS p l e R s m args below meth c Z a0 EL nw n0 y code maxL ret T' h' sf c' s' → Ext h h' → St Z h' a b bs → (∀ x ∈ sf, x ≠ a ∧ x ≠ b) → WP p e below Φ T' (mkF m pc' L (.ref a :: S))) : WP p e below Φ T (mkF m pc L (S)) := by
  obtain ⟨locs, X, eT, hS, hZ, hown, hC, hN, hn, hsf, hE, hWm, b1, b2, b3, b4, b5, b6⟩ := id W
  obtain ⟨rfl, hc⟩ := hc
  obtain ⟨rfl, hl⟩ := hl
  have hzz : (Int32.ofNat bs.length).toNatClampNeg = (bs.map Value.int).length := by
    rw [List.length_map]; unfold Int32.toNatClampNeg; rw [Int32.toInt_ofNat_of_lt (by simpa using hlen)]; rfl
  have hz0 : ¬ Int32.ofNat bs.length < 0 := by
    rw [Int32.lt_iff_toInt_lt, Int32.toInt_ofNat_of_lt (by simpa using hlen)]; simp
  obtain ⟨a, T', h', k1, b, kk, X', e', E, hS', hk', hW', hown', G1, G2, G3, G4, -, -, hC', -, hne, st⟩ := ldcCH (EL := EL) X W.hx hZ hown w wS eT hS (Nat.le_refl _) hE hmem hC.1 (vs := bs.map Value.int) (z := Int32.ofNat bs.length) ht hz0 hzz (g := mkF m pc L S) rfl (W.hd dd) hn1.1 hn1.2 hc hl
  obtain ⟨hd, rfl⟩ := dd
  have hsf' : ∀ x ∈ sf, n0 ≤ x ∧ x < h'.size ∧ Safe Z EL T'.vm h' x := fun x hx => by
    obtain ⟨g1, g2, g3⟩ := hsf x hx
    exact ⟨g1, Nat.lt_of_lt_of_le g2 E.1, hC'.safe g2 g3⟩
  exact WP.st (fun t q => st t q) (k T' h' a b ⟨locs, X', e', ⟨hS'.1, fun j p u v => ⟨(hS'.2 j p u v).1, Nat.lt_of_lt_of_le (hS'.2 j p u v).2 hk'⟩⟩, hW', hown', hC.trans hC', hN, Nat.le_trans hn E.1, hsf', hE, fun u => by (rw [hnw] at u; cases u), b1, b2, b3, b4, b5, b6⟩ E ⟨G1, G2, G3, Av.of_arv G4 hzz⟩ (fun x hx => hne x (hsf' x hx).2.2))
end Steps

/-! ## calls by contract -/
section Calls
variable {p : Program} {l : Launch} {e : Env} {R : Room} {s : State} {m : MethodId} {args : Array Value} {below : List Frame} {meth : Method} {c : Code} {Z : State} {EL : List (String × Nat)} {nw : Bool} {n0 : Nat} {y : MethodName} {code : ByteArray} {maxL : Nat} {ret : Option FieldType} {T : State} {h : Heap} {sf : List Addr} {cells slots : Nat} {Φ : Outcome → State → Prop} {a0 : Array Value} {pc pc' : Nat} {L : Array Slot} {S : List Value}
theorem backCt {z : MethodName} {bytes : ByteArray} {mL : Nat} {rt : Option FieldType} {rm : Room} {as' : Array Value} {sfc : List Addr} {Q : Option Value → Heap → List Addr → Prop} {len Wd : Nat} {vm0 : Vm}
    (hM : Ct l Z a0 EL nw z bytes mL rt rm as' h sfc n0 Q) (hZ : Z.Warmed39 vm0) (wc : (Cond.code z bytes mL rt).before a0 Z = true) (wz : (Cond.initialized z.cls).before a0 Z = true) (hf : rm.frames + 1 ≤ R.frames) (hl : Wd + (mL + 11) + rm.locals ≤ R.locals) (hE : EW Z a0 EL) (hn : n0 ≤ h.size) (H : CHv Z EL vm0 h) (hsf : ∀ x ∈ sfc, n0 ≤ x ∧ x < h.size ∧ Safe Z EL vm0 h x) :
    BackS l R p e below (s.setVm vm0) args z len Wd (fun A a => a = as' ∧ A.U.heap = h ∧ A.cells + rm.cells ≤ R.cells ∧ A.slots + rm.slots ≤ R.slots)
      (fun A _ v B => ∃ L so, Q v B.U.heap so ∧ Fr n0 L ∧ B.locs = A.locs ++ L ∧ B.cells = A.cells + rm.cells ∧ B.slots = A.slots + rm.slots ∧ CHr Z EL vm0 h B.U.vm B.U.heap ∧ (nw = true → (s.setVm vm0).WarmedH B.U.vm) ∧ ∀ x ∈ so, n0 ≤ x ∧ x < B.U.heap.size ∧ Safe Z EL B.U.vm B.U.heap x) := by
  refine BackS.of_freeW (bytes := bytes) (maxL := mL) (ret := rt) (E := fun _ first o t L k n => k = rm.cells ∧ n = rm.slots ∧ ∃ v so, o = .returned v ∧ Q v t.heap so ∧ Fr n0 L ∧ CHr Z EL first.vm first.heap t.vm t.heap ∧ (nw = true → first.WarmedH t.vm) ∧ ∀ x ∈ so, n0 ≤ x ∧ x < t.heap.size ∧ Safe Z EL t.vm t.heap x) (hM []) hf hl ?_ ?_ (fun _ _ _ _ _ _ _ _ _ => trivial) ?_ ?_
  · intro m meth c A a Y hp
    have hU : Z.Warmed39 A.U.vm := wtrans (s := s.setVm vm0) hZ Y.warmed
    exact ⟨by show (Cond.and _ .tt).before a A.U = true; rw [Cond.before_and, mv hU wc]; rfl, mv hU wc, mv hU wz, hp.2.2.1, hp.2.2.2⟩
  · intro m meth c A a g mk Y hp
    have C := CHv.at Y hZ hE H
    refine ⟨hp.1, wtrans (s := s.setVm vm0) hZ Y.warmed, hp.2.1, C.1, hn, hE, fun x hx => ?_⟩
    obtain ⟨q1, q2, q3⟩ := hsf x hx
    exact ⟨q1, q2, C.safe q2 q3⟩
  · rintro a first o t ⟨v, L, so, q1, q2, q3, q4, q5, qw, q6⟩
    exact ⟨L, _, _, q6, rfl, rfl, v, so, q1, q2, q3, q4, qw, q5⟩
  · rintro m meth c A a g mk v t L k n Y hp - - ⟨rfl, rfl, v', so, q1, q2, q3, q4, qw, q5⟩
    cases q1
    refine ⟨L, so, q2, q3, rfl, rfl, rfl, (CHv.at Y hZ hE H).trans ?_, fun u => State.WarmedH.trans Y.warmed (qw u), q5⟩
    rw [← hp.2.1]; exact q4

theorem k_callS (W : WS p l e R s m args below meth c Z a0 EL nw n0 y code maxL ret T h sf cells slots) {z : MethodName} {bytes : ByteArray} {mL : Nat} {rt : Option FieldType} {rm : Room} {sfc : List Addr} {Q : Option Value → Heap → List Addr → Prop} (Wd c' s' : Nat) {argsL rest : List Value} {index : Nat} (dd : D code pc (.invokestatic index) 3 pc') (w1 : (Cond.methodLink y.cls index z).before a0 Z = true) (w2 : (Cond.static z).before a0 Z = true) (hy : z.cls ≠ "java/lang/invoke/MethodHandle" ∧ z.cls ≠ "java/lang/invoke/VarHandle") (hlen : ∀ sig, parseMethodDescriptor z.desc = some sig → argsL.length = sig.parameters.length) (hC : Ct l Z a0 EL nw z bytes mL rt rm argsL.toArray h sfc n0 Q) (w4 : (Cond.code z bytes mL rt).before a0 Z = true) (w3 : (Cond.initialized z.cls).before a0 Z = true) (hsfc : ∀ x ∈ sfc, x ∈ sf) (hL : L.size = maxL) (hW : catS rest ≤ Wd) (hf : rm.frames + 1 ≤ R.frames) (hl : Wd + (mL + 11) + rm.locals ≤ R.locals) (hc : cells + rm.cells = c' ∧ c' ≤ R.cells) (hs : slots + rm.slots = s' ∧ s' ≤ R.slots) (hst : S = argsL.reverse ++ rest) (hnv : ∀ h so, ¬ Q none h so)
    (k : ∀ T' h' (v : Value) so, WS p l e R s m args below meth c Z a0 EL nw n0 y code maxL ret T' h' sf c' s' → Q (some v) h' so → WP p e below Φ T' (mkF m pc' L (v :: rest))) : WP p e below Φ T (mkF m pc L S) := by
  obtain ⟨locs, X, eT, hS, hZ, hown, hC0, hN, hn, hsf, hE, hWm, b1, b2, b3, b4, b5, b6⟩ := id W
  obtain ⟨rfl, hc⟩ := hc
  obtain ⟨rfl, hs⟩ := hs
  have hB := backCt (R := R) (p := p) (e := e) (below := below) (s := s) (args := args) (len := 3) (Wd := Wd) hC hZ w4 w3 hf hl hE hn hC0.1 (fun x hx => hsf x (hsfc x hx))
  obtain ⟨v, vm₁, ⟨U', L', c1, s1⟩, -, X', hS', hg, hpost, st⟩ := callSS X W.hx hown (mvT (s := s.setVm T.vm) hZ w1) (mvT (s := s.setVm T.vm) hZ w2) (mvT (s := s.setVm T.vm) hZ w3) (mvT (s := s.setVm T.vm) hZ w4) hy hB (g := mkF m pc L S) rfl (hL.trans b5.symm) (argsL := argsL) (rest := rest) hlen hst (by show 2 * 0 + _ ≤ _; rw [Nat.mul_zero, Nat.zero_add]; exact hW) (W.hd dd) (fun vm₁ _ => ⟨rfl, eT, hc, hs⟩)
  obtain ⟨L1, so, q1, q2, q3, q4, q5, q6, qw, q7⟩ := hpost
  dsimp only [Pt.U, Pt.locs, Pt.cells, Pt.slots] at X' hS' hg q1 q2 q3 q4 q5 q6 qw q7 st
  subst q3 q4 q5
  obtain ⟨hd, rfl⟩ := dd
  have WW : WS p l e R s m args below meth c Z a0 EL nw n0 y code maxL ret U' U'.heap (so ++ sf) (cells + rm.cells) (slots + rm.slots) := by
    refine ⟨_, X', rfl, hS.trans hS' (by rw [← eT]; exact hg), State.Warmed39.trans (t := s.setVm T.vm) hZ hS'.1, by rw [hS'.1.alike.findClass]; exact hown, hC0.trans q6, hN.app q2, Nat.le_trans hn (by rw [← eT]; exact hg), fun x hx => ?_, hE, fun u => State.WarmedH.trans (t := s.setVm T.vm) (hWm u) (qw u), b1, b2, b3, b4, b5, b6⟩
    rcases List.mem_append.mp hx with u | u
    · exact q7 x u
    · obtain ⟨g1, g2, g3⟩ := hsf x u
      exact ⟨g1, Nat.lt_of_lt_of_le g2 (by rw [← eT]; exact hg), q6.safe g2 g3⟩
  cases v with
  | none => exact absurd q1 (hnv _ _)
  | some v =>
  refine WP.steps st (k _ _ v so (WS.mono (sf' := sf) WW (Nat.le_refl _) (Nat.le_refl _) (fun x hx => List.mem_append_right _ hx)) q1)

theorem k_callS0 (W : WS p l e R s m args below meth c Z a0 EL nw n0 y code maxL ret T h sf cells slots) {z : MethodName} {bytes : ByteArray} {mL : Nat} {rt : Option FieldType} {rm : Room} {sfc : List Addr} {Q : Option Value → Heap → List Addr → Prop} (Wd c' s' : Nat) {argsL rest : List Value} {index : Nat} (dd : D code pc (.invokestatic index) 3 pc') (w1 : (Cond.methodLink y.cls index z).before a0 Z = true) (w2 : (Cond.static z).before a0 Z = true) (hy : z.cls ≠ "java/lang/invoke/MethodHandle" ∧ z.cls ≠ "java/lang/invoke/VarHandle") (hlen : ∀ sig, parseMethodDescriptor z.desc = some sig → argsL.length = sig.parameters.length) (hC : Ct l Z a0 EL nw z bytes mL rt rm argsL.toArray h sfc n0 Q) (w4 : (Cond.code z bytes mL rt).before a0 Z = true) (w3 : (Cond.initialized z.cls).before a0 Z = true) (hsfc : ∀ x ∈ sfc, x ∈ sf) (hL : L.size = maxL) (hW : catS rest ≤ Wd) (hf : rm.frames + 1 ≤ R.frames) (hl : Wd + (mL + 11) + rm.locals ≤ R.locals) (hc : cells + rm.cells = c' ∧ c' ≤ R.cells) (hs : slots + rm.slots = s' ∧ s' ≤ R.slots) (hst : S = argsL.reverse ++ rest) (hnv : ∀ v h so, ¬ Q (some v) h so)
    (k : ∀ T' h'  so, WS p l e R s m args below meth c Z a0 EL nw n0 y code maxL ret T' h' sf c' s' → Q none h' so → WP p e below Φ T' (mkF m pc' L rest)) : WP p e below Φ T (mkF m pc L S) := by
  obtain ⟨locs, X, eT, hS, hZ, hown, hC0, hN, hn, hsf, hE, hWm, b1, b2, b3, b4, b5, b6⟩ := id W
  obtain ⟨rfl, hc⟩ := hc
  obtain ⟨rfl, hs⟩ := hs
  have hB := backCt (R := R) (p := p) (e := e) (below := below) (s := s) (args := args) (len := 3) (Wd := Wd) hC hZ w4 w3 hf hl hE hn hC0.1 (fun x hx => hsf x (hsfc x hx))
  obtain ⟨v, vm₁, ⟨U', L', c1, s1⟩, -, X', hS', hg, hpost, st⟩ := callSS X W.hx hown (mvT (s := s.setVm T.vm) hZ w1) (mvT (s := s.setVm T.vm) hZ w2) (mvT (s := s.setVm T.vm) hZ w3) (mvT (s := s.setVm T.vm) hZ w4) hy hB (g := mkF m pc L S) rfl (hL.trans b5.symm) (argsL := argsL) (rest := rest) hlen hst (by show 2 * 0 + _ ≤ _; rw [Nat.mul_zero, Nat.zero_add]; exact hW) (W.hd dd) (fun vm₁ _ => ⟨rfl, eT, hc, hs⟩)
  obtain ⟨L1, so, q1, q2, q3, q4, q5, q6, qw, q7⟩ := hpost
  dsimp only [Pt.U, Pt.locs, Pt.cells, Pt.slots] at X' hS' hg q1 q2 q3 q4 q5 q6 qw q7 st
  subst q3 q4 q5
  obtain ⟨hd, rfl⟩ := dd
  have WW : WS p l e R s m args below meth c Z a0 EL nw n0 y code maxL ret U' U'.heap (so ++ sf) (cells + rm.cells) (slots + rm.slots) := by
    refine ⟨_, X', rfl, hS.trans hS' (by rw [← eT]; exact hg), State.Warmed39.trans (t := s.setVm T.vm) hZ hS'.1, by rw [hS'.1.alike.findClass]; exact hown, hC0.trans q6, hN.app q2, Nat.le_trans hn (by rw [← eT]; exact hg), fun x hx => ?_, hE, fun u => State.WarmedH.trans (t := s.setVm T.vm) (hWm u) (qw u), b1, b2, b3, b4, b5, b6⟩
    rcases List.mem_append.mp hx with u | u
    · exact q7 x u
    · obtain ⟨g1, g2, g3⟩ := hsf x u
      exact ⟨g1, Nat.lt_of_lt_of_le g2 (by rw [← eT]; exact hg), q6.safe g2 g3⟩
  cases v with
  | some v => exact absurd q1 (hnv _ _ _)
  | none =>
  refine WP.steps st (k _ _ so (WS.mono (sf' := sf) WW (Nat.le_refl _) (Nat.le_refl _) (fun x hx => List.mem_append_right _ hx)) q1)

theorem k_callSn (W : WS p l e R s m args below meth c Z a0 EL nw n0 y code maxL ret T h sf cells slots) {z : MethodName} {bytes : ByteArray} {mL : Nat} {rt : Option FieldType} {rm : Room} {sfc : List Addr} {Q : Option Value → Heap → List Addr → Prop} (Wd c' s' : Nat) {argsL rest : List Value} {index : Nat} (dd : D code pc (.invokestatic index) 3 pc') (w1 : (Cond.methodLink y.cls index z).before a0 Z = true) (w2 : (Cond.static z).before a0 Z = true) (hy : z.cls ≠ "java/lang/invoke/MethodHandle" ∧ z.cls ≠ "java/lang/invoke/VarHandle") (hlen : ∀ sig, parseMethodDescriptor z.desc = some sig → argsL.length = sig.parameters.length) (hC : Ct l Z a0 EL nw z bytes mL rt rm argsL.toArray h sfc n0 Q) (w4 : (Cond.code z bytes mL rt).before a0 Z = true) (w3 : (Cond.initialized z.cls).before a0 Z = true) (hsfc : ∀ x ∈ sfc, x ∈ sf) (hL : L.size = maxL) (hW : catS rest ≤ Wd) (hf : rm.frames + 1 ≤ R.frames) (hl : Wd + (mL + 11) + rm.locals ≤ R.locals) (hc : cells + rm.cells = c' ∧ c' ≤ R.cells) (hs : slots + rm.slots = s' ∧ s' ≤ R.slots) (hst : S = argsL.reverse ++ rest) (hnv : ∀ h so, ¬ Q none h so)
    (k : ∀ T' h' (v : Value) so, WS p l e R s m args below meth c Z a0 EL nw n0 y code maxL ret T' h' (so ++ sf) c' s' → Q (some v) h' so → WP p e below Φ T' (mkF m pc' L (v :: rest))) : WP p e below Φ T (mkF m pc L S) := by
  obtain ⟨locs, X, eT, hS, hZ, hown, hC0, hN, hn, hsf, hE, hWm, b1, b2, b3, b4, b5, b6⟩ := id W
  obtain ⟨rfl, hc⟩ := hc
  obtain ⟨rfl, hs⟩ := hs
  have hB := backCt (R := R) (p := p) (e := e) (below := below) (s := s) (args := args) (len := 3) (Wd := Wd) hC hZ w4 w3 hf hl hE hn hC0.1 (fun x hx => hsf x (hsfc x hx))
  obtain ⟨v, vm₁, ⟨U', L', c1, s1⟩, -, X', hS', hg, hpost, st⟩ := callSS X W.hx hown (mvT (s := s.setVm T.vm) hZ w1) (mvT (s := s.setVm T.vm) hZ w2) (mvT (s := s.setVm T.vm) hZ w3) (mvT (s := s.setVm T.vm) hZ w4) hy hB (g := mkF m pc L S) rfl (hL.trans b5.symm) (argsL := argsL) (rest := rest) hlen hst (by show 2 * 0 + _ ≤ _; rw [Nat.mul_zero, Nat.zero_add]; exact hW) (W.hd dd) (fun vm₁ _ => ⟨rfl, eT, hc, hs⟩)
  obtain ⟨L1, so, q1, q2, q3, q4, q5, q6, qw, q7⟩ := hpost
  dsimp only [Pt.U, Pt.locs, Pt.cells, Pt.slots] at X' hS' hg q1 q2 q3 q4 q5 q6 qw q7 st
  subst q3 q4 q5
  obtain ⟨hd, rfl⟩ := dd
  have WW : WS p l e R s m args below meth c Z a0 EL nw n0 y code maxL ret U' U'.heap (so ++ sf) (cells + rm.cells) (slots + rm.slots) := by
    refine ⟨_, X', rfl, hS.trans hS' (by rw [← eT]; exact hg), State.Warmed39.trans (t := s.setVm T.vm) hZ hS'.1, by rw [hS'.1.alike.findClass]; exact hown, hC0.trans q6, hN.app q2, Nat.le_trans hn (by rw [← eT]; exact hg), fun x hx => ?_, hE, fun u => State.WarmedH.trans (t := s.setVm T.vm) (hWm u) (qw u), b1, b2, b3, b4, b5, b6⟩
    rcases List.mem_append.mp hx with u | u
    · exact q7 x u
    · obtain ⟨g1, g2, g3⟩ := hsf x u
      exact ⟨g1, Nat.lt_of_lt_of_le g2 (by rw [← eT]; exact hg), q6.safe g2 g3⟩
  cases v with
  | none => exact absurd q1 (hnv _ _)
  | some v =>
  refine WP.steps st (k _ _ v so WW q1)

theorem k_callSz (W : WS p l e R s m args below meth c Z a0 EL nw n0 y code maxL ret T h sf cells slots) {z : MethodName} {bytes : ByteArray} {mL : Nat} {rt : Option FieldType} {rm : Room} {sfc : List Addr} {Q : Option Value → Heap → List Addr → Prop} (Wd c' s' : Nat) {argsL rest : List Value} {index : Nat} (dd : D code pc (.invokestatic index) 3 pc') (w1 : (Cond.methodLink y.cls index z).before a0 Z = true) (w2 : (Cond.static z).before a0 Z = true) (hy : z.cls ≠ "java/lang/invoke/MethodHandle" ∧ z.cls ≠ "java/lang/invoke/VarHandle") (hlen : ∀ sig, parseMethodDescriptor z.desc = some sig → argsL.length = sig.parameters.length) (hC : Ct l Z a0 EL nw z bytes mL rt rm argsL.toArray h sfc n0 Q) (w4 : (Cond.code z bytes mL rt).before a0 Z = true) (w3 : (Cond.initialized z.cls).before a0 Z = true) (hsfc : ∀ x ∈ sfc, x ∈ sf) (hL : L.size = maxL) (hW : catS rest ≤ Wd) (hf : rm.frames + 1 ≤ R.frames) (hl : Wd + (mL + 11) + rm.locals ≤ R.locals) (hc : cells + rm.cells = c' ∧ c' ≤ R.cells) (hs : slots + rm.slots = s' ∧ s' ≤ R.slots) (hst : S = argsL.reverse ++ rest) (hnv : ∀ v h so, ¬ Q (some v) h so)
    (k : ∀ T' h'  so, WS p l e R s m args below meth c Z a0 EL nw n0 y code maxL ret T' h' (so ++ sf) c' s' → Q none h' so → WP p e below Φ T' (mkF m pc' L rest)) : WP p e below Φ T (mkF m pc L S) := by
  obtain ⟨locs, X, eT, hS, hZ, hown, hC0, hN, hn, hsf, hE, hWm, b1, b2, b3, b4, b5, b6⟩ := id W
  obtain ⟨rfl, hc⟩ := hc
  obtain ⟨rfl, hs⟩ := hs
  have hB := backCt (R := R) (p := p) (e := e) (below := below) (s := s) (args := args) (len := 3) (Wd := Wd) hC hZ w4 w3 hf hl hE hn hC0.1 (fun x hx => hsf x (hsfc x hx))
  obtain ⟨v, vm₁, ⟨U', L', c1, s1⟩, -, X', hS', hg, hpost, st⟩ := callSS X W.hx hown (mvT (s := s.setVm T.vm) hZ w1) (mvT (s := s.setVm T.vm) hZ w2) (mvT (s := s.setVm T.vm) hZ w3) (mvT (s := s.setVm T.vm) hZ w4) hy hB (g := mkF m pc L S) rfl (hL.trans b5.symm) (argsL := argsL) (rest := rest) hlen hst (by show 2 * 0 + _ ≤ _; rw [Nat.mul_zero, Nat.zero_add]; exact hW) (W.hd dd) (fun vm₁ _ => ⟨rfl, eT, hc, hs⟩)
  obtain ⟨L1, so, q1, q2, q3, q4, q5, q6, qw, q7⟩ := hpost
  dsimp only [Pt.U, Pt.locs, Pt.cells, Pt.slots] at X' hS' hg q1 q2 q3 q4 q5 q6 qw q7 st
  subst q3 q4 q5
  obtain ⟨hd, rfl⟩ := dd
  have WW : WS p l e R s m args below meth c Z a0 EL nw n0 y code maxL ret U' U'.heap (so ++ sf) (cells + rm.cells) (slots + rm.slots) := by
    refine ⟨_, X', rfl, hS.trans hS' (by rw [← eT]; exact hg), State.Warmed39.trans (t := s.setVm T.vm) hZ hS'.1, by rw [hS'.1.alike.findClass]; exact hown, hC0.trans q6, hN.app q2, Nat.le_trans hn (by rw [← eT]; exact hg), fun x hx => ?_, hE, fun u => State.WarmedH.trans (t := s.setVm T.vm) (hWm u) (qw u), b1, b2, b3, b4, b5, b6⟩
    rcases List.mem_append.mp hx with u | u
    · exact q7 x u
    · obtain ⟨g1, g2, g3⟩ := hsf x u
      exact ⟨g1, Nat.lt_of_lt_of_le g2 (by rw [← eT]; exact hg), q6.safe g2 g3⟩
  cases v with
  | some v => exact absurd q1 (hnv _ _ _)
  | none =>
  refine WP.steps st (k _ _ so WW q1)

theorem k_callI0 (W : WS p l e R s m args below meth c Z a0 EL nw n0 y code maxL ret T h sf cells slots) {z : MethodName} {bytes : ByteArray} {mL : Nat} {rt : Option FieldType} {rm : Room} {sfc : List Addr} {Q : Option Value → Heap → List Addr → Prop} (Wd c' s' : Nat) {argsL rest : List Value} {index : Nat} {a : Addr} (dd : D code pc (.invokespecial index) 3 pc') (hrt : rt = none) (hz : z.name = "<init>") (w1 : (Cond.methodLink y.cls index z).before a0 Z = true) (w2 : (Cond.instanceMethod z).before a0 Z = true) (hy : z.cls ≠ "java/lang/invoke/MethodHandle" ∧ z.cls ≠ "java/lang/invoke/VarHandle") (hlen : ∀ sig, parseMethodDescriptor z.desc = some sig → argsL.length = sig.parameters.length) (hC : Ct l Z a0 EL nw z bytes mL rt rm (.ref a :: argsL).toArray h sfc n0 Q) (w4 : (Cond.code z bytes mL rt).before a0 Z = true) (w3 : (Cond.initialized z.cls).before a0 Z = true) (hsfc : ∀ x ∈ sfc, x ∈ sf) (hL : L.size = maxL) (hW : catS rest ≤ Wd) (hf : rm.frames + 1 ≤ R.frames) (hl : Wd + (mL + 11) + rm.locals ≤ R.locals) (hc : cells + rm.cells = c' ∧ c' ≤ R.cells) (hs : slots + rm.slots = s' ∧ s' ≤ R.slots) (hst : S = argsL.reverse ++ .ref a :: rest) (hnv : ∀ v h so, ¬ Q (some v) h so)
    (k : ∀ T' h'  so, WS p l e R s m args below meth c Z a0 EL nw n0 y code maxL ret T' h' sf c' s' → Q none h' so → WP p e below Φ T' (mkF m pc' L rest)) : WP p e below Φ T (mkF m pc L S) := by
  obtain ⟨locs, X, eT, hS, hZ, hown, hC0, hN, hn, hsf, hE, hWm, b1, b2, b3, b4, b5, b6⟩ := id W
  obtain ⟨rfl, hc⟩ := hc
  obtain ⟨rfl, hs⟩ := hs
  have hB := backCt (R := R) (p := p) (e := e) (below := below) (s := s) (args := args) (len := 3) (Wd := Wd) hC hZ w4 w3 hf hl hE hn hC0.1 (fun x hx => hsf x (hsfc x hx))
  subst hrt
  obtain ⟨v, vm₁, ⟨U', L', c1, s1⟩, -, X', hS', hg, hpost, st⟩ := X.specialBackS W.hx (y := z) hz hown (mvT (s := s.setVm T.vm) hZ w1) (mvT (s := s.setVm T.vm) hZ w2) (mvT (s := s.setVm T.vm) hZ w4) hy hB (g := mkF m pc L S) rfl (hL.trans b5.symm) (Steps.refl _) (a := a) (argsL := argsL) (rest := rest) hlen hst (by show 2 * 0 + _ ≤ _; rw [Nat.mul_zero, Nat.zero_add]; exact hW) (W.hd dd) (fun vm₁ _ => ⟨rfl, eT, hc, hs⟩)
  obtain ⟨L1, so, q1, q2, q3, q4, q5, q6, qw, q7⟩ := hpost
  dsimp only [Pt.U, Pt.locs, Pt.cells, Pt.slots] at X' hS' hg q1 q2 q3 q4 q5 q6 qw q7 st
  subst q3 q4 q5
  obtain ⟨hd, rfl⟩ := dd
  have WW : WS p l e R s m args below meth c Z a0 EL nw n0 y code maxL ret U' U'.heap (so ++ sf) (cells + rm.cells) (slots + rm.slots) := by
    refine ⟨_, X', rfl, hS.trans hS' (by rw [← eT]; exact hg), State.Warmed39.trans (t := s.setVm T.vm) hZ hS'.1, by rw [hS'.1.alike.findClass]; exact hown, hC0.trans q6, hN.app q2, Nat.le_trans hn (by rw [← eT]; exact hg), fun x hx => ?_, hE, fun u => State.WarmedH.trans (t := s.setVm T.vm) (hWm u) (qw u), b1, b2, b3, b4, b5, b6⟩
    rcases List.mem_append.mp hx with u | u
    · exact q7 x u
    · obtain ⟨g1, g2, g3⟩ := hsf x u
      exact ⟨g1, Nat.lt_of_lt_of_le g2 (by rw [← eT]; exact hg), q6.safe g2 g3⟩
  cases v with
  | some v => exact absurd q1 (hnv _ _ _)
  | none =>
  refine WP.steps st (k _ _ so (WS.mono (sf' := sf) WW (Nat.le_refl _) (Nat.le_refl _) (fun x hx => List.mem_append_right _ hx)) q1)

theorem k_callIz (W : WS p l e R s m args below meth c Z a0 EL nw n0 y code maxL ret T h sf cells slots) {z : MethodName} {bytes : ByteArray} {mL : Nat} {rt : Option FieldType} {rm : Room} {sfc : List Addr} {Q : Option Value → Heap → List Addr → Prop} (Wd c' s' : Nat) {argsL rest : List Value} {index : Nat} {a : Addr} (dd : D code pc (.invokespecial index) 3 pc') (hrt : rt = none) (hz : z.name = "<init>") (w1 : (Cond.methodLink y.cls index z).before a0 Z = true) (w2 : (Cond.instanceMethod z).before a0 Z = true) (hy : z.cls ≠ "java/lang/invoke/MethodHandle" ∧ z.cls ≠ "java/lang/invoke/VarHandle") (hlen : ∀ sig, parseMethodDescriptor z.desc = some sig → argsL.length = sig.parameters.length) (hC : Ct l Z a0 EL nw z bytes mL rt rm (.ref a :: argsL).toArray h sfc n0 Q) (w4 : (Cond.code z bytes mL rt).before a0 Z = true) (w3 : (Cond.initialized z.cls).before a0 Z = true) (hsfc : ∀ x ∈ sfc, x ∈ sf) (hL : L.size = maxL) (hW : catS rest ≤ Wd) (hf : rm.frames + 1 ≤ R.frames) (hl : Wd + (mL + 11) + rm.locals ≤ R.locals) (hc : cells + rm.cells = c' ∧ c' ≤ R.cells) (hs : slots + rm.slots = s' ∧ s' ≤ R.slots) (hst : S = argsL.reverse ++ .ref a :: rest) (hnv : ∀ v h so, ¬ Q (some v) h so)
    (k : ∀ T' h'  so, WS p l e R s m args below meth c Z a0 EL nw n0 y code maxL ret T' h' (so ++ sf) c' s' → Q none h' so → WP p e below Φ T' (mkF m pc' L rest)) : WP p e below Φ T (mkF m pc L S) := by
  obtain ⟨locs, X, eT, hS, hZ, hown, hC0, hN, hn, hsf, hE, hWm, b1, b2, b3, b4, b5, b6⟩ := id W
  obtain ⟨rfl, hc⟩ := hc
  obtain ⟨rfl, hs⟩ := hs
  have hB := backCt (R := R) (p := p) (e := e) (below := below) (s := s) (args := args) (len := 3) (Wd := Wd) hC hZ w4 w3 hf hl hE hn hC0.1 (fun x hx => hsf x (hsfc x hx))
  subst hrt
  obtain ⟨v, vm₁, ⟨U', L', c1, s1⟩, -, X', hS', hg, hpost, st⟩ := X.specialBackS W.hx (y := z) hz hown (mvT (s := s.setVm T.vm) hZ w1) (mvT (s := s.setVm T.vm) hZ w2) (mvT (s := s.setVm T.vm) hZ w4) hy hB (g := mkF m pc L S) rfl (hL.trans b5.symm) (Steps.refl _) (a := a) (argsL := argsL) (rest := rest) hlen hst (by show 2 * 0 + _ ≤ _; rw [Nat.mul_zero, Nat.zero_add]; exact hW) (W.hd dd) (fun vm₁ _ => ⟨rfl, eT, hc, hs⟩)
  obtain ⟨L1, so, q1, q2, q3, q4, q5, q6, qw, q7⟩ := hpost
  dsimp only [Pt.U, Pt.locs, Pt.cells, Pt.slots] at X' hS' hg q1 q2 q3 q4 q5 q6 qw q7 st
  subst q3 q4 q5
  obtain ⟨hd, rfl⟩ := dd
  have WW : WS p l e R s m args below meth c Z a0 EL nw n0 y code maxL ret U' U'.heap (so ++ sf) (cells + rm.cells) (slots + rm.slots) := by
    refine ⟨_, X', rfl, hS.trans hS' (by rw [← eT]; exact hg), State.Warmed39.trans (t := s.setVm T.vm) hZ hS'.1, by rw [hS'.1.alike.findClass]; exact hown, hC0.trans q6, hN.app q2, Nat.le_trans hn (by rw [← eT]; exact hg), fun x hx => ?_, hE, fun u => State.WarmedH.trans (t := s.setVm T.vm) (hWm u) (qw u), b1, b2, b3, b4, b5, b6⟩
    rcases List.mem_append.mp hx with u | u
    · exact q7 x u
    · obtain ⟨g1, g2, g3⟩ := hsf x u
      exact ⟨g1, Nat.lt_of_lt_of_le g2 (by rw [← eT]; exact hg), q6.safe g2 g3⟩
  cases v with
  | some v => exact absurd q1 (hnv _ _ _)
  | none =>
  refine WP.steps st (k _ _ so WW q1)

theorem k_callV (W : WS p l e R s m args below meth c Z a0 EL nw n0 y code maxL ret T h sf cells slots) {z : MethodName} {bytes : ByteArray} {mL : Nat} {rt : Option FieldType} {rm : Room} {sfc : List Addr} {Q : Option Value → Heap → List Addr → Prop} (Wd c' s' : Nat) {argsL rest : List Value} {index : Nat} {a : Addr} {C : String} {z0 : MethodName} (dd : D code pc (.invokevirtual index) 3 pc') (w1 : (Cond.methodLink y.cls index z0).before a0 Z = true) (w2 : (Cond.declares z0).before a0 Z = true) (nf : ∀ s' : State, Z.Warmed39 s'.vm → NotFace s' z0) (w5 : (Cond.selects C z0 z).before a0 Z = true) (w6 : (Cond.instanceMethod z).before a0 Z = true) (hy : z0.cls ≠ "java/lang/invoke/MethodHandle" ∧ z0.cls ≠ "java/lang/invoke/VarHandle") (hlen : ∀ sig, parseMethodDescriptor z0.desc = some sig → argsL.length = sig.parameters.length) (E : Exa Z h a C) (hC : Ct l Z a0 EL nw z bytes mL rt rm (.ref a :: argsL).toArray h sfc n0 Q) (w4 : (Cond.code z bytes mL rt).before a0 Z = true) (w3 : (Cond.initialized z.cls).before a0 Z = true) (hsfc : ∀ x ∈ sfc, x ∈ sf) (hL : L.size = maxL) (hW : catS rest ≤ Wd) (hf : rm.frames + 1 ≤ R.frames) (hl : Wd + (mL + 11) + rm.locals ≤ R.locals) (hc : cells + rm.cells = c' ∧ c' ≤ R.cells) (hs : slots + rm.slots = s' ∧ s' ≤ R.slots) (hst : S = argsL.reverse ++ .ref a :: rest) (hnv : ∀ h so, ¬ Q none h so)
    (k : ∀ T' h' (v : Value) so, WS p l e R s m args below meth c Z a0 EL nw n0 y code maxL ret T' h' sf c' s' → Q (some v) h' so → WP p e below Φ T' (mkF m pc' L (v :: rest))) : WP p e below Φ T (mkF m pc L S) := by
  obtain ⟨locs, X, eT, hS, hZ, hown, hC0, hN, hn, hsf, hE, hWm, b1, b2, b3, b4, b5, b6⟩ := id W
  obtain ⟨rfl, hc⟩ := hc
  obtain ⟨rfl, hs⟩ := hs
  have hB := backCt (R := R) (p := p) (e := e) (below := below) (s := s) (args := args) (len := 3) (Wd := Wd) hC hZ w4 w3 hf hl hE hn hC0.1 (fun x hx => hsf x (hsfc x hx))
  obtain ⟨cq, kq, qa, qb, qc⟩ := isOf (s := s.setVm T.vm) hZ eT E
  obtain ⟨v, vm₁, ⟨U', L', c1, s1⟩, -, X', hS', hg, hpost, st⟩ := X.virtualBackS W.hx (y := z0) (z := z) hown (mvT (s := s.setVm T.vm) hZ w1) (mvT (s := s.setVm T.vm) hZ w2) (nf (s.setVm T.vm) hZ) (mvT (s := s.setVm T.vm) hZ w5) (mvT (s := s.setVm T.vm) hZ w6) hy hB qa qc (g := mkF m pc L S) rfl (hL.trans b5.symm) (Steps.refl _) (argsL := argsL) (rest := rest) hlen hst (by show 2 * 0 + _ ≤ _; rw [Nat.mul_zero, Nat.zero_add]; exact hW) (W.hd dd) (fun vm₁ _ => ⟨rfl, eT, hc, hs⟩)
  obtain ⟨L1, so, q1, q2, q3, q4, q5, q6, qw, q7⟩ := hpost
  dsimp only [Pt.U, Pt.locs, Pt.cells, Pt.slots] at X' hS' hg q1 q2 q3 q4 q5 q6 qw q7 st
  subst q3 q4 q5
  obtain ⟨hd, rfl⟩ := dd
  have WW : WS p l e R s m args below meth c Z a0 EL nw n0 y code maxL ret U' U'.heap (so ++ sf) (cells + rm.cells) (slots + rm.slots) := by
    refine ⟨_, X', rfl, hS.trans hS' (by rw [← eT]; exact hg), State.Warmed39.trans (t := s.setVm T.vm) hZ hS'.1, by rw [hS'.1.alike.findClass]; exact hown, hC0.trans q6, hN.app q2, Nat.le_trans hn (by rw [← eT]; exact hg), fun x hx => ?_, hE, fun u => State.WarmedH.trans (t := s.setVm T.vm) (hWm u) (qw u), b1, b2, b3, b4, b5, b6⟩
    rcases List.mem_append.mp hx with u | u
    · exact q7 x u
    · obtain ⟨g1, g2, g3⟩ := hsf x u
      exact ⟨g1, Nat.lt_of_lt_of_le g2 (by rw [← eT]; exact hg), q6.safe g2 g3⟩
  cases v with
  | none => exact absurd q1 (hnv _ _)
  | some v =>
  refine WP.steps st (k _ _ v so (WS.mono (sf' := sf) WW (Nat.le_refl _) (Nat.le_refl _) (fun x hx => List.mem_append_right _ hx)) q1)

theorem k_callV0 (W : WS p l e R s m args below meth c Z a0 EL nw n0 y code maxL ret T h sf cells slots) {z : MethodName} {bytes : ByteArray} {mL : Nat} {rt : Option FieldType} {rm : Room} {sfc : List Addr} {Q : Option Value → Heap → List Addr → Prop} (Wd c' s' : Nat) {argsL rest : List Value} {index : Nat} {a : Addr} {C : String} {z0 : MethodName} (dd : D code pc (.invokevirtual index) 3 pc') (w1 : (Cond.methodLink y.cls index z0).before a0 Z = true) (w2 : (Cond.declares z0).before a0 Z = true) (nf : ∀ s' : State, Z.Warmed39 s'.vm → NotFace s' z0) (w5 : (Cond.selects C z0 z).before a0 Z = true) (w6 : (Cond.instanceMethod z).before a0 Z = true) (hy : z0.cls ≠ "java/lang/invoke/MethodHandle" ∧ z0.cls ≠ "java/lang/invoke/VarHandle") (hlen : ∀ sig, parseMethodDescriptor z0.desc = some sig → argsL.length = sig.parameters.length) (E : Exa Z h a C) (hC : Ct l Z a0 EL nw z bytes mL rt rm (.ref a :: argsL).toArray h sfc n0 Q) (w4 : (Cond.code z bytes mL rt).before a0 Z = true) (w3 : (Cond.initialized z.cls).before a0 Z = true) (hsfc : ∀ x ∈ sfc, x ∈ sf) (hL : L.size = maxL) (hW : catS rest ≤ Wd) (hf : rm.frames + 1 ≤ R.frames) (hl : Wd + (mL + 11) + rm.locals ≤ R.locals) (hc : cells + rm.cells = c' ∧ c' ≤ R.cells) (hs : slots + rm.slots = s' ∧ s' ≤ R.slots) (hst : S = argsL.reverse ++ .ref a :: rest) (hnv : ∀ v h so, ¬ Q (some v) h so)
    (k : ∀ T' h'  so, WS p l e R s m args below meth c Z a0 EL nw n0 y code maxL ret T' h' sf c' s' → Q none h' so → WP p e below Φ T' (mkF m pc' L rest)) : WP p e below Φ T (mkF m pc L S) := by
  obtain ⟨locs, X, eT, hS, hZ, hown, hC0, hN, hn, hsf, hE, hWm, b1, b2, b3, b4, b5, b6⟩ := id W
  obtain ⟨rfl, hc⟩ := hc
  obtain ⟨rfl, hs⟩ := hs
  have hB := backCt (R := R) (p := p) (e := e) (below := below) (s := s) (args := args) (len := 3) (Wd := Wd) hC hZ w4 w3 hf hl hE hn hC0.1 (fun x hx => hsf x (hsfc x hx))
  obtain ⟨cq, kq, qa, qb, qc⟩ := isOf (s := s.setVm T.vm) hZ eT E
  obtain ⟨v, vm₁, ⟨U', L', c1, s1⟩, -, X', hS', hg, hpost, st⟩ := X.virtualBackS W.hx (y := z0) (z := z) hown (mvT (s := s.setVm T.vm) hZ w1) (mvT (s := s.setVm T.vm) hZ w2) (nf (s.setVm T.vm) hZ) (mvT (s := s.setVm T.vm) hZ w5) (mvT (s := s.setVm T.vm) hZ w6) hy hB qa qc (g := mkF m pc L S) rfl (hL.trans b5.symm) (Steps.refl _) (argsL := argsL) (rest := rest) hlen hst (by show 2 * 0 + _ ≤ _; rw [Nat.mul_zero, Nat.zero_add]; exact hW) (W.hd dd) (fun vm₁ _ => ⟨rfl, eT, hc, hs⟩)
  obtain ⟨L1, so, q1, q2, q3, q4, q5, q6, qw, q7⟩ := hpost
  dsimp only [Pt.U, Pt.locs, Pt.cells, Pt.slots] at X' hS' hg q1 q2 q3 q4 q5 q6 qw q7 st
  subst q3 q4 q5
  obtain ⟨hd, rfl⟩ := dd
  have WW : WS p l e R s m args below meth c Z a0 EL nw n0 y code maxL ret U' U'.heap (so ++ sf) (cells + rm.cells) (slots + rm.slots) := by
    refine ⟨_, X', rfl, hS.trans hS' (by rw [← eT]; exact hg), State.Warmed39.trans (t := s.setVm T.vm) hZ hS'.1, by rw [hS'.1.alike.findClass]; exact hown, hC0.trans q6, hN.app q2, Nat.le_trans hn (by rw [← eT]; exact hg), fun x hx => ?_, hE, fun u => State.WarmedH.trans (t := s.setVm T.vm) (hWm u) (qw u), b1, b2, b3, b4, b5, b6⟩
    rcases List.mem_append.mp hx with u | u
    · exact q7 x u
    · obtain ⟨g1, g2, g3⟩ := hsf x u
      exact ⟨g1, Nat.lt_of_lt_of_le g2 (by rw [← eT]; exact hg), q6.safe g2 g3⟩
  cases v with
  | some v => exact absurd q1 (hnv _ _ _)
  | none =>
  refine WP.steps st (k _ _ so (WS.mono (sf' := sf) WW (Nat.le_refl _) (Nat.le_refl _) (fun x hx => List.mem_append_right _ hx)) q1)

theorem k_callVn (W : WS p l e R s m args below meth c Z a0 EL nw n0 y code maxL ret T h sf cells slots) {z : MethodName} {bytes : ByteArray} {mL : Nat} {rt : Option FieldType} {rm : Room} {sfc : List Addr} {Q : Option Value → Heap → List Addr → Prop} (Wd c' s' : Nat) {argsL rest : List Value} {index : Nat} {a : Addr} {C : String} {z0 : MethodName} (dd : D code pc (.invokevirtual index) 3 pc') (w1 : (Cond.methodLink y.cls index z0).before a0 Z = true) (w2 : (Cond.declares z0).before a0 Z = true) (nf : ∀ s' : State, Z.Warmed39 s'.vm → NotFace s' z0) (w5 : (Cond.selects C z0 z).before a0 Z = true) (w6 : (Cond.instanceMethod z).before a0 Z = true) (hy : z0.cls ≠ "java/lang/invoke/MethodHandle" ∧ z0.cls ≠ "java/lang/invoke/VarHandle") (hlen : ∀ sig, parseMethodDescriptor z0.desc = some sig → argsL.length = sig.parameters.length) (E : Exa Z h a C) (hC : Ct l Z a0 EL nw z bytes mL rt rm (.ref a :: argsL).toArray h sfc n0 Q) (w4 : (Cond.code z bytes mL rt).before a0 Z = true) (w3 : (Cond.initialized z.cls).before a0 Z = true) (hsfc : ∀ x ∈ sfc, x ∈ sf) (hL : L.size = maxL) (hW : catS rest ≤ Wd) (hf : rm.frames + 1 ≤ R.frames) (hl : Wd + (mL + 11) + rm.locals ≤ R.locals) (hc : cells + rm.cells = c' ∧ c' ≤ R.cells) (hs : slots + rm.slots = s' ∧ s' ≤ R.slots) (hst : S = argsL.reverse ++ .ref a :: rest) (hnv : ∀ h so, ¬ Q none h so)
    (k : ∀ T' h' (v : Value) so, WS p l e R s m args below meth c Z a0 EL nw n0 y code maxL ret T' h' (so ++ sf) c' s' → Q (some v) h' so → WP p e below Φ T' (mkF m pc' L (v :: rest))) : WP p e below Φ T (mkF m pc L S) := by
  obtain ⟨locs, X, eT, hS, hZ, hown, hC0, hN, hn, hsf, hE, hWm, b1, b2, b3, b4, b5, b6⟩ := id W
  obtain ⟨rfl, hc⟩ := hc
  obtain ⟨rfl, hs⟩ := hs
  have hB := backCt (R := R) (p := p) (e := e) (below := below) (s := s) (args := args) (len := 3) (Wd := Wd) hC hZ w4 w3 hf hl hE hn hC0.1 (fun x hx => hsf x (hsfc x hx))
  obtain ⟨cq, kq, qa, qb, qc⟩ := isOf (s := s.setVm T.vm) hZ eT E
  obtain ⟨v, vm₁, ⟨U', L', c1, s1⟩, -, X', hS', hg, hpost, st⟩ := X.virtualBackS W.hx (y := z0) (z := z) hown (mvT (s := s.setVm T.vm) hZ w1) (mvT (s := s.setVm T.vm) hZ w2) (nf (s.setVm T.vm) hZ) (mvT (s := s.setVm T.vm) hZ w5) (mvT (s := s.setVm T.vm) hZ w6) hy hB qa qc (g := mkF m pc L S) rfl (hL.trans b5.symm) (Steps.refl _) (argsL := argsL) (rest := rest) hlen hst (by show 2 * 0 + _ ≤ _; rw [Nat.mul_zero, Nat.zero_add]; exact hW) (W.hd dd) (fun vm₁ _ => ⟨rfl, eT, hc, hs⟩)
  obtain ⟨L1, so, q1, q2, q3, q4, q5, q6, qw, q7⟩ := hpost
  dsimp only [Pt.U, Pt.locs, Pt.cells, Pt.slots] at X' hS' hg q1 q2 q3 q4 q5 q6 qw q7 st
  subst q3 q4 q5
  obtain ⟨hd, rfl⟩ := dd
  have WW : WS p l e R s m args below meth c Z a0 EL nw n0 y code maxL ret U' U'.heap (so ++ sf) (cells + rm.cells) (slots + rm.slots) := by
    refine ⟨_, X', rfl, hS.trans hS' (by rw [← eT]; exact hg), State.Warmed39.trans (t := s.setVm T.vm) hZ hS'.1, by rw [hS'.1.alike.findClass]; exact hown, hC0.trans q6, hN.app q2, Nat.le_trans hn (by rw [← eT]; exact hg), fun x hx => ?_, hE, fun u => State.WarmedH.trans (t := s.setVm T.vm) (hWm u) (qw u), b1, b2, b3, b4, b5, b6⟩
    rcases List.mem_append.mp hx with u | u
    · exact q7 x u
    · obtain ⟨g1, g2, g3⟩ := hsf x u
      exact ⟨g1, Nat.lt_of_lt_of_le g2 (by rw [← eT]; exact hg), q6.safe g2 g3⟩
  cases v with
  | none => exact absurd q1 (hnv _ _)
  | some v =>
  refine WP.steps st (k _ _ v so WW q1)

theorem k_callVz (W : WS p l e R s m args below meth c Z a0 EL nw n0 y code maxL ret T h sf cells slots) {z : MethodName} {bytes : ByteArray} {mL : Nat} {rt : Option FieldType} {rm : Room} {sfc : List Addr} {Q : Option Value → Heap → List Addr → Prop} (Wd c' s' : Nat) {argsL rest : List Value} {index : Nat} {a : Addr} {C : String} {z0 : MethodName} (dd : D code pc (.invokevirtual index) 3 pc') (w1 : (Cond.methodLink y.cls index z0).before a0 Z = true) (w2 : (Cond.declares z0).before a0 Z = true) (nf : ∀ s' : State, Z.Warmed39 s'.vm → NotFace s' z0) (w5 : (Cond.selects C z0 z).before a0 Z = true) (w6 : (Cond.instanceMethod z).before a0 Z = true) (hy : z0.cls ≠ "java/lang/invoke/MethodHandle" ∧ z0.cls ≠ "java/lang/invoke/VarHandle") (hlen : ∀ sig, parseMethodDescriptor z0.desc = some sig → argsL.length = sig.parameters.length) (E : Exa Z h a C) (hC : Ct l Z a0 EL nw z bytes mL rt rm (.ref a :: argsL).toArray h sfc n0 Q) (w4 : (Cond.code z bytes mL rt).before a0 Z = true) (w3 : (Cond.initialized z.cls).before a0 Z = true) (hsfc : ∀ x ∈ sfc, x ∈ sf) (hL : L.size = maxL) (hW : catS rest ≤ Wd) (hf : rm.frames + 1 ≤ R.frames) (hl : Wd + (mL + 11) + rm.locals ≤ R.locals) (hc : cells + rm.cells = c' ∧ c' ≤ R.cells) (hs : slots + rm.slots = s' ∧ s' ≤ R.slots) (hst : S = argsL.reverse ++ .ref a :: rest) (hnv : ∀ v h so, ¬ Q (some v) h so)
    (k : ∀ T' h'  so, WS p l e R s m args below meth c Z a0 EL nw n0 y code maxL ret T' h' (so ++ sf) c' s' → Q none h' so → WP p e below Φ T' (mkF m pc' L rest)) : WP p e below Φ T (mkF m pc L S) := by
  obtain ⟨locs, X, eT, hS, hZ, hown, hC0, hN, hn, hsf, hE, hWm, b1, b2, b3, b4, b5, b6⟩ := id W
  obtain ⟨rfl, hc⟩ := hc
  obtain ⟨rfl, hs⟩ := hs
  have hB := backCt (R := R) (p := p) (e := e) (below := below) (s := s) (args := args) (len := 3) (Wd := Wd) hC hZ w4 w3 hf hl hE hn hC0.1 (fun x hx => hsf x (hsfc x hx))
  obtain ⟨cq, kq, qa, qb, qc⟩ := isOf (s := s.setVm T.vm) hZ eT E
  obtain ⟨v, vm₁, ⟨U', L', c1, s1⟩, -, X', hS', hg, hpost, st⟩ := X.virtualBackS W.hx (y := z0) (z := z) hown (mvT (s := s.setVm T.vm) hZ w1) (mvT (s := s.setVm T.vm) hZ w2) (nf (s.setVm T.vm) hZ) (mvT (s := s.setVm T.vm) hZ w5) (mvT (s := s.setVm T.vm) hZ w6) hy hB qa qc (g := mkF m pc L S) rfl (hL.trans b5.symm) (Steps.refl _) (argsL := argsL) (rest := rest) hlen hst (by show 2 * 0 + _ ≤ _; rw [Nat.mul_zero, Nat.zero_add]; exact hW) (W.hd dd) (fun vm₁ _ => ⟨rfl, eT, hc, hs⟩)
  obtain ⟨L1, so, q1, q2, q3, q4, q5, q6, qw, q7⟩ := hpost
  dsimp only [Pt.U, Pt.locs, Pt.cells, Pt.slots] at X' hS' hg q1 q2 q3 q4 q5 q6 qw q7 st
  subst q3 q4 q5
  obtain ⟨hd, rfl⟩ := dd
  have WW : WS p l e R s m args below meth c Z a0 EL nw n0 y code maxL ret U' U'.heap (so ++ sf) (cells + rm.cells) (slots + rm.slots) := by
    refine ⟨_, X', rfl, hS.trans hS' (by rw [← eT]; exact hg), State.Warmed39.trans (t := s.setVm T.vm) hZ hS'.1, by rw [hS'.1.alike.findClass]; exact hown, hC0.trans q6, hN.app q2, Nat.le_trans hn (by rw [← eT]; exact hg), fun x hx => ?_, hE, fun u => State.WarmedH.trans (t := s.setVm T.vm) (hWm u) (qw u), b1, b2, b3, b4, b5, b6⟩
    rcases List.mem_append.mp hx with u | u
    · exact q7 x u
    · obtain ⟨g1, g2, g3⟩ := hsf x u
      exact ⟨g1, Nat.lt_of_lt_of_le g2 (by rw [← eT]; exact hg), q6.safe g2 g3⟩
  cases v with
  | some v => exact absurd q1 (hnv _ _ _)
  | none =>
  refine WP.steps st (k _ _ so WW q1)

theorem privBack {l : Launch} {locs : List Loc} (X : Stand p l e R s m args below meth c T locs cells slots) (hexec : p.tables.exec = Jvm.exec) {own : String} {index : Nat} {z : MethodName} {bytes : ByteArray} {mL : Nat} {rt : Option FieldType} (hown : s.vm.findClass own = some m.cls) (hlink : (Cond.methodLink own index z).before args s = true) (hinst : (Cond.instanceMethod z).before args s = true) (nf : NotFace s z) (hpriv : s.PrivateAt z) (hcode : (Cond.code z bytes mL rt).before args s = true) (hy : z.cls ≠ "java/lang/invoke/MethodHandle" ∧ z.cls ≠ "java/lang/invoke/VarHandle")
    {Wd : Nat} {Pre : Pt → Array Value → Prop} {Post : Pt → Array Value → Option Value → Pt → Prop} (hK : BackS l R p e below s args z 3 Wd Pre Post) {g : JFrame} (hg : g.method = m) (hsize : g.locals.size = c.maxLocals) {s₀ : State} (hcome : Steps p.tables e below s₀ (T.setTop g)) {a : Addr} {cell : Cell} (hcell : T.heap[a]? = some cell) (hobj : ∀ q, cell.vm ≠ .statics q)
    {argsL rest : List Value} (hlen : ∀ sig, parseMethodDescriptor z.desc = some sig → argsL.length = sig.parameters.length) (hstack : g.stack = argsL.reverse ++ .ref a :: rest) (hW : 2 * g.monitorRoom + (rest.map fun v => v.category).sum ≤ Wd) (hdg : decode c.code g.pc = .ok (.invokevirtual index, 3)) (hpre : ∀ vm₁, s.WarmedH vm₁ → Pre ⟨T.setVm vm₁, locs, cells, slots⟩ (.ref a :: argsL).toArray) :
    ∃ (v : Option Value) (vm₁ : Vm) (B : Pt), s.WarmedH vm₁ ∧ Stand p l e R (s.setVm B.U.vm) m args below meth c B.U B.locs B.cells B.slots ∧ s.Since B.U.vm B.U.heap.size ∧ T.heap.size ≤ B.U.heap.size ∧ Post ⟨T.setVm vm₁, locs, cells, slots⟩ (.ref a :: argsL).toArray v B ∧ Steps p.tables e below s₀ (B.U.setTop { g with pc := g.pc + 3, stack := v.toList ++ rest }) := by
  obtain ⟨mk, mM, n1, n2, n3, n4⟩ := Cond.instanceMethod_spec hinst
  obtain ⟨mM', -, n5, -, -, -, -, -, -, n6⟩ := Cond.code_spec n1 hcode
  cases n2.symm.trans n5
  obtain ⟨kP, k1, k2⟩ := nf mk n1
  obtain ⟨vm₁, X₁, st⟩ := X.invokevirtual hexec hown hlink n1 n2 n3 k1 k2 hy (a := a) (cell := cell) hcell hobj (selectMethod_private n2 (hpriv mk mM n1 n2)) n2 n4 k1 k2 (g := g) hg (argsL := argsL) (rest := rest) (hlen _ n6) hstack hdg
  obtain ⟨v, B, q1, q2, q3, q4, q5⟩ := hK m meth c ⟨T.setVm vm₁, locs, cells, slots⟩ { g with stack := rest } (.invokevirtual index) mk (.ref a :: argsL).toArray X₁ hg hsize hdg hW (X₁.named n1) (hpre vm₁ X₁.warmed)
  exact ⟨v, vm₁, B, X₁.warmed, q1, q2, q3, q4, (hcome.trans (st _ fun acts => by rw [doInvoke_state]; exact Steps.refl _)).trans q5⟩

theorem k_callP (W : WS p l e R s m args below meth c Z a0 EL nw n0 y code maxL ret T h sf cells slots) {z : MethodName} {bytes : ByteArray} {mL : Nat} {rt : Option FieldType} {rm : Room} {sfc : List Addr} {Q : Option Value → Heap → List Addr → Prop} (Wd c' s' : Nat) {argsL rest : List Value} {index : Nat} {a : Addr} {C : String} (dd : D code pc (.invokevirtual index) 3 pc') (w1 : (Cond.methodLink y.cls index z).before a0 Z = true) (w2 : (Cond.instanceMethod z).before a0 Z = true) (nf : ∀ s' : State, Z.Warmed39 s'.vm → NotFace s' z) (w6 : (Cond.privateMethod z).before a0 Z = true) (hy : z.cls ≠ "java/lang/invoke/MethodHandle" ∧ z.cls ≠ "java/lang/invoke/VarHandle") (hlen : ∀ sig, parseMethodDescriptor z.desc = some sig → argsL.length = sig.parameters.length) (E : Exa Z h a C) (hC : Ct l Z a0 EL nw z bytes mL rt rm (.ref a :: argsL).toArray h sfc n0 Q) (w4 : (Cond.code z bytes mL rt).before a0 Z = true) (w3 : (Cond.initialized z.cls).before a0 Z = true) (hsfc : ∀ x ∈ sfc, x ∈ sf) (hL : L.size = maxL) (hW : catS rest ≤ Wd) (hf : rm.frames + 1 ≤ R.frames) (hl : Wd + (mL + 11) + rm.locals ≤ R.locals) (hc : cells + rm.cells = c' ∧ c' ≤ R.cells) (hs : slots + rm.slots = s' ∧ s' ≤ R.slots) (hst : S = argsL.reverse ++ .ref a :: rest) (hnv : ∀ h so, ¬ Q none h so)
    (k : ∀ T' h' (v : Value) so, WS p l e R s m args below meth c Z a0 EL nw n0 y code maxL ret T' h' sf c' s' → Q (some v) h' so → WP p e below Φ T' (mkF m pc' L (v :: rest))) : WP p e below Φ T (mkF m pc L S) := by
  obtain ⟨locs, X, eT, hS, hZ, hown, hC0, hN, hn, hsf, hE, hWm, b1, b2, b3, b4, b5, b6⟩ := id W
  obtain ⟨rfl, hc⟩ := hc
  obtain ⟨rfl, hs⟩ := hs
  have hB := backCt (R := R) (p := p) (e := e) (below := below) (s := s) (args := args) (len := 3) (Wd := Wd) hC hZ w4 w3 hf hl hE hn hC0.1 (fun x hx => hsf x (hsfc x hx))
  obtain ⟨cc, hc1, hc2⟩ := E.cell
  obtain ⟨v, vm₁, ⟨U', L', c1, s1⟩, -, X', hS', hg, hpost, st⟩ := privBack X W.hx (z := z) hown (mvT (s := s.setVm T.vm) hZ w1) (mvT (s := s.setVm T.vm) hZ w2) (nf (s.setVm T.vm) hZ) (Cond.privateMethod_at (mvP (s := s.setVm T.vm) hZ w6 (args := #[]))) (mvT (s := s.setVm T.vm) hZ w4) hy hB (g := mkF m pc L S) rfl (hL.trans b5.symm) (Steps.refl _) (a := a) (by rw [eT]; exact hc1) hc2 (argsL := argsL) (rest := rest) hlen hst (by show 2 * 0 + _ ≤ _; rw [Nat.mul_zero, Nat.zero_add]; exact hW) (W.hd dd) (fun vm₁ _ => ⟨rfl, eT, hc, hs⟩)
  obtain ⟨L1, so, q1, q2, q3, q4, q5, q6, qw, q7⟩ := hpost
  dsimp only [Pt.U, Pt.locs, Pt.cells, Pt.slots] at X' hS' hg q1 q2 q3 q4 q5 q6 qw q7 st
  subst q3 q4 q5
  obtain ⟨hd, rfl⟩ := dd
  have WW : WS p l e R s m args below meth c Z a0 EL nw n0 y code maxL ret U' U'.heap (so ++ sf) (cells + rm.cells) (slots + rm.slots) := by
    refine ⟨_, X', rfl, hS.trans hS' (by rw [← eT]; exact hg), State.Warmed39.trans (t := s.setVm T.vm) hZ hS'.1, by rw [hS'.1.alike.findClass]; exact hown, hC0.trans q6, hN.app q2, Nat.le_trans hn (by rw [← eT]; exact hg), fun x hx => ?_, hE, fun u => State.WarmedH.trans (t := s.setVm T.vm) (hWm u) (qw u), b1, b2, b3, b4, b5, b6⟩
    rcases List.mem_append.mp hx with u | u
    · exact q7 x u
    · obtain ⟨g1, g2, g3⟩ := hsf x u
      exact ⟨g1, Nat.lt_of_lt_of_le g2 (by rw [← eT]; exact hg), q6.safe g2 g3⟩
  cases v with
  | none => exact absurd q1 (hnv _ _)
  | some v =>
  refine WP.steps st (k _ _ v so (WS.mono (sf' := sf) WW (Nat.le_refl _) (Nat.le_refl _) (fun x hx => List.mem_append_right _ hx)) q1)

theorem k_callP0 (W : WS p l e R s m args below meth c Z a0 EL nw n0 y code maxL ret T h sf cells slots) {z : MethodName} {bytes : ByteArray} {mL : Nat} {rt : Option FieldType} {rm : Room} {sfc : List Addr} {Q : Option Value → Heap → List Addr → Prop} (Wd c' s' : Nat) {argsL rest : List Value} {index : Nat} {a : Addr} {C : String} (dd : D code pc (.invokevirtual index) 3 pc') (w1 : (Cond.methodLink y.cls index z).before a0 Z = true) (w2 : (Cond.instanceMethod z).before a0 Z = true) (nf : ∀ s' : State, Z.Warmed39 s'.vm → NotFace s' z) (w6 : (Cond.privateMethod z).before a0 Z = true) (hy : z.cls ≠ "java/lang/invoke/MethodHandle" ∧ z.cls ≠ "java/lang/invoke/VarHandle") (hlen : ∀ sig, parseMethodDescriptor z.desc = some sig → argsL.length = sig.parameters.length) (E : Exa Z h a C) (hC : Ct l Z a0 EL nw z bytes mL rt rm (.ref a :: argsL).toArray h sfc n0 Q) (w4 : (Cond.code z bytes mL rt).before a0 Z = true) (w3 : (Cond.initialized z.cls).before a0 Z = true) (hsfc : ∀ x ∈ sfc, x ∈ sf) (hL : L.size = maxL) (hW : catS rest ≤ Wd) (hf : rm.frames + 1 ≤ R.frames) (hl : Wd + (mL + 11) + rm.locals ≤ R.locals) (hc : cells + rm.cells = c' ∧ c' ≤ R.cells) (hs : slots + rm.slots = s' ∧ s' ≤ R.slots) (hst : S = argsL.reverse ++ .ref a :: rest) (hnv : ∀ v h so, ¬ Q (some v) h so)
    (k : ∀ T' h'  so, WS p l e R s m args below meth c Z a0 EL nw n0 y code maxL ret T' h' sf c' s' → Q none h' so → WP p e below Φ T' (mkF m pc' L rest)) : WP p e below Φ T (mkF m pc L S) := by
  obtain ⟨locs, X, eT, hS, hZ, hown, hC0, hN, hn, hsf, hE, hWm, b1, b2, b3, b4, b5, b6⟩ := id W
  obtain ⟨rfl, hc⟩ := hc
  obtain ⟨rfl, hs⟩ := hs
  have hB := backCt (R := R) (p := p) (e := e) (below := below) (s := s) (args := args) (len := 3) (Wd := Wd) hC hZ w4 w3 hf hl hE hn hC0.1 (fun x hx => hsf x (hsfc x hx))
  obtain ⟨cc, hc1, hc2⟩ := E.cell
  obtain ⟨v, vm₁, ⟨U', L', c1, s1⟩, -, X', hS', hg, hpost, st⟩ := privBack X W.hx (z := z) hown (mvT (s := s.setVm T.vm) hZ w1) (mvT (s := s.setVm T.vm) hZ w2) (nf (s.setVm T.vm) hZ) (Cond.privateMethod_at (mvP (s := s.setVm T.vm) hZ w6 (args := #[]))) (mvT (s := s.setVm T.vm) hZ w4) hy hB (g := mkF m pc L S) rfl (hL.trans b5.symm) (Steps.refl _) (a := a) (by rw [eT]; exact hc1) hc2 (argsL := argsL) (rest := rest) hlen hst (by show 2 * 0 + _ ≤ _; rw [Nat.mul_zero, Nat.zero_add]; exact hW) (W.hd dd) (fun vm₁ _ => ⟨rfl, eT, hc, hs⟩)
  obtain ⟨L1, so, q1, q2, q3, q4, q5, q6, qw, q7⟩ := hpost
  dsimp only [Pt.U, Pt.locs, Pt.cells, Pt.slots] at X' hS' hg q1 q2 q3 q4 q5 q6 qw q7 st
  subst q3 q4 q5
  obtain ⟨hd, rfl⟩ := dd
  have WW : WS p l e R s m args below meth c Z a0 EL nw n0 y code maxL ret U' U'.heap (so ++ sf) (cells + rm.cells) (slots + rm.slots) := by
    refine ⟨_, X', rfl, hS.trans hS' (by rw [← eT]; exact hg), State.Warmed39.trans (t := s.setVm T.vm) hZ hS'.1, by rw [hS'.1.alike.findClass]; exact hown, hC0.trans q6, hN.app q2, Nat.le_trans hn (by rw [← eT]; exact hg), fun x hx => ?_, hE, fun u => State.WarmedH.trans (t := s.setVm T.vm) (hWm u) (qw u), b1, b2, b3, b4, b5, b6⟩
    rcases List.mem_append.mp hx with u | u
    · exact q7 x u
    · obtain ⟨g1, g2, g3⟩ := hsf x u
      exact ⟨g1, Nat.lt_of_lt_of_le g2 (by rw [← eT]; exact hg), q6.safe g2 g3⟩
  cases v with
  | some v => exact absurd q1 (hnv _ _ _)
  | none =>
  refine WP.steps st (k _ _ so (WS.mono (sf' := sf) WW (Nat.le_refl _) (Nat.le_refl _) (fun x hx => List.mem_append_right _ hx)) q1)

theorem k_callPn (W : WS p l e R s m args below meth c Z a0 EL nw n0 y code maxL ret T h sf cells slots) {z : MethodName} {bytes : ByteArray} {mL : Nat} {rt : Option FieldType} {rm : Room} {sfc : List Addr} {Q : Option Value → Heap → List Addr → Prop} (Wd c' s' : Nat) {argsL rest : List Value} {index : Nat} {a : Addr} {C : String} (dd : D code pc (.invokevirtual index) 3 pc') (w1 : (Cond.methodLink y.cls index z).before a0 Z = true) (w2 : (Cond.instanceMethod z).before a0 Z = true) (nf : ∀ s' : State, Z.Warmed39 s'.vm → NotFace s' z) (w6 : (Cond.privateMethod z).before a0 Z = true) (hy : z.cls ≠ "java/lang/invoke/MethodHandle" ∧ z.cls ≠ "java/lang/invoke/VarHandle") (hlen : ∀ sig, parseMethodDescriptor z.desc = some sig → argsL.length = sig.parameters.length) (E : Exa Z h a C) (hC : Ct l Z a0 EL nw z bytes mL rt rm (.ref a :: argsL).toArray h sfc n0 Q) (w4 : (Cond.code z bytes mL rt).before a0 Z = true) (w3 : (Cond.initialized z.cls).before a0 Z = true) (hsfc : ∀ x ∈ sfc, x ∈ sf) (hL : L.size = maxL) (hW : catS rest ≤ Wd) (hf : rm.frames + 1 ≤ R.frames) (hl : Wd + (mL + 11) + rm.locals ≤ R.locals) (hc : cells + rm.cells = c' ∧ c' ≤ R.cells) (hs : slots + rm.slots = s' ∧ s' ≤ R.slots) (hst : S = argsL.reverse ++ .ref a :: rest) (hnv : ∀ h so, ¬ Q none h so)
    (k : ∀ T' h' (v : Value) so, WS p l e R s m args below meth c Z a0 EL nw n0 y code maxL ret T' h' (so ++ sf) c' s' → Q (some v) h' so → WP p e below Φ T' (mkF m pc' L (v :: rest))) : WP p e below Φ T (mkF m pc L S) := by
  obtain ⟨locs, X, eT, hS, hZ, hown, hC0, hN, hn, hsf, hE, hWm, b1, b2, b3, b4, b5, b6⟩ := id W
  obtain ⟨rfl, hc⟩ := hc
  obtain ⟨rfl, hs⟩ := hs
  have hB := backCt (R := R) (p := p) (e := e) (below := below) (s := s) (args := args) (len := 3) (Wd := Wd) hC hZ w4 w3 hf hl hE hn hC0.1 (fun x hx => hsf x (hsfc x hx))
  obtain ⟨cc, hc1, hc2⟩ := E.cell
  obtain ⟨v, vm₁, ⟨U', L', c1, s1⟩, -, X', hS', hg, hpost, st⟩ := privBack X W.hx (z := z) hown (mvT (s := s.setVm T.vm) hZ w1) (mvT (s := s.setVm T.vm) hZ w2) (nf (s.setVm T.vm) hZ) (Cond.privateMethod_at (mvP (s := s.setVm T.vm) hZ w6 (args := #[]))) (mvT (s := s.setVm T.vm) hZ w4) hy hB (g := mkF m pc L S) rfl (hL.trans b5.symm) (Steps.refl _) (a := a) (by rw [eT]; exact hc1) hc2 (argsL := argsL) (rest := rest) hlen hst (by show 2 * 0 + _ ≤ _; rw [Nat.mul_zero, Nat.zero_add]; exact hW) (W.hd dd) (fun vm₁ _ => ⟨rfl, eT, hc, hs⟩)
  obtain ⟨L1, so, q1, q2, q3, q4, q5, q6, qw, q7⟩ := hpost
  dsimp only [Pt.U, Pt.locs, Pt.cells, Pt.slots] at X' hS' hg q1 q2 q3 q4 q5 q6 qw q7 st
  subst q3 q4 q5
  obtain ⟨hd, rfl⟩ := dd
  have WW : WS p l e R s m args below meth c Z a0 EL nw n0 y code maxL ret U' U'.heap (so ++ sf) (cells + rm.cells) (slots + rm.slots) := by
    refine ⟨_, X', rfl, hS.trans hS' (by rw [← eT]; exact hg), State.Warmed39.trans (t := s.setVm T.vm) hZ hS'.1, by rw [hS'.1.alike.findClass]; exact hown, hC0.trans q6, hN.app q2, Nat.le_trans hn (by rw [← eT]; exact hg), fun x hx => ?_, hE, fun u => State.WarmedH.trans (t := s.setVm T.vm) (hWm u) (qw u), b1, b2, b3, b4, b5, b6⟩
    rcases List.mem_append.mp hx with u | u
    · exact q7 x u
    · obtain ⟨g1, g2, g3⟩ := hsf x u
      exact ⟨g1, Nat.lt_of_lt_of_le g2 (by rw [← eT]; exact hg), q6.safe g2 g3⟩
  cases v with
  | none => exact absurd q1 (hnv _ _)
  | some v =>
  refine WP.steps st (k _ _ v so WW q1)

theorem k_callPz (W : WS p l e R s m args below meth c Z a0 EL nw n0 y code maxL ret T h sf cells slots) {z : MethodName} {bytes : ByteArray} {mL : Nat} {rt : Option FieldType} {rm : Room} {sfc : List Addr} {Q : Option Value → Heap → List Addr → Prop} (Wd c' s' : Nat) {argsL rest : List Value} {index : Nat} {a : Addr} {C : String} (dd : D code pc (.invokevirtual index) 3 pc') (w1 : (Cond.methodLink y.cls index z).before a0 Z = true) (w2 : (Cond.instanceMethod z).before a0 Z = true) (nf : ∀ s' : State, Z.Warmed39 s'.vm → NotFace s' z) (w6 : (Cond.privateMethod z).before a0 Z = true) (hy : z.cls ≠ "java/lang/invoke/MethodHandle" ∧ z.cls ≠ "java/lang/invoke/VarHandle") (hlen : ∀ sig, parseMethodDescriptor z.desc = some sig → argsL.length = sig.parameters.length) (E : Exa Z h a C) (hC : Ct l Z a0 EL nw z bytes mL rt rm (.ref a :: argsL).toArray h sfc n0 Q) (w4 : (Cond.code z bytes mL rt).before a0 Z = true) (w3 : (Cond.initialized z.cls).before a0 Z = true) (hsfc : ∀ x ∈ sfc, x ∈ sf) (hL : L.size = maxL) (hW : catS rest ≤ Wd) (hf : rm.frames + 1 ≤ R.frames) (hl : Wd + (mL + 11) + rm.locals ≤ R.locals) (hc : cells + rm.cells = c' ∧ c' ≤ R.cells) (hs : slots + rm.slots = s' ∧ s' ≤ R.slots) (hst : S = argsL.reverse ++ .ref a :: rest) (hnv : ∀ v h so, ¬ Q (some v) h so)
    (k : ∀ T' h'  so, WS p l e R s m args below meth c Z a0 EL nw n0 y code maxL ret T' h' (so ++ sf) c' s' → Q none h' so → WP p e below Φ T' (mkF m pc' L rest)) : WP p e below Φ T (mkF m pc L S) := by
  obtain ⟨locs, X, eT, hS, hZ, hown, hC0, hN, hn, hsf, hE, hWm, b1, b2, b3, b4, b5, b6⟩ := id W
  obtain ⟨rfl, hc⟩ := hc
  obtain ⟨rfl, hs⟩ := hs
  have hB := backCt (R := R) (p := p) (e := e) (below := below) (s := s) (args := args) (len := 3) (Wd := Wd) hC hZ w4 w3 hf hl hE hn hC0.1 (fun x hx => hsf x (hsfc x hx))
  obtain ⟨cc, hc1, hc2⟩ := E.cell
  obtain ⟨v, vm₁, ⟨U', L', c1, s1⟩, -, X', hS', hg, hpost, st⟩ := privBack X W.hx (z := z) hown (mvT (s := s.setVm T.vm) hZ w1) (mvT (s := s.setVm T.vm) hZ w2) (nf (s.setVm T.vm) hZ) (Cond.privateMethod_at (mvP (s := s.setVm T.vm) hZ w6 (args := #[]))) (mvT (s := s.setVm T.vm) hZ w4) hy hB (g := mkF m pc L S) rfl (hL.trans b5.symm) (Steps.refl _) (a := a) (by rw [eT]; exact hc1) hc2 (argsL := argsL) (rest := rest) hlen hst (by show 2 * 0 + _ ≤ _; rw [Nat.mul_zero, Nat.zero_add]; exact hW) (W.hd dd) (fun vm₁ _ => ⟨rfl, eT, hc, hs⟩)
  obtain ⟨L1, so, q1, q2, q3, q4, q5, q6, qw, q7⟩ := hpost
  dsimp only [Pt.U, Pt.locs, Pt.cells, Pt.slots] at X' hS' hg q1 q2 q3 q4 q5 q6 qw q7 st
  subst q3 q4 q5
  obtain ⟨hd, rfl⟩ := dd
  have WW : WS p l e R s m args below meth c Z a0 EL nw n0 y code maxL ret U' U'.heap (so ++ sf) (cells + rm.cells) (slots + rm.slots) := by
    refine ⟨_, X', rfl, hS.trans hS' (by rw [← eT]; exact hg), State.Warmed39.trans (t := s.setVm T.vm) hZ hS'.1, by rw [hS'.1.alike.findClass]; exact hown, hC0.trans q6, hN.app q2, Nat.le_trans hn (by rw [← eT]; exact hg), fun x hx => ?_, hE, fun u => State.WarmedH.trans (t := s.setVm T.vm) (hWm u) (qw u), b1, b2, b3, b4, b5, b6⟩
    rcases List.mem_append.mp hx with u | u
    · exact q7 x u
    · obtain ⟨g1, g2, g3⟩ := hsf x u
      exact ⟨g1, Nat.lt_of_lt_of_le g2 (by rw [← eT]; exact hg), q6.safe g2 g3⟩
  cases v with
  | some v => exact absurd q1 (hnv _ _ _)
  | none =>
  refine WP.steps st (k _ _ so WW q1)

theorem sameM {y : MethodName} (w3 : (Cond.instanceMethod y).before a0 Z = true) (nf : NotFace Z y) (hmh : y.cls ≠ "java/lang/invoke/MethodHandle" ∧ y.cls ≠ "java/lang/invoke/VarHandle") : (Cond.sameMethod y.cls y.cls y.name y.desc).before a0 Z = true := by
  obtain ⟨mk, mM, n1, n2, n3, n4⟩ := Cond.instanceMethod_spec w3
  obtain ⟨kP, k1, k2⟩ := nf mk n1
  have hc := findClass_of_methodNamed n1
  have hf := State.methodFound?_of_named n1 hmh
  simp only [Cond.before, Cond.holds, Cond.value, hc, hf]
  have n1' : Z.methodNamed? ⟨y.cls, y.name, y.desc⟩ = some mk := n1
  simp [n1', k1, k2]

theorem k_callU (W : WS p l e R s m args below meth c Z a0 EL nw n0 y code maxL ret T h sf cells slots) {z : MethodName} {bytes : ByteArray} {mL : Nat} {rt : Option FieldType} {rm : Room} {sfc : List Addr} {Q : Option Value → Heap → List Addr → Prop} (Wd c' s' : Nat) {argsL rest : List Value} {index : Nat} {a : Addr} {C : String} (dd : D code pc (.invokespecial index) 3 pc') (hz : z.name ≠ "<init>") (w1 : (Cond.methodLink y.cls index z).before a0 Z = true) (w2 : (Cond.sameMethod z.cls z.cls z.name z.desc).before a0 Z = true) (w5 : (Cond.instanceMethod z).before a0 Z = true) (w6 : (Cond.superclass y.cls z.cls).before a0 Z = true) (hlen : ∀ sig, parseMethodDescriptor z.desc = some sig → argsL.length = sig.parameters.length) (E : Exa Z h a C) (hC : Ct l Z a0 EL nw z bytes mL rt rm (.ref a :: argsL).toArray h sfc n0 Q) (w4 : (Cond.code z bytes mL rt).before a0 Z = true) (w3 : (Cond.initialized z.cls).before a0 Z = true) (hsfc : ∀ x ∈ sfc, x ∈ sf) (hL : L.size = maxL) (hW : catS rest ≤ Wd) (hf : rm.frames + 1 ≤ R.frames) (hl : Wd + (mL + 11) + rm.locals ≤ R.locals) (hc : cells + rm.cells = c' ∧ c' ≤ R.cells) (hs : slots + rm.slots = s' ∧ s' ≤ R.slots) (hst : S = argsL.reverse ++ .ref a :: rest) (hnv : ∀ h so, ¬ Q none h so)
    (k : ∀ T' h' (v : Value) so, WS p l e R s m args below meth c Z a0 EL nw n0 y code maxL ret T' h' sf c' s' → Q (some v) h' so → WP p e below Φ T' (mkF m pc' L (v :: rest))) : WP p e below Φ T (mkF m pc L S) := by
  obtain ⟨locs, X, eT, hS, hZ, hown, hC0, hN, hn, hsf, hE, hWm, b1, b2, b3, b4, b5, b6⟩ := id W
  obtain ⟨rfl, hc⟩ := hc
  obtain ⟨rfl, hs⟩ := hs
  have hB := backCt (R := R) (p := p) (e := e) (below := below) (s := s) (args := args) (len := 3) (Wd := Wd) hC hZ w4 w3 hf hl hE hn hC0.1 (fun x hx => hsf x (hsfc x hx))
  obtain ⟨v, vm₁, ⟨U', L', c1, s1⟩, -, X', hS', hg, hpost, st⟩ := superBackS X W.hx hZ (y := z) (own := y.cls) hown w1 w2 w5 w6 hz hB eT (Ins.self E) (g := mkF m pc L S) rfl (hL.trans b5.symm) w4 (argsL := argsL) (rest := rest) hlen hst (by show 2 * 0 + _ ≤ _; rw [Nat.mul_zero, Nat.zero_add]; exact hW) (W.hd dd) (fun vm₁ _ => ⟨rfl, eT, hc, hs⟩)
  obtain ⟨L1, so, q1, q2, q3, q4, q5, q6, qw, q7⟩ := hpost
  dsimp only [Pt.U, Pt.locs, Pt.cells, Pt.slots] at X' hS' hg q1 q2 q3 q4 q5 q6 qw q7 st
  subst q3 q4 q5
  obtain ⟨hd, rfl⟩ := dd
  have WW : WS p l e R s m args below meth c Z a0 EL nw n0 y code maxL ret U' U'.heap (so ++ sf) (cells + rm.cells) (slots + rm.slots) := by
    refine ⟨_, X', rfl, hS.trans hS' (by rw [← eT]; exact hg), State.Warmed39.trans (t := s.setVm T.vm) hZ hS'.1, by rw [hS'.1.alike.findClass]; exact hown, hC0.trans q6, hN.app q2, Nat.le_trans hn (by rw [← eT]; exact hg), fun x hx => ?_, hE, fun u => State.WarmedH.trans (t := s.setVm T.vm) (hWm u) (qw u), b1, b2, b3, b4, b5, b6⟩
    rcases List.mem_append.mp hx with u | u
    · exact q7 x u
    · obtain ⟨g1, g2, g3⟩ := hsf x u
      exact ⟨g1, Nat.lt_of_lt_of_le g2 (by rw [← eT]; exact hg), q6.safe g2 g3⟩
  cases v with
  | none => exact absurd q1 (hnv _ _)
  | some v =>
  refine WP.steps st (k _ _ v so (WS.mono (sf' := sf) WW (Nat.le_refl _) (Nat.le_refl _) (fun x hx => List.mem_append_right _ hx)) q1)

theorem k_callU0 (W : WS p l e R s m args below meth c Z a0 EL nw n0 y code maxL ret T h sf cells slots) {z : MethodName} {bytes : ByteArray} {mL : Nat} {rt : Option FieldType} {rm : Room} {sfc : List Addr} {Q : Option Value → Heap → List Addr → Prop} (Wd c' s' : Nat) {argsL rest : List Value} {index : Nat} {a : Addr} {C : String} (dd : D code pc (.invokespecial index) 3 pc') (hz : z.name ≠ "<init>") (w1 : (Cond.methodLink y.cls index z).before a0 Z = true) (w2 : (Cond.sameMethod z.cls z.cls z.name z.desc).before a0 Z = true) (w5 : (Cond.instanceMethod z).before a0 Z = true) (w6 : (Cond.superclass y.cls z.cls).before a0 Z = true) (hlen : ∀ sig, parseMethodDescriptor z.desc = some sig → argsL.length = sig.parameters.length) (E : Exa Z h a C) (hC : Ct l Z a0 EL nw z bytes mL rt rm (.ref a :: argsL).toArray h sfc n0 Q) (w4 : (Cond.code z bytes mL rt).before a0 Z = true) (w3 : (Cond.initialized z.cls).before a0 Z = true) (hsfc : ∀ x ∈ sfc, x ∈ sf) (hL : L.size = maxL) (hW : catS rest ≤ Wd) (hf : rm.frames + 1 ≤ R.frames) (hl : Wd + (mL + 11) + rm.locals ≤ R.locals) (hc : cells + rm.cells = c' ∧ c' ≤ R.cells) (hs : slots + rm.slots = s' ∧ s' ≤ R.slots) (hst : S = argsL.reverse ++ .ref a :: rest) (hnv : ∀ v h so, ¬ Q (some v) h so)
    (k : ∀ T' h'  so, WS p l e R s m args below meth c Z a0 EL nw n0 y code maxL ret T' h' sf c' s' → Q none h' so → WP p e below Φ T' (mkF m pc' L rest)) : WP p e below Φ T (mkF m pc L S) := by
  obtain ⟨locs, X, eT, hS, hZ, hown, hC0, hN, hn, hsf, hE, hWm, b1, b2, b3, b4, b5, b6⟩ := id W
  obtain ⟨rfl, hc⟩ := hc
  obtain ⟨rfl, hs⟩ := hs
  have hB := backCt (R := R) (p := p) (e := e) (below := below) (s := s) (args := args) (len := 3) (Wd := Wd) hC hZ w4 w3 hf hl hE hn hC0.1 (fun x hx => hsf x (hsfc x hx))
  obtain ⟨v, vm₁, ⟨U', L', c1, s1⟩, -, X', hS', hg, hpost, st⟩ := superBackS X W.hx hZ (y := z) (own := y.cls) hown w1 w2 w5 w6 hz hB eT (Ins.self E) (g := mkF m pc L S) rfl (hL.trans b5.symm) w4 (argsL := argsL) (rest := rest) hlen hst (by show 2 * 0 + _ ≤ _; rw [Nat.mul_zero, Nat.zero_add]; exact hW) (W.hd dd) (fun vm₁ _ => ⟨rfl, eT, hc, hs⟩)
  obtain ⟨L1, so, q1, q2, q3, q4, q5, q6, qw, q7⟩ := hpost
  dsimp only [Pt.U, Pt.locs, Pt.cells, Pt.slots] at X' hS' hg q1 q2 q3 q4 q5 q6 qw q7 st
  subst q3 q4 q5
  obtain ⟨hd, rfl⟩ := dd
  have WW : WS p l e R s m args below meth c Z a0 EL nw n0 y code maxL ret U' U'.heap (so ++ sf) (cells + rm.cells) (slots + rm.slots) := by
    refine ⟨_, X', rfl, hS.trans hS' (by rw [← eT]; exact hg), State.Warmed39.trans (t := s.setVm T.vm) hZ hS'.1, by rw [hS'.1.alike.findClass]; exact hown, hC0.trans q6, hN.app q2, Nat.le_trans hn (by rw [← eT]; exact hg), fun x hx => ?_, hE, fun u => State.WarmedH.trans (t := s.setVm T.vm) (hWm u) (qw u), b1, b2, b3, b4, b5, b6⟩
    rcases List.mem_append.mp hx with u | u
    · exact q7 x u
    · obtain ⟨g1, g2, g3⟩ := hsf x u
      exact ⟨g1, Nat.lt_of_lt_of_le g2 (by rw [← eT]; exact hg), q6.safe g2 g3⟩
  cases v with
  | some v => exact absurd q1 (hnv _ _ _)
  | none =>
  refine WP.steps st (k _ _ so (WS.mono (sf' := sf) WW (Nat.le_refl _) (Nat.le_refl _) (fun x hx => List.mem_append_right _ hx)) q1)

theorem k_callUn (W : WS p l e R s m args below meth c Z a0 EL nw n0 y code maxL ret T h sf cells slots) {z : MethodName} {bytes : ByteArray} {mL : Nat} {rt : Option FieldType} {rm : Room} {sfc : List Addr} {Q : Option Value → Heap → List Addr → Prop} (Wd c' s' : Nat) {argsL rest : List Value} {index : Nat} {a : Addr} {C : String} (dd : D code pc (.invokespecial index) 3 pc') (hz : z.name ≠ "<init>") (w1 : (Cond.methodLink y.cls index z).before a0 Z = true) (w2 : (Cond.sameMethod z.cls z.cls z.name z.desc).before a0 Z = true) (w5 : (Cond.instanceMethod z).before a0 Z = true) (w6 : (Cond.superclass y.cls z.cls).before a0 Z = true) (hlen : ∀ sig, parseMethodDescriptor z.desc = some sig → argsL.length = sig.parameters.length) (E : Exa Z h a C) (hC : Ct l Z a0 EL nw z bytes mL rt rm (.ref a :: argsL).toArray h sfc n0 Q) (w4 : (Cond.code z bytes mL rt).before a0 Z = true) (w3 : (Cond.initialized z.cls).before a0 Z = true) (hsfc : ∀ x ∈ sfc, x ∈ sf) (hL : L.size = maxL) (hW : catS rest ≤ Wd) (hf : rm.frames + 1 ≤ R.frames) (hl : Wd + (mL + 11) + rm.locals ≤ R.locals) (hc : cells + rm.cells = c' ∧ c' ≤ R.cells) (hs : slots + rm.slots = s' ∧ s' ≤ R.slots) (hst : S = argsL.reverse ++ .ref a :: rest) (hnv : ∀ h so, ¬ Q none h so)
    (k : ∀ T' h' (v : Value) so, WS p l e R s m args below meth c Z a0 EL nw n0 y code maxL ret T' h' (so ++ sf) c' s' → Q (some v) h' so → WP p e below Φ T' (mkF m pc' L (v :: rest))) : WP p e below Φ T (mkF m pc L S) := by
  obtain ⟨locs, X, eT, hS, hZ, hown, hC0, hN, hn, hsf, hE, hWm, b1, b2, b3, b4, b5, b6⟩ := id W
  obtain ⟨rfl, hc⟩ := hc
  obtain ⟨rfl, hs⟩ := hs
  have hB := backCt (R := R) (p := p) (e := e) (below := below) (s := s) (args := args) (len := 3) (Wd := Wd) hC hZ w4 w3 hf hl hE hn hC0.1 (fun x hx => hsf x (hsfc x hx))
  obtain ⟨v, vm₁, ⟨U', L', c1, s1⟩, -, X', hS', hg, hpost, st⟩ := superBackS X W.hx hZ (y := z) (own := y.cls) hown w1 w2 w5 w6 hz hB eT (Ins.self E) (g := mkF m pc L S) rfl (hL.trans b5.symm) w4 (argsL := argsL) (rest := rest) hlen hst (by show 2 * 0 + _ ≤ _; rw [Nat.mul_zero, Nat.zero_add]; exact hW) (W.hd dd) (fun vm₁ _ => ⟨rfl, eT, hc, hs⟩)
  obtain ⟨L1, so, q1, q2, q3, q4, q5, q6, qw, q7⟩ := hpost
  dsimp only [Pt.U, Pt.locs, Pt.cells, Pt.slots] at X' hS' hg q1 q2 q3 q4 q5 q6 qw q7 st
  subst q3 q4 q5
  obtain ⟨hd, rfl⟩ := dd
  have WW : WS p l e R s m args below meth c Z a0 EL nw n0 y code maxL ret U' U'.heap (so ++ sf) (cells + rm.cells) (slots + rm.slots) := by
    refine ⟨_, X', rfl, hS.trans hS' (by rw [← eT]; exact hg), State.Warmed39.trans (t := s.setVm T.vm) hZ hS'.1, by rw [hS'.1.alike.findClass]; exact hown, hC0.trans q6, hN.app q2, Nat.le_trans hn (by rw [← eT]; exact hg), fun x hx => ?_, hE, fun u => State.WarmedH.trans (t := s.setVm T.vm) (hWm u) (qw u), b1, b2, b3, b4, b5, b6⟩
    rcases List.mem_append.mp hx with u | u
    · exact q7 x u
    · obtain ⟨g1, g2, g3⟩ := hsf x u
      exact ⟨g1, Nat.lt_of_lt_of_le g2 (by rw [← eT]; exact hg), q6.safe g2 g3⟩
  cases v with
  | none => exact absurd q1 (hnv _ _)
  | some v =>
  refine WP.steps st (k _ _ v so WW q1)

theorem k_callUz (W : WS p l e R s m args below meth c Z a0 EL nw n0 y code maxL ret T h sf cells slots) {z : MethodName} {bytes : ByteArray} {mL : Nat} {rt : Option FieldType} {rm : Room} {sfc : List Addr} {Q : Option Value → Heap → List Addr → Prop} (Wd c' s' : Nat) {argsL rest : List Value} {index : Nat} {a : Addr} {C : String} (dd : D code pc (.invokespecial index) 3 pc') (hz : z.name ≠ "<init>") (w1 : (Cond.methodLink y.cls index z).before a0 Z = true) (w2 : (Cond.sameMethod z.cls z.cls z.name z.desc).before a0 Z = true) (w5 : (Cond.instanceMethod z).before a0 Z = true) (w6 : (Cond.superclass y.cls z.cls).before a0 Z = true) (hlen : ∀ sig, parseMethodDescriptor z.desc = some sig → argsL.length = sig.parameters.length) (E : Exa Z h a C) (hC : Ct l Z a0 EL nw z bytes mL rt rm (.ref a :: argsL).toArray h sfc n0 Q) (w4 : (Cond.code z bytes mL rt).before a0 Z = true) (w3 : (Cond.initialized z.cls).before a0 Z = true) (hsfc : ∀ x ∈ sfc, x ∈ sf) (hL : L.size = maxL) (hW : catS rest ≤ Wd) (hf : rm.frames + 1 ≤ R.frames) (hl : Wd + (mL + 11) + rm.locals ≤ R.locals) (hc : cells + rm.cells = c' ∧ c' ≤ R.cells) (hs : slots + rm.slots = s' ∧ s' ≤ R.slots) (hst : S = argsL.reverse ++ .ref a :: rest) (hnv : ∀ v h so, ¬ Q (some v) h so)
    (k : ∀ T' h'  so, WS p l e R s m args below meth c Z a0 EL nw n0 y code maxL ret T' h' (so ++ sf) c' s' → Q none h' so → WP p e below Φ T' (mkF m pc' L rest)) : WP p e below Φ T (mkF m pc L S) := by
  obtain ⟨locs, X, eT, hS, hZ, hown, hC0, hN, hn, hsf, hE, hWm, b1, b2, b3, b4, b5, b6⟩ := id W
  obtain ⟨rfl, hc⟩ := hc
  obtain ⟨rfl, hs⟩ := hs
  have hB := backCt (R := R) (p := p) (e := e) (below := below) (s := s) (args := args) (len := 3) (Wd := Wd) hC hZ w4 w3 hf hl hE hn hC0.1 (fun x hx => hsf x (hsfc x hx))
  obtain ⟨v, vm₁, ⟨U', L', c1, s1⟩, -, X', hS', hg, hpost, st⟩ := superBackS X W.hx hZ (y := z) (own := y.cls) hown w1 w2 w5 w6 hz hB eT (Ins.self E) (g := mkF m pc L S) rfl (hL.trans b5.symm) w4 (argsL := argsL) (rest := rest) hlen hst (by show 2 * 0 + _ ≤ _; rw [Nat.mul_zero, Nat.zero_add]; exact hW) (W.hd dd) (fun vm₁ _ => ⟨rfl, eT, hc, hs⟩)
  obtain ⟨L1, so, q1, q2, q3, q4, q5, q6, qw, q7⟩ := hpost
  dsimp only [Pt.U, Pt.locs, Pt.cells, Pt.slots] at X' hS' hg q1 q2 q3 q4 q5 q6 qw q7 st
  subst q3 q4 q5
  obtain ⟨hd, rfl⟩ := dd
  have WW : WS p l e R s m args below meth c Z a0 EL nw n0 y code maxL ret U' U'.heap (so ++ sf) (cells + rm.cells) (slots + rm.slots) := by
    refine ⟨_, X', rfl, hS.trans hS' (by rw [← eT]; exact hg), State.Warmed39.trans (t := s.setVm T.vm) hZ hS'.1, by rw [hS'.1.alike.findClass]; exact hown, hC0.trans q6, hN.app q2, Nat.le_trans hn (by rw [← eT]; exact hg), fun x hx => ?_, hE, fun u => State.WarmedH.trans (t := s.setVm T.vm) (hWm u) (qw u), b1, b2, b3, b4, b5, b6⟩
    rcases List.mem_append.mp hx with u | u
    · exact q7 x u
    · obtain ⟨g1, g2, g3⟩ := hsf x u
      exact ⟨g1, Nat.lt_of_lt_of_le g2 (by rw [← eT]; exact hg), q6.safe g2 g3⟩
  cases v with
  | some v => exact absurd q1 (hnv _ _ _)
  | none =>
  refine WP.steps st (k _ _ so WW q1)

theorem k_callF (W : WS p l e R s m args below meth c Z a0 EL nw n0 y code maxL ret T h sf cells slots) {z : MethodName} {bytes : ByteArray} {mL : Nat} {rt : Option FieldType} {rm : Room} {sfc : List Addr} {Q : Option Value → Heap → List Addr → Prop} (Wd c' s' : Nat) {argsL rest : List Value} {index count : Nat} {a : Addr} {C : String} {z0 : MethodName} (dd : D code pc (.invokeinterface index count) 5 pc') (w1 : (Cond.methodLink y.cls index z0).before a0 Z = true) (w2 : (Cond.declares z0).before a0 Z = true) (w7 : (Cond.interfaceMethod z0.cls z0.cls z0.name z0.desc).before a0 Z = true) (w5 : (Cond.selects C z0 z).before a0 Z = true) (w6 : (Cond.instanceMethod z).before a0 Z = true) (w8 : (Cond.publicMethod z).before a0 Z = true) (w9 : (Cond.unhidden C z0.name z0.desc).before a0 Z = true) (w10 : (Cond.castable C z0.cls).before a0 Z = true) (hy : z0.cls ≠ "java/lang/invoke/MethodHandle" ∧ z0.cls ≠ "java/lang/invoke/VarHandle") (hlen : ∀ sig, parseMethodDescriptor z0.desc = some sig → argsL.length = sig.parameters.length) (E : Exa Z h a C) (hC : Ct l Z a0 EL nw z bytes mL rt rm (.ref a :: argsL).toArray h sfc n0 Q) (w4 : (Cond.code z bytes mL rt).before a0 Z = true) (w3 : (Cond.initialized z.cls).before a0 Z = true) (hsfc : ∀ x ∈ sfc, x ∈ sf) (hL : L.size = maxL) (hW : catS rest ≤ Wd) (hf : rm.frames + 1 ≤ R.frames) (hl : Wd + (mL + 11) + rm.locals ≤ R.locals) (hc : cells + rm.cells = c' ∧ c' ≤ R.cells) (hs : slots + rm.slots = s' ∧ s' ≤ R.slots) (hst : S = argsL.reverse ++ .ref a :: rest) (hnv : ∀ h so, ¬ Q none h so)
    (k : ∀ T' h' (v : Value) so, WS p l e R s m args below meth c Z a0 EL nw n0 y code maxL ret T' h' sf c' s' → Q (some v) h' so → WP p e below Φ T' (mkF m pc' L (v :: rest))) : WP p e below Φ T (mkF m pc L S) := by
  obtain ⟨locs, X, eT, hS, hZ, hown, hC0, hN, hn, hsf, hE, hWm, b1, b2, b3, b4, b5, b6⟩ := id W
  obtain ⟨rfl, hc⟩ := hc
  obtain ⟨rfl, hs⟩ := hs
  have hB := backCt (R := R) (p := p) (e := e) (below := below) (s := s) (args := args) (len := 5) (Wd := Wd) hC hZ w4 w3 hf hl hE hn hC0.1 (fun x hx => hsf x (hsfc x hx))
  obtain ⟨cq, kq, qa, qb, qc⟩ := isOf (s := s.setVm T.vm) hZ eT E
  obtain ⟨v, vm₁, ⟨U', L', c1, s1⟩, -, X', hS', hg, hpost, st⟩ := X.interfaceBackS W.hx (xi := z0) (y := z) hown (mvT (s := s.setVm T.vm) hZ w1) (mvT (s := s.setVm T.vm) hZ w2) (mvT (s := s.setVm T.vm) hZ w7 (by simp [Cond.onTables, Cond.keepsFace, Cond.keeps, Cond.steady, Cond.faceAtom, hy.1, hy.2])) (mvT (s := s.setVm T.vm) hZ w5) (mvT (s := s.setVm T.vm) hZ w6) (mvT (s := s.setVm T.vm) hZ w8) (mvT (s := s.setVm T.vm) hZ w9) (mvT (s := s.setVm T.vm) hZ w10) hy hB qa qb qc (g := mkF m pc L S) rfl (hL.trans b5.symm) (Steps.refl _) (argsL := argsL) (rest := rest) hlen hst (by show 2 * 0 + _ ≤ _; rw [Nat.mul_zero, Nat.zero_add]; exact hW) (W.hd dd) (fun vm₁ _ => ⟨rfl, eT, hc, hs⟩)
  obtain ⟨L1, so, q1, q2, q3, q4, q5, q6, qw, q7⟩ := hpost
  dsimp only [Pt.U, Pt.locs, Pt.cells, Pt.slots] at X' hS' hg q1 q2 q3 q4 q5 q6 qw q7 st
  subst q3 q4 q5
  obtain ⟨hd, rfl⟩ := dd
  have WW : WS p l e R s m args below meth c Z a0 EL nw n0 y code maxL ret U' U'.heap (so ++ sf) (cells + rm.cells) (slots + rm.slots) := by
    refine ⟨_, X', rfl, hS.trans hS' (by rw [← eT]; exact hg), State.Warmed39.trans (t := s.setVm T.vm) hZ hS'.1, by rw [hS'.1.alike.findClass]; exact hown, hC0.trans q6, hN.app q2, Nat.le_trans hn (by rw [← eT]; exact hg), fun x hx => ?_, hE, fun u => State.WarmedH.trans (t := s.setVm T.vm) (hWm u) (qw u), b1, b2, b3, b4, b5, b6⟩
    rcases List.mem_append.mp hx with u | u
    · exact q7 x u
    · obtain ⟨g1, g2, g3⟩ := hsf x u
      exact ⟨g1, Nat.lt_of_lt_of_le g2 (by rw [← eT]; exact hg), q6.safe g2 g3⟩
  cases v with
  | none => exact absurd q1 (hnv _ _)
  | some v =>
  refine WP.steps st (k _ _ v so (WS.mono (sf' := sf) WW (Nat.le_refl _) (Nat.le_refl _) (fun x hx => List.mem_append_right _ hx)) q1)

theorem k_callF0 (W : WS p l e R s m args below meth c Z a0 EL nw n0 y code maxL ret T h sf cells slots) {z : MethodName} {bytes : ByteArray} {mL : Nat} {rt : Option FieldType} {rm : Room} {sfc : List Addr} {Q : Option Value → Heap → List Addr → Prop} (Wd c' s' : Nat) {argsL rest : List Value} {index count : Nat} {a : Addr} {C : String} {z0 : MethodName} (dd : D code pc (.invokeinterface index count) 5 pc') (w1 : (Cond.methodLink y.cls index z0).before a0 Z = true) (w2 : (Cond.declares z0).before a0 Z = true) (w7 : (Cond.interfaceMethod z0.cls z0.cls z0.name z0.desc).before a0 Z = true) (w5 : (Cond.selects C z0 z).before a0 Z = true) (w6 : (Cond.instanceMethod z).before a0 Z = true) (w8 : (Cond.publicMethod z).before a0 Z = true) (w9 : (Cond.unhidden C z0.name z0.desc).before a0 Z = true) (w10 : (Cond.castable C z0.cls).before a0 Z = true) (hy : z0.cls ≠ "java/lang/invoke/MethodHandle" ∧ z0.cls ≠ "java/lang/invoke/VarHandle") (hlen : ∀ sig, parseMethodDescriptor z0.desc = some sig → argsL.length = sig.parameters.length) (E : Exa Z h a C) (hC : Ct l Z a0 EL nw z bytes mL rt rm (.ref a :: argsL).toArray h sfc n0 Q) (w4 : (Cond.code z bytes mL rt).before a0 Z = true) (w3 : (Cond.initialized z.cls).before a0 Z = true) (hsfc : ∀ x ∈ sfc, x ∈ sf) (hL : L.size = maxL) (hW : catS rest ≤ Wd) (hf : rm.frames + 1 ≤ R.frames) (hl : Wd + (mL + 11) + rm.locals ≤ R.locals) (hc : cells + rm.cells = c' ∧ c' ≤ R.cells) (hs : slots + rm.slots = s' ∧ s' ≤ R.slots) (hst : S = argsL.reverse ++ .ref a :: rest) (hnv : ∀ v h so, ¬ Q (some v) h so)
    (k : ∀ T' h'  so, WS p l e R s m args below meth c Z a0 EL nw n0 y code maxL ret T' h' sf c' s' → Q none h' so → WP p e below Φ T' (mkF m pc' L rest)) : WP p e below Φ T (mkF m pc L S) := by
  obtain ⟨locs, X, eT, hS, hZ, hown, hC0, hN, hn, hsf, hE, hWm, b1, b2, b3, b4, b5, b6⟩ := id W
  obtain ⟨rfl, hc⟩ := hc
  obtain ⟨rfl, hs⟩ := hs
  have hB := backCt (R := R) (p := p) (e := e) (below := below) (s := s) (args := args) (len := 5) (Wd := Wd) hC hZ w4 w3 hf hl hE hn hC0.1 (fun x hx => hsf x (hsfc x hx))
  obtain ⟨cq, kq, qa, qb, qc⟩ := isOf (s := s.setVm T.vm) hZ eT E
  obtain ⟨v, vm₁, ⟨U', L', c1, s1⟩, -, X', hS', hg, hpost, st⟩ := X.interfaceBackS W.hx (xi := z0) (y := z) hown (mvT (s := s.setVm T.vm) hZ w1) (mvT (s := s.setVm T.vm) hZ w2) (mvT (s := s.setVm T.vm) hZ w7 (by simp [Cond.onTables, Cond.keepsFace, Cond.keeps, Cond.steady, Cond.faceAtom, hy.1, hy.2])) (mvT (s := s.setVm T.vm) hZ w5) (mvT (s := s.setVm T.vm) hZ w6) (mvT (s := s.setVm T.vm) hZ w8) (mvT (s := s.setVm T.vm) hZ w9) (mvT (s := s.setVm T.vm) hZ w10) hy hB qa qb qc (g := mkF m pc L S) rfl (hL.trans b5.symm) (Steps.refl _) (argsL := argsL) (rest := rest) hlen hst (by show 2 * 0 + _ ≤ _; rw [Nat.mul_zero, Nat.zero_add]; exact hW) (W.hd dd) (fun vm₁ _ => ⟨rfl, eT, hc, hs⟩)
  obtain ⟨L1, so, q1, q2, q3, q4, q5, q6, qw, q7⟩ := hpost
  dsimp only [Pt.U, Pt.locs, Pt.cells, Pt.slots] at X' hS' hg q1 q2 q3 q4 q5 q6 qw q7 st
  subst q3 q4 q5
  obtain ⟨hd, rfl⟩ := dd
  have WW : WS p l e R s m args below meth c Z a0 EL nw n0 y code maxL ret U' U'.heap (so ++ sf) (cells + rm.cells) (slots + rm.slots) := by
    refine ⟨_, X', rfl, hS.trans hS' (by rw [← eT]; exact hg), State.Warmed39.trans (t := s.setVm T.vm) hZ hS'.1, by rw [hS'.1.alike.findClass]; exact hown, hC0.trans q6, hN.app q2, Nat.le_trans hn (by rw [← eT]; exact hg), fun x hx => ?_, hE, fun u => State.WarmedH.trans (t := s.setVm T.vm) (hWm u) (qw u), b1, b2, b3, b4, b5, b6⟩
    rcases List.mem_append.mp hx with u | u
    · exact q7 x u
    · obtain ⟨g1, g2, g3⟩ := hsf x u
      exact ⟨g1, Nat.lt_of_lt_of_le g2 (by rw [← eT]; exact hg), q6.safe g2 g3⟩
  cases v with
  | some v => exact absurd q1 (hnv _ _ _)
  | none =>
  refine WP.steps st (k _ _ so (WS.mono (sf' := sf) WW (Nat.le_refl _) (Nat.le_refl _) (fun x hx => List.mem_append_right _ hx)) q1)

theorem k_callFn (W : WS p l e R s m args below meth c Z a0 EL nw n0 y code maxL ret T h sf cells slots) {z : MethodName} {bytes : ByteArray} {mL : Nat} {rt : Option FieldType} {rm : Room} {sfc : List Addr} {Q : Option Value → Heap → List Addr → Prop} (Wd c' s' : Nat) {argsL rest : List Value} {index count : Nat} {a : Addr} {C : String} {z0 : MethodName} (dd : D code pc (.invokeinterface index count) 5 pc') (w1 : (Cond.methodLink y.cls index z0).before a0 Z = true) (w2 : (Cond.declares z0).before a0 Z = true) (w7 : (Cond.interfaceMethod z0.cls z0.cls z0.name z0.desc).before a0 Z = true) (w5 : (Cond.selects C z0 z).before a0 Z = true) (w6 : (Cond.instanceMethod z).before a0 Z = true) (w8 : (Cond.publicMethod z).before a0 Z = true) (w9 : (Cond.unhidden C z0.name z0.desc).before a0 Z = true) (w10 : (Cond.castable C z0.cls).before a0 Z = true) (hy : z0.cls ≠ "java/lang/invoke/MethodHandle" ∧ z0.cls ≠ "java/lang/invoke/VarHandle") (hlen : ∀ sig, parseMethodDescriptor z0.desc = some sig → argsL.length = sig.parameters.length) (E : Exa Z h a C) (hC : Ct l Z a0 EL nw z bytes mL rt rm (.ref a :: argsL).toArray h sfc n0 Q) (w4 : (Cond.code z bytes mL rt).before a0 Z = true) (w3 : (Cond.initialized z.cls).before a0 Z = true) (hsfc : ∀ x ∈ sfc, x ∈ sf) (hL : L.size = maxL) (hW : catS rest ≤ Wd) (hf : rm.frames + 1 ≤ R.frames) (hl : Wd + (mL + 11) + rm.locals ≤ R.locals) (hc : cells + rm.cells = c' ∧ c' ≤ R.cells) (hs : slots + rm.slots = s' ∧ s' ≤ R.slots) (hst : S = argsL.reverse ++ .ref a :: rest) (hnv : ∀ h so, ¬ Q none h so)
    (k : ∀ T' h' (v : Value) so, WS p l e R s m args below meth c Z a0 EL nw n0 y code maxL ret T' h' (so ++ sf) c' s' → Q (some v) h' so → WP p e below Φ T' (mkF m pc' L (v :: rest))) : WP p e below Φ T (mkF m pc L S) := by
  obtain ⟨locs, X, eT, hS, hZ, hown, hC0, hN, hn, hsf, hE, hWm, b1, b2, b3, b4, b5, b6⟩ := id W
  obtain ⟨rfl, hc⟩ := hc
  obtain ⟨rfl, hs⟩ := hs
  have hB := backCt (R := R) (p := p) (e := e) (below := below) (s := s) (args := args) (len := 5) (Wd := Wd) hC hZ w4 w3 hf hl hE hn hC0.1 (fun x hx => hsf x (hsfc x hx))
  obtain ⟨cq, kq, qa, qb, qc⟩ := isOf (s := s.setVm T.vm) hZ eT E
  obtain ⟨v, vm₁, ⟨U', L', c1, s1⟩, -, X', hS', hg, hpost, st⟩ := X.interfaceBackS W.hx (xi := z0) (y := z) hown (mvT (s := s.setVm T.vm) hZ w1) (mvT (s := s.setVm T.vm) hZ w2) (mvT (s := s.setVm T.vm) hZ w7 (by simp [Cond.onTables, Cond.keepsFace, Cond.keeps, Cond.steady, Cond.faceAtom, hy.1, hy.2])) (mvT (s := s.setVm T.vm) hZ w5) (mvT (s := s.setVm T.vm) hZ w6) (mvT (s := s.setVm T.vm) hZ w8) (mvT (s := s.setVm T.vm) hZ w9) (mvT (s := s.setVm T.vm) hZ w10) hy hB qa qb qc (g := mkF m pc L S) rfl (hL.trans b5.symm) (Steps.refl _) (argsL := argsL) (rest := rest) hlen hst (by show 2 * 0 + _ ≤ _; rw [Nat.mul_zero, Nat.zero_add]; exact hW) (W.hd dd) (fun vm₁ _ => ⟨rfl, eT, hc, hs⟩)
  obtain ⟨L1, so, q1, q2, q3, q4, q5, q6, qw, q7⟩ := hpost
  dsimp only [Pt.U, Pt.locs, Pt.cells, Pt.slots] at X' hS' hg q1 q2 q3 q4 q5 q6 qw q7 st
  subst q3 q4 q5
  obtain ⟨hd, rfl⟩ := dd
  have WW : WS p l e R s m args below meth c Z a0 EL nw n0 y code maxL ret U' U'.heap (so ++ sf) (cells + rm.cells) (slots + rm.slots) := by
    refine ⟨_, X', rfl, hS.trans hS' (by rw [← eT]; exact hg), State.Warmed39.trans (t := s.setVm T.vm) hZ hS'.1, by rw [hS'.1.alike.findClass]; exact hown, hC0.trans q6, hN.app q2, Nat.le_trans hn (by rw [← eT]; exact hg), fun x hx => ?_, hE, fun u => State.WarmedH.trans (t := s.setVm T.vm) (hWm u) (qw u), b1, b2, b3, b4, b5, b6⟩
    rcases List.mem_append.mp hx with u | u
    · exact q7 x u
    · obtain ⟨g1, g2, g3⟩ := hsf x u
      exact ⟨g1, Nat.lt_of_lt_of_le g2 (by rw [← eT]; exact hg), q6.safe g2 g3⟩
  cases v with
  | none => exact absurd q1 (hnv _ _)
  | some v =>
  refine WP.steps st (k _ _ v so WW q1)

theorem k_callFz (W : WS p l e R s m args below meth c Z a0 EL nw n0 y code maxL ret T h sf cells slots) {z : MethodName} {bytes : ByteArray} {mL : Nat} {rt : Option FieldType} {rm : Room} {sfc : List Addr} {Q : Option Value → Heap → List Addr → Prop} (Wd c' s' : Nat) {argsL rest : List Value} {index count : Nat} {a : Addr} {C : String} {z0 : MethodName} (dd : D code pc (.invokeinterface index count) 5 pc') (w1 : (Cond.methodLink y.cls index z0).before a0 Z = true) (w2 : (Cond.declares z0).before a0 Z = true) (w7 : (Cond.interfaceMethod z0.cls z0.cls z0.name z0.desc).before a0 Z = true) (w5 : (Cond.selects C z0 z).before a0 Z = true) (w6 : (Cond.instanceMethod z).before a0 Z = true) (w8 : (Cond.publicMethod z).before a0 Z = true) (w9 : (Cond.unhidden C z0.name z0.desc).before a0 Z = true) (w10 : (Cond.castable C z0.cls).before a0 Z = true) (hy : z0.cls ≠ "java/lang/invoke/MethodHandle" ∧ z0.cls ≠ "java/lang/invoke/VarHandle") (hlen : ∀ sig, parseMethodDescriptor z0.desc = some sig → argsL.length = sig.parameters.length) (E : Exa Z h a C) (hC : Ct l Z a0 EL nw z bytes mL rt rm (.ref a :: argsL).toArray h sfc n0 Q) (w4 : (Cond.code z bytes mL rt).before a0 Z = true) (w3 : (Cond.initialized z.cls).before a0 Z = true) (hsfc : ∀ x ∈ sfc, x ∈ sf) (hL : L.size = maxL) (hW : catS rest ≤ Wd) (hf : rm.frames + 1 ≤ R.frames) (hl : Wd + (mL + 11) + rm.locals ≤ R.locals) (hc : cells + rm.cells = c' ∧ c' ≤ R.cells) (hs : slots + rm.slots = s' ∧ s' ≤ R.slots) (hst : S = argsL.reverse ++ .ref a :: rest) (hnv : ∀ v h so, ¬ Q (some v) h so)
    (k : ∀ T' h'  so, WS p l e R s m args below meth c Z a0 EL nw n0 y code maxL ret T' h' (so ++ sf) c' s' → Q none h' so → WP p e below Φ T' (mkF m pc' L rest)) : WP p e below Φ T (mkF m pc L S) := by
  obtain ⟨locs, X, eT, hS, hZ, hown, hC0, hN, hn, hsf, hE, hWm, b1, b2, b3, b4, b5, b6⟩ := id W
  obtain ⟨rfl, hc⟩ := hc
  obtain ⟨rfl, hs⟩ := hs
  have hB := backCt (R := R) (p := p) (e := e) (below := below) (s := s) (args := args) (len := 5) (Wd := Wd) hC hZ w4 w3 hf hl hE hn hC0.1 (fun x hx => hsf x (hsfc x hx))
  obtain ⟨cq, kq, qa, qb, qc⟩ := isOf (s := s.setVm T.vm) hZ eT E
  obtain ⟨v, vm₁, ⟨U', L', c1, s1⟩, -, X', hS', hg, hpost, st⟩ := X.interfaceBackS W.hx (xi := z0) (y := z) hown (mvT (s := s.setVm T.vm) hZ w1) (mvT (s := s.setVm T.vm) hZ w2) (mvT (s := s.setVm T.vm) hZ w7 (by simp [Cond.onTables, Cond.keepsFace, Cond.keeps, Cond.steady, Cond.faceAtom, hy.1, hy.2])) (mvT (s := s.setVm T.vm) hZ w5) (mvT (s := s.setVm T.vm) hZ w6) (mvT (s := s.setVm T.vm) hZ w8) (mvT (s := s.setVm T.vm) hZ w9) (mvT (s := s.setVm T.vm) hZ w10) hy hB qa qb qc (g := mkF m pc L S) rfl (hL.trans b5.symm) (Steps.refl _) (argsL := argsL) (rest := rest) hlen hst (by show 2 * 0 + _ ≤ _; rw [Nat.mul_zero, Nat.zero_add]; exact hW) (W.hd dd) (fun vm₁ _ => ⟨rfl, eT, hc, hs⟩)
  obtain ⟨L1, so, q1, q2, q3, q4, q5, q6, qw, q7⟩ := hpost
  dsimp only [Pt.U, Pt.locs, Pt.cells, Pt.slots] at X' hS' hg q1 q2 q3 q4 q5 q6 qw q7 st
  subst q3 q4 q5
  obtain ⟨hd, rfl⟩ := dd
  have WW : WS p l e R s m args below meth c Z a0 EL nw n0 y code maxL ret U' U'.heap (so ++ sf) (cells + rm.cells) (slots + rm.slots) := by
    refine ⟨_, X', rfl, hS.trans hS' (by rw [← eT]; exact hg), State.Warmed39.trans (t := s.setVm T.vm) hZ hS'.1, by rw [hS'.1.alike.findClass]; exact hown, hC0.trans q6, hN.app q2, Nat.le_trans hn (by rw [← eT]; exact hg), fun x hx => ?_, hE, fun u => State.WarmedH.trans (t := s.setVm T.vm) (hWm u) (qw u), b1, b2, b3, b4, b5, b6⟩
    rcases List.mem_append.mp hx with u | u
    · exact q7 x u
    · obtain ⟨g1, g2, g3⟩ := hsf x u
      exact ⟨g1, Nat.lt_of_lt_of_le g2 (by rw [← eT]; exact hg), q6.safe g2 g3⟩
  cases v with
  | some v => exact absurd q1 (hnv _ _ _)
  | none =>
  refine WP.steps st (k _ _ so WW q1)

def CtX (l : Launch) (Z : State) (a0 : Array Value) (EL : List (String × Nat)) (nw : Bool) (y : MethodName) (bytes : ByteArray) (maxL : Nat) (ret : Option FieldType) (rm : Room) (as' : Array Value) (h : Heap) (sf : List Addr) (n0 : Nat) (Q : Option Value → Heap → List Addr → Prop) : Prop :=
  ∀ ws, MetFree l y (head1 (Cond.code y bytes maxL ret :: ws) rm) (fun a U => a = as' ∧ Z.Warmed39 U.vm ∧ U.heap = h ∧ CHv Z EL U.vm h ∧ n0 ≤ h.size ∧ EW Z a0 EL ∧ ∀ x ∈ sf, n0 ≤ x ∧ x < h.size ∧ Safe Z EL U.vm h x) (fun _ _ bl s _ => s.vm.MethodsKnown ∧ s.vm.FramesKnown bl)
    (fun _ U o U' => Fne U n0 Z EL nw rm Q o U')
theorem CtX.body {rm : Room} {Q : Option Value → Heap → List Addr → Prop} {as' : Array Value} (hp : plainFor y = true)
    (body : ∀ p e s m below meth c s₁, WS p l e rm s m as' below meth c Z a0 EL nw n0 y code maxL ret s₁ h sf 0 0 → s.heap = h → s.vm.MethodsKnown → s.vm.FramesKnown below → WP p e below (Fne s n0 Z EL nw rm Q) s₁ (entryFrame m as' maxL)) : CtX l Z a0 EL nw y code maxL ret rm as' h sf n0 Q := by
  intro ws
  refine MetFree.of_bodySF hp hisR ?_
  intro p e s m args below meth c s₁ Bd hml hP hK
  obtain ⟨rfl, hZ, hh, hC, hn, hE, hsf⟩ := hP
  have X0 : Stand p l e rm s m args below meth c s₁ [] 0 0 := Stand.of_body Bd
  have e0 : s₁.heap = h := by rw [← hh, Bd.state]; rfl
  have ev : s₁.vm = s.vm := by rw [Bd.state]; rfl
  have hs : s.heap = h := hh
  refine body p e s m below meth c s₁ ⟨[], X0.retabled X0.warmed.wide, e0, X0.warmed.since _, wtrans hZ X0.warmed, ?_, ?_, Fr.nil _, hn, ?_, hE, fun _ => X0.warmed, Bd.exec, Bd.bytes, Bd.returns, Bd.notSynchronized, hml, (name_of_methodNamed Bd.named Bd.method).1⟩ hs hK.1 hK.2
  · rw [ev]; exact findClass_of_methodNamed Bd.named
  · rw [ev, hs]; exact CHr.refl hC
  · rw [ev]; exact hsf

theorem backCtX {z : MethodName} {bytes : ByteArray} {mL : Nat} {rt : Option FieldType} {rm : Room} {as' : Array Value} {sfc : List Addr} {Q : Option Value → Heap → List Addr → Prop} {len Wd : Nat} {vm0 : Vm}
    (hM : CtX l Z a0 EL nw z bytes mL rt rm as' h sfc n0 Q) (hZ : Z.Warmed39 vm0) (wc : (Cond.code z bytes mL rt).before a0 Z = true) (wz : (Cond.initialized z.cls).before a0 Z = true) (hf : rm.frames + 1 ≤ R.frames) (hl : Wd + (mL + 11) + rm.locals ≤ R.locals) (hE : EW Z a0 EL) (hn : n0 ≤ h.size) (H : CHv Z EL vm0 h) (hsf : ∀ x ∈ sfc, n0 ≤ x ∧ x < h.size ∧ Safe Z EL vm0 h x) (hTK : vm0.MethodsKnown) (hBl : vm0.FramesKnown below) :
    BackS l R p e below (s.setVm vm0) args z len Wd (fun A a => a = as' ∧ A.U.heap = h ∧ A.cells + rm.cells ≤ R.cells ∧ A.slots + rm.slots ≤ R.slots)
      (fun A _ v B => ∃ L so, Q v B.U.heap so ∧ Fr n0 L ∧ B.locs = A.locs ++ L ∧ B.cells = A.cells + rm.cells ∧ B.slots = A.slots + rm.slots ∧ CHr Z EL vm0 h B.U.vm B.U.heap ∧ (nw = true → (s.setVm vm0).WarmedH B.U.vm) ∧ ∀ x ∈ so, n0 ≤ x ∧ x < B.U.heap.size ∧ Safe Z EL B.U.vm B.U.heap x) := by
  refine BackS.of_freeWG (bytes := bytes) (maxL := mL) (ret := rt) (E := fun _ first o t L k n => k = rm.cells ∧ n = rm.slots ∧ ∃ v so, o = .returned v ∧ Q v t.heap so ∧ Fr n0 L ∧ CHr Z EL first.vm first.heap t.vm t.heap ∧ (nw = true → first.WarmedH t.vm) ∧ ∀ x ∈ so, n0 ≤ x ∧ x < t.heap.size ∧ Safe Z EL t.vm t.heap x) (hM []) hf hl ?_ ?_ (fun m meth c A a g mk Y _ hg => known_frames Y hg hTK hBl) ?_ ?_
  · intro m meth c A a Y hp
    have hU : Z.Warmed39 A.U.vm := wtrans (s := s.setVm vm0) hZ Y.warmed
    exact ⟨by show (Cond.and _ .tt).before a A.U = true; rw [Cond.before_and, mv hU wc]; rfl, mv hU wc, mv hU wz, hp.2.2.1, hp.2.2.2⟩
  · intro m meth c A a g mk Y hp
    have C := CHv.at Y hZ hE H
    refine ⟨hp.1, wtrans (s := s.setVm vm0) hZ Y.warmed, hp.2.1, C.1, hn, hE, fun x hx => ?_⟩
    obtain ⟨q1, q2, q3⟩ := hsf x hx
    exact ⟨q1, q2, C.safe q2 q3⟩
  · rintro a first o t ⟨v, L, so, q1, q2, q3, q4, q5, qw, q6⟩
    exact ⟨L, _, _, q6, rfl, rfl, v, so, q1, q2, q3, q4, qw, q5⟩
  · rintro m meth c A a g mk v t L k n Y hp - - ⟨rfl, rfl, v', so, q1, q2, q3, q4, qw, q5⟩
    cases q1
    refine ⟨L, so, q2, q3, rfl, rfl, rfl, (CHv.at Y hZ hE H).trans ?_, fun u => State.WarmedH.trans Y.warmed (qw u), q5⟩
    rw [← hp.2.1]; exact q4

theorem k_callIX0 (W : WS p l e R s m args below meth c Z a0 EL nw n0 y code maxL ret T h sf cells slots) {z : MethodName} {bytes : ByteArray} {mL : Nat} {rt : Option FieldType} {rm : Room} {sfc : List Addr} {Q : Option Value → Heap → List Addr → Prop} (Wd c' s' : Nat) {argsL rest : List Value} {index : Nat} {a : Addr} (dd : D code pc (.invokespecial index) 3 pc') (hrt : rt = none) (hz : z.name = "<init>") (w1 : (Cond.methodLink y.cls index z).before a0 Z = true) (w2 : (Cond.instanceMethod z).before a0 Z = true) (hy : z.cls ≠ "java/lang/invoke/MethodHandle" ∧ z.cls ≠ "java/lang/invoke/VarHandle") (hlen : ∀ sig, parseMethodDescriptor z.desc = some sig → argsL.length = sig.parameters.length) (hTK : s.vm.MethodsKnown) (hBl : s.vm.FramesKnown below) (hC : CtX l Z a0 EL nw z bytes mL rt rm (.ref a :: argsL).toArray h sfc n0 Q) (w4 : (Cond.code z bytes mL rt).before a0 Z = true) (w3 : (Cond.initialized z.cls).before a0 Z = true) (hsfc : ∀ x ∈ sfc, x ∈ sf) (hL : L.size = maxL) (hW : catS rest ≤ Wd) (hf : rm.frames + 1 ≤ R.frames) (hl : Wd + (mL + 11) + rm.locals ≤ R.locals) (hc : cells + rm.cells = c' ∧ c' ≤ R.cells) (hs : slots + rm.slots = s' ∧ s' ≤ R.slots) (hst : S = argsL.reverse ++ .ref a :: rest) (hnv : ∀ v h so, ¬ Q (some v) h so)
    (k : ∀ T' h'  so, WS p l e R s m args below meth c Z a0 EL nw n0 y code maxL ret T' h' sf c' s' → Q none h' so → WP p e below Φ T' (mkF m pc' L rest)) : WP p e below Φ T (mkF m pc L S) := by
  obtain ⟨locs, X, eT, hS, hZ, hown, hC0, hN, hn, hsf, hE, hWm, b1, b2, b3, b4, b5, b6⟩ := id W
  obtain ⟨rfl, hc⟩ := hc
  obtain ⟨rfl, hs⟩ := hs
  have hal : s.vm.Alike T.vm := hS.1.alike
  have hB := backCtX (R := R) (p := p) (e := e) (below := below) (s := s) (args := args) (len := 3) (Wd := Wd) hC hZ w4 w3 hf hl hE hn hC0.1 (fun x hx => hsf x (hsfc x hx)) (Vm.MethodsKnown.alikeC hal hTK) (Vm.FramesKnown.alikeC hal hBl)
  subst hrt
  obtain ⟨v, vm₁, ⟨U', L', c1, s1⟩, -, X', hS', hg, hpost, st⟩ := X.specialBackS W.hx (y := z) hz hown (mvT (s := s.setVm T.vm) hZ w1) (mvT (s := s.setVm T.vm) hZ w2) (mvT (s := s.setVm T.vm) hZ w4) hy hB (g := mkF m pc L S) rfl (hL.trans b5.symm) (Steps.refl _) (a := a) (argsL := argsL) (rest := rest) hlen hst (by show 2 * 0 + _ ≤ _; rw [Nat.mul_zero, Nat.zero_add]; exact hW) (W.hd dd) (fun vm₁ _ => ⟨rfl, eT, hc, hs⟩)
  obtain ⟨L1, so, q1, q2, q3, q4, q5, q6, qw, q7⟩ := hpost
  dsimp only [Pt.U, Pt.locs, Pt.cells, Pt.slots] at X' hS' hg q1 q2 q3 q4 q5 q6 qw q7 st
  subst q3 q4 q5
  obtain ⟨hd, rfl⟩ := dd
  have WW : WS p l e R s m args below meth c Z a0 EL nw n0 y code maxL ret U' U'.heap (so ++ sf) (cells + rm.cells) (slots + rm.slots) := by
    refine ⟨_, X', rfl, hS.trans hS' (by rw [← eT]; exact hg), State.Warmed39.trans (t := s.setVm T.vm) hZ hS'.1, by rw [hS'.1.alike.findClass]; exact hown, hC0.trans q6, hN.app q2, Nat.le_trans hn (by rw [← eT]; exact hg), fun x hx => ?_, hE, fun u => State.WarmedH.trans (t := s.setVm T.vm) (hWm u) (qw u), b1, b2, b3, b4, b5, b6⟩
    rcases List.mem_append.mp hx with u | u
    · exact q7 x u
    · obtain ⟨g1, g2, g3⟩ := hsf x u
      exact ⟨g1, Nat.lt_of_lt_of_le g2 (by rw [← eT]; exact hg), q6.safe g2 g3⟩
  cases v with
  | some v => exact absurd q1 (hnv _ _ _)
  | none =>
  refine WP.steps st (k _ _ so (WS.mono (sf' := sf) WW (Nat.le_refl _) (Nat.le_refl _) (fun x hx => List.mem_append_right _ hx)) q1)

theorem k_callVX (W : WS p l e R s m args below meth c Z a0 EL nw n0 y code maxL ret T h sf cells slots) {z : MethodName} {bytes : ByteArray} {mL : Nat} {rt : Option FieldType} {rm : Room} {sfc : List Addr} {Q : Option Value → Heap → List Addr → Prop} (Wd c' s' : Nat) {argsL rest : List Value} {index : Nat} {a : Addr} {C : String} {z0 : MethodName} (dd : D code pc (.invokevirtual index) 3 pc') (w1 : (Cond.methodLink y.cls index z0).before a0 Z = true) (w2 : (Cond.declares z0).before a0 Z = true) (nf : ∀ s' : State, Z.Warmed39 s'.vm → NotFace s' z0) (w5 : (Cond.selects C z0 z).before a0 Z = true) (w6 : (Cond.instanceMethod z).before a0 Z = true) (hy : z0.cls ≠ "java/lang/invoke/MethodHandle" ∧ z0.cls ≠ "java/lang/invoke/VarHandle") (hlen : ∀ sig, parseMethodDescriptor z0.desc = some sig → argsL.length = sig.parameters.length) (E : Exa Z h a C) (hTK : s.vm.MethodsKnown) (hBl : s.vm.FramesKnown below) (hC : CtX l Z a0 EL nw z bytes mL rt rm (.ref a :: argsL).toArray h sfc n0 Q) (w4 : (Cond.code z bytes mL rt).before a0 Z = true) (w3 : (Cond.initialized z.cls).before a0 Z = true) (hsfc : ∀ x ∈ sfc, x ∈ sf) (hL : L.size = maxL) (hW : catS rest ≤ Wd) (hf : rm.frames + 1 ≤ R.frames) (hl : Wd + (mL + 11) + rm.locals ≤ R.locals) (hc : cells + rm.cells = c' ∧ c' ≤ R.cells) (hs : slots + rm.slots = s' ∧ s' ≤ R.slots) (hst : S = argsL.reverse ++ .ref a :: rest) (hnv : ∀ h so, ¬ Q none h so)
    (k : ∀ T' h' (v : Value) so, WS p l e R s m args below meth c Z a0 EL nw n0 y code maxL ret T' h' sf c' s' → Q (some v) h' so → WP p e below Φ T' (mkF m pc' L (v :: rest))) : WP p e below Φ T (mkF m pc L S) := by
  obtain ⟨locs, X, eT, hS, hZ, hown, hC0, hN, hn, hsf, hE, hWm, b1, b2, b3, b4, b5, b6⟩ := id W
  obtain ⟨rfl, hc⟩ := hc
  obtain ⟨rfl, hs⟩ := hs
  have hal : s.vm.Alike T.vm := hS.1.alike
  have hB := backCtX (R := R) (p := p) (e := e) (below := below) (s := s) (args := args) (len := 3) (Wd := Wd) hC hZ w4 w3 hf hl hE hn hC0.1 (fun x hx => hsf x (hsfc x hx)) (Vm.MethodsKnown.alikeC hal hTK) (Vm.FramesKnown.alikeC hal hBl)
  obtain ⟨cq, kq, qa, qb, qc⟩ := isOf (s := s.setVm T.vm) hZ eT E
  obtain ⟨v, vm₁, ⟨U', L', c1, s1⟩, -, X', hS', hg, hpost, st⟩ := X.virtualBackS W.hx (y := z0) (z := z) hown (mvT (s := s.setVm T.vm) hZ w1) (mvT (s := s.setVm T.vm) hZ w2) (nf (s.setVm T.vm) hZ) (mvT (s := s.setVm T.vm) hZ w5) (mvT (s := s.setVm T.vm) hZ w6) hy hB qa qc (g := mkF m pc L S) rfl (hL.trans b5.symm) (Steps.refl _) (argsL := argsL) (rest := rest) hlen hst (by show 2 * 0 + _ ≤ _; rw [Nat.mul_zero, Nat.zero_add]; exact hW) (W.hd dd) (fun vm₁ _ => ⟨rfl, eT, hc, hs⟩)
  obtain ⟨L1, so, q1, q2, q3, q4, q5, q6, qw, q7⟩ := hpost
  dsimp only [Pt.U, Pt.locs, Pt.cells, Pt.slots] at X' hS' hg q1 q2 q3 q4 q5 q6 qw q7 st
  subst q3 q4 q5
  obtain ⟨hd, rfl⟩ := dd
  have WW : WS p l e R s m args below meth c Z a0 EL nw n0 y code maxL ret U' U'.heap (so ++ sf) (cells + rm.cells) (slots + rm.slots) := by
    refine ⟨_, X', rfl, hS.trans hS' (by rw [← eT]; exact hg), State.Warmed39.trans (t := s.setVm T.vm) hZ hS'.1, by rw [hS'.1.alike.findClass]; exact hown, hC0.trans q6, hN.app q2, Nat.le_trans hn (by rw [← eT]; exact hg), fun x hx => ?_, hE, fun u => State.WarmedH.trans (t := s.setVm T.vm) (hWm u) (qw u), b1, b2, b3, b4, b5, b6⟩
    rcases List.mem_append.mp hx with u | u
    · exact q7 x u
    · obtain ⟨g1, g2, g3⟩ := hsf x u
      exact ⟨g1, Nat.lt_of_lt_of_le g2 (by rw [← eT]; exact hg), q6.safe g2 g3⟩
  cases v with
  | none => exact absurd q1 (hnv _ _)
  | some v =>
  refine WP.steps st (k _ _ v so (WS.mono (sf' := sf) WW (Nat.le_refl _) (Nat.le_refl _) (fun x hx => List.mem_append_right _ hx)) q1)

theorem k_callW (W : WS p l e R s m args below meth c Z a0 EL nw n0 y code maxL ret T h sf cells slots) {z : MethodName} {bytes : ByteArray} {mL : Nat} {rt : Option FieldType} {rm : Room} {sfc : List Addr} {Q : Option Value → Heap → List Addr → Prop} (Wd c' s' : Nat) {argsL rest : List Value} {index : Nat} {a : Addr} {C owner : String} {z0 : MethodName} (dd : D code pc (.invokevirtual index) 3 pc') (w1 : (Cond.methodLink y.cls index z0).before a0 Z = true) (w2 : (Cond.sameMethod z0.cls owner z0.name z0.desc).before a0 Z = true) (w7 : (Cond.declares ⟨owner, z0.name, z0.desc⟩).before a0 Z = true) (w5 : (Cond.selects C z0 z).before a0 Z = true) (w6 : (Cond.instanceMethod z).before a0 Z = true) (hz0 : z0.cls ≠ "java/lang/invoke/MethodHandle" ∧ z0.cls ≠ "java/lang/invoke/VarHandle") (hy : owner ≠ "java/lang/invoke/MethodHandle" ∧ owner ≠ "java/lang/invoke/VarHandle") (hlen : ∀ sig, parseMethodDescriptor z0.desc = some sig → argsL.length = sig.parameters.length) (E : Exa Z h a C) (hC : Ct l Z a0 EL nw z bytes mL rt rm (.ref a :: argsL).toArray h sfc n0 Q) (w4 : (Cond.code z bytes mL rt).before a0 Z = true) (w3 : (Cond.initialized z.cls).before a0 Z = true) (hsfc : ∀ x ∈ sfc, x ∈ sf) (hL : L.size = maxL) (hW : catS rest ≤ Wd) (hf : rm.frames + 1 ≤ R.frames) (hl : Wd + (mL + 11) + rm.locals ≤ R.locals) (hc : cells + rm.cells = c' ∧ c' ≤ R.cells) (hs : slots + rm.slots = s' ∧ s' ≤ R.slots) (hst : S = argsL.reverse ++ .ref a :: rest) (hnv : ∀ h so, ¬ Q none h so)
    (k : ∀ T' h' (v : Value) so, WS p l e R s m args below meth c Z a0 EL nw n0 y code maxL ret T' h' sf c' s' → Q (some v) h' so → WP p e below Φ T' (mkF m pc' L (v :: rest))) : WP p e below Φ T (mkF m pc L S) := by
  obtain ⟨locs, X, eT, hS, hZ, hown, hC0, hN, hn, hsf, hE, hWm, b1, b2, b3, b4, b5, b6⟩ := id W
  obtain ⟨rfl, hc⟩ := hc
  obtain ⟨rfl, hs⟩ := hs
  have hB := backCt (R := R) (p := p) (e := e) (below := below) (s := s) (args := args) (len := 3) (Wd := Wd) hC hZ w4 w3 hf hl hE hn hC0.1 (fun x hx => hsf x (hsfc x hx))
  obtain ⟨cq, kq, qa, qb, qc⟩ := isOf (s := s.setVm T.vm) hZ eT E
  obtain ⟨v, vm₁, ⟨U', L', c1, s1⟩, -, X', hS', hg, hpost, st⟩ := X.virtualBackUpS W.hx (x := z0) (y := z) (owner := owner) hown (mvT (s := s.setVm T.vm) hZ w1) (Cond.sameMethod_setVm (hZ.alike) hz0 w2) (mvT (s := s.setVm T.vm) hZ w7) hy (mvT (s := s.setVm T.vm) hZ w5) (mvT (s := s.setVm T.vm) hZ w6) hB qa qc (g := mkF m pc L S) rfl (hL.trans b5.symm) (Steps.refl _) (argsL := argsL) (rest := rest) hlen hst (by show 2 * 0 + _ ≤ _; rw [Nat.mul_zero, Nat.zero_add]; exact hW) (W.hd dd) (fun vm₁ _ => ⟨rfl, eT, hc, hs⟩)
  obtain ⟨L1, so, q1, q2, q3, q4, q5, q6, qw, q7⟩ := hpost
  dsimp only [Pt.U, Pt.locs, Pt.cells, Pt.slots] at X' hS' hg q1 q2 q3 q4 q5 q6 qw q7 st
  subst q3 q4 q5
  obtain ⟨hd, rfl⟩ := dd
  have WW : WS p l e R s m args below meth c Z a0 EL nw n0 y code maxL ret U' U'.heap (so ++ sf) (cells + rm.cells) (slots + rm.slots) := by
    refine ⟨_, X', rfl, hS.trans hS' (by rw [← eT]; exact hg), State.Warmed39.trans (t := s.setVm T.vm) hZ hS'.1, by rw [hS'.1.alike.findClass]; exact hown, hC0.trans q6, hN.app q2, Nat.le_trans hn (by rw [← eT]; exact hg), fun x hx => ?_, hE, fun u => State.WarmedH.trans (t := s.setVm T.vm) (hWm u) (qw u), b1, b2, b3, b4, b5, b6⟩
    rcases List.mem_append.mp hx with u | u
    · exact q7 x u
    · obtain ⟨g1, g2, g3⟩ := hsf x u
      exact ⟨g1, Nat.lt_of_lt_of_le g2 (by rw [← eT]; exact hg), q6.safe g2 g3⟩
  cases v with
  | none => exact absurd q1 (hnv _ _)
  | some v =>
  refine WP.steps st (k _ _ v so (WS.mono (sf' := sf) WW (Nat.le_refl _) (Nat.le_refl _) (fun x hx => List.mem_append_right _ hx)) q1)

theorem k_newU (W : WS p l e R s m args below meth c Z a0 EL nw n0 y code maxL ret T h sf cells slots) {index n : Nat} {C : String} (c' s' : Nat) (dd : D code pc (.new index) 3 pc') (w : (Cond.classLink y.cls index C).before a0 Z = true) (wi : (Cond.instantiable C n).before a0 Z = true) (wz : (Cond.initialized C).before a0 Z = true) (hc : cells + 1 = c' ∧ c' ≤ R.cells) (hl : slots + n = s' ∧ s' ≤ R.slots)
    (k : ∀ T' h' a, a = h.size → WS p l e R s m args below meth c Z a0 EL nw n0 y code maxL ret T' h' (a :: sf) c' s' → Ext h h' → Exa Z h' a C → (∀ {O nm d : String} {ty : FieldType}, Laid Z a0 C O nm d → parseFieldDescriptor d = some ty → Fld Z h' a O nm d (defaultValue ty)) → Unt h' a → WP p e below Φ T' (mkF m pc' L (.ref a :: S))) : WP p e below Φ T (mkF m pc L (S)) := by
  obtain ⟨locs, X, eT, hS, hZ, hown, hC, hN, hn, hsf, hE, hWm, b1, b2, b3, b4, b5, b6⟩ := id W
  obtain ⟨rfl, hc⟩ := hc
  obtain ⟨rfl, hl⟩ := hl
  obtain ⟨T', h', X', e', E, A, Dd, U, st⟩ := newO X W.hx hZ hown w wi wz eT (g := mkF m pc L S) rfl (W.hd dd) hc hl
  obtain ⟨hd, rfl⟩ := dd
  exact WP.st (fun t q => st t q) (k T' h' _ rfl (W.pack X' e' hN E.1 (fun H => H.step fun _ _ _ q => E.2 _ _ q) (fun x hx => (List.mem_cons.mp hx).elim (fun q => Or.inr (by subst q; exact ⟨Nat.le_refl _, A.lt⟩)) Or.inl)) E A Dd U)
theorem k_ldcF (W : WS p l e R s m args below meth c Z a0 EL nw n0 y code maxL ret T h sf cells slots) {index : Nat} {b : UInt32} (dd : D code pc (.ldc index) 2 pc') (w : (Cond.constantFloat y.cls index b).before a0 Z = true) (k : WP p e below Φ T (mkF m pc' L (.float b :: S))) : WP p e below Φ T (mkF m pc L (S)) := by
  obtain ⟨locs, X, eT, hS, hZ, hown, hC, hN, hn, hsf, hE, hWm, b1, b2, b3, b4, b5, b6⟩ := id W
  obtain ⟨hd, rfl⟩ := id dd
  exact WP.st (fun t q => X.ldcFloatC W.hx hown (mv (s := s.setVm T.vm) hZ w) (g := mkF m pc L S) rfl (W.hd dd) t q) k

theorem nfSel {C : String} {z0 : MethodName} (w : (Cond.selects C z0 z0).before a0 Z = true) (s' : State) (hZ : Z.Warmed39 s'.vm) : NotFace s' z0 := notFace_of_selects (args := #[]) (mvT hZ w)
theorem nfSel2 {C : String} {z1 z0 : MethodName} (w : (Cond.selects C z1 z1).before a0 Z = true) (hc : z0.cls = z1.cls) (s' : State) (hZ : Z.Warmed39 s'.vm) : NotFace s' z0 := fun r0 h0 => by
  obtain ⟨c2, r2, m2, q1, q2, q3, q4, kP, hkP, hkPi⟩ := Cond.selects_spec (args := #[]) (mvT hZ w)
  have e1 := findClass_of_methodNamed h0
  have e2 := findClass_of_methodNamed q3
  rw [hc] at e1
  have e3 := Option.some.inj (e1.symm.trans e2)
  exact ⟨kP, by rw [e3]; exact hkP, hkPi⟩
end Calls

/-! ## facts out of the case's words -/
section Start
variable {args : Array Value} {Z : State} {t u : Term} {a : Addr} {C n d : String} {v : Value} {ty : FieldType} {z : Int32} {vs : List Value}
theorem eq_start (h : (Cond.eq t (Term.int z)).value args Z none Z [] = some true) : t.eval args Z none [] Z = some (.int z) := by
  have hz : (Term.int z).eval args Z none [] Z = some (.int z) := rfl
  simp only [Cond.value, hz] at h
  cases ht : t.eval args Z none [] Z with
  | none => rw [ht] at h; cases h
  | some w => cases w <;> simp [ht] at h; rw [h]
theorem eqR_start (h : (Cond.eq t u).value args Z none Z [] = some true) (hu : u.eval args Z none [] Z = some (.ref a)) : t.eval args Z none [] Z = some (.ref a) := by
  simp only [Cond.value, hu] at h
  cases ht : t.eval args Z none [] Z with
  | none => rw [ht] at h; cases h
  | some w => cases w <;> simp [ht] at h; rw [h]
theorem exa_start (h : (Cond.exactly t C).value args Z none Z [] = some true) : ∃ a, t.eval args Z none [] Z = some (.ref a) ∧ Exa Z Z.heap a C := by
  obtain ⟨a', c', cell, k, e1, e2, e3, e4, e5, rfl, e7⟩ := Cond.exactly_spec (Cond.before_iff.mpr h)
  exact ⟨a', e1, cell, k, e3, e2, e4, e5, e7⟩
theorem fld_start (ht : t.eval args Z none [] Z = some (.ref a)) (hf : (Term.field t C n d).eval args Z none [] Z = some v) : Fld Z Z.heap a C n d v := Fld.start (by simpa [Term.eval, ht] using hf)
def Els (t : Term) (args : Array Value) (Z : State) : Nat → List Value → Prop
  | _, [] => True
  | i, v :: vs => (Term.elem t (Term.int (Int32.ofNat i))).eval args Z none [] Z = some v ∧ Els t args Z (i + 1) vs
theorem Els.get : ∀ {vs : List Value} {k : Nat}, Els t args Z k vs → ∀ i, i < vs.length → (Term.elem t (Term.int (Int32.ofNat (k + i)))).eval args Z none [] Z = vs[i]?
  | [], _, _, i, hi => by simp at hi
  | v :: vs, k, h, 0, _ => by simpa using h.1
  | v :: vs, k, h, i + 1, hi => by
    have := Els.get h.2 i (by simpa using hi)
    rw [show k + (i + 1) = k + 1 + i by omega]; simpa using this
theorem ref_of_arr (h : (Cond.arrayOf t ty).value args Z none Z [] = some true) : ∃ a, t.eval args Z none [] Z = some (.ref a) := by
  simp only [Cond.value] at h
  split at h
  · cases h
  · cases ht : t.eval args Z none [] Z with
    | none => rw [ht] at h; cases h
    | some w => cases w <;> simp [ht] at h <;> exact ⟨_, rfl⟩
theorem av_start (hf : Fit Z) (ht : t.eval args Z none [] Z = some (.ref a)) (h : (Cond.arrayOf t ty).value args Z none Z [] = some true) (hl : (Term.length t).eval args Z none [] Z = some (.int z)) (hz : Int32.ofNat vs.length = z) (hv : vs.length < 2147483648) (he : Els t args Z 0 vs) : Av Z Z.heap a ty vs := by
  obtain ⟨c, A⟩ := Arr.start ht h
  have hA : Z.arrayAt? a = some c := A.fin (Vm.Alike.refl _)
  have hs : c.slots.size = vs.length := by
    simp only [Term.eval, ht, Option.bind_eq_bind, Option.bind_some, hA, Option.pure_def] at hl
    split at hl
    · rename_i hlt
      have e1 : c.slots.size.toInt32 = z := by simpa using hl
      exact of_inj (by simpa using hlt) hv (e1.trans hz.symm)
    · cases hl
  have hg : ∀ i, i < vs.length → c.slots[i]? = vs[i]? := fun i hi => by
    have q := he.get i hi
    have hx := ix_of (i := i) (by omega)
    rw [Nat.zero_add] at q
    simp only [Term.eval, ht, Option.bind_eq_bind, Option.bind_some, hA, if_neg hx.1, hx.2] at q
    exact q
  have e : c.slots.toList = vs := by
    apply List.ext_getElem?; intro i
    by_cases hi : i < vs.length
    · rw [Array.getElem?_toList]; exact hg i hi
    · rw [Array.getElem?_toList, Array.getElem?_eq_none (by omega), List.getElem?_eq_none (by omega)]
  refine ⟨c, A, e, hv, fun w hw => ?_⟩
  obtain ⟨i, hi, rfl⟩ := List.mem_iff_getElem.mp hw
  have hx := ix_of (i := i) (by omega)
  obtain ⟨w', q1, q2⟩ := elem_fit hf A (j := Int32.ofNat i) (by rintro (u | u); exact hx.1 u; rw [hx.2] at u; omega)
  rw [hx.2, hg i hi, List.getElem?_eq_getElem hi] at q1
  cases q1; exact q2
theorem exa_any {idx : List Nat} (h : (Cond.exactly t C).value args Z none Z idx = some true) : ∃ a, t.eval args Z none idx Z = some (.ref a) ∧ Exa Z Z.heap a C := by
  obtain ⟨a', c', cell, k, e1, e2, e3, e4, e5, rfl, e7⟩ := Cond.exactly_spec (args := args) (first := Z) (o := none) (s := Z) (idx := idx) (t := t) (cls := C) (by simp [Cond.holds, h])
  exact ⟨a', e1, cell, k, e3, e2, e4, e5, e7⟩
theorem all_get {c : Cond} {cell : Cell} (h : (Cond.all t c).value args Z none Z [] = some true) (ht : t.eval args Z none [] Z = some (.ref a)) (hA : Z.arrayAt? a = some cell) : ∀ i, i < cell.slots.size → c.value args Z none Z [i] = some true := by
  simp only [Cond.value, ht, hA] at h
  have key : ∀ (l : List Nat) (acc : Option Bool), l.foldl (fun acc i => match acc with | some true => c.value args Z none Z [i] | x => x) acc = some true → acc = some true ∧ ∀ i ∈ l, c.value args Z none Z [i] = some true := by
    intro l
    induction l with
    | nil => intro acc q; exact ⟨q, fun i hi => nomatch hi⟩
    | cons j l ih =>
      intro acc q
      obtain ⟨q1, q2⟩ := ih _ q
      have ha : acc = some true := by
        cases acc with
        | none => simp at q1
        | some b => cases b <;> simp at q1 ⊢
      refine ⟨ha, fun i hi => ?_⟩
      subst ha
      rcases List.mem_cons.mp hi with rfl | hi
      · exact q1
      · exact q2 i hi
  exact fun i hi => (key _ _ h).2 i (List.mem_range.mpr hi)
theorem cache_start {c2 : Cond} {C1 n1 d1 : String} (hf : Fit Z) (ht : (Term.static C1 n1 d1).eval args Z none [] Z = some (.ref a)) (h : (Cond.arrayOf (Term.static C1 n1 d1) ty).value args Z none Z [] = some true) (hl : (Term.length (Term.static C1 n1 d1)).eval args Z none [] Z = some (.int z))
    (hall : (Cond.all (Term.static C1 n1 d1) (Cond.and (Cond.exactly (Term.elem (Term.static C1 n1 d1) (Term.index 0)) C) c2)).value args Z none Z [] = some true) : ∃ vs, Av Z Z.heap a ty vs ∧ Int32.ofNat vs.length = z ∧ AllExa Z Z.heap C vs := by
  obtain ⟨c, A⟩ := Arr.start ht h
  have hA : Z.arrayAt? a = some c := A.fin (Vm.Alike.refl _)
  have hs : c.slots.size < 2147483648 ∧ c.slots.size.toInt32 = z := by
    simp only [Term.eval] at hl
    simp only [Term.eval] at ht
    rw [ht] at hl
    simp only [Option.bind_eq_bind, Option.bind_some, hA, Option.pure_def] at hl
    split at hl
    · rename_i hlt; exact ⟨by simpa using hlt, by simpa using hl⟩
    · cases hl
  refine ⟨c.slots.toList, ⟨c, A, rfl, by simpa using hs.1, fun w hw => ?_⟩, by simpa using hs.2, fun v hv => ?_⟩
  · obtain ⟨i, hi, rfl⟩ := List.mem_iff_getElem.mp hw
    have hi' : i < c.slots.size := by simpa using hi
    have hx := ix_of (i := i) (by omega)
    obtain ⟨w', q1, q2⟩ := elem_fit hf A (j := Int32.ofNat i) (by rintro (u | u); exact hx.1 u; rw [hx.2] at u; omega)
    rw [hx.2, Array.getElem?_eq_getElem hi'] at q1
    cases q1; simpa using q2
  · obtain ⟨i, hi, rfl⟩ := List.mem_iff_getElem.mp hv
    have hi' : i < c.slots.size := by simpa using hi
    obtain ⟨r, q1, q2⟩ := exa_any (and_e (all_get hall ht hA i hi')).1
    have hx := ix_of (i := i) (by omega)
    have ht2 : (Term.static C1 n1 d1).eval args Z none [i] Z = some (.ref a) := ht
    have hi2 : (Term.index 0).eval args Z none [i] Z = some (.int (Int32.ofNat i)) := rfl
    have q3 : (Term.elem (Term.static C1 n1 d1) (Term.index 0)).eval args Z none [i] Z = c.slots[i]? := by
      show (do
        let .ref a ← (Term.static C1 n1 d1).eval args Z none [i] Z | none
        let .int j ← (Term.index 0).eval args Z none [i] Z | none
        if j < 0 then none else (← Z.arrayAt? a).slots[j.toNatClampNeg]?) = _
      rw [ht2, hi2]
      simp only [Option.bind_eq_bind, Option.bind_some, hA, if_neg hx.1, hx.2]
    rw [q3, Array.getElem?_eq_getElem hi'] at q1
    exact ⟨r, by simpa using q1, q2⟩
end Start

/-! ## digits -/
section Digits
theorem dg1 : ∀ {d : Nat}, d < 10 → ¬ XT.cmpL (Int64.ofNat d) 0 < 0 := by decide +kernel
theorem dg2 : ∀ {d : Nat}, d < 10 → 0 < XT.cmpL (-Int64.ofNat d) (-10) := by decide +kernel
theorem dg3 : ∀ {d : Nat}, d < 10 → 0 < XT.cmpL (-Int64.ofNat d) (-2147483648) := by decide +kernel
theorem dg4 : ∀ {d : Nat}, d < 10 → (-(-Int64.ofNat d).toInt32) = Int32.ofNat d := by decide +kernel
theorem dg5 : ∀ {d : Nat}, d < 10 → (-100 : Int32) < (-Int64.ofNat d).toInt32 ∧ ¬ (-Int64.ofNat d).toInt32 < (-9 : Int32) := by decide +kernel
theorem dg6 : ∀ {d : Nat}, d < 10 → (48 : Int32) + (Int64.ofNat d).toInt32 = Int32.ofNat (48 + d) ∧ Rg (Int32.ofNat (48 + d)) 58 ∧ i2b (Int32.ofNat (48 + d)) = Int32.ofNat (48 + d) := by decide +kernel
theorem and31 (x : Int64) : ∃ k, k < 32 ∧ x &&& 31 = Int64.ofNat k := by
  refine ⟨x.toBitVec.toNat % 32, Nat.mod_lt _ (by decide), ?_⟩
  apply Int64.toBitVec_inj.mp
  apply BitVec.eq_of_toNat_eq
  rw [Int64.toBitVec_and]
  show (x.toBitVec &&& 31#64).toNat = (BitVec.ofNat 64 _).toNat
  rw [BitVec.toNat_and, BitVec.toNat_ofNat, BitVec.toNat_ofNat]
  show _ &&& (2 ^ 5 - 1) = _
  rw [Nat.and_two_pow_sub_one_eq_mod]
  have := Nat.mod_lt x.toBitVec.toNat (y := 32) (by decide)
  exact (Nat.mod_eq_of_lt (by omega)).symm
theorem dgR (x : Int64) : ∃ d, d < 10 ∧ (x &&& 31) - ((x &&& 31) / 10) * 10 = Int64.ofNat d := by
  obtain ⟨k, hk, e⟩ := and31 x
  rw [e]
  exact (by decide +kernel : ∀ k < 32, ∃ d, d < 10 ∧ (Int64.ofNat k) - ((Int64.ofNat k) / 10) * 10 = Int64.ofNat d) k hk
def digOnes : List Int32 := (List.range 100).map fun i => Int32.ofNat (48 + i % 10)
theorem digOnes_get : ∀ {d : Nat}, d < 10 → (List.map Value.int digOnes)[d]? = some (.int (Int32.ofNat (48 + d))) := by decide +kernel
theorem dg_fit : ∀ {d : Nat}, d < 10 → nar .byte (Int32.ofNat (48 + d)) = Int32.ofNat (48 + d) ∧ fits .byte (.int (Int32.ofNat (48 + d))) = true := by decide +kernel
theorem Arr.ofExa {Z : State} {a : Addr} {args : Array Value} (E : Exa Z Z.heap a "[B") (w : (Cond.arrayClass .byte).before args Z = true) (hu : ∃ v, (Z.arrayAt? a) = some v) : ∃ c, Arr Z Z.heap a c .byte := by
  obtain ⟨cell, k, h1, h2, h3, h4, -⟩ := E
  obtain ⟨c, k', comp, q1, q2, q3⟩ := Cond.arrayClass_spec w
  have q1' : Z.vm.findClass "[B" = some c := q1
  cases h2.symm.trans q1'
  cases h3.symm.trans q2
  obtain ⟨v, hv⟩ := hu
  refine ⟨cell, h1, ?_, ?_⟩
  · exact ⟨fun q e => (by rw [e] at h4; simp [VmData.isStatics] at h4), k, h3, comp, q3⟩
  · intro q; simp [State.arrayAt?, h1, h3, q] at hv
theorem digs_start {Z : State} {args : Array Value} {t : Term} {C1 n1 d1 : String} (ht0 : t = Term.static C1 n1 d1) (w : (Cond.arrayClass .byte).before args Z = true) (hx : (Cond.exactly t "[B").value args Z none Z [] = some true) (hl : (Term.length t).eval args Z none [] Z = some (.int 100))
    (hall : (Cond.all t (Cond.eq (Term.elem t (Term.index 0)) (Term.add (Term.int 48) (Term.rem (Term.index 0) (Term.int 10))))).value args Z none Z [] = some true) : ∃ a, t.eval args Z none [] Z = some (.ref a) ∧ Av Z Z.heap a .byte (List.map Value.int digOnes) := by
  obtain ⟨a, ht, E⟩ := exa_start hx
  refine ⟨a, ht, ?_⟩
  have hu : ∃ v, Z.arrayAt? a = some v := by
    simp only [Term.eval, ht, Option.bind_eq_bind, Option.bind_some] at hl
    cases hq : Z.arrayAt? a with
    | none => rw [hq] at hl; simp at hl
    | some v => exact ⟨v, rfl⟩
  obtain ⟨c, A⟩ := Arr.ofExa E w hu
  have hA : Z.arrayAt? a = some c := A.fin (Vm.Alike.refl _)
  have hs : c.slots.size = 100 := by
    simp only [Term.eval, ht, Option.bind_eq_bind, Option.bind_some, hA, Option.pure_def] at hl
    split at hl
    · rename_i hlt
      have e1 : c.slots.size.toInt32 = 100 := by simpa using hl
      exact of_inj (by simpa using hlt) (by decide) e1
    · cases hl
  have hg : ∀ i, i < 100 → c.slots[i]? = some (.int (Int32.ofNat (48 + i % 10))) := fun i hi => by
    have q := all_get hall ht hA i (by omega)
    have hx := ix_of (i := i) (by omega)
    have ht2 : t.eval args Z none [i] Z = some (.ref a) := by subst ht0; exact ht
    have hi2 : (Term.index 0).eval args Z none [i] Z = some (.int (Int32.ofNat i)) := rfl
    have q3 : (Term.elem t (Term.index 0)).eval args Z none [i] Z = c.slots[i]? := by
      show (do
        let .ref a ← t.eval args Z none [i] Z | none
        let .int j ← (Term.index 0).eval args Z none [i] Z | none
        if j < 0 then none else (← Z.arrayAt? a).slots[j.toNatClampNeg]?) = _
      rw [ht2, hi2]
      simp only [Option.bind_eq_bind, Option.bind_some, hA, if_neg hx.1, hx.2]
    have q4 : (Term.add (Term.int 48) (Term.rem (Term.index 0) (Term.int 10))).eval args Z none [i] Z = some (.int (Int32.ofNat (48 + i % 10))) := by
      show (some (Value.int (48 + Int32.ofNat i % 10)) : Option Value) = _
      rw [(by decide +kernel : ∀ i < 100, (48 : Int32) + Int32.ofNat i % 10 = Int32.ofNat (48 + i % 10)) i hi]
    simp only [Cond.value, q3, q4] at q
    rw [Array.getElem?_eq_getElem (by omega)] at q ⊢
    revert q
    cases c.slots[i] <;> simp
  have e : c.slots.toList = List.map Value.int digOnes := by
    apply List.ext_getElem?; intro i
    by_cases hi : i < 100
    · rw [Array.getElem?_toList, hg i hi]; simp [digOnes, hi]
    · rw [Array.getElem?_toList, Array.getElem?_eq_none (by omega), List.getElem?_eq_none (by simp [digOnes]; omega)]
  refine ⟨c, A, e, by simp [digOnes], ?_⟩
  decide +kernel
theorem tkcs {cs r : List Int32} : ((cs ++ r).drop 0).take (cs.length - 0) = cs := by simp
theorem fitD {cs bs : List Int32} {m k j : Nat} (e : j = k) : cs ++ bs ++ (List.replicate m (0 : Int32)).drop j = cs ++ bs ++ List.replicate (m - k) 0 := by rw [List.drop_replicate, e]
theorem growD {cs bs : List Int32} {m k n K j : Nat} (e : j = k) (hl : cs.length = n) : cs ++ bs ++ (List.replicate m (0 : Int32) ++ List.replicate (K - (cs ++ List.replicate m (0 : Int32)).length) 0).drop j = cs ++ bs ++ List.replicate (m + (K - (n + m)) - k) 0 := by rw [List.replicate_append_replicate, List.drop_replicate, e, List.length_append, hl, List.length_replicate]
theorem b255 : ∀ i, i < 32 → (255#32).getLsbD i = decide (i < 8) := by decide
theorem i2b_and (x : Int32) : i2b x &&& 255 = x &&& 255 := by
  apply Int32.toBitVec_inj.mp
  apply BitVec.eq_of_getLsbD_eq
  intro i hi
  rw [Int32.toBitVec_and, Int32.toBitVec_and]
  show ((i2b x).toBitVec &&& 255#32).getLsbD i = (x.toBitVec &&& 255#32).getLsbD i
  rw [BitVec.getLsbD_and, BitVec.getLsbD_and, b255 i hi]
  by_cases h : i < 8
  · simp only [i2b, Int8.toBitVec_toInt32, Int32.toBitVec_toInt8, BitVec.getLsbD_signExtend, BitVec.getLsbD_setWidth, h, hi, decide_true, Bool.true_and, Bool.and_true, if_true]
  · simp [h]
def loB (n : Nat) : Int32 := i2b (Int32.ofNat n)
def hiB (n : Nat) : Int32 := i2b (Int32.ofNat n >>> ((8 : Int32) &&& 31))
theorem toN {n : Nat} (h : n < 65536) : (Int32.ofNat n).toInt = n := toInt_of (by omega)
theorem lo_and {n : Nat} : loB n &&& 255 = Int32.ofNat (n % 256) := by
  unfold loB; rw [i2b_and]
  apply Int32.toBitVec_inj.mp
  apply BitVec.eq_of_toNat_eq
  rw [Int32.toBitVec_and]
  show (BitVec.ofNat 32 n &&& 255#32).toNat = (BitVec.ofNat 32 (n % 256)).toNat
  rw [BitVec.toNat_and, BitVec.toNat_ofNat, BitVec.toNat_ofNat, BitVec.toNat_ofNat]
  show _ &&& (2 ^ 8 - 1) = _
  rw [Nat.and_two_pow_sub_one_eq_mod]
  omega
theorem shr8 {n : Nat} (h : n < 65536) : Int32.ofNat n >>> ((8 : Int32) &&& 31) = Int32.ofNat (n / 256) := by
  apply Int32.toInt_inj.mp
  rw [toInt_of (by omega)]
  show ((BitVec.ofNat 32 n).sshiftRight 8).toInt = _
  rw [BitVec.toInt_sshiftRight]
  have : (BitVec.ofNat 32 n).toInt = n := toN h
  rw [this]
  simp [Int.shiftRight_eq_div_pow]
theorem hi_and {n : Nat} (h : n < 65536) : hiB n &&& 255 = Int32.ofNat (n / 256) := by
  unfold hiB; rw [shr8 h]
  have q := lo_and (n := n / 256)
  rw [Nat.mod_eq_of_lt (by omega)] at q; exact q
theorem orC {n : Nat} (h : n < 65536) : (loB n &&& 255) ||| ((hiB n &&& 255) <<< ((8 : Int32) &&& 31)) = Int32.ofNat n := by
  rw [lo_and, hi_and h]
  apply Int32.toBitVec_inj.mp
  apply BitVec.eq_of_toNat_eq
  show (BitVec.ofNat 32 (n % 256) ||| (BitVec.ofNat 32 (n / 256) <<< 8)).toNat = (BitVec.ofNat 32 n).toNat
  rw [BitVec.toNat_or, BitVec.toNat_shiftLeft, BitVec.toNat_ofNat, BitVec.toNat_ofNat, BitVec.toNat_ofNat]
  rw [Nat.mod_eq_of_lt (show n % 256 < 2 ^ 32 by omega), Nat.mod_eq_of_lt (show n / 256 < 2 ^ 32 by omega), Nat.mod_eq_of_lt (show n < 2 ^ 32 by omega)]
  rw [Nat.or_comm, Nat.mod_eq_of_lt (show (n / 256) <<< 8 < 2 ^ 32 by rw [Nat.shiftLeft_eq]; omega), ← Nat.shiftLeft_add_eq_or_of_lt (show n % 256 < 2 ^ 8 by omega), Nat.shiftLeft_eq]
  omega
theorem rgN {n : Nat} {k : Int} (h : n < 2147483648) (hk : (n : Int) < k) : Rg (Int32.ofNat n) k := by
  unfold Rg; rw [toInt_of h]; omega
theorem rg_nat {x : Int32} {k : Nat} (q : Rg x k) (hk : k ≤ 2147483648) : ∃ n, n < k ∧ x = Int32.ofNat n := by
  refine ⟨x.toInt.toNat, ?_, ?_⟩
  · have := q.1; have := q.2; omega
  · apply Int32.toInt_inj.mp
    have := q.1; have := q.2
    rw [toInt_of (by omega)]; omega
theorem and3 (x : Int32) : x &&& 3 = 0 ∨ x &&& 3 = 1 ∨ x &&& 3 = 2 ∨ x &&& 3 = 3 := by
  obtain ⟨n, hn, e⟩ := rg_nat (k := 4) (Rg.and x 3 (n := 4) (by decide)) (by decide)
  rw [e]; exact (by decide : ∀ n < 4, Int32.ofNat n = 0 ∨ Int32.ofNat n = 1 ∨ Int32.ofNat n = 2 ∨ Int32.ofNat n = 3) n hn
theorem lo_nat {n : Nat} (h : n < 256) : loB n &&& 255 = Int32.ofNat n := by rw [lo_and, Nat.mod_eq_of_lt h]
theorem shl1n (i : Nat) : Int32.ofNat i <<< ((1 : Int32) &&& 31) = Int32.ofNat (2 * i) := by
  apply Int32.toBitVec_inj.mp
  apply BitVec.eq_of_toNat_eq
  show (BitVec.ofNat 32 i <<< 1).toNat = (BitVec.ofNat 32 (2 * i)).toNat
  rw [BitVec.toNat_shiftLeft, BitVec.toNat_ofNat, BitVec.toNat_ofNat, Nat.shiftLeft_eq]
  omega
theorem shr1 {n : Nat} (h : n < 1073741824) : Int32.ofNat (2 * n) >>> ((1 : Int32) &&& 31) = Int32.ofNat n := by
  apply Int32.toInt_inj.mp
  rw [toInt_of (by omega)]
  show ((BitVec.ofNat 32 (2 * n)).sshiftRight 1).toInt = _
  rw [BitVec.toInt_sshiftRight]
  have : (BitVec.ofNat 32 (2 * n)).toInt = (2 * n : Nat) := toInt_of (by omega)
  rw [this]
  simp [Int.shiftRight_eq_div_pow]
end Digits

section Trace
open Jvm.Free.Exc LibCode.Throwable
/-! ## a stack trace filled in: Throwable's own words but one (lays Throwable Throwable suppressedExceptions), that one read off the receiver's class -/
def noS : Cond := .lays tN tN "suppressedExceptions" listD
theorem own_thr {args : Array Value} {s : State} {pl : Platform} {rc : String} (hrc : rc ≠ tN) (howns : pl.frameOwnsMonitors = true) (hfin : pl.finalization = false) (hpl : pl.magicAccessors = ({} : Platform).magicAccessors)
    (h : ∀ c ∈ excAtoms rc, c ≠ noS → c.before args s = true) : ∃ (T : ThrowableC) (Z : Init0T), T.Links pl s ∧ Ties T Z s := by
  have w : ∀ c, c ∈ excAtoms rc → c ≠ noS → c.holds args s none s [] = true := fun c q r => h c q r
  obtain ⟨⟨cT, jN⟩, mN, nN, gN, natN, codN, lckN, sigN⟩ := Cond.native_spec (w (.native tFill0) (by simp [excAtoms, throwableAtoms]) (by simp [noS]))
  have fT : s.vm.findClass tN = some cT := findClass_of_methodNamed nN
  obtain ⟨kT, eT, nameT⟩ := Vm.findClass_spec fT
  have own : ∀ x : MethodName, x.cls = tN → (Cond.instanceMethod x) ∈ excAtoms rc → ∃ i meth, s.methodNamed? x = some ⟨cT, i⟩ ∧ s.vm.method? ⟨cT, i⟩ = some meth ∧ kT.methods[i]? = some meth ∧ meth.isStatic = false ∧ meth.isAbstract = false ∧ meth.name = x.name ∧ meth.desc = x.desc := fun x hx hm => Cond.ownMethod (by rw [hx]; exact fT) eT (w _ hm (by simp [noS]))
  have lnk : ∀ (ix : Nat) (x : MethodName) (m : MethodId), s.methodNamed? x = some m → (Cond.methodLink tN ix x) ∈ excAtoms rc → ∃ ci nt cf, s.vm.MethodLinks pl cT ix ci m ∧ s.rightAt cT ix (.method m) = true ∧ kT.cf = some cf ∧ (cf.constantPool[ix]? = some (.methodref ci nt) ∨ cf.constantPool[ix]? = some (.interfaceMethodref ci nt)) := fun ix x m hn hm => Cond.linkedMethod fT eT hn (w _ hm (by simp [noS])) pl hpl
  obtain ⟨jF, mF, nF, gF, aF, stF, abF, -, -⟩ := own tFill rfl (by simp [excAtoms, throwableAtoms])
  obtain ⟨mF', kF, gF', codF, bytF, locF, retF, lckF, -, sigF⟩ := Cond.codeSync_spec nF (w (.codeSync tFill Fill.code 1 (some (.object tN))) (by simp [excAtoms, throwableAtoms]) (by simp [noS]))
  cases gF.symm.trans gF'
  obtain ⟨jN', mN', nN', gN', aN, stN, abN, namN, desN⟩ := own tFill0 rfl (by simp [excAtoms, throwableAtoms])
  cases nN.symm.trans nN'
  cases gN.symm.trans gN'
  obtain ⟨jI, mI, nI, gI, aI, -, -, -, -⟩ := own tInit0 rfl (by simp [excAtoms, throwableAtoms])
  obtain ⟨mI', kI, gI', codI, bytI, locI, -, lckI, -, -⟩ := Cond.code_spec nI (w (.code tInit0 Init0.code 1 none) (by simp [excAtoms, throwableAtoms]) (by simp [noS]))
  cases gI.symm.trans gI'
  obtain ⟨mO, meO, nO, gO, stO, abO⟩ := Cond.instanceMethod_spec (w (.instanceMethod oInit) (by simp [excAtoms, throwableAtoms]) (by simp [noS]))
  obtain ⟨meO', kO, gO', codO, bytO, locO, -, lckO, -, sigO⟩ := Cond.code_spec nO (w (.code oInit ⟨#[0xb1]⟩ 1 none) (by simp [excAtoms, throwableAtoms]) (by simp [noS]))
  cases gO.symm.trans gO'
  obtain ⟨clO, eO, nameO⟩ := Vm.findClass_spec (findClass_of_methodNamed nO)
  obtain ⟨namO, desO⟩ := name_of_methodNamed nO gO
  obtain ⟨_, kS, _, _, eS, _, _, ordT, _, niT⟩ := Cond.superclass_spec fT (w (.superclass tN "java/lang/Object") (by simp [excAtoms, throwableAtoms]) (by simp [noS]))
  cases eT.symm.trans eS
  obtain ⟨p1, q1, cf, l1, r1, hcf, o1⟩ := lnk 1 oInit _ nO (by simp [excAtoms, throwableAtoms])
  obtain ⟨p27, q27, cf2, l27, r27, hcf2, o27⟩ := lnk 27 tFill _ nF (by simp [excAtoms, throwableAtoms])
  obtain ⟨p202, q202, cf3, l202, r202, hcf3, o202⟩ := lnk 202 tFill0 _ nN (by simp [excAtoms, throwableAtoms])
  cases hcf.symm.trans hcf2
  cases hcf.symm.trans hcf3
  have fld : ∀ (ix : Nat) (n d : String) (t : FieldType), parseFieldDescriptor d = some t → (Cond.fieldLink tN ix tN n d) ∈ excAtoms rc → (Cond.lays rc tN n d) ∈ excAtoms rc → Cond.lays rc tN n d ≠ noS → ∃ ci i f, s.vm.FieldLinks pl cT ix ci cT i ∧ s.rightAt cT ix (.field cT i) = true ∧ kT.fields[i]? = some f ∧ f.isStatic = false ∧ hasFlag f.accessFlags Acc.final = false ∧ f.name = n ∧ f.type = t ∧ s.fieldFound? tN n d = some (cT, kT, i, f) :=
    fun ix n d t hp hm hl hne => Cond.ownField fT eT hp (w _ hm (by simp [noS])) (w _ hl hne) pl hpl
  have stc : ∀ (ix : Nat) (n d : String) (t : FieldType), parseFieldDescriptor d = some t → (Cond.fieldLink tN ix tN n d) ∈ excAtoms rc → (Cond.laysStatic tN n d) ∈ excAtoms rc → ∃ ci i f a cell, s.vm.FieldLinks pl cT ix ci cT i ∧ s.rightAt cT ix (.field cT i) = true ∧ kT.fields[i]? = some f ∧ f.isStatic = true ∧ f.name = n ∧ f.type = t ∧ kT.statics = some a ∧ s.heap[a]? = some cell ∧ cell.vm.isStatics = true ∧ cell.cls = cT ∧ f.slot < cell.slots.size ∧ s.fieldFound? tN n d = some (cT, kT, i, f) :=
    fun ix n d t hp hm hl => Cond.ownStatic fT eT hp (w _ hm (by simp [noS])) (w _ hl (by simp [noS])) pl hpl
  have ne : ∀ n d, Cond.lays rc tN n d ≠ noS := fun n d q => hrc (by simp only [noS, Cond.lays.injEq] at q; exact q.1)
  obtain ⟨p7, i7, f7, l7, r7, a7, s7, n7, m7, t7, g7⟩ := fld 7 "cause" thD (.object tN) (by decide +kernel) (by simp [excAtoms, throwableAtoms]) (by simp [excAtoms]) (ne _ _)
  obtain ⟨p17, i17, f17, l17, r17, a17, s17, n17, m17, t17, g17⟩ := fld 17 "stackTrace" steD (.array (.object "java/lang/StackTraceElement")) (by decide +kernel) (by simp [excAtoms, throwableAtoms]) (by simp [excAtoms]) (ne _ _)
  obtain ⟨p24, i24, f24, l24, r24, a24, s24, n24, m24, t24, g24⟩ := fld 24 "suppressedExceptions" listD (.object "java/util/List") (by decide +kernel) (by simp [excAtoms, throwableAtoms]) (by simp [excAtoms]) (ne _ _)
  obtain ⟨p13, i13, f13, aS, cS, l13, r13, a13, s13, -, -, sta, hcS, iS, -, -, g13⟩ := stc 13 "UNASSIGNED_STACK" steD (.array (.object "java/lang/StackTraceElement")) (by decide +kernel) (by simp [excAtoms, throwableAtoms]) (by simp [excAtoms, throwableAtoms])
  obtain ⟨p20, i20, f20, _, _, l20, r20, a20, s20, -, -, -, -, -, -, -, g20⟩ := stc 20 "SUPPRESSED_SENTINEL" listD (.object "java/util/List") (by decide +kernel) (by simp [excAtoms, throwableAtoms]) (by simp [excAtoms, throwableAtoms])
  have wM := w (.lays rc tN "detailMessage" msgD) (by simp [excAtoms]) (ne _ _)
  obtain ⟨cR, kR, cM, kM, iM, fM, fR, eR, gM, sM, fiM, _⟩ := Cond.lays_spec wM
  cases fT.symm.trans (Cond.lays_declared wM gM)
  cases eT.symm.trans (State.fieldFound?_spec gM).1
  obtain ⟨-, d1, hd1, hn1⟩ := Cond.laysAt fR eR g17 (w (.lays rc tN "stackTrace" steD) (by simp [excAtoms]) (ne _ _))
  obtain ⟨-, d2, hd2, hn2⟩ := Cond.laysAt fR eR g24 (w (.lays rc tN "suppressedExceptions" listD) (by simp [excAtoms]) (ne _ _))
  have apart := Cond.laysApart hd1 hd2 hn1 hn2 (by rw [m17, m24]; decide)
  have ps : ∀ {d : String} {sig} (ts : List FieldType), parseMethodDescriptor d = some sig → (parseMethodDescriptor d).map (·.parameters) = some ts → sig.parameters = ts := fun ts e1 e2 => by rw [e1] at e2; simpa using e2
  refine ⟨{ cT := cT, kT := kT, cO := cT, aS := aS, fillIdx := jF, fill0Idx := jN, initSIdx := jI, obj := mO, kObj := clO, methFill := mF, methFill0 := mN, methInitS := mI, methObj := meO, codeFill := kF, codeInitS := kI, codeObj := kO, fBack := f7, fDepth := f7, fStack := f17, fCause := f7, fSupp := f24, fMsg := fM, fUnassigned := f13, fSentinel := f20, cfT := cf, ci1 := p1, n1 := q1, ci27 := p27, n27 := q27, ci202 := p202, n202 := q202, ci7 := p7, i7 := i7, ci13 := p13, i13 := i13, ci17 := p17, i17 := i17, ci20 := p20, i20 := i20, ci24 := p24, i24 := i24 }, { idx := jI, meth := mI, code := kI }, ?_, ?_⟩
  · constructor
    all_goals first | assumption | exact Cond.initialized_spec fT eT (w (.initialized tN) (by simp [excAtoms, throwableAtoms]) (by simp [noS])) | exact Vm.findClass_boot fT eT | exact ps [] sigF (by decide +kernel) | exact ps [.int] sigN (by decide +kernel) | (rw [desO]; exact lookupSpecial_of_named nO gO stO) | (rw [ps [] sigO (by decide +kernel)]; rfl)
  · exact ⟨fT, nF, nN, nI, locO, ordT, g7, g17, g24, g13, g20, ⟨iM, gM⟩, (State.fieldFound?_type gM (t := .object "java/lang/String") (by decide +kernel)).2, m7, m17, m24, t7, t17, t24, cS, hcS, iS⟩
section Fill
variable {p : Program} {l : Launch} {e : Env} {R : Room} {s : State} {m : MethodId} {args : Array Value} {below : List Frame} {meth : Method} {c : Code} {Z : State} {EL : List (String × Nat)} {nw : Bool} {n0 : Nat} {y : MethodName} {code : ByteArray} {maxL : Nat} {ret : Option FieldType} {T : State} {h : Heap} {sf : List Addr} {cells slots : Nat} {Φ : Outcome → State → Prop} {a0 : Array Value} {pc pc' : Nat} {L : Array Slot} {S : List Value}
theorem k_fill (W : WS p l e R s m args below meth c Z a0 EL nw n0 y code maxL ret T h sf cells slots) {a us : Addr} {rc : String} {n : Nat} {rest : List Value} {hh : Heap} (Wd c' s' : Nat) (dd : D code pc (.invokevirtual 27) 3 pc') (hyc : y.cls = tN) (hl : l.stackTraces = true) (hrc : rc ≠ tN) (hwx : ∀ c ∈ excAtoms rc, c ≠ noS → c.before a0 Z = true) (wi : (Cond.instantiable rc n).before a0 Z = true)
    (hs0 : s.heap = hh) (hT0 : ThS Z hh) (hTK : s.vm.MethodsKnown) (hBl : s.vm.FramesKnown below) (ha : a ∈ sf) (E : Exa Z h a rc) (N : Unt h a) (B : Fld Z h a tN "backtrace" obD .null) (F : Fld Z h a tN "stackTrace" steD (.ref us)) (G : Sta Z h tN "UNASSIGNED_STACK" steD (.ref us))
    (hL : L.size = maxL) (hW : catS rest ≤ Wd) (hf : 3 ≤ R.frames) (hlo : Wd + 42 ≤ R.locals) (hc : cells + 1 = c' ∧ c' ≤ R.cells) (hs : slots + 2752 = s' ∧ s' ≤ R.slots)
    (k : ∀ T' h', WS p l e R s m args below meth c Z a0 EL nw n0 y code maxL ret T' h' sf c' s' → Keep h h' [a] → WP p e below Φ T' (mkF m pc' L (.ref a :: rest))) : WP p e below Φ T (mkF m pc L (.ref a :: rest)) := by
  obtain ⟨locs, X, eT, hS, hZ, hown, hC, hN, hn, hsf, hE, hWm, b1, b2, b3, b4, b5, b6⟩ := id W
  obtain ⟨rfl, hc⟩ := hc
  obtain ⟨rfl, hs⟩ := hs
  have hal : s.vm.Alike T.vm := hS.1.alike
  have ws : ∀ c ∈ excAtoms rc, c ≠ noS → c.before args (s.setVm T.vm) = true := fun c q r => mvX (s := s.setVm T.vm) (by show ThS Z s.heap; rw [hs0]; exact hT0) hZ (List.all_eq_true.mp exc_ok c q) (hwx c q r)
  have ne : ∀ n d, Cond.lays rc tN n d ≠ noS := fun n d q => hrc (by simp only [noS, Cond.lays.injEq] at q; exact q.1)
  have pl := X.admits.platform
  obtain ⟨TT, Z0, LL, Y⟩ := own_thr (pl := e.platform) hrc (by rw [pl]) (by rw [pl]) (by rw [pl]) ws
  have E0 := E
  obtain ⟨cell, kc, e1, e2, e3, e4, e5⟩ := E
  obtain ⟨c2, u1, u2, u3⟩ := N
  cases e1.symm.trans u1
  have hfound : (s.setVm T.vm).vm.findClass rc = some cell.cls := by show T.vm.findClass rc = _; rw [hZ.alike.findClass]; exact e2
  obtain ⟨cX, kX, x1, x2, ord, -, -, -⟩ := Cond.instantiable_spec (mvT (s := s.setVm T.vm) (args := args) hZ wi)
  cases hfound.symm.trans x1
  obtain ⟨k', hk', he⟩ := hZ.alike.2.2 _ _ e3
  cases x2.symm.trans hk'
  have hsz : cell.slots.size = kX.instanceTypes.size := by rw [he]; exact e5 (by rw [he] at ord; exact ord)
  have takes : ∀ {f : Field} {v : Value}, kX.instanceTypes[f.slot]? = some f.type → fits f.type v = true → Jvm.Takes (s.setVm T.vm) cell f v := fun {f v} h1 h2 => by
    obtain ⟨q1, q2⟩ := Takes.of_laid (v := v) x2 ord h1 h2
    exact ⟨by rw [hsz]; simpa using q1, by rw [u2]; exact q2⟩
  obtain ⟨c3, cf3, k3, i3, f3, t1, t2, -, -, -, -, t7⟩ := F
  cases e1.symm.trans t1
  obtain ⟨cc, kk, ii, r2⟩ := Jvm.Free.BdW.found_ride (U := Z) (U' := s.setVm T.vm) hZ.alike ⟨_, _, _, t2⟩
  cases r2.symm.trans Y.stack
  obtain ⟨cf4, i4, k4, f4, st, cS, d1, d2, d3, d4, d5, d6, d7⟩ := G
  obtain ⟨k4', g1, g2⟩ := State.fieldFound?_setVm (s := Z) hZ.alike d1
  have g1' : (s.setVm T.vm).fieldFound? tN "UNASSIGNED_STACK" steD = some (cf4, k4', i4, f4) := g1
  cases g1'.symm.trans Y.unassigned
  have hst : TT.kT.statics = some st := by rw [g2]; exact d4
  cases LL.statics.symm.trans hst
  have hneS : TT.aS ≠ a := fun q => by
    rw [q, e1] at d5; cases d5; rw [u2] at d6; cases d6
  obtain ⟨p198, i198, fB, l198, r198, a198, sB, -, nB, -, gB⟩ := Cond.ownField (t := .object "java/lang/Object") Y.found LL.cls (by decide +kernel) (ws (.fieldLink tN 198 tN "backtrace" obD) (by simp [excAtoms]) (by simp [noS])) (ws (.lays rc tN "backtrace" obD) (by simp [excAtoms]) (ne _ _)) e.platform (by rw [pl])
  have tyB' := (State.fieldFound?_type gB (t := .object "java/lang/Object") (by decide +kernel)).2
  obtain ⟨c6, cf6, k6, i6, f6, v1, v2, -, -, -, -, v7⟩ := B
  cases e1.symm.trans v1
  obtain ⟨cc', kk', ii', r6⟩ := Jvm.Free.BdW.found_ride (U := Z) (U' := s.setVm T.vm) hZ.alike ⟨_, _, _, v2⟩
  cases r6.symm.trans gB
  have wD := ws (.lays rc tN "depth" "I") (by simp [excAtoms]) (ne _ _)
  obtain ⟨cD1, kD1, cD, kD, iD, fD, -, -, gD, sD, -, -, -, -⟩ := Cond.lays_spec wD
  cases Option.some.inj ((Cond.lays_declared wD gD).symm.trans Y.found)
  obtain ⟨hkD, aD⟩ := State.fieldFound?_spec gD
  cases Option.some.inj (hkD.symm.trans LL.cls)
  obtain ⟨nD, tD⟩ := State.fieldFound?_type gD (t := .int) (by decide +kernel)
  have hfb := Cond.soleField_find Y.found LL.cls (ws (.soleField tN "backtrace") (by simp [excAtoms]) (by simp [noS])) a198 nB sB
  have hfd := Cond.soleField_find Y.found LL.cls (ws (.soleField tN "depth") (by simp [excAtoms]) (by simp [noS])) aD nD sD
  obtain ⟨comp, cO, kO, -, -, hkO, hkindO, hO⟩ := Cond.arrayOver_spec (ws (.arrayOver (.object "java/lang/Object")) (by simp [excAtoms]) (by simp [noS]))
  obtain ⟨yS, -⟩ := Cond.laysAt hfound x2 Y.stack (ws (.lays rc tN "stackTrace" steD) (by simp [excAtoms]) (ne _ _))
  obtain ⟨yB, -⟩ := Cond.laysAt hfound x2 gB (ws (.lays rc tN "backtrace" obD) (by simp [excAtoms]) (ne _ _))
  obtain ⟨yD, -⟩ := Cond.laysAt hfound x2 gD wD
  have hsel0 : selectMethod e.platform (s.setVm T.vm).vm cell.cls TT.fill0 = .method TT.fill0 := by
    obtain ⟨c7, r7, m7, o1, o2, o3, o4, -⟩ := Cond.selects_spec (ws (.selects rc tFill0 tFill0) (by simp [excAtoms]) (by simp [noS]))
    cases Option.some.inj (o1.symm.trans hfound)
    cases Option.some.inj (o2.symm.trans (State.methodFound?_of_named Y.fill0 (by decide)))
    cases Option.some.inj (o3.symm.trans Y.fill0)
    rw [Launch.admits_selectMethod X.admits]; exact o4
  have hB := Jvm.Free.Str.fillPays (l := l) (R := R) (sargs := args) (len := 3) (W := Wd) W.hx (by rw [pl]; exact hl) TT LL Y.fill (u0 := ⟨.ref us, rfl⟩) (fun q => nomatch q) (self := a) (cell := cell) (cellS := cS) (fun q w => by rw [u2] at w; cases w) (by rw [u2]; simp) (by rw [u3]) (by rw [u3]) t7 hsel0 hneS (fun w => by rw [w] at d6; cases d6) d7 (takes yS (by rw [Y.stackType]; rfl)) ⟨⟨p198, i198, fB⟩, ⟨l198, r198, a198, sB⟩, v7⟩ (Vm.MethodsKnown.alikeC hal hTK) (Vm.FramesKnown.alikeC hal hBl) Y.found (cO := cO) hO hkO hkindO hfb hfd (fun q => takes yB (by rw [tyB']; rfl)) (fun q => takes yD (by rw [tD]; rfl)) hf hlo
  have wSel := ws (.selects rc tFill tFill) (by simp [excAtoms]) (by simp [noS])
  obtain ⟨v, vm₁, ⟨U', L', c1, s1⟩, hw1, X', hpost, st'⟩ := X.virtualBack W.hx (own := y.cls) (C := rc) (y := tFill) (z := tFill) hown (by rw [hyc]; exact ws (.methodLink tN 27 tFill) (by simp [excAtoms, throwableAtoms]) (by simp [noS])) (ws (.declares tFill) (by simp [excAtoms]) (by simp [noS])) (notFace_of_selects wSel) wSel (ws (.instanceMethod tFill) (by simp [excAtoms, throwableAtoms]) (by simp [noS])) (by decide) hB (b := a) (cB := cell.cls) hfound ⟨cell, by rw [eT]; exact e1, rfl, e4⟩ (g := mkF m pc L (.ref a :: rest)) rfl (hL.trans b5.symm) (Steps.refl _) (argsL := []) (rest := rest) (lenOf (by decide +kernel : parseMethodDescriptor tFill.desc = some ⟨[], some (.object tN)⟩) rfl) rfl (by show 2 * 0 + _ ≤ _; rw [Nat.mul_zero, Nat.zero_add]; exact hW) (W.hd dd) (fun vm₁ _ => ⟨rfl, hc, hs, by show T.heap[a]? = _; rw [eT]; exact e1, by show T.heap[TT.aS]? = _; rw [eT]; exact d5⟩)
  obtain ⟨hv, vm', lines, hln, hw', hU, hL', hc', hn'⟩ := hpost
  dsimp only [Pt.U, Pt.locs, Pt.cells, Pt.slots] at X' hU hL' hc' hn' st'
  subst hv hL' hc' hn'
  have hle := traceHolder_size_le cO hln
  have hlt : a < T.heap.size := by rw [eT]; exact E0.lt
  have hH : U'.heap = (T.heap.push (traceHolder cO lines)).setIfInBounds a (Jvm.Free.Str.filledOn TT.toThrowableT fB fD cell ⟨.ref us, rfl⟩ T.heap.size lines.length.toInt32) := by rw [hU]; rfl
  have K : Keep h U'.heap [a] := by
    rw [hH, eT]
    rw [eT] at hlt
    refine ⟨by simp, fun x c q hx => ?_, fun x c q => ?_⟩
    · have hx' : a ≠ x := fun w => hx (by rw [w]; exact List.mem_singleton.mpr rfl)
      rw [Array.getElem?_setIfInBounds_ne hx', Array.getElem?_push_lt (Array.getElem?_eq_some_iff.mp q).1, ← Array.getElem?_eq_getElem (Array.getElem?_eq_some_iff.mp q).1]; exact q
    · by_cases hx : a = x
      · subst hx
        cases e1.symm.trans q
        refine ⟨_, Array.getElem?_setIfInBounds_self_of_lt (by rw [Array.size_push]; exact Nat.lt_succ_of_lt hlt), rfl, rfl, by simp [Jvm.Free.Str.filledOn, Cell.setSlot]⟩
      · refine ⟨c, ?_, rfl, rfl, rfl⟩
        rw [Array.getElem?_setIfInBounds_ne hx, Array.getElem?_push_lt (Array.getElem?_eq_some_iff.mp q).1, ← Array.getElem?_eq_getElem (Array.getElem?_eq_some_iff.mp q).1]; exact q
  obtain ⟨hd, rfl⟩ := dd
  have X2 := X'.mono (Nat.le_refl _) (show slots + (traceHolder cO lines).slots.size ≤ slots + 2752 from Nat.add_le_add_left hle _)
  exact WP.steps st' (k U' U'.heap (W.pack X2 rfl (hN.app fun q hq => by simp only [List.mem_cons, List.not_mem_nil, or_false] at hq; rcases hq with rfl | rfl | rfl <;> exact (hsf a ha).1) K.1 (fun H => H.step fun z hz c q => K.2.1 z c q (fun u => (hsf a ha).2.2 ((List.mem_singleton.mp u) ▸ hz))) (fun x hx => Or.inl hx)) K)
/-- a cell with no mark of the VM's -/
def Kn (h : Heap) (a : Addr) : Prop := ∃ cell : Cell, h[a]? = some cell ∧ cell.vm = .none
theorem Kn.of {a : Addr} (N : Unt h a) : Kn h a := let ⟨c, h1, h2, _⟩ := N; ⟨c, h1, h2⟩
theorem Kn.keep {a : Addr} {h' : Heap} {ws : List Addr} (N : Kn h a) (K : Keep h h' ws) : Kn h' a := by
  obtain ⟨c, h1, h2⟩ := N
  obtain ⟨c', q1, -, q3, -⟩ := K.2.2 _ _ h1
  exact ⟨c', q1, q3.trans h2⟩
theorem Kn.fld {a : Addr} {C O n d : String} {k : Nat} (N : Kn h a) (E : Exa Z h a C) (wi : (Cond.instantiable C k).before a0 Z = true) (Lf : Laid Z a0 C O n d) : ∃ v, Fld Z h a O n d v := fld_laid E (let ⟨c, h1, h2⟩ := N; ⟨c, h1, by rw [h2]; simp⟩) wi Lf
end Fill
end Trace

end Jvm.OwnK
namespace Jvm.Pilot.@@N@@
open Jvm Jvm.ClassFile Sem Op Lib Jvm.Free Jvm.Stand Jvm.LawKit Jvm.RoadKit Bundle Jvm.OwnK Jvm.Pilot.@@N@@.Jvm.D
def own_EL : List (String × Nat) := [("com/example/epochmark/epochmark/cli/Arguments", 139), ("java/lang/String", 7)]
theorem w0 {Z : State} {a0 : Array Value} (hw : ∀ d ∈ tables_1, d.before a0 Z = true) : (Jvm.Cond.methodLink "com/example/epochmark/epochmark/cli/ArgumentsUsagePinLaw" (18 : Nat) ({ cls := "com/example/epochmark/epochmark/cli/ArgumentsUsagePinLaw", name := "text", desc := "(II)Ljava/lang/String;" } : Jvm.MethodName)).before a0 Z = true := hw _ (List.mem_of_getElem? (i := 0) rfl)
theorem w1 {Z : State} {a0 : Array Value} (hw : ∀ d ∈ tables_1, d.before a0 Z = true) : (Jvm.Cond.static ({ cls := "com/example/epochmark/epochmark/cli/ArgumentsUsagePinLaw", name := "text", desc := "(II)Ljava/lang/String;" } : Jvm.MethodName)).before a0 Z = true := hw _ (List.mem_of_getElem? (i := 1) rfl)
theorem w2 {Z : State} {a0 : Array Value} (hw : ∀ d ∈ tables_1, d.before a0 Z = true) : (Jvm.Cond.initialized "com/example/epochmark/epochmark/cli/ArgumentsUsagePinLaw").before a0 Z = true := hw _ (List.mem_of_getElem? (i := 2) rfl)
theorem w3 {Z : State} {a0 : Array Value} (hw : ∀ d ∈ tables_1, d.before a0 Z = true) : (Jvm.Cond.code ({ cls := "com/example/epochmark/epochmark/cli/ArgumentsUsagePinLaw", name := "text", desc := "(II)Ljava/lang/String;" } : Jvm.MethodName) method_3_code (2 : Nat) (Option.some (Jvm.ClassFile.FieldType.object "java/lang/String"))).before a0 Z = true := hw _ (List.mem_of_getElem? (i := 3) rfl)
theorem w4 {Z : State} {a0 : Array Value} (hw : ∀ d ∈ tables_1, d.before a0 Z = true) : (Jvm.Cond.classLink "com/example/epochmark/epochmark/cli/ArgumentsUsagePinLaw" (7 : Nat) "java/lang/String").before a0 Z = true := hw _ (List.mem_of_getElem? (i := 4) rfl)
theorem w5 {Z : State} {a0 : Array Value} (hw : ∀ d ∈ tables_1, d.before a0 Z = true) : (Jvm.Cond.instantiable "java/lang/String" (4 : Nat)).before a0 Z = true := hw _ (List.mem_of_getElem? (i := 5) rfl)
theorem w6 {Z : State} {a0 : Array Value} (hw : ∀ d ∈ tables_1, d.before a0 Z = true) : (Jvm.Cond.initialized "java/lang/String").before a0 Z = true := hw _ (List.mem_of_getElem? (i := 6) rfl)
theorem w7 {Z : State} {a0 : Array Value} (hw : ∀ d ∈ tables_1, d.before a0 Z = true) : (Jvm.Cond.arrayClass Jvm.ClassFile.FieldType.char).before a0 Z = true := hw _ (List.mem_of_getElem? (i := 7) rfl)
theorem w8 {Z : State} {a0 : Array Value} (hw : ∀ d ∈ tables_1, d.before a0 Z = true) : (Jvm.Cond.methodLink "com/example/epochmark/epochmark/cli/ArgumentsUsagePinLaw" (12 : Nat) ({ cls := "com/example/epochmark/epochmark/cli/ArgumentsUsagePinLaw", name := "ch", desc := "(II)C" } : Jvm.MethodName)).before a0 Z = true := hw _ (List.mem_of_getElem? (i := 8) rfl)
theorem w9 {Z : State} {a0 : Array Value} (hw : ∀ d ∈ tables_1, d.before a0 Z = true) : (Jvm.Cond.static ({ cls := "com/example/epochmark/epochmark/cli/ArgumentsUsagePinLaw", name := "ch", desc := "(II)C" } : Jvm.MethodName)).before a0 Z = true := hw _ (List.mem_of_getElem? (i := 9) rfl)
theorem w10 {Z : State} {a0 : Array Value} (hw : ∀ d ∈ tables_1, d.before a0 Z = true) : (Jvm.Cond.code ({ cls := "com/example/epochmark/epochmark/cli/ArgumentsUsagePinLaw", name := "ch", desc := "(II)C" } : Jvm.MethodName) method_2_code (2 : Nat) (Option.some Jvm.ClassFile.FieldType.char)).before a0 Z = true := hw _ (List.mem_of_getElem? (i := 10) rfl)
theorem w11 {Z : State} {a0 : Array Value} (hw : ∀ d ∈ tables_1, d.before a0 Z = true) : (Jvm.Cond.methodLink "com/example/epochmark/epochmark/cli/ArgumentsUsagePinLaw" (9 : Nat) ({ cls := "java/lang/String", name := "<init>", desc := "([C)V" } : Jvm.MethodName)).before a0 Z = true := hw _ (List.mem_of_getElem? (i := 11) rfl)
theorem w12 {Z : State} {a0 : Array Value} (hw : ∀ d ∈ tables_1, d.before a0 Z = true) : (Jvm.Cond.instanceMethod ({ cls := "java/lang/String", name := "<init>", desc := "([C)V" } : Jvm.MethodName)).before a0 Z = true := hw _ (List.mem_of_getElem? (i := 12) rfl)
theorem w13 {Z : State} {a0 : Array Value} (hw : ∀ d ∈ tables_1, d.before a0 Z = true) : (Jvm.Cond.code ({ cls := "java/lang/String", name := "<init>", desc := "([C)V" } : Jvm.MethodName) jdk_42_method_3_code (2 : Nat) (Option.none : Option Jvm.ClassFile.FieldType)).before a0 Z = true := hw _ (List.mem_of_getElem? (i := 13) rfl)
theorem w14 {Z : State} {a0 : Array Value} (hw : ∀ d ∈ tables_1, d.before a0 Z = true) : (Jvm.Cond.methodLink "java/lang/String" (27 : Nat) ({ cls := "java/lang/String", name := "<init>", desc := "([CIILjava/lang/Void;)V" } : Jvm.MethodName)).before a0 Z = true := hw _ (List.mem_of_getElem? (i := 14) rfl)
theorem w15 {Z : State} {a0 : Array Value} (hw : ∀ d ∈ tables_1, d.before a0 Z = true) : (Jvm.Cond.instanceMethod ({ cls := "java/lang/String", name := "<init>", desc := "([CIILjava/lang/Void;)V" } : Jvm.MethodName)).before a0 Z = true := hw _ (List.mem_of_getElem? (i := 15) rfl)
theorem w17 {Z : State} {a0 : Array Value} (hw : ∀ d ∈ tables_1, d.before a0 Z = true) : (Jvm.Cond.code ({ cls := "java/lang/String", name := "<init>", desc := "([CIILjava/lang/Void;)V" } : Jvm.MethodName) jdk_42_method_149_code (6 : Nat) (Option.none : Option Jvm.ClassFile.FieldType)).before a0 Z = true := hw _ (List.mem_of_getElem? (i := 17) rfl)
theorem w18 {Z : State} {a0 : Array Value} (hw : ∀ d ∈ tables_1, d.before a0 Z = true) : (Jvm.Cond.methodLink "java/lang/String" (1 : Nat) ({ cls := "java/lang/Object", name := "<init>", desc := "()V" } : Jvm.MethodName)).before a0 Z = true := hw _ (List.mem_of_getElem? (i := 18) rfl)
theorem w19 {Z : State} {a0 : Array Value} (hw : ∀ d ∈ tables_1, d.before a0 Z = true) : (Jvm.Cond.instanceMethod ({ cls := "java/lang/Object", name := "<init>", desc := "()V" } : Jvm.MethodName)).before a0 Z = true := hw _ (List.mem_of_getElem? (i := 19) rfl)
theorem w20 {Z : State} {a0 : Array Value} (hw : ∀ d ∈ tables_1, d.before a0 Z = true) : (Jvm.Cond.code ({ cls := "java/lang/Object", name := "<init>", desc := "()V" } : Jvm.MethodName) object_method_1_code (1 : Nat) (Option.none : Option Jvm.ClassFile.FieldType)).before a0 Z = true := hw _ (List.mem_of_getElem? (i := 20) rfl)
theorem w21 {Z : State} {a0 : Array Value} (hw : ∀ d ∈ tables_1, d.before a0 Z = true) : (Jvm.Cond.fieldLink "java/lang/String" (38 : Nat) "java/lang/String" "COMPACT_STRINGS" "Z").before a0 Z = true := hw _ (List.mem_of_getElem? (i := 21) rfl)
theorem w22 {Z : State} {a0 : Array Value} (hw : ∀ d ∈ tables_1, d.before a0 Z = true) : (Jvm.Cond.methodLink "java/lang/String" (177 : Nat) ({ cls := "java/lang/StringUTF16", name := "compress", desc := "([CII)[B" } : Jvm.MethodName)).before a0 Z = true := hw _ (List.mem_of_getElem? (i := 22) rfl)
theorem w23 {Z : State} {a0 : Array Value} (hw : ∀ d ∈ tables_1, d.before a0 Z = true) : (Jvm.Cond.static ({ cls := "java/lang/StringUTF16", name := "compress", desc := "([CII)[B" } : Jvm.MethodName)).before a0 Z = true := hw _ (List.mem_of_getElem? (i := 23) rfl)
theorem w24 {Z : State} {a0 : Array Value} (hw : ∀ d ∈ tables_1, d.before a0 Z = true) : (Jvm.Cond.initialized "java/lang/StringUTF16").before a0 Z = true := hw _ (List.mem_of_getElem? (i := 24) rfl)
theorem w25 {Z : State} {a0 : Array Value} (hw : ∀ d ∈ tables_1, d.before a0 Z = true) : (Jvm.Cond.code ({ cls := "java/lang/StringUTF16", name := "compress", desc := "([CII)[B" } : Jvm.MethodName) jdk_52_method_16_code (6 : Nat) (Option.some (Jvm.ClassFile.FieldType.array Jvm.ClassFile.FieldType.byte))).before a0 Z = true := hw _ (List.mem_of_getElem? (i := 25) rfl)
theorem w26 {Z : State} {a0 : Array Value} (hw : ∀ d ∈ tables_1, d.before a0 Z = true) : (Jvm.Cond.arrayClass Jvm.ClassFile.FieldType.byte).before a0 Z = true := hw _ (List.mem_of_getElem? (i := 26) rfl)
theorem w27 {Z : State} {a0 : Array Value} (hw : ∀ d ∈ tables_1, d.before a0 Z = true) : (Jvm.Cond.methodLink "java/lang/StringUTF16" (115 : Nat) ({ cls := "java/lang/StringUTF16", name := "compress", desc := "([CI[BII)I" } : Jvm.MethodName)).before a0 Z = true := hw _ (List.mem_of_getElem? (i := 27) rfl)
theorem w28 {Z : State} {a0 : Array Value} (hw : ∀ d ∈ tables_1, d.before a0 Z = true) : (Jvm.Cond.static ({ cls := "java/lang/StringUTF16", name := "compress", desc := "([CI[BII)I" } : Jvm.MethodName)).before a0 Z = true := hw _ (List.mem_of_getElem? (i := 28) rfl)
theorem w29 {Z : State} {a0 : Array Value} (hw : ∀ d ∈ tables_1, d.before a0 Z = true) : (Jvm.Cond.code ({ cls := "java/lang/StringUTF16", name := "compress", desc := "([CI[BII)I" } : Jvm.MethodName) jdk_52_method_21_code (7 : Nat) (Option.some Jvm.ClassFile.FieldType.int)).before a0 Z = true := hw _ (List.mem_of_getElem? (i := 29) rfl)
theorem w30 {Z : State} {a0 : Array Value} (hw : ∀ d ∈ tables_1, d.before a0 Z = true) : (Jvm.Cond.methodLink "java/lang/String" (47 : Nat) ({ cls := "java/lang/StringUTF16", name := "coderFromArrayLen", desc := "([BI)B" } : Jvm.MethodName)).before a0 Z = true := hw _ (List.mem_of_getElem? (i := 30) rfl)
theorem w31 {Z : State} {a0 : Array Value} (hw : ∀ d ∈ tables_1, d.before a0 Z = true) : (Jvm.Cond.static ({ cls := "java/lang/StringUTF16", name := "coderFromArrayLen", desc := "([BI)B" } : Jvm.MethodName)).before a0 Z = true := hw _ (List.mem_of_getElem? (i := 31) rfl)
theorem w32 {Z : State} {a0 : Array Value} (hw : ∀ d ∈ tables_1, d.before a0 Z = true) : (Jvm.Cond.code ({ cls := "java/lang/StringUTF16", name := "coderFromArrayLen", desc := "([BI)B" } : Jvm.MethodName) jdk_52_method_15_code (2 : Nat) (Option.some Jvm.ClassFile.FieldType.byte)).before a0 Z = true := hw _ (List.mem_of_getElem? (i := 32) rfl)
theorem w33 {Z : State} {a0 : Array Value} (hw : ∀ d ∈ tables_1, d.before a0 Z = true) : (Jvm.Cond.fieldLink "java/lang/String" (15 : Nat) "java/lang/String" "coder" "B").before a0 Z = true := hw _ (List.mem_of_getElem? (i := 33) rfl)
theorem w34 {Z : State} {a0 : Array Value} (hw : ∀ d ∈ tables_1, d.before a0 Z = true) : (Jvm.Cond.laysFinal "java/lang/String" "java/lang/String" "coder" "B").before a0 Z = true := hw _ (List.mem_of_getElem? (i := 34) rfl)
theorem w35 {Z : State} {a0 : Array Value} (hw : ∀ d ∈ tables_1, d.before a0 Z = true) : (Jvm.Cond.fieldLink "java/lang/String" (9 : Nat) "java/lang/String" "value" "[B").before a0 Z = true := hw _ (List.mem_of_getElem? (i := 35) rfl)
theorem w36 {Z : State} {a0 : Array Value} (hw : ∀ d ∈ tables_1, d.before a0 Z = true) : (Jvm.Cond.laysFinal "java/lang/String" "java/lang/String" "value" "[B").before a0 Z = true := hw _ (List.mem_of_getElem? (i := 36) rfl)
theorem w37 {Z : State} {a0 : Array Value} (hw : ∀ d ∈ tables_1, d.before a0 Z = true) : (Jvm.Cond.stringLink "java/lang/String" (7 : Nat) "").before a0 Z = true := hw _ (List.mem_of_getElem? (i := 37) rfl)
theorem w40 {Z : State} {a0 : Array Value} (hw : ∀ d ∈ tables_1, d.before a0 Z = true) : (Jvm.Cond.methodLink "com/example/epochmark/epochmark/cli/ArgumentsUsagePinLaw" (22 : Nat) ({ cls := "com/example/epochmark/epochmark/cli/ArgumentsUsagePinLaw", name := "prefixed", desc := "(II)Ljava/lang/String;" } : Jvm.MethodName)).before a0 Z = true := hw _ (List.mem_of_getElem? (i := 40) rfl)
theorem w41 {Z : State} {a0 : Array Value} (hw : ∀ d ∈ tables_1, d.before a0 Z = true) : (Jvm.Cond.static ({ cls := "com/example/epochmark/epochmark/cli/ArgumentsUsagePinLaw", name := "prefixed", desc := "(II)Ljava/lang/String;" } : Jvm.MethodName)).before a0 Z = true := hw _ (List.mem_of_getElem? (i := 41) rfl)
theorem w42 {Z : State} {a0 : Array Value} (hw : ∀ d ∈ tables_1, d.before a0 Z = true) : (Jvm.Cond.code ({ cls := "com/example/epochmark/epochmark/cli/ArgumentsUsagePinLaw", name := "prefixed", desc := "(II)Ljava/lang/String;" } : Jvm.MethodName) method_4_code (2 : Nat) (Option.some (Jvm.ClassFile.FieldType.object "java/lang/String"))).before a0 Z = true := hw _ (List.mem_of_getElem? (i := 42) rfl)
theorem w43 {Z : State} {a0 : Array Value} (hw : ∀ d ∈ tables_1, d.before a0 Z = true) : (Jvm.Cond.classLink "com/example/epochmark/epochmark/cli/ArgumentsUsagePinLaw" (25 : Nat) "com/example/epochmark/epochmark/cli/Arguments").before a0 Z = true := hw _ (List.mem_of_getElem? (i := 43) rfl)
theorem w44 {Z : State} {a0 : Array Value} (hw : ∀ d ∈ tables_1, d.before a0 Z = true) : (Jvm.Cond.instantiable "com/example/epochmark/epochmark/cli/Arguments" (4 : Nat)).before a0 Z = true := hw _ (List.mem_of_getElem? (i := 44) rfl)
theorem w45 {Z : State} {a0 : Array Value} (hw : ∀ d ∈ tables_1, d.before a0 Z = true) : (Jvm.Cond.initialized "com/example/epochmark/epochmark/cli/Arguments").before a0 Z = true := hw _ (List.mem_of_getElem? (i := 45) rfl)
theorem w46 {Z : State} {a0 : Array Value} (hw : ∀ d ∈ tables_1, d.before a0 Z = true) : (Jvm.Cond.classLink "com/example/epochmark/epochmark/cli/ArgumentsUsagePinLaw" (27 : Nat) "java/util/ArrayList").before a0 Z = true := hw _ (List.mem_of_getElem? (i := 46) rfl)
theorem w47 {Z : State} {a0 : Array Value} (hw : ∀ d ∈ tables_1, d.before a0 Z = true) : (Jvm.Cond.instantiable "java/util/ArrayList" (3 : Nat)).before a0 Z = true := hw _ (List.mem_of_getElem? (i := 47) rfl)
theorem w48 {Z : State} {a0 : Array Value} (hw : ∀ d ∈ tables_1, d.before a0 Z = true) : (Jvm.Cond.initialized "java/util/ArrayList").before a0 Z = true := hw _ (List.mem_of_getElem? (i := 48) rfl)
theorem w49 {Z : State} {a0 : Array Value} (hw : ∀ d ∈ tables_1, d.before a0 Z = true) : (Jvm.Cond.methodLink "com/example/epochmark/epochmark/cli/ArgumentsUsagePinLaw" (29 : Nat) ({ cls := "java/util/ArrayList", name := "<init>", desc := "()V" } : Jvm.MethodName)).before a0 Z = true := hw _ (List.mem_of_getElem? (i := 49) rfl)
theorem w50 {Z : State} {a0 : Array Value} (hw : ∀ d ∈ tables_1, d.before a0 Z = true) : (Jvm.Cond.instanceMethod ({ cls := "java/util/ArrayList", name := "<init>", desc := "()V" } : Jvm.MethodName)).before a0 Z = true := hw _ (List.mem_of_getElem? (i := 50) rfl)
theorem w51 {Z : State} {a0 : Array Value} (hw : ∀ d ∈ tables_1, d.before a0 Z = true) : (Jvm.Cond.code ({ cls := "java/util/ArrayList", name := "<init>", desc := "()V" } : Jvm.MethodName) jdk_38_method_2_code (1 : Nat) (Option.none : Option Jvm.ClassFile.FieldType)).before a0 Z = true := hw _ (List.mem_of_getElem? (i := 51) rfl)
theorem w52 {Z : State} {a0 : Array Value} (hw : ∀ d ∈ tables_1, d.before a0 Z = true) : (Jvm.Cond.methodLink "java/util/ArrayList" (1 : Nat) ({ cls := "java/util/AbstractList", name := "<init>", desc := "()V" } : Jvm.MethodName)).before a0 Z = true := hw _ (List.mem_of_getElem? (i := 52) rfl)
theorem w53 {Z : State} {a0 : Array Value} (hw : ∀ d ∈ tables_1, d.before a0 Z = true) : (Jvm.Cond.instanceMethod ({ cls := "java/util/AbstractList", name := "<init>", desc := "()V" } : Jvm.MethodName)).before a0 Z = true := hw _ (List.mem_of_getElem? (i := 53) rfl)
theorem w56 {Z : State} {a0 : Array Value} (hw : ∀ d ∈ tables_1, d.before a0 Z = true) : (Jvm.Cond.initialized "java/util/AbstractList").before a0 Z = true := hw _ (List.mem_of_getElem? (i := 56) rfl)
theorem w57 {Z : State} {a0 : Array Value} (hw : ∀ d ∈ tables_1, d.before a0 Z = true) : (Jvm.Cond.code ({ cls := "java/util/AbstractList", name := "<init>", desc := "()V" } : Jvm.MethodName) jdk_39_method_1_code (1 : Nat) (Option.none : Option Jvm.ClassFile.FieldType)).before a0 Z = true := hw _ (List.mem_of_getElem? (i := 57) rfl)
theorem w58 {Z : State} {a0 : Array Value} (hw : ∀ d ∈ tables_1, d.before a0 Z = true) : (Jvm.Cond.methodLink "java/util/AbstractList" (1 : Nat) ({ cls := "java/util/AbstractCollection", name := "<init>", desc := "()V" } : Jvm.MethodName)).before a0 Z = true := hw _ (List.mem_of_getElem? (i := 58) rfl)
theorem w59 {Z : State} {a0 : Array Value} (hw : ∀ d ∈ tables_1, d.before a0 Z = true) : (Jvm.Cond.instanceMethod ({ cls := "java/util/AbstractCollection", name := "<init>", desc := "()V" } : Jvm.MethodName)).before a0 Z = true := hw _ (List.mem_of_getElem? (i := 59) rfl)
theorem w62 {Z : State} {a0 : Array Value} (hw : ∀ d ∈ tables_1, d.before a0 Z = true) : (Jvm.Cond.initialized "java/util/AbstractCollection").before a0 Z = true := hw _ (List.mem_of_getElem? (i := 62) rfl)
theorem w63 {Z : State} {a0 : Array Value} (hw : ∀ d ∈ tables_1, d.before a0 Z = true) : (Jvm.Cond.code ({ cls := "java/util/AbstractCollection", name := "<init>", desc := "()V" } : Jvm.MethodName) jdk_22_method_1_code (1 : Nat) (Option.none : Option Jvm.ClassFile.FieldType)).before a0 Z = true := hw _ (List.mem_of_getElem? (i := 63) rfl)
theorem w64 {Z : State} {a0 : Array Value} (hw : ∀ d ∈ tables_1, d.before a0 Z = true) : (Jvm.Cond.methodLink "java/util/AbstractCollection" (1 : Nat) ({ cls := "java/lang/Object", name := "<init>", desc := "()V" } : Jvm.MethodName)).before a0 Z = true := hw _ (List.mem_of_getElem? (i := 64) rfl)
theorem w65 {Z : State} {a0 : Array Value} (hw : ∀ d ∈ tables_1, d.before a0 Z = true) : (Jvm.Cond.fieldLink "java/util/AbstractList" (7 : Nat) "java/util/AbstractList" "modCount" "I").before a0 Z = true := hw _ (List.mem_of_getElem? (i := 65) rfl)
theorem w66 {Z : State} {a0 : Array Value} (hw : ∀ d ∈ tables_1, d.before a0 Z = true) : (Jvm.Cond.lays "java/util/ArrayList" "java/util/AbstractList" "modCount" "I").before a0 Z = true := hw _ (List.mem_of_getElem? (i := 66) rfl)
theorem w67 {Z : State} {a0 : Array Value} (hw : ∀ d ∈ tables_1, d.before a0 Z = true) : (Jvm.Cond.fieldLink "java/util/ArrayList" (39 : Nat) "java/util/ArrayList" "DEFAULTCAPACITY_EMPTY_ELEMENTDATA" "[Ljava/lang/Object;").before a0 Z = true := hw _ (List.mem_of_getElem? (i := 67) rfl)
theorem w68 {Z : State} {a0 : Array Value} (hw : ∀ d ∈ tables_1, d.before a0 Z = true) : (Jvm.Cond.fieldLink "java/util/ArrayList" (9 : Nat) "java/util/ArrayList" "elementData" "[Ljava/lang/Object;").before a0 Z = true := hw _ (List.mem_of_getElem? (i := 68) rfl)
theorem w69 {Z : State} {a0 : Array Value} (hw : ∀ d ∈ tables_1, d.before a0 Z = true) : (Jvm.Cond.lays "java/util/ArrayList" "java/util/ArrayList" "elementData" "[Ljava/lang/Object;").before a0 Z = true := hw _ (List.mem_of_getElem? (i := 69) rfl)
theorem w70 {Z : State} {a0 : Array Value} (hw : ∀ d ∈ tables_1, d.before a0 Z = true) : (Jvm.Cond.methodLink "com/example/epochmark/epochmark/cli/ArgumentsUsagePinLaw" (30 : Nat) ({ cls := "com/example/epochmark/epochmark/cli/Arguments", name := "<init>", desc := "(Ljava/util/List;Ljava/util/Map;Ljava/util/Set;Ljava/lang/String;)V" } : Jvm.MethodName)).before a0 Z = true := hw _ (List.mem_of_getElem? (i := 70) rfl)
theorem w71 {Z : State} {a0 : Array Value} (hw : ∀ d ∈ tables_1, d.before a0 Z = true) : (Jvm.Cond.instanceMethod ({ cls := "com/example/epochmark/epochmark/cli/Arguments", name := "<init>", desc := "(Ljava/util/List;Ljava/util/Map;Ljava/util/Set;Ljava/lang/String;)V" } : Jvm.MethodName)).before a0 Z = true := hw _ (List.mem_of_getElem? (i := 71) rfl)
theorem w72 {Z : State} {a0 : Array Value} (hw : ∀ d ∈ tables_1, d.before a0 Z = true) : (Jvm.Cond.code ({ cls := "com/example/epochmark/epochmark/cli/Arguments", name := "<init>", desc := "(Ljava/util/List;Ljava/util/Map;Ljava/util/Set;Ljava/lang/String;)V" } : Jvm.MethodName) prog_1_method_1_code (8 : Nat) (Option.none : Option Jvm.ClassFile.FieldType)).before a0 Z = true := hw _ (List.mem_of_getElem? (i := 72) rfl)
theorem w73 {Z : State} {a0 : Array Value} (hw : ∀ d ∈ tables_1, d.before a0 Z = true) : (Jvm.Cond.methodLink "com/example/epochmark/epochmark/cli/Arguments" (1 : Nat) ({ cls := "java/lang/Object", name := "<init>", desc := "()V" } : Jvm.MethodName)).before a0 Z = true := hw _ (List.mem_of_getElem? (i := 73) rfl)
theorem w74 {Z : State} {a0 : Array Value} (hw : ∀ d ∈ tables_1, d.before a0 Z = true) : (Jvm.Cond.classLink "com/example/epochmark/epochmark/cli/Arguments" (7 : Nat) "java/util/HashMap").before a0 Z = true := hw _ (List.mem_of_getElem? (i := 74) rfl)
theorem w75 {Z : State} {a0 : Array Value} (hw : ∀ d ∈ tables_1, d.before a0 Z = true) : (Jvm.Cond.instantiable "java/util/HashMap" (8 : Nat)).before a0 Z = true := hw _ (List.mem_of_getElem? (i := 75) rfl)
theorem w76 {Z : State} {a0 : Array Value} (hw : ∀ d ∈ tables_1, d.before a0 Z = true) : (Jvm.Cond.initialized "java/util/HashMap").before a0 Z = true := hw _ (List.mem_of_getElem? (i := 76) rfl)
theorem w77 {Z : State} {a0 : Array Value} (hw : ∀ d ∈ tables_1, d.before a0 Z = true) : (Jvm.Cond.methodLink "com/example/epochmark/epochmark/cli/Arguments" (9 : Nat) ({ cls := "java/util/HashMap", name := "<init>", desc := "()V" } : Jvm.MethodName)).before a0 Z = true := hw _ (List.mem_of_getElem? (i := 77) rfl)
theorem w78 {Z : State} {a0 : Array Value} (hw : ∀ d ∈ tables_1, d.before a0 Z = true) : (Jvm.Cond.instanceMethod ({ cls := "java/util/HashMap", name := "<init>", desc := "()V" } : Jvm.MethodName)).before a0 Z = true := hw _ (List.mem_of_getElem? (i := 78) rfl)
theorem w79 {Z : State} {a0 : Array Value} (hw : ∀ d ∈ tables_1, d.before a0 Z = true) : (Jvm.Cond.code ({ cls := "java/util/HashMap", name := "<init>", desc := "()V" } : Jvm.MethodName) jdk_69_method_7_code (1 : Nat) (Option.none : Option Jvm.ClassFile.FieldType)).before a0 Z = true := hw _ (List.mem_of_getElem? (i := 79) rfl)
theorem w80 {Z : State} {a0 : Array Value} (hw : ∀ d ∈ tables_1, d.before a0 Z = true) : (Jvm.Cond.methodLink "java/util/HashMap" (43 : Nat) ({ cls := "java/util/AbstractMap", name := "<init>", desc := "()V" } : Jvm.MethodName)).before a0 Z = true := hw _ (List.mem_of_getElem? (i := 80) rfl)
theorem w81 {Z : State} {a0 : Array Value} (hw : ∀ d ∈ tables_1, d.before a0 Z = true) : (Jvm.Cond.instanceMethod ({ cls := "java/util/AbstractMap", name := "<init>", desc := "()V" } : Jvm.MethodName)).before a0 Z = true := hw _ (List.mem_of_getElem? (i := 81) rfl)
theorem w84 {Z : State} {a0 : Array Value} (hw : ∀ d ∈ tables_1, d.before a0 Z = true) : (Jvm.Cond.initialized "java/util/AbstractMap").before a0 Z = true := hw _ (List.mem_of_getElem? (i := 84) rfl)
theorem w85 {Z : State} {a0 : Array Value} (hw : ∀ d ∈ tables_1, d.before a0 Z = true) : (Jvm.Cond.code ({ cls := "java/util/AbstractMap", name := "<init>", desc := "()V" } : Jvm.MethodName) jdk_71_method_1_code (1 : Nat) (Option.none : Option Jvm.ClassFile.FieldType)).before a0 Z = true := hw _ (List.mem_of_getElem? (i := 85) rfl)
theorem w86 {Z : State} {a0 : Array Value} (hw : ∀ d ∈ tables_1, d.before a0 Z = true) : (Jvm.Cond.methodLink "java/util/AbstractMap" (1 : Nat) ({ cls := "java/lang/Object", name := "<init>", desc := "()V" } : Jvm.MethodName)).before a0 Z = true := hw _ (List.mem_of_getElem? (i := 86) rfl)
theorem w87 {Z : State} {a0 : Array Value} (hw : ∀ d ∈ tables_1, d.before a0 Z = true) : (Jvm.Cond.constantFloat "java/util/HashMap" (92 : Nat) (1061158912 : UInt32)).before a0 Z = true := hw _ (List.mem_of_getElem? (i := 87) rfl)
theorem w88 {Z : State} {a0 : Array Value} (hw : ∀ d ∈ tables_1, d.before a0 Z = true) : (Jvm.Cond.fieldLink "java/util/HashMap" (81 : Nat) "java/util/HashMap" "loadFactor" "F").before a0 Z = true := hw _ (List.mem_of_getElem? (i := 88) rfl)
theorem w89 {Z : State} {a0 : Array Value} (hw : ∀ d ∈ tables_1, d.before a0 Z = true) : (Jvm.Cond.laysFinal "java/util/HashMap" "java/util/HashMap" "loadFactor" "F").before a0 Z = true := hw _ (List.mem_of_getElem? (i := 89) rfl)
theorem w90 {Z : State} {a0 : Array Value} (hw : ∀ d ∈ tables_1, d.before a0 Z = true) : (Jvm.Cond.fieldLink "com/example/epochmark/epochmark/cli/Arguments" (10 : Nat) "com/example/epochmark/epochmark/cli/Arguments" "values" "Ljava/util/Map;").before a0 Z = true := hw _ (List.mem_of_getElem? (i := 90) rfl)
theorem w91 {Z : State} {a0 : Array Value} (hw : ∀ d ∈ tables_1, d.before a0 Z = true) : (Jvm.Cond.laysFinal "com/example/epochmark/epochmark/cli/Arguments" "com/example/epochmark/epochmark/cli/Arguments" "values" "Ljava/util/Map;").before a0 Z = true := hw _ (List.mem_of_getElem? (i := 91) rfl)
theorem w92 {Z : State} {a0 : Array Value} (hw : ∀ d ∈ tables_1, d.before a0 Z = true) : (Jvm.Cond.classLink "com/example/epochmark/epochmark/cli/Arguments" (16 : Nat) "java/util/ArrayList").before a0 Z = true := hw _ (List.mem_of_getElem? (i := 92) rfl)
theorem w93 {Z : State} {a0 : Array Value} (hw : ∀ d ∈ tables_1, d.before a0 Z = true) : (Jvm.Cond.methodLink "com/example/epochmark/epochmark/cli/Arguments" (18 : Nat) ({ cls := "java/util/ArrayList", name := "<init>", desc := "()V" } : Jvm.MethodName)).before a0 Z = true := hw _ (List.mem_of_getElem? (i := 93) rfl)
theorem w94 {Z : State} {a0 : Array Value} (hw : ∀ d ∈ tables_1, d.before a0 Z = true) : (Jvm.Cond.fieldLink "com/example/epochmark/epochmark/cli/Arguments" (19 : Nat) "com/example/epochmark/epochmark/cli/Arguments" "operands" "Ljava/util/List;").before a0 Z = true := hw _ (List.mem_of_getElem? (i := 94) rfl)
theorem w95 {Z : State} {a0 : Array Value} (hw : ∀ d ∈ tables_1, d.before a0 Z = true) : (Jvm.Cond.laysFinal "com/example/epochmark/epochmark/cli/Arguments" "com/example/epochmark/epochmark/cli/Arguments" "operands" "Ljava/util/List;").before a0 Z = true := hw _ (List.mem_of_getElem? (i := 95) rfl)
theorem w96 {Z : State} {a0 : Array Value} (hw : ∀ d ∈ tables_1, d.before a0 Z = true) : (Jvm.Cond.fieldLink "com/example/epochmark/epochmark/cli/Arguments" (23 : Nat) "com/example/epochmark/epochmark/cli/Arguments" "takes" "Ljava/util/Map;").before a0 Z = true := hw _ (List.mem_of_getElem? (i := 96) rfl)
theorem w97 {Z : State} {a0 : Array Value} (hw : ∀ d ∈ tables_1, d.before a0 Z = true) : (Jvm.Cond.laysFinal "com/example/epochmark/epochmark/cli/Arguments" "com/example/epochmark/epochmark/cli/Arguments" "takes" "Ljava/util/Map;").before a0 Z = true := hw _ (List.mem_of_getElem? (i := 97) rfl)
theorem w98 {Z : State} {a0 : Array Value} (hw : ∀ d ∈ tables_1, d.before a0 Z = true) : (Jvm.Cond.fieldLink "com/example/epochmark/epochmark/cli/Arguments" (26 : Nat) "com/example/epochmark/epochmark/cli/Arguments" "synopsis" "Ljava/lang/String;").before a0 Z = true := hw _ (List.mem_of_getElem? (i := 98) rfl)
theorem w99 {Z : State} {a0 : Array Value} (hw : ∀ d ∈ tables_1, d.before a0 Z = true) : (Jvm.Cond.laysFinal "com/example/epochmark/epochmark/cli/Arguments" "com/example/epochmark/epochmark/cli/Arguments" "synopsis" "Ljava/lang/String;").before a0 Z = true := hw _ (List.mem_of_getElem? (i := 99) rfl)
theorem w100 {Z : State} {a0 : Array Value} (hw : ∀ d ∈ tables_1, d.before a0 Z = true) : (Jvm.Cond.methodLink "com/example/epochmark/epochmark/cli/Arguments" (30 : Nat) ({ cls := "java/util/List", name := "iterator", desc := "()Ljava/util/Iterator;" } : Jvm.MethodName)).before a0 Z = true := hw _ (List.mem_of_getElem? (i := 100) rfl)
theorem w101 {Z : State} {a0 : Array Value} (hw : ∀ d ∈ tables_1, d.before a0 Z = true) : (Jvm.Cond.declares ({ cls := "java/util/List", name := "iterator", desc := "()Ljava/util/Iterator;" } : Jvm.MethodName)).before a0 Z = true := hw _ (List.mem_of_getElem? (i := 101) rfl)
theorem w102 {Z : State} {a0 : Array Value} (hw : ∀ d ∈ tables_1, d.before a0 Z = true) : (Jvm.Cond.interfaceMethod "java/util/List" "java/util/List" "iterator" "()Ljava/util/Iterator;").before a0 Z = true := hw _ (List.mem_of_getElem? (i := 102) rfl)
theorem w103 {Z : State} {a0 : Array Value} (hw : ∀ d ∈ tables_1, d.before a0 Z = true) : (Jvm.Cond.selects "java/util/ArrayList" ({ cls := "java/util/List", name := "iterator", desc := "()Ljava/util/Iterator;" } : Jvm.MethodName) ({ cls := "java/util/ArrayList", name := "iterator", desc := "()Ljava/util/Iterator;" } : Jvm.MethodName)).before a0 Z = true := hw _ (List.mem_of_getElem? (i := 103) rfl)
theorem w104 {Z : State} {a0 : Array Value} (hw : ∀ d ∈ tables_1, d.before a0 Z = true) : (Jvm.Cond.instanceMethod ({ cls := "java/util/ArrayList", name := "iterator", desc := "()Ljava/util/Iterator;" } : Jvm.MethodName)).before a0 Z = true := hw _ (List.mem_of_getElem? (i := 104) rfl)
theorem w105 {Z : State} {a0 : Array Value} (hw : ∀ d ∈ tables_1, d.before a0 Z = true) : (Jvm.Cond.publicMethod ({ cls := "java/util/ArrayList", name := "iterator", desc := "()Ljava/util/Iterator;" } : Jvm.MethodName)).before a0 Z = true := hw _ (List.mem_of_getElem? (i := 105) rfl)
theorem w106 {Z : State} {a0 : Array Value} (hw : ∀ d ∈ tables_1, d.before a0 Z = true) : (Jvm.Cond.unhidden "java/util/ArrayList" "iterator" "()Ljava/util/Iterator;").before a0 Z = true := hw _ (List.mem_of_getElem? (i := 106) rfl)
theorem w107 {Z : State} {a0 : Array Value} (hw : ∀ d ∈ tables_1, d.before a0 Z = true) : (Jvm.Cond.castable "java/util/ArrayList" "java/util/List").before a0 Z = true := hw _ (List.mem_of_getElem? (i := 107) rfl)
theorem w108 {Z : State} {a0 : Array Value} (hw : ∀ d ∈ tables_1, d.before a0 Z = true) : (Jvm.Cond.code ({ cls := "java/util/ArrayList", name := "iterator", desc := "()Ljava/util/Iterator;" } : Jvm.MethodName) jdk_38_method_55_code (1 : Nat) (Option.some (Jvm.ClassFile.FieldType.object "java/util/Iterator"))).before a0 Z = true := hw _ (List.mem_of_getElem? (i := 108) rfl)
theorem w109 {Z : State} {a0 : Array Value} (hw : ∀ d ∈ tables_1, d.before a0 Z = true) : (Jvm.Cond.classLink "java/util/ArrayList" (267 : Nat) "java/util/ArrayList$Itr").before a0 Z = true := hw _ (List.mem_of_getElem? (i := 109) rfl)
theorem w110 {Z : State} {a0 : Array Value} (hw : ∀ d ∈ tables_1, d.before a0 Z = true) : (Jvm.Cond.instantiable "java/util/ArrayList$Itr" (4 : Nat)).before a0 Z = true := hw _ (List.mem_of_getElem? (i := 110) rfl)
theorem w111 {Z : State} {a0 : Array Value} (hw : ∀ d ∈ tables_1, d.before a0 Z = true) : (Jvm.Cond.initialized "java/util/ArrayList$Itr").before a0 Z = true := hw _ (List.mem_of_getElem? (i := 111) rfl)
theorem w112 {Z : State} {a0 : Array Value} (hw : ∀ d ∈ tables_1, d.before a0 Z = true) : (Jvm.Cond.methodLink "java/util/ArrayList" (269 : Nat) ({ cls := "java/util/ArrayList$Itr", name := "<init>", desc := "(Ljava/util/ArrayList;)V" } : Jvm.MethodName)).before a0 Z = true := hw _ (List.mem_of_getElem? (i := 112) rfl)
theorem w113 {Z : State} {a0 : Array Value} (hw : ∀ d ∈ tables_1, d.before a0 Z = true) : (Jvm.Cond.instanceMethod ({ cls := "java/util/ArrayList$Itr", name := "<init>", desc := "(Ljava/util/ArrayList;)V" } : Jvm.MethodName)).before a0 Z = true := hw _ (List.mem_of_getElem? (i := 113) rfl)
theorem w115 {Z : State} {a0 : Array Value} (hw : ∀ d ∈ tables_1, d.before a0 Z = true) : (Jvm.Cond.code ({ cls := "java/util/ArrayList$Itr", name := "<init>", desc := "(Ljava/util/ArrayList;)V" } : Jvm.MethodName) jdk_49_method_1_code (2 : Nat) (Option.none : Option Jvm.ClassFile.FieldType)).before a0 Z = true := hw _ (List.mem_of_getElem? (i := 115) rfl)
theorem w116 {Z : State} {a0 : Array Value} (hw : ∀ d ∈ tables_1, d.before a0 Z = true) : (Jvm.Cond.fieldLink "java/util/ArrayList$Itr" (1 : Nat) "java/util/ArrayList$Itr" "this$0" "Ljava/util/ArrayList;").before a0 Z = true := hw _ (List.mem_of_getElem? (i := 116) rfl)
theorem w117 {Z : State} {a0 : Array Value} (hw : ∀ d ∈ tables_1, d.before a0 Z = true) : (Jvm.Cond.laysFinal "java/util/ArrayList$Itr" "java/util/ArrayList$Itr" "this$0" "Ljava/util/ArrayList;").before a0 Z = true := hw _ (List.mem_of_getElem? (i := 117) rfl)
theorem w118 {Z : State} {a0 : Array Value} (hw : ∀ d ∈ tables_1, d.before a0 Z = true) : (Jvm.Cond.methodLink "java/util/ArrayList$Itr" (7 : Nat) ({ cls := "java/lang/Object", name := "<init>", desc := "()V" } : Jvm.MethodName)).before a0 Z = true := hw _ (List.mem_of_getElem? (i := 118) rfl)
theorem w119 {Z : State} {a0 : Array Value} (hw : ∀ d ∈ tables_1, d.before a0 Z = true) : (Jvm.Cond.fieldLink "java/util/ArrayList$Itr" (13 : Nat) "java/util/ArrayList$Itr" "lastRet" "I").before a0 Z = true := hw _ (List.mem_of_getElem? (i := 119) rfl)
theorem w120 {Z : State} {a0 : Array Value} (hw : ∀ d ∈ tables_1, d.before a0 Z = true) : (Jvm.Cond.lays "java/util/ArrayList$Itr" "java/util/ArrayList$Itr" "lastRet" "I").before a0 Z = true := hw _ (List.mem_of_getElem? (i := 120) rfl)
theorem w121 {Z : State} {a0 : Array Value} (hw : ∀ d ∈ tables_1, d.before a0 Z = true) : (Jvm.Cond.fieldLink "java/util/ArrayList$Itr" (17 : Nat) "java/util/ArrayList" "modCount" "I").before a0 Z = true := hw _ (List.mem_of_getElem? (i := 121) rfl)
theorem w122 {Z : State} {a0 : Array Value} (hw : ∀ d ∈ tables_1, d.before a0 Z = true) : (Jvm.Cond.sameField "java/util/ArrayList" "java/util/AbstractList" "modCount" "I").before a0 Z = true := hw _ (List.mem_of_getElem? (i := 122) rfl)
theorem w123 {Z : State} {a0 : Array Value} (hw : ∀ d ∈ tables_1, d.before a0 Z = true) : (Jvm.Cond.fieldLink "java/util/ArrayList$Itr" (22 : Nat) "java/util/ArrayList$Itr" "expectedModCount" "I").before a0 Z = true := hw _ (List.mem_of_getElem? (i := 123) rfl)
theorem w124 {Z : State} {a0 : Array Value} (hw : ∀ d ∈ tables_1, d.before a0 Z = true) : (Jvm.Cond.lays "java/util/ArrayList$Itr" "java/util/ArrayList$Itr" "expectedModCount" "I").before a0 Z = true := hw _ (List.mem_of_getElem? (i := 124) rfl)
theorem w125 {Z : State} {a0 : Array Value} (hw : ∀ d ∈ tables_1, d.before a0 Z = true) : (Jvm.Cond.methodLink "com/example/epochmark/epochmark/cli/Arguments" (36 : Nat) ({ cls := "java/util/Iterator", name := "hasNext", desc := "()Z" } : Jvm.MethodName)).before a0 Z = true := hw _ (List.mem_of_getElem? (i := 125) rfl)
theorem w126 {Z : State} {a0 : Array Value} (hw : ∀ d ∈ tables_1, d.before a0 Z = true) : (Jvm.Cond.declares ({ cls := "java/util/Iterator", name := "hasNext", desc := "()Z" } : Jvm.MethodName)).before a0 Z = true := hw _ (List.mem_of_getElem? (i := 126) rfl)
theorem w127 {Z : State} {a0 : Array Value} (hw : ∀ d ∈ tables_1, d.before a0 Z = true) : (Jvm.Cond.interfaceMethod "java/util/Iterator" "java/util/Iterator" "hasNext" "()Z").before a0 Z = true := hw _ (List.mem_of_getElem? (i := 127) rfl)
theorem w128 {Z : State} {a0 : Array Value} (hw : ∀ d ∈ tables_1, d.before a0 Z = true) : (Jvm.Cond.selects "java/util/ArrayList$Itr" ({ cls := "java/util/Iterator", name := "hasNext", desc := "()Z" } : Jvm.MethodName) ({ cls := "java/util/ArrayList$Itr", name := "hasNext", desc := "()Z" } : Jvm.MethodName)).before a0 Z = true := hw _ (List.mem_of_getElem? (i := 128) rfl)
theorem w129 {Z : State} {a0 : Array Value} (hw : ∀ d ∈ tables_1, d.before a0 Z = true) : (Jvm.Cond.instanceMethod ({ cls := "java/util/ArrayList$Itr", name := "hasNext", desc := "()Z" } : Jvm.MethodName)).before a0 Z = true := hw _ (List.mem_of_getElem? (i := 129) rfl)
theorem w130 {Z : State} {a0 : Array Value} (hw : ∀ d ∈ tables_1, d.before a0 Z = true) : (Jvm.Cond.publicMethod ({ cls := "java/util/ArrayList$Itr", name := "hasNext", desc := "()Z" } : Jvm.MethodName)).before a0 Z = true := hw _ (List.mem_of_getElem? (i := 130) rfl)
theorem w131 {Z : State} {a0 : Array Value} (hw : ∀ d ∈ tables_1, d.before a0 Z = true) : (Jvm.Cond.unhidden "java/util/ArrayList$Itr" "hasNext" "()Z").before a0 Z = true := hw _ (List.mem_of_getElem? (i := 131) rfl)
theorem w132 {Z : State} {a0 : Array Value} (hw : ∀ d ∈ tables_1, d.before a0 Z = true) : (Jvm.Cond.castable "java/util/ArrayList$Itr" "java/util/Iterator").before a0 Z = true := hw _ (List.mem_of_getElem? (i := 132) rfl)
theorem w133 {Z : State} {a0 : Array Value} (hw : ∀ d ∈ tables_1, d.before a0 Z = true) : (Jvm.Cond.code ({ cls := "java/util/ArrayList$Itr", name := "hasNext", desc := "()Z" } : Jvm.MethodName) jdk_49_method_2_code (1 : Nat) (Option.some Jvm.ClassFile.FieldType.boolean)).before a0 Z = true := hw _ (List.mem_of_getElem? (i := 133) rfl)
theorem w134 {Z : State} {a0 : Array Value} (hw : ∀ d ∈ tables_1, d.before a0 Z = true) : (Jvm.Cond.fieldLink "java/util/ArrayList$Itr" (25 : Nat) "java/util/ArrayList$Itr" "cursor" "I").before a0 Z = true := hw _ (List.mem_of_getElem? (i := 134) rfl)
theorem w135 {Z : State} {a0 : Array Value} (hw : ∀ d ∈ tables_1, d.before a0 Z = true) : (Jvm.Cond.lays "java/util/ArrayList$Itr" "java/util/ArrayList$Itr" "cursor" "I").before a0 Z = true := hw _ (List.mem_of_getElem? (i := 135) rfl)
theorem w136 {Z : State} {a0 : Array Value} (hw : ∀ d ∈ tables_1, d.before a0 Z = true) : (Jvm.Cond.fieldLinkNest "java/util/ArrayList$Itr" (28 : Nat) "java/util/ArrayList" "size" "I" "java/util/ArrayList").before a0 Z = true := hw _ (List.mem_of_getElem? (i := 136) rfl)
theorem w137 {Z : State} {a0 : Array Value} (hw : ∀ d ∈ tables_1, d.before a0 Z = true) : (Jvm.Cond.lays "java/util/ArrayList" "java/util/ArrayList" "size" "I").before a0 Z = true := hw _ (List.mem_of_getElem? (i := 137) rfl)
theorem w138 {Z : State} {a0 : Array Value} (hw : ∀ d ∈ tables_1, d.before a0 Z = true) : (Jvm.Cond.methodLink "com/example/epochmark/epochmark/cli/ArgumentsUsagePinLaw" (33 : Nat) ({ cls := "com/example/epochmark/epochmark/cli/Arguments", name := "usage", desc := "(Ljava/lang/String;)Lcom/example/epochmark/epochmark/cli/UsageException;" } : Jvm.MethodName)).before a0 Z = true := hw _ (List.mem_of_getElem? (i := 138) rfl)
theorem w139 {Z : State} {a0 : Array Value} (hw : ∀ d ∈ tables_1, d.before a0 Z = true) : (Jvm.Cond.declares ({ cls := "com/example/epochmark/epochmark/cli/Arguments", name := "usage", desc := "(Ljava/lang/String;)Lcom/example/epochmark/epochmark/cli/UsageException;" } : Jvm.MethodName)).before a0 Z = true := hw _ (List.mem_of_getElem? (i := 139) rfl)
theorem w140 {Z : State} {a0 : Array Value} (hw : ∀ d ∈ tables_1, d.before a0 Z = true) : (Jvm.Cond.instanceMethod ({ cls := "com/example/epochmark/epochmark/cli/Arguments", name := "usage", desc := "(Ljava/lang/String;)Lcom/example/epochmark/epochmark/cli/UsageException;" } : Jvm.MethodName)).before a0 Z = true := hw _ (List.mem_of_getElem? (i := 140) rfl)
theorem w141 {Z : State} {a0 : Array Value} (hw : ∀ d ∈ tables_1, d.before a0 Z = true) : (Jvm.Cond.selects "com/example/epochmark/epochmark/cli/Arguments" ({ cls := "com/example/epochmark/epochmark/cli/Arguments", name := "usage", desc := "(Ljava/lang/String;)Lcom/example/epochmark/epochmark/cli/UsageException;" } : Jvm.MethodName) ({ cls := "com/example/epochmark/epochmark/cli/Arguments", name := "usage", desc := "(Ljava/lang/String;)Lcom/example/epochmark/epochmark/cli/UsageException;" } : Jvm.MethodName)).before a0 Z = true := hw _ (List.mem_of_getElem? (i := 141) rfl)
theorem w142 {Z : State} {a0 : Array Value} (hw : ∀ d ∈ tables_1, d.before a0 Z = true) : (Jvm.Cond.code ({ cls := "com/example/epochmark/epochmark/cli/Arguments", name := "usage", desc := "(Ljava/lang/String;)Lcom/example/epochmark/epochmark/cli/UsageException;" } : Jvm.MethodName) prog_1_method_6_code (2 : Nat) (Option.some (Jvm.ClassFile.FieldType.object "com/example/epochmark/epochmark/cli/UsageException"))).before a0 Z = true := hw _ (List.mem_of_getElem? (i := 142) rfl)
theorem w143 {Z : State} {a0 : Array Value} (hw : ∀ d ∈ tables_1, d.before a0 Z = true) : (Jvm.Cond.classLink "com/example/epochmark/epochmark/cli/Arguments" (137 : Nat) "com/example/epochmark/epochmark/cli/UsageException").before a0 Z = true := hw _ (List.mem_of_getElem? (i := 143) rfl)
theorem w144 {Z : State} {a0 : Array Value} (hw : ∀ d ∈ tables_1, d.before a0 Z = true) : (Jvm.Cond.instantiable "com/example/epochmark/epochmark/cli/UsageException" (7 : Nat)).before a0 Z = true := hw _ (List.mem_of_getElem? (i := 144) rfl)
theorem w145 {Z : State} {a0 : Array Value} (hw : ∀ d ∈ tables_1, d.before a0 Z = true) : (Jvm.Cond.initialized "com/example/epochmark/epochmark/cli/UsageException").before a0 Z = true := hw _ (List.mem_of_getElem? (i := 145) rfl)
theorem w146 {Z : State} {a0 : Array Value} (hw : ∀ d ∈ tables_1, d.before a0 Z = true) : (Jvm.Cond.classLink "com/example/epochmark/epochmark/cli/Arguments" (54 : Nat) "java/lang/StringBuilder").before a0 Z = true := hw _ (List.mem_of_getElem? (i := 146) rfl)
theorem w147 {Z : State} {a0 : Array Value} (hw : ∀ d ∈ tables_1, d.before a0 Z = true) : (Jvm.Cond.instantiable "java/lang/StringBuilder" (4 : Nat)).before a0 Z = true := hw _ (List.mem_of_getElem? (i := 147) rfl)
theorem w148 {Z : State} {a0 : Array Value} (hw : ∀ d ∈ tables_1, d.before a0 Z = true) : (Jvm.Cond.initialized "java/lang/StringBuilder").before a0 Z = true := hw _ (List.mem_of_getElem? (i := 148) rfl)
theorem w149 {Z : State} {a0 : Array Value} (hw : ∀ d ∈ tables_1, d.before a0 Z = true) : (Jvm.Cond.methodLink "com/example/epochmark/epochmark/cli/Arguments" (56 : Nat) ({ cls := "java/lang/StringBuilder", name := "<init>", desc := "()V" } : Jvm.MethodName)).before a0 Z = true := hw _ (List.mem_of_getElem? (i := 149) rfl)
theorem w150 {Z : State} {a0 : Array Value} (hw : ∀ d ∈ tables_1, d.before a0 Z = true) : (Jvm.Cond.instanceMethod ({ cls := "java/lang/StringBuilder", name := "<init>", desc := "()V" } : Jvm.MethodName)).before a0 Z = true := hw _ (List.mem_of_getElem? (i := 150) rfl)
theorem w151 {Z : State} {a0 : Array Value} (hw : ∀ d ∈ tables_1, d.before a0 Z = true) : (Jvm.Cond.code ({ cls := "java/lang/StringBuilder", name := "<init>", desc := "()V" } : Jvm.MethodName) jdk_67_method_1_code (1 : Nat) (Option.none : Option Jvm.ClassFile.FieldType)).before a0 Z = true := hw _ (List.mem_of_getElem? (i := 151) rfl)
theorem w152 {Z : State} {a0 : Array Value} (hw : ∀ d ∈ tables_1, d.before a0 Z = true) : (Jvm.Cond.methodLink "java/lang/StringBuilder" (1 : Nat) ({ cls := "java/lang/AbstractStringBuilder", name := "<init>", desc := "(I)V" } : Jvm.MethodName)).before a0 Z = true := hw _ (List.mem_of_getElem? (i := 152) rfl)
theorem w153 {Z : State} {a0 : Array Value} (hw : ∀ d ∈ tables_1, d.before a0 Z = true) : (Jvm.Cond.instanceMethod ({ cls := "java/lang/AbstractStringBuilder", name := "<init>", desc := "(I)V" } : Jvm.MethodName)).before a0 Z = true := hw _ (List.mem_of_getElem? (i := 153) rfl)
theorem w156 {Z : State} {a0 : Array Value} (hw : ∀ d ∈ tables_1, d.before a0 Z = true) : (Jvm.Cond.initialized "java/lang/AbstractStringBuilder").before a0 Z = true := hw _ (List.mem_of_getElem? (i := 156) rfl)
theorem w157 {Z : State} {a0 : Array Value} (hw : ∀ d ∈ tables_1, d.before a0 Z = true) : (Jvm.Cond.code ({ cls := "java/lang/AbstractStringBuilder", name := "<init>", desc := "(I)V" } : Jvm.MethodName) jdk_68_method_2_code (2 : Nat) (Option.none : Option Jvm.ClassFile.FieldType)).before a0 Z = true := hw _ (List.mem_of_getElem? (i := 157) rfl)
theorem w158 {Z : State} {a0 : Array Value} (hw : ∀ d ∈ tables_1, d.before a0 Z = true) : (Jvm.Cond.methodLink "java/lang/AbstractStringBuilder" (3 : Nat) ({ cls := "java/lang/Object", name := "<init>", desc := "()V" } : Jvm.MethodName)).before a0 Z = true := hw _ (List.mem_of_getElem? (i := 158) rfl)
theorem w159 {Z : State} {a0 : Array Value} (hw : ∀ d ∈ tables_1, d.before a0 Z = true) : (Jvm.Cond.fieldLink "java/lang/AbstractStringBuilder" (18 : Nat) "java/lang/String" "COMPACT_STRINGS" "Z").before a0 Z = true := hw _ (List.mem_of_getElem? (i := 159) rfl)
theorem w160 {Z : State} {a0 : Array Value} (hw : ∀ d ∈ tables_1, d.before a0 Z = true) : (Jvm.Cond.fieldLink "java/lang/AbstractStringBuilder" (15 : Nat) "java/lang/AbstractStringBuilder" "value" "[B").before a0 Z = true := hw _ (List.mem_of_getElem? (i := 160) rfl)
theorem w161 {Z : State} {a0 : Array Value} (hw : ∀ d ∈ tables_1, d.before a0 Z = true) : (Jvm.Cond.lays "java/lang/StringBuilder" "java/lang/AbstractStringBuilder" "value" "[B").before a0 Z = true := hw _ (List.mem_of_getElem? (i := 161) rfl)
theorem w162 {Z : State} {a0 : Array Value} (hw : ∀ d ∈ tables_1, d.before a0 Z = true) : (Jvm.Cond.fieldLink "java/lang/AbstractStringBuilder" (22 : Nat) "java/lang/AbstractStringBuilder" "coder" "B").before a0 Z = true := hw _ (List.mem_of_getElem? (i := 162) rfl)
theorem w163 {Z : State} {a0 : Array Value} (hw : ∀ d ∈ tables_1, d.before a0 Z = true) : (Jvm.Cond.lays "java/lang/StringBuilder" "java/lang/AbstractStringBuilder" "coder" "B").before a0 Z = true := hw _ (List.mem_of_getElem? (i := 163) rfl)
theorem w164 {Z : State} {a0 : Array Value} (hw : ∀ d ∈ tables_1, d.before a0 Z = true) : (Jvm.Cond.stringLink "com/example/epochmark/epochmark/cli/Arguments" (139 : Nat) "usage: ").before a0 Z = true := hw _ (List.mem_of_getElem? (i := 164) rfl)
theorem w165 {Z : State} {a0 : Array Value} (hw : ∀ d ∈ tables_1, d.before a0 Z = true) : (Jvm.Cond.methodLink "com/example/epochmark/epochmark/cli/Arguments" (57 : Nat) ({ cls := "java/lang/StringBuilder", name := "append", desc := "(Ljava/lang/String;)Ljava/lang/StringBuilder;" } : Jvm.MethodName)).before a0 Z = true := hw _ (List.mem_of_getElem? (i := 165) rfl)
theorem w166 {Z : State} {a0 : Array Value} (hw : ∀ d ∈ tables_1, d.before a0 Z = true) : (Jvm.Cond.declares ({ cls := "java/lang/StringBuilder", name := "append", desc := "(Ljava/lang/String;)Ljava/lang/StringBuilder;" } : Jvm.MethodName)).before a0 Z = true := hw _ (List.mem_of_getElem? (i := 166) rfl)
theorem w167 {Z : State} {a0 : Array Value} (hw : ∀ d ∈ tables_1, d.before a0 Z = true) : (Jvm.Cond.instanceMethod ({ cls := "java/lang/StringBuilder", name := "append", desc := "(Ljava/lang/String;)Ljava/lang/StringBuilder;" } : Jvm.MethodName)).before a0 Z = true := hw _ (List.mem_of_getElem? (i := 167) rfl)
theorem w168 {Z : State} {a0 : Array Value} (hw : ∀ d ∈ tables_1, d.before a0 Z = true) : (Jvm.Cond.selects "java/lang/StringBuilder" ({ cls := "java/lang/StringBuilder", name := "append", desc := "(Ljava/lang/String;)Ljava/lang/StringBuilder;" } : Jvm.MethodName) ({ cls := "java/lang/StringBuilder", name := "append", desc := "(Ljava/lang/String;)Ljava/lang/StringBuilder;" } : Jvm.MethodName)).before a0 Z = true := hw _ (List.mem_of_getElem? (i := 168) rfl)
theorem w169 {Z : State} {a0 : Array Value} (hw : ∀ d ∈ tables_1, d.before a0 Z = true) : (Jvm.Cond.code ({ cls := "java/lang/StringBuilder", name := "append", desc := "(Ljava/lang/String;)Ljava/lang/StringBuilder;" } : Jvm.MethodName) jdk_67_method_7_code (2 : Nat) (Option.some (Jvm.ClassFile.FieldType.object "java/lang/StringBuilder"))).before a0 Z = true := hw _ (List.mem_of_getElem? (i := 169) rfl)
theorem w170 {Z : State} {a0 : Array Value} (hw : ∀ d ∈ tables_1, d.before a0 Z = true) : (Jvm.Cond.methodLink "java/lang/StringBuilder" (29 : Nat) ({ cls := "java/lang/AbstractStringBuilder", name := "append", desc := "(Ljava/lang/String;)Ljava/lang/AbstractStringBuilder;" } : Jvm.MethodName)).before a0 Z = true := hw _ (List.mem_of_getElem? (i := 170) rfl)
theorem w171 {Z : State} {a0 : Array Value} (hw : ∀ d ∈ tables_1, d.before a0 Z = true) : (Jvm.Cond.instanceMethod ({ cls := "java/lang/AbstractStringBuilder", name := "append", desc := "(Ljava/lang/String;)Ljava/lang/AbstractStringBuilder;" } : Jvm.MethodName)).before a0 Z = true := hw _ (List.mem_of_getElem? (i := 171) rfl)
theorem w172 {Z : State} {a0 : Array Value} (hw : ∀ d ∈ tables_1, d.before a0 Z = true) : (Jvm.Cond.superclass "java/lang/StringBuilder" "java/lang/AbstractStringBuilder").before a0 Z = true := hw _ (List.mem_of_getElem? (i := 172) rfl)
theorem w174 {Z : State} {a0 : Array Value} (hw : ∀ d ∈ tables_1, d.before a0 Z = true) : (Jvm.Cond.code ({ cls := "java/lang/AbstractStringBuilder", name := "append", desc := "(Ljava/lang/String;)Ljava/lang/AbstractStringBuilder;" } : Jvm.MethodName) jdk_68_method_22_code (3 : Nat) (Option.some (Jvm.ClassFile.FieldType.object "java/lang/AbstractStringBuilder"))).before a0 Z = true := hw _ (List.mem_of_getElem? (i := 174) rfl)
theorem w175 {Z : State} {a0 : Array Value} (hw : ∀ d ∈ tables_1, d.before a0 Z = true) : (Jvm.Cond.methodLink "java/lang/AbstractStringBuilder" (32 : Nat) ({ cls := "java/lang/String", name := "length", desc := "()I" } : Jvm.MethodName)).before a0 Z = true := hw _ (List.mem_of_getElem? (i := 175) rfl)
theorem w176 {Z : State} {a0 : Array Value} (hw : ∀ d ∈ tables_1, d.before a0 Z = true) : (Jvm.Cond.declares ({ cls := "java/lang/String", name := "length", desc := "()I" } : Jvm.MethodName)).before a0 Z = true := hw _ (List.mem_of_getElem? (i := 176) rfl)
theorem w177 {Z : State} {a0 : Array Value} (hw : ∀ d ∈ tables_1, d.before a0 Z = true) : (Jvm.Cond.instanceMethod ({ cls := "java/lang/String", name := "length", desc := "()I" } : Jvm.MethodName)).before a0 Z = true := hw _ (List.mem_of_getElem? (i := 177) rfl)
theorem w178 {Z : State} {a0 : Array Value} (hw : ∀ d ∈ tables_1, d.before a0 Z = true) : (Jvm.Cond.selects "java/lang/String" ({ cls := "java/lang/String", name := "length", desc := "()I" } : Jvm.MethodName) ({ cls := "java/lang/String", name := "length", desc := "()I" } : Jvm.MethodName)).before a0 Z = true := hw _ (List.mem_of_getElem? (i := 178) rfl)
theorem w179 {Z : State} {a0 : Array Value} (hw : ∀ d ∈ tables_1, d.before a0 Z = true) : (Jvm.Cond.code ({ cls := "java/lang/String", name := "length", desc := "()I" } : Jvm.MethodName) jdk_42_method_54_code (1 : Nat) (Option.some Jvm.ClassFile.FieldType.int)).before a0 Z = true := hw _ (List.mem_of_getElem? (i := 179) rfl)
theorem w180 {Z : State} {a0 : Array Value} (hw : ∀ d ∈ tables_1, d.before a0 Z = true) : (Jvm.Cond.methodLink "java/lang/String" (335 : Nat) ({ cls := "java/lang/String", name := "coder", desc := "()B" } : Jvm.MethodName)).before a0 Z = true := hw _ (List.mem_of_getElem? (i := 180) rfl)
theorem w181 {Z : State} {a0 : Array Value} (hw : ∀ d ∈ tables_1, d.before a0 Z = true) : (Jvm.Cond.declares ({ cls := "java/lang/String", name := "coder", desc := "()B" } : Jvm.MethodName)).before a0 Z = true := hw _ (List.mem_of_getElem? (i := 181) rfl)
theorem w182 {Z : State} {a0 : Array Value} (hw : ∀ d ∈ tables_1, d.before a0 Z = true) : (Jvm.Cond.instanceMethod ({ cls := "java/lang/String", name := "coder", desc := "()B" } : Jvm.MethodName)).before a0 Z = true := hw _ (List.mem_of_getElem? (i := 182) rfl)
theorem w183 {Z : State} {a0 : Array Value} (hw : ∀ d ∈ tables_1, d.before a0 Z = true) : (Jvm.Cond.selects "java/lang/String" ({ cls := "java/lang/String", name := "coder", desc := "()B" } : Jvm.MethodName) ({ cls := "java/lang/String", name := "coder", desc := "()B" } : Jvm.MethodName)).before a0 Z = true := hw _ (List.mem_of_getElem? (i := 183) rfl)
theorem w184 {Z : State} {a0 : Array Value} (hw : ∀ d ∈ tables_1, d.before a0 Z = true) : (Jvm.Cond.code ({ cls := "java/lang/String", name := "coder", desc := "()B" } : Jvm.MethodName) jdk_42_method_152_code (1 : Nat) (Option.some Jvm.ClassFile.FieldType.byte)).before a0 Z = true := hw _ (List.mem_of_getElem? (i := 184) rfl)
theorem w185 {Z : State} {a0 : Array Value} (hw : ∀ d ∈ tables_1, d.before a0 Z = true) : (Jvm.Cond.fieldLink "java/lang/AbstractStringBuilder" (79 : Nat) "java/lang/AbstractStringBuilder" "count" "I").before a0 Z = true := hw _ (List.mem_of_getElem? (i := 185) rfl)
theorem w186 {Z : State} {a0 : Array Value} (hw : ∀ d ∈ tables_1, d.before a0 Z = true) : (Jvm.Cond.lays "java/lang/StringBuilder" "java/lang/AbstractStringBuilder" "count" "I").before a0 Z = true := hw _ (List.mem_of_getElem? (i := 186) rfl)
theorem w187 {Z : State} {a0 : Array Value} (hw : ∀ d ∈ tables_1, d.before a0 Z = true) : (Jvm.Cond.methodLink "java/lang/AbstractStringBuilder" (100 : Nat) ({ cls := "java/lang/AbstractStringBuilder", name := "ensureCapacityInternal", desc := "(I)V" } : Jvm.MethodName)).before a0 Z = true := hw _ (List.mem_of_getElem? (i := 187) rfl)
theorem w188 {Z : State} {a0 : Array Value} (hw : ∀ d ∈ tables_1, d.before a0 Z = true) : (Jvm.Cond.instanceMethod ({ cls := "java/lang/AbstractStringBuilder", name := "ensureCapacityInternal", desc := "(I)V" } : Jvm.MethodName)).before a0 Z = true := hw _ (List.mem_of_getElem? (i := 188) rfl)
theorem w189 {Z : State} {a0 : Array Value} (hw : ∀ d ∈ tables_1, d.before a0 Z = true) : (Jvm.Cond.privateMethod ({ cls := "java/lang/AbstractStringBuilder", name := "ensureCapacityInternal", desc := "(I)V" } : Jvm.MethodName)).before a0 Z = true := hw _ (List.mem_of_getElem? (i := 189) rfl)
theorem w190 {Z : State} {a0 : Array Value} (hw : ∀ d ∈ tables_1, d.before a0 Z = true) : (Jvm.Cond.selects "java/lang/StringBuilder" ({ cls := "java/lang/AbstractStringBuilder", name := "ensureCapacityInternal", desc := "(I)V" } : Jvm.MethodName) ({ cls := "java/lang/AbstractStringBuilder", name := "ensureCapacityInternal", desc := "(I)V" } : Jvm.MethodName)).before a0 Z = true := hw _ (List.mem_of_getElem? (i := 190) rfl)
theorem w191 {Z : State} {a0 : Array Value} (hw : ∀ d ∈ tables_1, d.before a0 Z = true) : (Jvm.Cond.code ({ cls := "java/lang/AbstractStringBuilder", name := "ensureCapacityInternal", desc := "(I)V" } : Jvm.MethodName) jdk_68_method_9_code (3 : Nat) (Option.none : Option Jvm.ClassFile.FieldType)).before a0 Z = true := hw _ (List.mem_of_getElem? (i := 191) rfl)
theorem w192 {Z : State} {a0 : Array Value} (hw : ∀ d ∈ tables_1, d.before a0 Z = true) : (Jvm.Cond.methodLink "java/lang/AbstractStringBuilder" (208 : Nat) ({ cls := "java/lang/AbstractStringBuilder", name := "putStringAt", desc := "(ILjava/lang/String;)V" } : Jvm.MethodName)).before a0 Z = true := hw _ (List.mem_of_getElem? (i := 192) rfl)
theorem w193 {Z : State} {a0 : Array Value} (hw : ∀ d ∈ tables_1, d.before a0 Z = true) : (Jvm.Cond.instanceMethod ({ cls := "java/lang/AbstractStringBuilder", name := "putStringAt", desc := "(ILjava/lang/String;)V" } : Jvm.MethodName)).before a0 Z = true := hw _ (List.mem_of_getElem? (i := 193) rfl)
theorem w194 {Z : State} {a0 : Array Value} (hw : ∀ d ∈ tables_1, d.before a0 Z = true) : (Jvm.Cond.privateMethod ({ cls := "java/lang/AbstractStringBuilder", name := "putStringAt", desc := "(ILjava/lang/String;)V" } : Jvm.MethodName)).before a0 Z = true := hw _ (List.mem_of_getElem? (i := 194) rfl)
theorem w196 {Z : State} {a0 : Array Value} (hw : ∀ d ∈ tables_1, d.before a0 Z = true) : (Jvm.Cond.code ({ cls := "java/lang/AbstractStringBuilder", name := "putStringAt", desc := "(ILjava/lang/String;)V" } : Jvm.MethodName) jdk_68_method_73_code (3 : Nat) (Option.none : Option Jvm.ClassFile.FieldType)).before a0 Z = true := hw _ (List.mem_of_getElem? (i := 196) rfl)
theorem w197 {Z : State} {a0 : Array Value} (hw : ∀ d ∈ tables_1, d.before a0 Z = true) : (Jvm.Cond.methodLink "java/lang/AbstractStringBuilder" (397 : Nat) ({ cls := "java/lang/AbstractStringBuilder", name := "inflateIfNeededFor", desc := "(Ljava/lang/String;)V" } : Jvm.MethodName)).before a0 Z = true := hw _ (List.mem_of_getElem? (i := 197) rfl)
theorem w198 {Z : State} {a0 : Array Value} (hw : ∀ d ∈ tables_1, d.before a0 Z = true) : (Jvm.Cond.instanceMethod ({ cls := "java/lang/AbstractStringBuilder", name := "inflateIfNeededFor", desc := "(Ljava/lang/String;)V" } : Jvm.MethodName)).before a0 Z = true := hw _ (List.mem_of_getElem? (i := 198) rfl)
theorem w199 {Z : State} {a0 : Array Value} (hw : ∀ d ∈ tables_1, d.before a0 Z = true) : (Jvm.Cond.privateMethod ({ cls := "java/lang/AbstractStringBuilder", name := "inflateIfNeededFor", desc := "(Ljava/lang/String;)V" } : Jvm.MethodName)).before a0 Z = true := hw _ (List.mem_of_getElem? (i := 199) rfl)
theorem w201 {Z : State} {a0 : Array Value} (hw : ∀ d ∈ tables_1, d.before a0 Z = true) : (Jvm.Cond.code ({ cls := "java/lang/AbstractStringBuilder", name := "inflateIfNeededFor", desc := "(Ljava/lang/String;)V" } : Jvm.MethodName) jdk_68_method_71_code (2 : Nat) (Option.none : Option Jvm.ClassFile.FieldType)).before a0 Z = true := hw _ (List.mem_of_getElem? (i := 201) rfl)
theorem w202 {Z : State} {a0 : Array Value} (hw : ∀ d ∈ tables_1, d.before a0 Z = true) : (Jvm.Cond.methodLink "java/lang/AbstractStringBuilder" (40 : Nat) ({ cls := "java/lang/String", name := "coder", desc := "()B" } : Jvm.MethodName)).before a0 Z = true := hw _ (List.mem_of_getElem? (i := 202) rfl)
theorem w203 {Z : State} {a0 : Array Value} (hw : ∀ d ∈ tables_1, d.before a0 Z = true) : (Jvm.Cond.methodLink "java/lang/AbstractStringBuilder" (399 : Nat) ({ cls := "java/lang/String", name := "getBytes", desc := "([BIB)V" } : Jvm.MethodName)).before a0 Z = true := hw _ (List.mem_of_getElem? (i := 203) rfl)
theorem w204 {Z : State} {a0 : Array Value} (hw : ∀ d ∈ tables_1, d.before a0 Z = true) : (Jvm.Cond.declares ({ cls := "java/lang/String", name := "getBytes", desc := "([BIB)V" } : Jvm.MethodName)).before a0 Z = true := hw _ (List.mem_of_getElem? (i := 204) rfl)
theorem w205 {Z : State} {a0 : Array Value} (hw : ∀ d ∈ tables_1, d.before a0 Z = true) : (Jvm.Cond.instanceMethod ({ cls := "java/lang/String", name := "getBytes", desc := "([BIB)V" } : Jvm.MethodName)).before a0 Z = true := hw _ (List.mem_of_getElem? (i := 205) rfl)
theorem w206 {Z : State} {a0 : Array Value} (hw : ∀ d ∈ tables_1, d.before a0 Z = true) : (Jvm.Cond.selects "java/lang/String" ({ cls := "java/lang/String", name := "getBytes", desc := "([BIB)V" } : Jvm.MethodName) ({ cls := "java/lang/String", name := "getBytes", desc := "([BIB)V" } : Jvm.MethodName)).before a0 Z = true := hw _ (List.mem_of_getElem? (i := 206) rfl)
theorem w207 {Z : State} {a0 : Array Value} (hw : ∀ d ∈ tables_1, d.before a0 Z = true) : (Jvm.Cond.code ({ cls := "java/lang/String", name := "getBytes", desc := "([BIB)V" } : Jvm.MethodName) jdk_42_method_147_code (4 : Nat) (Option.none : Option Jvm.ClassFile.FieldType)).before a0 Z = true := hw _ (List.mem_of_getElem? (i := 207) rfl)
theorem w208 {Z : State} {a0 : Array Value} (hw : ∀ d ∈ tables_1, d.before a0 Z = true) : (Jvm.Cond.methodLink "java/lang/String" (212 : Nat) ({ cls := "java/lang/System", name := "arraycopy", desc := "(Ljava/lang/Object;ILjava/lang/Object;II)V" } : Jvm.MethodName)).before a0 Z = true := hw _ (List.mem_of_getElem? (i := 208) rfl)
theorem w209 {Z : State} {a0 : Array Value} (hw : ∀ d ∈ tables_1, d.before a0 Z = true) : (Jvm.Cond.static ({ cls := "java/lang/System", name := "arraycopy", desc := "(Ljava/lang/Object;ILjava/lang/Object;II)V" } : Jvm.MethodName)).before a0 Z = true := hw _ (List.mem_of_getElem? (i := 209) rfl)
theorem w210 {Z : State} {a0 : Array Value} (hw : ∀ d ∈ tables_1, d.before a0 Z = true) : (Jvm.Cond.initialized "java/lang/System").before a0 Z = true := hw _ (List.mem_of_getElem? (i := 210) rfl)
theorem w211 {Z : State} {a0 : Array Value} (hw : ∀ d ∈ tables_1, d.before a0 Z = true) : (Jvm.Cond.native ({ cls := "java/lang/System", name := "arraycopy", desc := "(Ljava/lang/Object;ILjava/lang/Object;II)V" } : Jvm.MethodName)).before a0 Z = true := hw _ (List.mem_of_getElem? (i := 211) rfl)
theorem w212 {Z : State} {a0 : Array Value} (hw : ∀ d ∈ tables_1, d.before a0 Z = true) : (Jvm.Cond.methodLink "com/example/epochmark/epochmark/cli/Arguments" (67 : Nat) ({ cls := "java/lang/StringBuilder", name := "toString", desc := "()Ljava/lang/String;" } : Jvm.MethodName)).before a0 Z = true := hw _ (List.mem_of_getElem? (i := 212) rfl)
theorem w213 {Z : State} {a0 : Array Value} (hw : ∀ d ∈ tables_1, d.before a0 Z = true) : (Jvm.Cond.declares ({ cls := "java/lang/StringBuilder", name := "toString", desc := "()Ljava/lang/String;" } : Jvm.MethodName)).before a0 Z = true := hw _ (List.mem_of_getElem? (i := 213) rfl)
theorem w214 {Z : State} {a0 : Array Value} (hw : ∀ d ∈ tables_1, d.before a0 Z = true) : (Jvm.Cond.instanceMethod ({ cls := "java/lang/StringBuilder", name := "toString", desc := "()Ljava/lang/String;" } : Jvm.MethodName)).before a0 Z = true := hw _ (List.mem_of_getElem? (i := 214) rfl)
theorem w215 {Z : State} {a0 : Array Value} (hw : ∀ d ∈ tables_1, d.before a0 Z = true) : (Jvm.Cond.selects "java/lang/StringBuilder" ({ cls := "java/lang/StringBuilder", name := "toString", desc := "()Ljava/lang/String;" } : Jvm.MethodName) ({ cls := "java/lang/StringBuilder", name := "toString", desc := "()Ljava/lang/String;" } : Jvm.MethodName)).before a0 Z = true := hw _ (List.mem_of_getElem? (i := 215) rfl)
theorem w216 {Z : State} {a0 : Array Value} (hw : ∀ d ∈ tables_1, d.before a0 Z = true) : (Jvm.Cond.code ({ cls := "java/lang/StringBuilder", name := "toString", desc := "()Ljava/lang/String;" } : Jvm.MethodName) jdk_67_method_42_code (1 : Nat) (Option.some (Jvm.ClassFile.FieldType.object "java/lang/String"))).before a0 Z = true := hw _ (List.mem_of_getElem? (i := 216) rfl)
theorem w217 {Z : State} {a0 : Array Value} (hw : ∀ d ∈ tables_1, d.before a0 Z = true) : (Jvm.Cond.classLink "java/lang/StringBuilder" (18 : Nat) "java/lang/String").before a0 Z = true := hw _ (List.mem_of_getElem? (i := 217) rfl)
theorem w218 {Z : State} {a0 : Array Value} (hw : ∀ d ∈ tables_1, d.before a0 Z = true) : (Jvm.Cond.methodLink "java/lang/StringBuilder" (137 : Nat) ({ cls := "java/lang/String", name := "<init>", desc := "(Ljava/lang/StringBuilder;)V" } : Jvm.MethodName)).before a0 Z = true := hw _ (List.mem_of_getElem? (i := 218) rfl)
theorem w219 {Z : State} {a0 : Array Value} (hw : ∀ d ∈ tables_1, d.before a0 Z = true) : (Jvm.Cond.instanceMethod ({ cls := "java/lang/String", name := "<init>", desc := "(Ljava/lang/StringBuilder;)V" } : Jvm.MethodName)).before a0 Z = true := hw _ (List.mem_of_getElem? (i := 219) rfl)
theorem w220 {Z : State} {a0 : Array Value} (hw : ∀ d ∈ tables_1, d.before a0 Z = true) : (Jvm.Cond.code ({ cls := "java/lang/String", name := "<init>", desc := "(Ljava/lang/StringBuilder;)V" } : Jvm.MethodName) jdk_42_method_53_code (2 : Nat) (Option.none : Option Jvm.ClassFile.FieldType)).before a0 Z = true := hw _ (List.mem_of_getElem? (i := 220) rfl)
theorem w221 {Z : State} {a0 : Array Value} (hw : ∀ d ∈ tables_1, d.before a0 Z = true) : (Jvm.Cond.methodLink "java/lang/String" (489 : Nat) ({ cls := "java/lang/String", name := "<init>", desc := "(Ljava/lang/AbstractStringBuilder;Ljava/lang/Void;)V" } : Jvm.MethodName)).before a0 Z = true := hw _ (List.mem_of_getElem? (i := 221) rfl)
theorem w222 {Z : State} {a0 : Array Value} (hw : ∀ d ∈ tables_1, d.before a0 Z = true) : (Jvm.Cond.instanceMethod ({ cls := "java/lang/String", name := "<init>", desc := "(Ljava/lang/AbstractStringBuilder;Ljava/lang/Void;)V" } : Jvm.MethodName)).before a0 Z = true := hw _ (List.mem_of_getElem? (i := 222) rfl)
theorem w223 {Z : State} {a0 : Array Value} (hw : ∀ d ∈ tables_1, d.before a0 Z = true) : (Jvm.Cond.code ({ cls := "java/lang/String", name := "<init>", desc := "(Ljava/lang/AbstractStringBuilder;Ljava/lang/Void;)V" } : Jvm.MethodName) jdk_42_method_150_code (5 : Nat) (Option.none : Option Jvm.ClassFile.FieldType)).before a0 Z = true := hw _ (List.mem_of_getElem? (i := 223) rfl)
theorem w224 {Z : State} {a0 : Array Value} (hw : ∀ d ∈ tables_1, d.before a0 Z = true) : (Jvm.Cond.methodLink "java/lang/String" (552 : Nat) ({ cls := "java/lang/AbstractStringBuilder", name := "getValue", desc := "()[B" } : Jvm.MethodName)).before a0 Z = true := hw _ (List.mem_of_getElem? (i := 224) rfl)
theorem w225 {Z : State} {a0 : Array Value} (hw : ∀ d ∈ tables_1, d.before a0 Z = true) : (Jvm.Cond.declares ({ cls := "java/lang/AbstractStringBuilder", name := "getValue", desc := "()[B" } : Jvm.MethodName)).before a0 Z = true := hw _ (List.mem_of_getElem? (i := 225) rfl)
theorem w226 {Z : State} {a0 : Array Value} (hw : ∀ d ∈ tables_1, d.before a0 Z = true) : (Jvm.Cond.instanceMethod ({ cls := "java/lang/AbstractStringBuilder", name := "getValue", desc := "()[B" } : Jvm.MethodName)).before a0 Z = true := hw _ (List.mem_of_getElem? (i := 226) rfl)
theorem w227 {Z : State} {a0 : Array Value} (hw : ∀ d ∈ tables_1, d.before a0 Z = true) : (Jvm.Cond.selects "java/lang/StringBuilder" ({ cls := "java/lang/AbstractStringBuilder", name := "getValue", desc := "()[B" } : Jvm.MethodName) ({ cls := "java/lang/AbstractStringBuilder", name := "getValue", desc := "()[B" } : Jvm.MethodName)).before a0 Z = true := hw _ (List.mem_of_getElem? (i := 227) rfl)
theorem w228 {Z : State} {a0 : Array Value} (hw : ∀ d ∈ tables_1, d.before a0 Z = true) : (Jvm.Cond.code ({ cls := "java/lang/AbstractStringBuilder", name := "getValue", desc := "()[B" } : Jvm.MethodName) jdk_68_method_64_code (1 : Nat) (Option.some (Jvm.ClassFile.FieldType.array Jvm.ClassFile.FieldType.byte))).before a0 Z = true := hw _ (List.mem_of_getElem? (i := 228) rfl)
theorem w229 {Z : State} {a0 : Array Value} (hw : ∀ d ∈ tables_1, d.before a0 Z = true) : (Jvm.Cond.methodLink "java/lang/String" (549 : Nat) ({ cls := "java/lang/AbstractStringBuilder", name := "length", desc := "()I" } : Jvm.MethodName)).before a0 Z = true := hw _ (List.mem_of_getElem? (i := 229) rfl)
theorem w230 {Z : State} {a0 : Array Value} (hw : ∀ d ∈ tables_1, d.before a0 Z = true) : (Jvm.Cond.declares ({ cls := "java/lang/AbstractStringBuilder", name := "length", desc := "()I" } : Jvm.MethodName)).before a0 Z = true := hw _ (List.mem_of_getElem? (i := 230) rfl)
theorem w231 {Z : State} {a0 : Array Value} (hw : ∀ d ∈ tables_1, d.before a0 Z = true) : (Jvm.Cond.instanceMethod ({ cls := "java/lang/AbstractStringBuilder", name := "length", desc := "()I" } : Jvm.MethodName)).before a0 Z = true := hw _ (List.mem_of_getElem? (i := 231) rfl)
theorem w232 {Z : State} {a0 : Array Value} (hw : ∀ d ∈ tables_1, d.before a0 Z = true) : (Jvm.Cond.selects "java/lang/StringBuilder" ({ cls := "java/lang/AbstractStringBuilder", name := "length", desc := "()I" } : Jvm.MethodName) ({ cls := "java/lang/StringBuilder", name := "length", desc := "()I" } : Jvm.MethodName)).before a0 Z = true := hw _ (List.mem_of_getElem? (i := 232) rfl)
theorem w233 {Z : State} {a0 : Array Value} (hw : ∀ d ∈ tables_1, d.before a0 Z = true) : (Jvm.Cond.instanceMethod ({ cls := "java/lang/StringBuilder", name := "length", desc := "()I" } : Jvm.MethodName)).before a0 Z = true := hw _ (List.mem_of_getElem? (i := 233) rfl)
theorem w234 {Z : State} {a0 : Array Value} (hw : ∀ d ∈ tables_1, d.before a0 Z = true) : (Jvm.Cond.code ({ cls := "java/lang/StringBuilder", name := "length", desc := "()I" } : Jvm.MethodName) jdk_67_method_93_code (1 : Nat) (Option.some Jvm.ClassFile.FieldType.int)).before a0 Z = true := hw _ (List.mem_of_getElem? (i := 234) rfl)
theorem w235 {Z : State} {a0 : Array Value} (hw : ∀ d ∈ tables_1, d.before a0 Z = true) : (Jvm.Cond.methodLink "java/lang/StringBuilder" (343 : Nat) ({ cls := "java/lang/AbstractStringBuilder", name := "length", desc := "()I" } : Jvm.MethodName)).before a0 Z = true := hw _ (List.mem_of_getElem? (i := 235) rfl)
theorem w236 {Z : State} {a0 : Array Value} (hw : ∀ d ∈ tables_1, d.before a0 Z = true) : (Jvm.Cond.code ({ cls := "java/lang/AbstractStringBuilder", name := "length", desc := "()I" } : Jvm.MethodName) jdk_68_method_6_code (1 : Nat) (Option.some Jvm.ClassFile.FieldType.int)).before a0 Z = true := hw _ (List.mem_of_getElem? (i := 236) rfl)
theorem w237 {Z : State} {a0 : Array Value} (hw : ∀ d ∈ tables_1, d.before a0 Z = true) : (Jvm.Cond.methodLink "java/lang/String" (1047 : Nat) ({ cls := "java/lang/AbstractStringBuilder", name := "isLatin1", desc := "()Z" } : Jvm.MethodName)).before a0 Z = true := hw _ (List.mem_of_getElem? (i := 237) rfl)
theorem w238 {Z : State} {a0 : Array Value} (hw : ∀ d ∈ tables_1, d.before a0 Z = true) : (Jvm.Cond.declares ({ cls := "java/lang/AbstractStringBuilder", name := "isLatin1", desc := "()Z" } : Jvm.MethodName)).before a0 Z = true := hw _ (List.mem_of_getElem? (i := 238) rfl)
theorem w239 {Z : State} {a0 : Array Value} (hw : ∀ d ∈ tables_1, d.before a0 Z = true) : (Jvm.Cond.instanceMethod ({ cls := "java/lang/AbstractStringBuilder", name := "isLatin1", desc := "()Z" } : Jvm.MethodName)).before a0 Z = true := hw _ (List.mem_of_getElem? (i := 239) rfl)
theorem w240 {Z : State} {a0 : Array Value} (hw : ∀ d ∈ tables_1, d.before a0 Z = true) : (Jvm.Cond.selects "java/lang/StringBuilder" ({ cls := "java/lang/AbstractStringBuilder", name := "isLatin1", desc := "()Z" } : Jvm.MethodName) ({ cls := "java/lang/AbstractStringBuilder", name := "isLatin1", desc := "()Z" } : Jvm.MethodName)).before a0 Z = true := hw _ (List.mem_of_getElem? (i := 240) rfl)
theorem w241 {Z : State} {a0 : Array Value} (hw : ∀ d ∈ tables_1, d.before a0 Z = true) : (Jvm.Cond.code ({ cls := "java/lang/AbstractStringBuilder", name := "isLatin1", desc := "()Z" } : Jvm.MethodName) jdk_68_method_68_code (1 : Nat) (Option.some Jvm.ClassFile.FieldType.boolean)).before a0 Z = true := hw _ (List.mem_of_getElem? (i := 241) rfl)
theorem w242 {Z : State} {a0 : Array Value} (hw : ∀ d ∈ tables_1, d.before a0 Z = true) : (Jvm.Cond.methodLink "java/lang/String" (54 : Nat) ({ cls := "java/util/Arrays", name := "copyOfRange", desc := "([BII)[B" } : Jvm.MethodName)).before a0 Z = true := hw _ (List.mem_of_getElem? (i := 242) rfl)
theorem w243 {Z : State} {a0 : Array Value} (hw : ∀ d ∈ tables_1, d.before a0 Z = true) : (Jvm.Cond.static ({ cls := "java/util/Arrays", name := "copyOfRange", desc := "([BII)[B" } : Jvm.MethodName)).before a0 Z = true := hw _ (List.mem_of_getElem? (i := 243) rfl)
theorem w244 {Z : State} {a0 : Array Value} (hw : ∀ d ∈ tables_1, d.before a0 Z = true) : (Jvm.Cond.initialized "java/util/Arrays").before a0 Z = true := hw _ (List.mem_of_getElem? (i := 244) rfl)
theorem w245 {Z : State} {a0 : Array Value} (hw : ∀ d ∈ tables_1, d.before a0 Z = true) : (Jvm.Cond.code ({ cls := "java/util/Arrays", name := "copyOfRange", desc := "([BII)[B" } : Jvm.MethodName) jdk_65_method_132_code (3 : Nat) (Option.some (Jvm.ClassFile.FieldType.array Jvm.ClassFile.FieldType.byte))).before a0 Z = true := hw _ (List.mem_of_getElem? (i := 245) rfl)
theorem w246 {Z : State} {a0 : Array Value} (hw : ∀ d ∈ tables_1, d.before a0 Z = true) : (Jvm.Cond.methodLink "java/util/Arrays" (339 : Nat) ({ cls := "java/util/Arrays", name := "copyOfRangeByte", desc := "([BII)[B" } : Jvm.MethodName)).before a0 Z = true := hw _ (List.mem_of_getElem? (i := 246) rfl)
theorem w247 {Z : State} {a0 : Array Value} (hw : ∀ d ∈ tables_1, d.before a0 Z = true) : (Jvm.Cond.static ({ cls := "java/util/Arrays", name := "copyOfRangeByte", desc := "([BII)[B" } : Jvm.MethodName)).before a0 Z = true := hw _ (List.mem_of_getElem? (i := 247) rfl)
theorem w248 {Z : State} {a0 : Array Value} (hw : ∀ d ∈ tables_1, d.before a0 Z = true) : (Jvm.Cond.code ({ cls := "java/util/Arrays", name := "copyOfRangeByte", desc := "([BII)[B" } : Jvm.MethodName) jdk_65_method_133_code (5 : Nat) (Option.some (Jvm.ClassFile.FieldType.array Jvm.ClassFile.FieldType.byte))).before a0 Z = true := hw _ (List.mem_of_getElem? (i := 248) rfl)
theorem w249 {Z : State} {a0 : Array Value} (hw : ∀ d ∈ tables_1, d.before a0 Z = true) : (Jvm.Cond.methodLink "java/util/Arrays" (343 : Nat) ({ cls := "java/util/Arrays", name := "checkLength", desc := "(II)V" } : Jvm.MethodName)).before a0 Z = true := hw _ (List.mem_of_getElem? (i := 249) rfl)
theorem w250 {Z : State} {a0 : Array Value} (hw : ∀ d ∈ tables_1, d.before a0 Z = true) : (Jvm.Cond.static ({ cls := "java/util/Arrays", name := "checkLength", desc := "(II)V" } : Jvm.MethodName)).before a0 Z = true := hw _ (List.mem_of_getElem? (i := 250) rfl)
theorem w251 {Z : State} {a0 : Array Value} (hw : ∀ d ∈ tables_1, d.before a0 Z = true) : (Jvm.Cond.code ({ cls := "java/util/Arrays", name := "checkLength", desc := "(II)V" } : Jvm.MethodName) jdk_65_method_131_code (2 : Nat) (Option.none : Option Jvm.ClassFile.FieldType)).before a0 Z = true := hw _ (List.mem_of_getElem? (i := 251) rfl)
theorem w252 {Z : State} {a0 : Array Value} (hw : ∀ d ∈ tables_1, d.before a0 Z = true) : (Jvm.Cond.methodLink "java/util/Arrays" (304 : Nat) ({ cls := "java/lang/Math", name := "min", desc := "(II)I" } : Jvm.MethodName)).before a0 Z = true := hw _ (List.mem_of_getElem? (i := 252) rfl)
theorem w253 {Z : State} {a0 : Array Value} (hw : ∀ d ∈ tables_1, d.before a0 Z = true) : (Jvm.Cond.static ({ cls := "java/lang/Math", name := "min", desc := "(II)I" } : Jvm.MethodName)).before a0 Z = true := hw _ (List.mem_of_getElem? (i := 253) rfl)
theorem w254 {Z : State} {a0 : Array Value} (hw : ∀ d ∈ tables_1, d.before a0 Z = true) : (Jvm.Cond.initialized "java/lang/Math").before a0 Z = true := hw _ (List.mem_of_getElem? (i := 254) rfl)
theorem w255 {Z : State} {a0 : Array Value} (hw : ∀ d ∈ tables_1, d.before a0 Z = true) : (Jvm.Cond.code ({ cls := "java/lang/Math", name := "min", desc := "(II)I" } : Jvm.MethodName) jdk_29_method_69_code (2 : Nat) (Option.some Jvm.ClassFile.FieldType.int)).before a0 Z = true := hw _ (List.mem_of_getElem? (i := 255) rfl)
theorem w256 {Z : State} {a0 : Array Value} (hw : ∀ d ∈ tables_1, d.before a0 Z = true) : (Jvm.Cond.methodLink "java/util/Arrays" (150 : Nat) ({ cls := "java/lang/System", name := "arraycopy", desc := "(Ljava/lang/Object;ILjava/lang/Object;II)V" } : Jvm.MethodName)).before a0 Z = true := hw _ (List.mem_of_getElem? (i := 256) rfl)
theorem w257 {Z : State} {a0 : Array Value} (hw : ∀ d ∈ tables_1, d.before a0 Z = true) : (Jvm.Cond.methodLink "com/example/epochmark/epochmark/cli/Arguments" (141 : Nat) ({ cls := "com/example/epochmark/epochmark/cli/UsageException", name := "<init>", desc := "(Ljava/lang/String;Ljava/lang/String;)V" } : Jvm.MethodName)).before a0 Z = true := hw _ (List.mem_of_getElem? (i := 257) rfl)
theorem w258 {Z : State} {a0 : Array Value} (hw : ∀ d ∈ tables_1, d.before a0 Z = true) : (Jvm.Cond.instanceMethod ({ cls := "com/example/epochmark/epochmark/cli/UsageException", name := "<init>", desc := "(Ljava/lang/String;Ljava/lang/String;)V" } : Jvm.MethodName)).before a0 Z = true := hw _ (List.mem_of_getElem? (i := 258) rfl)
theorem w259 {Z : State} {a0 : Array Value} (hw : ∀ d ∈ tables_1, d.before a0 Z = true) : (Jvm.Cond.code ({ cls := "com/example/epochmark/epochmark/cli/UsageException", name := "<init>", desc := "(Ljava/lang/String;Ljava/lang/String;)V" } : Jvm.MethodName) prog_3_method_1_code (3 : Nat) (Option.none : Option Jvm.ClassFile.FieldType)).before a0 Z = true := hw _ (List.mem_of_getElem? (i := 259) rfl)
theorem w260 {Z : State} {a0 : Array Value} (hw : ∀ d ∈ tables_1, d.before a0 Z = true) : (Jvm.Cond.methodLink "com/example/epochmark/epochmark/cli/UsageException" (1 : Nat) ({ cls := "java/lang/Exception", name := "<init>", desc := "(Ljava/lang/String;)V" } : Jvm.MethodName)).before a0 Z = true := hw _ (List.mem_of_getElem? (i := 260) rfl)
theorem w261 {Z : State} {a0 : Array Value} (hw : ∀ d ∈ tables_1, d.before a0 Z = true) : (Jvm.Cond.instanceMethod ({ cls := "java/lang/Exception", name := "<init>", desc := "(Ljava/lang/String;)V" } : Jvm.MethodName)).before a0 Z = true := hw _ (List.mem_of_getElem? (i := 261) rfl)
theorem w263 {Z : State} {a0 : Array Value} (hw : ∀ d ∈ tables_1, d.before a0 Z = true) : (Jvm.Cond.initialized "java/lang/Exception").before a0 Z = true := hw _ (List.mem_of_getElem? (i := 263) rfl)
theorem w264 {Z : State} {a0 : Array Value} (hw : ∀ d ∈ tables_1, d.before a0 Z = true) : (Jvm.Cond.code ({ cls := "java/lang/Exception", name := "<init>", desc := "(Ljava/lang/String;)V" } : Jvm.MethodName) jdk_59_method_2_code (2 : Nat) (Option.none : Option Jvm.ClassFile.FieldType)).before a0 Z = true := hw _ (List.mem_of_getElem? (i := 264) rfl)
theorem w265 {Z : State} {a0 : Array Value} (hw : ∀ d ∈ tables_1, d.before a0 Z = true) : (Jvm.Cond.methodLink "java/lang/Exception" (7 : Nat) ({ cls := "java/lang/Throwable", name := "<init>", desc := "(Ljava/lang/String;)V" } : Jvm.MethodName)).before a0 Z = true := hw _ (List.mem_of_getElem? (i := 265) rfl)
theorem w266 {Z : State} {a0 : Array Value} (hw : ∀ d ∈ tables_1, d.before a0 Z = true) : (Jvm.Cond.instanceMethod ({ cls := "java/lang/Throwable", name := "<init>", desc := "(Ljava/lang/String;)V" } : Jvm.MethodName)).before a0 Z = true := hw _ (List.mem_of_getElem? (i := 266) rfl)
theorem w269 {Z : State} {a0 : Array Value} (hw : ∀ d ∈ tables_1, d.before a0 Z = true) : (Jvm.Cond.initialized "java/lang/Throwable").before a0 Z = true := hw _ (List.mem_of_getElem? (i := 269) rfl)
theorem w270 {Z : State} {a0 : Array Value} (hw : ∀ d ∈ tables_1, d.before a0 Z = true) : (Jvm.Cond.code ({ cls := "java/lang/Throwable", name := "<init>", desc := "(Ljava/lang/String;)V" } : Jvm.MethodName) jdk_78_method_2_code (2 : Nat) (Option.none : Option Jvm.ClassFile.FieldType)).before a0 Z = true := hw _ (List.mem_of_getElem? (i := 270) rfl)
theorem w271 {Z : State} {a0 : Array Value} (hw : ∀ d ∈ tables_1, d.before a0 Z = true) : (Jvm.Cond.methodLink "java/lang/Throwable" (1 : Nat) ({ cls := "java/lang/Object", name := "<init>", desc := "()V" } : Jvm.MethodName)).before a0 Z = true := hw _ (List.mem_of_getElem? (i := 271) rfl)
theorem w272 {Z : State} {a0 : Array Value} (hw : ∀ d ∈ tables_1, d.before a0 Z = true) : (Jvm.Cond.fieldLink "java/lang/Throwable" (7 : Nat) "java/lang/Throwable" "cause" "Ljava/lang/Throwable;").before a0 Z = true := hw _ (List.mem_of_getElem? (i := 272) rfl)
theorem w273 {Z : State} {a0 : Array Value} (hw : ∀ d ∈ tables_1, d.before a0 Z = true) : (Jvm.Cond.lays "com/example/epochmark/epochmark/cli/UsageException" "java/lang/Throwable" "cause" "Ljava/lang/Throwable;").before a0 Z = true := hw _ (List.mem_of_getElem? (i := 273) rfl)
theorem w274 {Z : State} {a0 : Array Value} (hw : ∀ d ∈ tables_1, d.before a0 Z = true) : (Jvm.Cond.fieldLink "java/lang/Throwable" (13 : Nat) "java/lang/Throwable" "UNASSIGNED_STACK" "[Ljava/lang/StackTraceElement;").before a0 Z = true := hw _ (List.mem_of_getElem? (i := 274) rfl)
theorem w275 {Z : State} {a0 : Array Value} (hw : ∀ d ∈ tables_1, d.before a0 Z = true) : (Jvm.Cond.fieldLink "java/lang/Throwable" (17 : Nat) "java/lang/Throwable" "stackTrace" "[Ljava/lang/StackTraceElement;").before a0 Z = true := hw _ (List.mem_of_getElem? (i := 275) rfl)
theorem w276 {Z : State} {a0 : Array Value} (hw : ∀ d ∈ tables_1, d.before a0 Z = true) : (Jvm.Cond.lays "com/example/epochmark/epochmark/cli/UsageException" "java/lang/Throwable" "stackTrace" "[Ljava/lang/StackTraceElement;").before a0 Z = true := hw _ (List.mem_of_getElem? (i := 276) rfl)
theorem w277 {Z : State} {a0 : Array Value} (hw : ∀ d ∈ tables_1, d.before a0 Z = true) : (Jvm.Cond.fieldLink "java/lang/Throwable" (20 : Nat) "java/lang/Throwable" "SUPPRESSED_SENTINEL" "Ljava/util/List;").before a0 Z = true := hw _ (List.mem_of_getElem? (i := 277) rfl)
theorem w278 {Z : State} {a0 : Array Value} (hw : ∀ d ∈ tables_1, d.before a0 Z = true) : (Jvm.Cond.fieldLink "java/lang/Throwable" (24 : Nat) "java/lang/Throwable" "suppressedExceptions" "Ljava/util/List;").before a0 Z = true := hw _ (List.mem_of_getElem? (i := 278) rfl)
theorem w279 {Z : State} {a0 : Array Value} (hw : ∀ d ∈ tables_1, d.before a0 Z = true) : (Jvm.Cond.lays "com/example/epochmark/epochmark/cli/UsageException" "java/lang/Throwable" "suppressedExceptions" "Ljava/util/List;").before a0 Z = true := hw _ (List.mem_of_getElem? (i := 279) rfl)
theorem w303 {Z : State} {a0 : Array Value} (hw : ∀ d ∈ tables_1, d.before a0 Z = true) : (Jvm.Cond.lays "com/example/epochmark/epochmark/cli/UsageException" "java/lang/Throwable" "detailMessage" "Ljava/lang/String;").before a0 Z = true := hw _ (List.mem_of_getElem? (i := 303) rfl)
theorem w304 {Z : State} {a0 : Array Value} (hw : ∀ d ∈ tables_1, d.before a0 Z = true) : (Jvm.Cond.lays "com/example/epochmark/epochmark/cli/UsageException" "java/lang/Throwable" "backtrace" "Ljava/lang/Object;").before a0 Z = true := hw _ (List.mem_of_getElem? (i := 304) rfl)
theorem w305 {Z : State} {a0 : Array Value} (hw : ∀ d ∈ tables_1, d.before a0 Z = true) : (Jvm.Cond.lays "com/example/epochmark/epochmark/cli/UsageException" "java/lang/Throwable" "depth" "I").before a0 Z = true := hw _ (List.mem_of_getElem? (i := 305) rfl)
theorem w307 {Z : State} {a0 : Array Value} (hw : ∀ d ∈ tables_1, d.before a0 Z = true) : (Jvm.Cond.fieldLink "java/lang/Throwable" (31 : Nat) "java/lang/Throwable" "detailMessage" "Ljava/lang/String;").before a0 Z = true := hw _ (List.mem_of_getElem? (i := 307) rfl)
theorem w308 {Z : State} {a0 : Array Value} (hw : ∀ d ∈ tables_1, d.before a0 Z = true) : (Jvm.Cond.fieldLink "com/example/epochmark/epochmark/cli/UsageException" (7 : Nat) "com/example/epochmark/epochmark/cli/UsageException" "usage" "Ljava/lang/String;").before a0 Z = true := hw _ (List.mem_of_getElem? (i := 308) rfl)
theorem w309 {Z : State} {a0 : Array Value} (hw : ∀ d ∈ tables_1, d.before a0 Z = true) : (Jvm.Cond.laysFinal "com/example/epochmark/epochmark/cli/UsageException" "com/example/epochmark/epochmark/cli/UsageException" "usage" "Ljava/lang/String;").before a0 Z = true := hw _ (List.mem_of_getElem? (i := 309) rfl)
theorem w310 {Z : State} {a0 : Array Value} (hw : ∀ d ∈ tables_1, d.before a0 Z = true) : (Jvm.Cond.methodLink "com/example/epochmark/epochmark/cli/ArgumentsUsagePinLaw" (37 : Nat) ({ cls := "com/example/epochmark/epochmark/cli/UsageException", name := "getMessage", desc := "()Ljava/lang/String;" } : Jvm.MethodName)).before a0 Z = true := hw _ (List.mem_of_getElem? (i := 310) rfl)
theorem w311 {Z : State} {a0 : Array Value} (hw : ∀ d ∈ tables_1, d.before a0 Z = true) : (Jvm.Cond.sameMethod "com/example/epochmark/epochmark/cli/UsageException" "java/lang/Throwable" "getMessage" "()Ljava/lang/String;").before a0 Z = true := hw _ (List.mem_of_getElem? (i := 311) rfl)
theorem w312 {Z : State} {a0 : Array Value} (hw : ∀ d ∈ tables_1, d.before a0 Z = true) : (Jvm.Cond.declares ({ cls := "java/lang/Throwable", name := "getMessage", desc := "()Ljava/lang/String;" } : Jvm.MethodName)).before a0 Z = true := hw _ (List.mem_of_getElem? (i := 312) rfl)
theorem w313 {Z : State} {a0 : Array Value} (hw : ∀ d ∈ tables_1, d.before a0 Z = true) : (Jvm.Cond.instanceMethod ({ cls := "java/lang/Throwable", name := "getMessage", desc := "()Ljava/lang/String;" } : Jvm.MethodName)).before a0 Z = true := hw _ (List.mem_of_getElem? (i := 313) rfl)
theorem w314 {Z : State} {a0 : Array Value} (hw : ∀ d ∈ tables_1, d.before a0 Z = true) : (Jvm.Cond.selects "com/example/epochmark/epochmark/cli/UsageException" ({ cls := "com/example/epochmark/epochmark/cli/UsageException", name := "getMessage", desc := "()Ljava/lang/String;" } : Jvm.MethodName) ({ cls := "java/lang/Throwable", name := "getMessage", desc := "()Ljava/lang/String;" } : Jvm.MethodName)).before a0 Z = true := hw _ (List.mem_of_getElem? (i := 314) rfl)
theorem w315 {Z : State} {a0 : Array Value} (hw : ∀ d ∈ tables_1, d.before a0 Z = true) : (Jvm.Cond.code ({ cls := "java/lang/Throwable", name := "getMessage", desc := "()Ljava/lang/String;" } : Jvm.MethodName) jdk_78_method_6_code (1 : Nat) (Option.some (Jvm.ClassFile.FieldType.object "java/lang/String"))).before a0 Z = true := hw _ (List.mem_of_getElem? (i := 315) rfl)
theorem w316 {Z : State} {a0 : Array Value} (hw : ∀ d ∈ tables_1, d.before a0 Z = true) : (Jvm.Cond.methodLink "com/example/epochmark/epochmark/cli/ArgumentsUsagePinLaw" (43 : Nat) ({ cls := "java/lang/String", name := "equals", desc := "(Ljava/lang/Object;)Z" } : Jvm.MethodName)).before a0 Z = true := hw _ (List.mem_of_getElem? (i := 316) rfl)
theorem w317 {Z : State} {a0 : Array Value} (hw : ∀ d ∈ tables_1, d.before a0 Z = true) : (Jvm.Cond.declares ({ cls := "java/lang/String", name := "equals", desc := "(Ljava/lang/Object;)Z" } : Jvm.MethodName)).before a0 Z = true := hw _ (List.mem_of_getElem? (i := 317) rfl)
theorem w318 {Z : State} {a0 : Array Value} (hw : ∀ d ∈ tables_1, d.before a0 Z = true) : (Jvm.Cond.instanceMethod ({ cls := "java/lang/String", name := "equals", desc := "(Ljava/lang/Object;)Z" } : Jvm.MethodName)).before a0 Z = true := hw _ (List.mem_of_getElem? (i := 318) rfl)
theorem w319 {Z : State} {a0 : Array Value} (hw : ∀ d ∈ tables_1, d.before a0 Z = true) : (Jvm.Cond.selects "java/lang/String" ({ cls := "java/lang/String", name := "equals", desc := "(Ljava/lang/Object;)Z" } : Jvm.MethodName) ({ cls := "java/lang/String", name := "equals", desc := "(Ljava/lang/Object;)Z" } : Jvm.MethodName)).before a0 Z = true := hw _ (List.mem_of_getElem? (i := 319) rfl)
theorem w320 {Z : State} {a0 : Array Value} (hw : ∀ d ∈ tables_1, d.before a0 Z = true) : (Jvm.Cond.code ({ cls := "java/lang/String", name := "equals", desc := "(Ljava/lang/Object;)Z" } : Jvm.MethodName) jdk_42_method_66_code (3 : Nat) (Option.some Jvm.ClassFile.FieldType.boolean)).before a0 Z = true := hw _ (List.mem_of_getElem? (i := 320) rfl)
theorem w321 {Z : State} {a0 : Array Value} (hw : ∀ d ∈ tables_1, d.before a0 Z = true) : (Jvm.Cond.methodLink "com/example/epochmark/epochmark/cli/ArgumentsUsagePinLaw" (47 : Nat) ({ cls := "com/example/epochmark/epochmark/cli/UsageException", name := "usage", desc := "()Ljava/lang/String;" } : Jvm.MethodName)).before a0 Z = true := hw _ (List.mem_of_getElem? (i := 321) rfl)
theorem w322 {Z : State} {a0 : Array Value} (hw : ∀ d ∈ tables_1, d.before a0 Z = true) : (Jvm.Cond.declares ({ cls := "com/example/epochmark/epochmark/cli/UsageException", name := "usage", desc := "()Ljava/lang/String;" } : Jvm.MethodName)).before a0 Z = true := hw _ (List.mem_of_getElem? (i := 322) rfl)
theorem w323 {Z : State} {a0 : Array Value} (hw : ∀ d ∈ tables_1, d.before a0 Z = true) : (Jvm.Cond.instanceMethod ({ cls := "com/example/epochmark/epochmark/cli/UsageException", name := "usage", desc := "()Ljava/lang/String;" } : Jvm.MethodName)).before a0 Z = true := hw _ (List.mem_of_getElem? (i := 323) rfl)
theorem w324 {Z : State} {a0 : Array Value} (hw : ∀ d ∈ tables_1, d.before a0 Z = true) : (Jvm.Cond.selects "com/example/epochmark/epochmark/cli/UsageException" ({ cls := "com/example/epochmark/epochmark/cli/UsageException", name := "usage", desc := "()Ljava/lang/String;" } : Jvm.MethodName) ({ cls := "com/example/epochmark/epochmark/cli/UsageException", name := "usage", desc := "()Ljava/lang/String;" } : Jvm.MethodName)).before a0 Z = true := hw _ (List.mem_of_getElem? (i := 324) rfl)
theorem w325 {Z : State} {a0 : Array Value} (hw : ∀ d ∈ tables_1, d.before a0 Z = true) : (Jvm.Cond.code ({ cls := "com/example/epochmark/epochmark/cli/UsageException", name := "usage", desc := "()Ljava/lang/String;" } : Jvm.MethodName) prog_3_method_2_code (1 : Nat) (Option.some (Jvm.ClassFile.FieldType.object "java/lang/String"))).before a0 Z = true := hw _ (List.mem_of_getElem? (i := 325) rfl)
theorem w326 {Z : State} {a0 : Array Value} (hw : ∀ d ∈ tables_1, d.before a0 Z = true) : (Jvm.Cond.classLink "java/lang/String" (10 : Nat) "java/lang/String").before a0 Z = true := hw _ (List.mem_of_getElem? (i := 326) rfl)
theorem w327 {Z : State} {a0 : Array Value} (hw : ∀ d ∈ tables_1, d.before a0 Z = true) : (Jvm.Cond.methodLink "java/lang/String" (541 : Nat) ({ cls := "java/lang/StringLatin1", name := "equals", desc := "([B[B)Z" } : Jvm.MethodName)).before a0 Z = true := hw _ (List.mem_of_getElem? (i := 327) rfl)
theorem w328 {Z : State} {a0 : Array Value} (hw : ∀ d ∈ tables_1, d.before a0 Z = true) : (Jvm.Cond.static ({ cls := "java/lang/StringLatin1", name := "equals", desc := "([B[B)Z" } : Jvm.MethodName)).before a0 Z = true := hw _ (List.mem_of_getElem? (i := 328) rfl)
theorem w329 {Z : State} {a0 : Array Value} (hw : ∀ d ∈ tables_1, d.before a0 Z = true) : (Jvm.Cond.initialized "java/lang/StringLatin1").before a0 Z = true := hw _ (List.mem_of_getElem? (i := 329) rfl)
theorem w330 {Z : State} {a0 : Array Value} (hw : ∀ d ∈ tables_1, d.before a0 Z = true) : (Jvm.Cond.code ({ cls := "java/lang/StringLatin1", name := "equals", desc := "([B[B)Z" } : Jvm.MethodName) jdk_43_method_13_code (3 : Nat) (Option.some Jvm.ClassFile.FieldType.boolean)).before a0 Z = true := hw _ (List.mem_of_getElem? (i := 330) rfl)
theorem d_jdk_52_21_0 : D jdk_52_method_21_code 0 (.iconst 0) 1 1 := And.intro (by decide +kernel) rfl
theorem d_jdk_52_21_1 : D jdk_52_method_21_code 1 (.istore 5) 2 3 := And.intro (by decide +kernel) rfl
theorem d_jdk_52_21_3 : D jdk_52_method_21_code 3 (.iload 5) 2 5 := And.intro (by decide +kernel) rfl
theorem d_jdk_52_21_5 : D jdk_52_method_21_code 5 (.iload 4) 2 7 := And.intro (by decide +kernel) rfl
theorem d_jdk_52_21_7 : D jdk_52_method_21_code 7 (.if_icmp .ge 37) 3 10 := And.intro (by decide +kernel) rfl
theorem d_jdk_52_21_44 : D jdk_52_method_21_code 44 (.iload 4) 2 46 := And.intro (by decide +kernel) rfl
theorem d_jdk_52_21_46 : D jdk_52_method_21_code 46 (.ireturn) 1 47 := And.intro (by decide +kernel) rfl
theorem d_jdk_52_21_10 : D jdk_52_method_21_code 10 (.aload_n 0) 1 11 := And.intro (by decide +kernel) rfl
theorem d_jdk_52_21_11 : D jdk_52_method_21_code 11 (.iload_n 1) 1 12 := And.intro (by decide +kernel) rfl
theorem d_jdk_52_21_12 : D jdk_52_method_21_code 12 (.caload) 1 13 := And.intro (by decide +kernel) rfl
theorem d_jdk_52_21_13 : D jdk_52_method_21_code 13 (.istore 6) 2 15 := And.intro (by decide +kernel) rfl
theorem d_jdk_52_21_15 : D jdk_52_method_21_code 15 (.iload 6) 2 17 := And.intro (by decide +kernel) rfl
theorem d_jdk_52_21_17 : D jdk_52_method_21_code 17 (.sipush 255) 3 20 := And.intro (by decide +kernel) rfl
theorem d_jdk_52_21_20 : D jdk_52_method_21_code 20 (.if_icmp .le 6) 3 23 := And.intro (by decide +kernel) rfl
theorem d_jdk_52_21_26 : D jdk_52_method_21_code 26 (.aload_n 2) 1 27 := And.intro (by decide +kernel) rfl
theorem d_jdk_52_21_27 : D jdk_52_method_21_code 27 (.iload_n 3) 1 28 := And.intro (by decide +kernel) rfl
theorem d_jdk_52_21_28 : D jdk_52_method_21_code 28 (.iload 6) 2 30 := And.intro (by decide +kernel) rfl
theorem d_jdk_52_21_30 : D jdk_52_method_21_code 30 (.i2b) 1 31 := And.intro (by decide +kernel) rfl
theorem d_jdk_52_21_31 : D jdk_52_method_21_code 31 (.bastore) 1 32 := And.intro (by decide +kernel) rfl
theorem d_jdk_52_21_32 : D jdk_52_method_21_code 32 (.iinc 1 1) 3 35 := And.intro (by decide +kernel) rfl
theorem d_jdk_52_21_35 : D jdk_52_method_21_code 35 (.iinc 3 1) 3 38 := And.intro (by decide +kernel) rfl
theorem d_jdk_52_21_38 : D jdk_52_method_21_code 38 (.iinc 5 1) 3 41 := And.intro (by decide +kernel) rfl
theorem d_jdk_52_21_41 : D jdk_52_method_21_code 41 (.goto (-38)) 3 44 := And.intro (by decide +kernel) rfl
theorem pn0 : plainName "java/lang/StringUTF16" = true := by first | (simp [plainName, overriddenIn]; done) | decide +kernel
theorem d_jdk_52_16_0 : D jdk_52_method_16_code 0 (.iload_n 2) 1 1 := And.intro (by decide +kernel) rfl
theorem d_jdk_52_16_1 : D jdk_52_method_16_code 1 (.newarray .byte) 2 3 := And.intro (by decide +kernel) rfl
theorem d_jdk_52_16_3 : D jdk_52_method_16_code 3 (.astore_n 3) 1 4 := And.intro (by decide +kernel) rfl
theorem d_jdk_52_16_4 : D jdk_52_method_16_code 4 (.aload_n 0) 1 5 := And.intro (by decide +kernel) rfl
theorem d_jdk_52_16_5 : D jdk_52_method_16_code 5 (.iload_n 1) 1 6 := And.intro (by decide +kernel) rfl
theorem d_jdk_52_16_6 : D jdk_52_method_16_code 6 (.aload_n 3) 1 7 := And.intro (by decide +kernel) rfl
theorem d_jdk_52_16_7 : D jdk_52_method_16_code 7 (.iconst 0) 1 8 := And.intro (by decide +kernel) rfl
theorem d_jdk_52_16_8 : D jdk_52_method_16_code 8 (.iload_n 2) 1 9 := And.intro (by decide +kernel) rfl
theorem d_jdk_52_16_9 : D jdk_52_method_16_code 9 (.invokestatic 115) 3 12 := And.intro (by decide +kernel) rfl
theorem pd0 : parseMethodDescriptor "([CI[BII)I" = some ⟨[(.array .char), .int, (.array .byte), .int, .int], some .int⟩ := by decide +kernel
theorem d_jdk_52_16_12 : D jdk_52_method_16_code 12 (.istore 4) 2 14 := And.intro (by decide +kernel) rfl
theorem d_jdk_52_16_14 : D jdk_52_method_16_code 14 (.iload 4) 2 16 := And.intro (by decide +kernel) rfl
theorem d_jdk_52_16_16 : D jdk_52_method_16_code 16 (.iload_n 2) 1 17 := And.intro (by decide +kernel) rfl
theorem d_jdk_52_16_17 : D jdk_52_method_16_code 17 (.if_icmp .eq 40) 3 20 := And.intro (by decide +kernel) rfl
theorem d_jdk_52_16_57 : D jdk_52_method_16_code 57 (.aload_n 3) 1 58 := And.intro (by decide +kernel) rfl
theorem d_jdk_52_16_58 : D jdk_52_method_16_code 58 (.areturn) 1 59 := And.intro (by decide +kernel) rfl
theorem d_jdk_52_15_0 : D jdk_52_method_15_code 0 (.iload_n 1) 1 1 := And.intro (by decide +kernel) rfl
theorem d_jdk_52_15_1 : D jdk_52_method_15_code 1 (.aload_n 0) 1 2 := And.intro (by decide +kernel) rfl
theorem d_jdk_52_15_2 : D jdk_52_method_15_code 2 (.arraylength) 1 3 := And.intro (by decide +kernel) rfl
theorem d_jdk_52_15_3 : D jdk_52_method_15_code 3 (.isub) 1 4 := And.intro (by decide +kernel) rfl
theorem d_jdk_52_15_4 : D jdk_52_method_15_code 4 (.bipush 31) 2 6 := And.intro (by decide +kernel) rfl
theorem d_jdk_52_15_6 : D jdk_52_method_15_code 6 (.iushr) 1 7 := And.intro (by decide +kernel) rfl
theorem d_jdk_52_15_7 : D jdk_52_method_15_code 7 (.i2b) 1 8 := And.intro (by decide +kernel) rfl
theorem d_jdk_52_15_8 : D jdk_52_method_15_code 8 (.ireturn) 1 9 := And.intro (by decide +kernel) rfl
theorem d_jdk_42_149_0 : D jdk_42_method_149_code 0 (.aload_n 0) 1 1 := And.intro (by decide +kernel) rfl
theorem d_jdk_42_149_1 : D jdk_42_method_149_code 1 (.invokespecial 1) 3 4 := And.intro (by decide +kernel) rfl
theorem d_jdk_42_149_4 : D jdk_42_method_149_code 4 (.iload_n 3) 1 5 := And.intro (by decide +kernel) rfl
theorem d_jdk_42_149_5 : D jdk_42_method_149_code 5 (.ifCond .ne 22) 3 8 := And.intro (by decide +kernel) rfl
theorem d_jdk_42_149_27 : D jdk_42_method_149_code 27 (.getstatic 38) 3 30 := And.intro (by decide +kernel) rfl
theorem d_jdk_42_149_30 : D jdk_42_method_149_code 30 (.ifCond .eq 28) 3 33 := And.intro (by decide +kernel) rfl
theorem d_jdk_42_149_33 : D jdk_42_method_149_code 33 (.aload_n 1) 1 34 := And.intro (by decide +kernel) rfl
theorem d_jdk_42_149_34 : D jdk_42_method_149_code 34 (.iload_n 2) 1 35 := And.intro (by decide +kernel) rfl
theorem d_jdk_42_149_35 : D jdk_42_method_149_code 35 (.iload_n 3) 1 36 := And.intro (by decide +kernel) rfl
theorem d_jdk_42_149_36 : D jdk_42_method_149_code 36 (.invokestatic 177) 3 39 := And.intro (by decide +kernel) rfl
theorem pd1 : parseMethodDescriptor "([CII)[B" = some ⟨[(.array .char), .int, .int], some (.array .byte)⟩ := by decide +kernel
theorem d_jdk_42_149_39 : D jdk_42_method_149_code 39 (.astore 5) 2 41 := And.intro (by decide +kernel) rfl
theorem d_jdk_42_149_41 : D jdk_42_method_149_code 41 (.aload_n 0) 1 42 := And.intro (by decide +kernel) rfl
theorem d_jdk_42_149_42 : D jdk_42_method_149_code 42 (.aload 5) 2 44 := And.intro (by decide +kernel) rfl
theorem d_jdk_42_149_44 : D jdk_42_method_149_code 44 (.iload_n 3) 1 45 := And.intro (by decide +kernel) rfl
theorem d_jdk_42_149_45 : D jdk_42_method_149_code 45 (.invokestatic 47) 3 48 := And.intro (by decide +kernel) rfl
theorem pd2 : parseMethodDescriptor "([BI)B" = some ⟨[(.array .byte), .int], some .byte⟩ := by decide +kernel
theorem d_jdk_42_149_48 : D jdk_42_method_149_code 48 (.putfield 15) 3 51 := And.intro (by decide +kernel) rfl
theorem d_jdk_42_149_51 : D jdk_42_method_149_code 51 (.aload_n 0) 1 52 := And.intro (by decide +kernel) rfl
theorem d_jdk_42_149_52 : D jdk_42_method_149_code 52 (.aload 5) 2 54 := And.intro (by decide +kernel) rfl
theorem d_jdk_42_149_54 : D jdk_42_method_149_code 54 (.putfield 9) 3 57 := And.intro (by decide +kernel) rfl
theorem d_jdk_42_149_57 : D jdk_42_method_149_code 57 (.return_) 1 58 := And.intro (by decide +kernel) rfl
theorem pn1 : plainName "java/lang/String" = true := by first | (simp [plainName, overriddenIn]; done) | decide +kernel
theorem d_jdk_42_3_0 : D jdk_42_method_3_code 0 (.aload_n 0) 1 1 := And.intro (by decide +kernel) rfl
theorem d_jdk_42_3_1 : D jdk_42_method_3_code 1 (.aload_n 1) 1 2 := And.intro (by decide +kernel) rfl
theorem d_jdk_42_3_2 : D jdk_42_method_3_code 2 (.iconst 0) 1 3 := And.intro (by decide +kernel) rfl
theorem d_jdk_42_3_3 : D jdk_42_method_3_code 3 (.aload_n 1) 1 4 := And.intro (by decide +kernel) rfl
theorem d_jdk_42_3_4 : D jdk_42_method_3_code 4 (.arraylength) 1 5 := And.intro (by decide +kernel) rfl
theorem d_jdk_42_3_5 : D jdk_42_method_3_code 5 (.aconst_null) 1 6 := And.intro (by decide +kernel) rfl
theorem d_jdk_42_3_6 : D jdk_42_method_3_code 6 (.invokespecial 27) 3 9 := And.intro (by decide +kernel) rfl
theorem pd3 : parseMethodDescriptor "([CIILjava/lang/Void;)V" = some ⟨[(.array .char), .int, .int, (.object "java/lang/Void")], none⟩ := by decide +kernel
theorem d_jdk_42_3_9 : D jdk_42_method_3_code 9 (.return_) 1 10 := And.intro (by decide +kernel) rfl
theorem d_jdk_42_149_8 : D jdk_42_method_149_code 8 (.aload_n 0) 1 9 := And.intro (by decide +kernel) rfl
theorem d_jdk_42_149_9 : D jdk_42_method_149_code 9 (.ldc 7) 2 11 := And.intro (by decide +kernel) rfl
theorem d_jdk_42_149_11 : D jdk_42_method_149_code 11 (.getfield 9) 3 14 := And.intro (by decide +kernel) rfl
theorem d_jdk_42_149_14 : D jdk_42_method_149_code 14 (.putfield 9) 3 17 := And.intro (by decide +kernel) rfl
theorem d_jdk_42_149_17 : D jdk_42_method_149_code 17 (.aload_n 0) 1 18 := And.intro (by decide +kernel) rfl
theorem d_jdk_42_149_18 : D jdk_42_method_149_code 18 (.ldc 7) 2 20 := And.intro (by decide +kernel) rfl
theorem d_jdk_42_149_20 : D jdk_42_method_149_code 20 (.getfield 15) 3 23 := And.intro (by decide +kernel) rfl
theorem d_jdk_42_149_23 : D jdk_42_method_149_code 23 (.putfield 15) 3 26 := And.intro (by decide +kernel) rfl
theorem d_jdk_42_149_26 : D jdk_42_method_149_code 26 (.return_) 1 27 := And.intro (by decide +kernel) rfl
theorem d_jdk_43_13_0 : D jdk_43_method_13_code 0 (.aload_n 0) 1 1 := And.intro (by decide +kernel) rfl
theorem d_jdk_43_13_1 : D jdk_43_method_13_code 1 (.arraylength) 1 2 := And.intro (by decide +kernel) rfl
theorem d_jdk_43_13_2 : D jdk_43_method_13_code 2 (.aload_n 1) 1 3 := And.intro (by decide +kernel) rfl
theorem d_jdk_43_13_3 : D jdk_43_method_13_code 3 (.arraylength) 1 4 := And.intro (by decide +kernel) rfl
theorem d_jdk_43_13_4 : D jdk_43_method_13_code 4 (.if_icmp .ne 30) 3 7 := And.intro (by decide +kernel) rfl
theorem d_jdk_43_13_34 : D jdk_43_method_13_code 34 (.iconst 0) 1 35 := And.intro (by decide +kernel) rfl
theorem d_jdk_43_13_35 : D jdk_43_method_13_code 35 (.ireturn) 1 36 := And.intro (by decide +kernel) rfl
theorem d_jdk_43_13_7 : D jdk_43_method_13_code 7 (.iconst 0) 1 8 := And.intro (by decide +kernel) rfl
theorem d_jdk_43_13_8 : D jdk_43_method_13_code 8 (.istore_n 2) 1 9 := And.intro (by decide +kernel) rfl
theorem d_jdk_43_13_9 : D jdk_43_method_13_code 9 (.iload_n 2) 1 10 := And.intro (by decide +kernel) rfl
theorem d_jdk_43_13_10 : D jdk_43_method_13_code 10 (.aload_n 0) 1 11 := And.intro (by decide +kernel) rfl
theorem d_jdk_43_13_11 : D jdk_43_method_13_code 11 (.arraylength) 1 12 := And.intro (by decide +kernel) rfl
theorem d_jdk_43_13_12 : D jdk_43_method_13_code 12 (.if_icmp .ge 20) 3 15 := And.intro (by decide +kernel) rfl
theorem d_jdk_43_13_32 : D jdk_43_method_13_code 32 (.iconst 1) 1 33 := And.intro (by decide +kernel) rfl
theorem d_jdk_43_13_33 : D jdk_43_method_13_code 33 (.ireturn) 1 34 := And.intro (by decide +kernel) rfl
theorem d_jdk_43_13_15 : D jdk_43_method_13_code 15 (.aload_n 0) 1 16 := And.intro (by decide +kernel) rfl
theorem d_jdk_43_13_16 : D jdk_43_method_13_code 16 (.iload_n 2) 1 17 := And.intro (by decide +kernel) rfl
theorem d_jdk_43_13_17 : D jdk_43_method_13_code 17 (.baload) 1 18 := And.intro (by decide +kernel) rfl
theorem d_jdk_43_13_18 : D jdk_43_method_13_code 18 (.aload_n 1) 1 19 := And.intro (by decide +kernel) rfl
theorem d_jdk_43_13_19 : D jdk_43_method_13_code 19 (.iload_n 2) 1 20 := And.intro (by decide +kernel) rfl
theorem d_jdk_43_13_20 : D jdk_43_method_13_code 20 (.baload) 1 21 := And.intro (by decide +kernel) rfl
theorem d_jdk_43_13_21 : D jdk_43_method_13_code 21 (.if_icmp .eq 5) 3 24 := And.intro (by decide +kernel) rfl
theorem d_jdk_43_13_26 : D jdk_43_method_13_code 26 (.iinc 2 1) 3 29 := And.intro (by decide +kernel) rfl
theorem d_jdk_43_13_29 : D jdk_43_method_13_code 29 (.goto (-20)) 3 32 := And.intro (by decide +kernel) rfl
theorem d_jdk_43_13_24 : D jdk_43_method_13_code 24 (.iconst 0) 1 25 := And.intro (by decide +kernel) rfl
theorem d_jdk_43_13_25 : D jdk_43_method_13_code 25 (.ireturn) 1 26 := And.intro (by decide +kernel) rfl
theorem pn2 : plainName "java/lang/StringLatin1" = true := by first | (simp [plainName, overriddenIn]; done) | decide +kernel
theorem d_jdk_42_66_0 : D jdk_42_method_66_code 0 (.aload_n 0) 1 1 := And.intro (by decide +kernel) rfl
theorem d_jdk_42_66_1 : D jdk_42_method_66_code 1 (.aload_n 1) 1 2 := And.intro (by decide +kernel) rfl
theorem d_jdk_42_66_2 : D jdk_42_method_66_code 2 (.if_acmp .ne 5) 3 5 := And.intro (by decide +kernel) rfl
theorem d_jdk_42_66_7 : D jdk_42_method_66_code 7 (.aload_n 1) 1 8 := And.intro (by decide +kernel) rfl
theorem d_jdk_42_66_8 : D jdk_42_method_66_code 8 (.instanceof 10) 3 11 := And.intro (by decide +kernel) rfl
theorem d_jdk_42_66_11 : D jdk_42_method_66_code 11 (.ifCond .eq 43) 3 14 := And.intro (by decide +kernel) rfl
theorem d_jdk_42_66_14 : D jdk_42_method_66_code 14 (.aload_n 1) 1 15 := And.intro (by decide +kernel) rfl
theorem d_jdk_42_66_15 : D jdk_42_method_66_code 15 (.checkcast 10) 3 18 := And.intro (by decide +kernel) rfl
theorem d_jdk_42_66_18 : D jdk_42_method_66_code 18 (.astore_n 2) 1 19 := And.intro (by decide +kernel) rfl
theorem d_jdk_42_66_19 : D jdk_42_method_66_code 19 (.getstatic 38) 3 22 := And.intro (by decide +kernel) rfl
theorem d_jdk_42_66_22 : D jdk_42_method_66_code 22 (.ifCond .eq 14) 3 25 := And.intro (by decide +kernel) rfl
theorem d_jdk_42_66_25 : D jdk_42_method_66_code 25 (.aload_n 0) 1 26 := And.intro (by decide +kernel) rfl
theorem d_jdk_42_66_26 : D jdk_42_method_66_code 26 (.getfield 15) 3 29 := And.intro (by decide +kernel) rfl
theorem d_jdk_42_66_29 : D jdk_42_method_66_code 29 (.aload_n 2) 1 30 := And.intro (by decide +kernel) rfl
theorem d_jdk_42_66_30 : D jdk_42_method_66_code 30 (.getfield 15) 3 33 := And.intro (by decide +kernel) rfl
theorem d_jdk_42_66_33 : D jdk_42_method_66_code 33 (.if_icmp .ne 21) 3 36 := And.intro (by decide +kernel) rfl
theorem d_jdk_42_66_36 : D jdk_42_method_66_code 36 (.aload_n 0) 1 37 := And.intro (by decide +kernel) rfl
theorem d_jdk_42_66_37 : D jdk_42_method_66_code 37 (.getfield 9) 3 40 := And.intro (by decide +kernel) rfl
theorem d_jdk_42_66_40 : D jdk_42_method_66_code 40 (.aload_n 2) 1 41 := And.intro (by decide +kernel) rfl
theorem d_jdk_42_66_41 : D jdk_42_method_66_code 41 (.getfield 9) 3 44 := And.intro (by decide +kernel) rfl
theorem d_jdk_42_66_44 : D jdk_42_method_66_code 44 (.invokestatic 541) 3 47 := And.intro (by decide +kernel) rfl
theorem pd4 : parseMethodDescriptor "([B[B)Z" = some ⟨[(.array .byte), (.array .byte)], some .boolean⟩ := by decide +kernel
theorem d_jdk_42_66_47 : D jdk_42_method_66_code 47 (.ifCond .eq 7) 3 50 := And.intro (by decide +kernel) rfl
theorem d_jdk_42_66_50 : D jdk_42_method_66_code 50 (.iconst 1) 1 51 := And.intro (by decide +kernel) rfl
theorem d_jdk_42_66_51 : D jdk_42_method_66_code 51 (.goto 4) 3 54 := And.intro (by decide +kernel) rfl
theorem d_jdk_42_66_55 : D jdk_42_method_66_code 55 (.ireturn) 1 56 := And.intro (by decide +kernel) rfl
theorem d_jdk_42_66_54 : D jdk_42_method_66_code 54 (.iconst 0) 1 55 := And.intro (by decide +kernel) rfl
theorem d_jdk_42_66_5 : D jdk_42_method_66_code 5 (.iconst 1) 1 6 := And.intro (by decide +kernel) rfl
theorem d_jdk_42_66_6 : D jdk_42_method_66_code 6 (.ireturn) 1 7 := And.intro (by decide +kernel) rfl
theorem d_jdk_68_2_0 : D jdk_68_method_2_code 0 (.aload_n 0) 1 1 := And.intro (by decide +kernel) rfl
theorem d_jdk_68_2_1 : D jdk_68_method_2_code 1 (.invokespecial 3) 3 4 := And.intro (by decide +kernel) rfl
theorem d_jdk_68_2_4 : D jdk_68_method_2_code 4 (.getstatic 18) 3 7 := And.intro (by decide +kernel) rfl
theorem d_jdk_68_2_7 : D jdk_68_method_2_code 7 (.ifCond .eq 18) 3 10 := And.intro (by decide +kernel) rfl
theorem d_jdk_68_2_10 : D jdk_68_method_2_code 10 (.aload_n 0) 1 11 := And.intro (by decide +kernel) rfl
theorem d_jdk_68_2_11 : D jdk_68_method_2_code 11 (.iload_n 1) 1 12 := And.intro (by decide +kernel) rfl
theorem d_jdk_68_2_12 : D jdk_68_method_2_code 12 (.newarray .byte) 2 14 := And.intro (by decide +kernel) rfl
theorem d_jdk_68_2_14 : D jdk_68_method_2_code 14 (.putfield 15) 3 17 := And.intro (by decide +kernel) rfl
theorem d_jdk_68_2_17 : D jdk_68_method_2_code 17 (.aload_n 0) 1 18 := And.intro (by decide +kernel) rfl
theorem d_jdk_68_2_18 : D jdk_68_method_2_code 18 (.iconst 0) 1 19 := And.intro (by decide +kernel) rfl
theorem d_jdk_68_2_19 : D jdk_68_method_2_code 19 (.putfield 22) 3 22 := And.intro (by decide +kernel) rfl
theorem d_jdk_68_2_22 : D jdk_68_method_2_code 22 (.goto 16) 3 25 := And.intro (by decide +kernel) rfl
theorem d_jdk_68_2_38 : D jdk_68_method_2_code 38 (.return_) 1 39 := And.intro (by decide +kernel) rfl
theorem pn3 : plainName "java/lang/AbstractStringBuilder" = true := by first | (simp [plainName, overriddenIn]; done) | decide +kernel
theorem d_jdk_67_1_0 : D jdk_67_method_1_code 0 (.aload_n 0) 1 1 := And.intro (by decide +kernel) rfl
theorem d_jdk_67_1_1 : D jdk_67_method_1_code 1 (.bipush 16) 2 3 := And.intro (by decide +kernel) rfl
theorem d_jdk_67_1_3 : D jdk_67_method_1_code 3 (.invokespecial 1) 3 6 := And.intro (by decide +kernel) rfl
theorem pd5 : parseMethodDescriptor "(I)V" = some ⟨[.int], none⟩ := by decide +kernel
theorem d_jdk_67_1_6 : D jdk_67_method_1_code 6 (.return_) 1 7 := And.intro (by decide +kernel) rfl
theorem pn4 : plainName "java/lang/StringBuilder" = true := by first | (simp [plainName, overriddenIn]; done) | decide +kernel
theorem d_jdk_42_152_0 : D jdk_42_method_152_code 0 (.getstatic 38) 3 3 := And.intro (by decide +kernel) rfl
theorem d_jdk_42_152_3 : D jdk_42_method_152_code 3 (.ifCond .eq 10) 3 6 := And.intro (by decide +kernel) rfl
theorem d_jdk_42_152_6 : D jdk_42_method_152_code 6 (.aload_n 0) 1 7 := And.intro (by decide +kernel) rfl
theorem d_jdk_42_152_7 : D jdk_42_method_152_code 7 (.getfield 15) 3 10 := And.intro (by decide +kernel) rfl
theorem d_jdk_42_152_10 : D jdk_42_method_152_code 10 (.goto 4) 3 13 := And.intro (by decide +kernel) rfl
theorem d_jdk_42_152_14 : D jdk_42_method_152_code 14 (.ireturn) 1 15 := And.intro (by decide +kernel) rfl
theorem d_jdk_42_54_0 : D jdk_42_method_54_code 0 (.aload_n 0) 1 1 := And.intro (by decide +kernel) rfl
theorem d_jdk_42_54_1 : D jdk_42_method_54_code 1 (.getfield 9) 3 4 := And.intro (by decide +kernel) rfl
theorem d_jdk_42_54_4 : D jdk_42_method_54_code 4 (.arraylength) 1 5 := And.intro (by decide +kernel) rfl
theorem d_jdk_42_54_5 : D jdk_42_method_54_code 5 (.aload_n 0) 1 6 := And.intro (by decide +kernel) rfl
theorem d_jdk_42_54_6 : D jdk_42_method_54_code 6 (.invokevirtual 335) 3 9 := And.intro (by decide +kernel) rfl
theorem pd6 : parseMethodDescriptor "()B" = some ⟨[], some .byte⟩ := by decide +kernel
theorem d_jdk_42_54_9 : D jdk_42_method_54_code 9 (.ishr) 1 10 := And.intro (by decide +kernel) rfl
theorem d_jdk_42_54_10 : D jdk_42_method_54_code 10 (.ireturn) 1 11 := And.intro (by decide +kernel) rfl
theorem d_jdk_68_68_0 : D jdk_68_method_68_code 0 (.getstatic 18) 3 3 := And.intro (by decide +kernel) rfl
theorem d_jdk_68_68_3 : D jdk_68_method_68_code 3 (.ifCond .eq 14) 3 6 := And.intro (by decide +kernel) rfl
theorem d_jdk_68_68_6 : D jdk_68_method_68_code 6 (.aload_n 0) 1 7 := And.intro (by decide +kernel) rfl
theorem d_jdk_68_68_7 : D jdk_68_method_68_code 7 (.getfield 22) 3 10 := And.intro (by decide +kernel) rfl
theorem d_jdk_68_68_10 : D jdk_68_method_68_code 10 (.ifCond .ne 7) 3 13 := And.intro (by decide +kernel) rfl
theorem d_jdk_68_68_13 : D jdk_68_method_68_code 13 (.iconst 1) 1 14 := And.intro (by decide +kernel) rfl
theorem d_jdk_68_68_14 : D jdk_68_method_68_code 14 (.goto 4) 3 17 := And.intro (by decide +kernel) rfl
theorem d_jdk_68_68_18 : D jdk_68_method_68_code 18 (.ireturn) 1 19 := And.intro (by decide +kernel) rfl
theorem d_jdk_68_71_0 : D jdk_68_method_71_code 0 (.getstatic 18) 3 3 := And.intro (by decide +kernel) rfl
theorem d_jdk_68_71_3 : D jdk_68_method_71_code 3 (.ifCond .eq 18) 3 6 := And.intro (by decide +kernel) rfl
theorem d_jdk_68_71_6 : D jdk_68_method_71_code 6 (.aload_n 0) 1 7 := And.intro (by decide +kernel) rfl
theorem d_jdk_68_71_7 : D jdk_68_method_71_code 7 (.getfield 22) 3 10 := And.intro (by decide +kernel) rfl
theorem d_jdk_68_71_10 : D jdk_68_method_71_code 10 (.aload_n 1) 1 11 := And.intro (by decide +kernel) rfl
theorem d_jdk_68_71_11 : D jdk_68_method_71_code 11 (.invokevirtual 40) 3 14 := And.intro (by decide +kernel) rfl
theorem d_jdk_68_71_14 : D jdk_68_method_71_code 14 (.if_icmp .eq 7) 3 17 := And.intro (by decide +kernel) rfl
theorem d_jdk_68_71_21 : D jdk_68_method_71_code 21 (.return_) 1 22 := And.intro (by decide +kernel) rfl
theorem d_jdk_42_147_0 : D jdk_42_method_147_code 0 (.aload_n 0) 1 1 := And.intro (by decide +kernel) rfl
theorem d_jdk_42_147_1 : D jdk_42_method_147_code 1 (.invokevirtual 335) 3 4 := And.intro (by decide +kernel) rfl
theorem d_jdk_42_147_4 : D jdk_42_method_147_code 4 (.iload_n 3) 1 5 := And.intro (by decide +kernel) rfl
theorem d_jdk_42_147_5 : D jdk_42_method_147_code 5 (.if_icmp .ne 23) 3 8 := And.intro (by decide +kernel) rfl
theorem d_jdk_42_147_8 : D jdk_42_method_147_code 8 (.aload_n 0) 1 9 := And.intro (by decide +kernel) rfl
theorem d_jdk_42_147_9 : D jdk_42_method_147_code 9 (.getfield 9) 3 12 := And.intro (by decide +kernel) rfl
theorem d_jdk_42_147_12 : D jdk_42_method_147_code 12 (.iconst 0) 1 13 := And.intro (by decide +kernel) rfl
theorem d_jdk_42_147_13 : D jdk_42_method_147_code 13 (.aload_n 1) 1 14 := And.intro (by decide +kernel) rfl
theorem d_jdk_42_147_14 : D jdk_42_method_147_code 14 (.iload_n 2) 1 15 := And.intro (by decide +kernel) rfl
theorem d_jdk_42_147_15 : D jdk_42_method_147_code 15 (.iload_n 3) 1 16 := And.intro (by decide +kernel) rfl
theorem d_jdk_42_147_16 : D jdk_42_method_147_code 16 (.ishl) 1 17 := And.intro (by decide +kernel) rfl
theorem d_jdk_42_147_17 : D jdk_42_method_147_code 17 (.aload_n 0) 1 18 := And.intro (by decide +kernel) rfl
theorem d_jdk_42_147_18 : D jdk_42_method_147_code 18 (.getfield 9) 3 21 := And.intro (by decide +kernel) rfl
theorem d_jdk_42_147_21 : D jdk_42_method_147_code 21 (.arraylength) 1 22 := And.intro (by decide +kernel) rfl
theorem d_jdk_42_147_22 : D jdk_42_method_147_code 22 (.invokestatic 212) 3 25 := And.intro (by decide +kernel) rfl
theorem d_jdk_42_147_25 : D jdk_42_method_147_code 25 (.goto 18) 3 28 := And.intro (by decide +kernel) rfl
theorem d_jdk_42_147_43 : D jdk_42_method_147_code 43 (.return_) 1 44 := And.intro (by decide +kernel) rfl
theorem d_jdk_68_73_0 : D jdk_68_method_73_code 0 (.aload_n 0) 1 1 := And.intro (by decide +kernel) rfl
theorem d_jdk_68_73_1 : D jdk_68_method_73_code 1 (.aload_n 2) 1 2 := And.intro (by decide +kernel) rfl
theorem d_jdk_68_73_2 : D jdk_68_method_73_code 2 (.invokevirtual 397) 3 5 := And.intro (by decide +kernel) rfl
theorem pd7 : parseMethodDescriptor "(Ljava/lang/String;)V" = some ⟨[(.object "java/lang/String")], none⟩ := by decide +kernel
theorem d_jdk_68_73_5 : D jdk_68_method_73_code 5 (.aload_n 2) 1 6 := And.intro (by decide +kernel) rfl
theorem d_jdk_68_73_6 : D jdk_68_method_73_code 6 (.aload_n 0) 1 7 := And.intro (by decide +kernel) rfl
theorem d_jdk_68_73_7 : D jdk_68_method_73_code 7 (.getfield 15) 3 10 := And.intro (by decide +kernel) rfl
theorem d_jdk_68_73_10 : D jdk_68_method_73_code 10 (.iload_n 1) 1 11 := And.intro (by decide +kernel) rfl
theorem d_jdk_68_73_11 : D jdk_68_method_73_code 11 (.aload_n 0) 1 12 := And.intro (by decide +kernel) rfl
theorem d_jdk_68_73_12 : D jdk_68_method_73_code 12 (.getfield 22) 3 15 := And.intro (by decide +kernel) rfl
theorem d_jdk_68_73_15 : D jdk_68_method_73_code 15 (.invokevirtual 399) 3 18 := And.intro (by decide +kernel) rfl
theorem pd8 : parseMethodDescriptor "([BIB)V" = some ⟨[(.array .byte), .int, .byte], none⟩ := by decide +kernel
theorem d_jdk_68_73_18 : D jdk_68_method_73_code 18 (.return_) 1 19 := And.intro (by decide +kernel) rfl
theorem d_jdk_68_9_0 : D jdk_68_method_9_code 0 (.aload_n 0) 1 1 := And.intro (by decide +kernel) rfl
theorem d_jdk_68_9_1 : D jdk_68_method_9_code 1 (.getfield 15) 3 4 := And.intro (by decide +kernel) rfl
theorem d_jdk_68_9_4 : D jdk_68_method_9_code 4 (.arraylength) 1 5 := And.intro (by decide +kernel) rfl
theorem d_jdk_68_9_5 : D jdk_68_method_9_code 5 (.aload_n 0) 1 6 := And.intro (by decide +kernel) rfl
theorem d_jdk_68_9_6 : D jdk_68_method_9_code 6 (.getfield 22) 3 9 := And.intro (by decide +kernel) rfl
theorem d_jdk_68_9_9 : D jdk_68_method_9_code 9 (.ishr) 1 10 := And.intro (by decide +kernel) rfl
theorem d_jdk_68_9_10 : D jdk_68_method_9_code 10 (.istore_n 2) 1 11 := And.intro (by decide +kernel) rfl
theorem d_jdk_68_9_11 : D jdk_68_method_9_code 11 (.iload_n 1) 1 12 := And.intro (by decide +kernel) rfl
theorem d_jdk_68_9_12 : D jdk_68_method_9_code 12 (.iload_n 2) 1 13 := And.intro (by decide +kernel) rfl
theorem d_jdk_68_9_13 : D jdk_68_method_9_code 13 (.isub) 1 14 := And.intro (by decide +kernel) rfl
theorem d_jdk_68_9_14 : D jdk_68_method_9_code 14 (.ifCond .le 24) 3 17 := And.intro (by decide +kernel) rfl
theorem d_jdk_68_9_38 : D jdk_68_method_9_code 38 (.return_) 1 39 := And.intro (by decide +kernel) rfl
theorem d_jdk_68_22_0 : D jdk_68_method_22_code 0 (.aload_n 1) 1 1 := And.intro (by decide +kernel) rfl
theorem d_jdk_68_22_1 : D jdk_68_method_22_code 1 (.ifnonnull 8) 3 4 := And.intro (by decide +kernel) rfl
theorem d_jdk_68_22_9 : D jdk_68_method_22_code 9 (.aload_n 1) 1 10 := And.intro (by decide +kernel) rfl
theorem d_jdk_68_22_10 : D jdk_68_method_22_code 10 (.invokevirtual 32) 3 13 := And.intro (by decide +kernel) rfl
theorem pd9 : parseMethodDescriptor "()I" = some ⟨[], some .int⟩ := by decide +kernel
theorem d_jdk_68_22_13 : D jdk_68_method_22_code 13 (.istore_n 2) 1 14 := And.intro (by decide +kernel) rfl
theorem d_jdk_68_22_14 : D jdk_68_method_22_code 14 (.aload_n 0) 1 15 := And.intro (by decide +kernel) rfl
theorem d_jdk_68_22_15 : D jdk_68_method_22_code 15 (.aload_n 0) 1 16 := And.intro (by decide +kernel) rfl
theorem d_jdk_68_22_16 : D jdk_68_method_22_code 16 (.getfield 79) 3 19 := And.intro (by decide +kernel) rfl
theorem d_jdk_68_22_19 : D jdk_68_method_22_code 19 (.iload_n 2) 1 20 := And.intro (by decide +kernel) rfl
theorem d_jdk_68_22_20 : D jdk_68_method_22_code 20 (.iadd) 1 21 := And.intro (by decide +kernel) rfl
theorem d_jdk_68_22_21 : D jdk_68_method_22_code 21 (.invokevirtual 100) 3 24 := And.intro (by decide +kernel) rfl
theorem d_jdk_68_22_24 : D jdk_68_method_22_code 24 (.aload_n 0) 1 25 := And.intro (by decide +kernel) rfl
theorem d_jdk_68_22_25 : D jdk_68_method_22_code 25 (.aload_n 0) 1 26 := And.intro (by decide +kernel) rfl
theorem d_jdk_68_22_26 : D jdk_68_method_22_code 26 (.getfield 79) 3 29 := And.intro (by decide +kernel) rfl
theorem d_jdk_68_22_29 : D jdk_68_method_22_code 29 (.aload_n 1) 1 30 := And.intro (by decide +kernel) rfl
theorem d_jdk_68_22_30 : D jdk_68_method_22_code 30 (.invokevirtual 208) 3 33 := And.intro (by decide +kernel) rfl
theorem pd10 : parseMethodDescriptor "(ILjava/lang/String;)V" = some ⟨[.int, (.object "java/lang/String")], none⟩ := by decide +kernel
theorem d_jdk_68_22_33 : D jdk_68_method_22_code 33 (.aload_n 0) 1 34 := And.intro (by decide +kernel) rfl
theorem d_jdk_68_22_34 : D jdk_68_method_22_code 34 (.dup) 1 35 := And.intro (by decide +kernel) rfl
theorem d_jdk_68_22_35 : D jdk_68_method_22_code 35 (.getfield 79) 3 38 := And.intro (by decide +kernel) rfl
theorem d_jdk_68_22_38 : D jdk_68_method_22_code 38 (.iload_n 2) 1 39 := And.intro (by decide +kernel) rfl
theorem d_jdk_68_22_39 : D jdk_68_method_22_code 39 (.iadd) 1 40 := And.intro (by decide +kernel) rfl
theorem d_jdk_68_22_40 : D jdk_68_method_22_code 40 (.putfield 79) 3 43 := And.intro (by decide +kernel) rfl
theorem d_jdk_68_22_43 : D jdk_68_method_22_code 43 (.aload_n 0) 1 44 := And.intro (by decide +kernel) rfl
theorem d_jdk_68_22_44 : D jdk_68_method_22_code 44 (.areturn) 1 45 := And.intro (by decide +kernel) rfl
theorem d_jdk_67_7_0 : D jdk_67_method_7_code 0 (.aload_n 0) 1 1 := And.intro (by decide +kernel) rfl
theorem d_jdk_67_7_1 : D jdk_67_method_7_code 1 (.aload_n 1) 1 2 := And.intro (by decide +kernel) rfl
theorem d_jdk_67_7_2 : D jdk_67_method_7_code 2 (.invokespecial 29) 3 5 := And.intro (by decide +kernel) rfl
theorem pd11 : parseMethodDescriptor "(Ljava/lang/String;)Ljava/lang/AbstractStringBuilder;" = some ⟨[(.object "java/lang/String")], some (.object "java/lang/AbstractStringBuilder")⟩ := by decide +kernel
theorem d_jdk_67_7_5 : D jdk_67_method_7_code 5 (.pop) 1 6 := And.intro (by decide +kernel) rfl
theorem d_jdk_67_7_6 : D jdk_67_method_7_code 6 (.aload_n 0) 1 7 := And.intro (by decide +kernel) rfl
theorem d_jdk_67_7_7 : D jdk_67_method_7_code 7 (.areturn) 1 8 := And.intro (by decide +kernel) rfl
theorem d_jdk_29_69_0 : D jdk_29_method_69_code 0 (.iload_n 0) 1 1 := And.intro (by decide +kernel) rfl
theorem d_jdk_29_69_1 : D jdk_29_method_69_code 1 (.iload_n 1) 1 2 := And.intro (by decide +kernel) rfl
theorem d_jdk_29_69_2 : D jdk_29_method_69_code 2 (.if_icmp .gt 7) 3 5 := And.intro (by decide +kernel) rfl
theorem d_jdk_29_69_9 : D jdk_29_method_69_code 9 (.iload_n 1) 1 10 := And.intro (by decide +kernel) rfl
theorem d_jdk_29_69_10 : D jdk_29_method_69_code 10 (.ireturn) 1 11 := And.intro (by decide +kernel) rfl
theorem d_jdk_29_69_5 : D jdk_29_method_69_code 5 (.iload_n 0) 1 6 := And.intro (by decide +kernel) rfl
theorem d_jdk_29_69_6 : D jdk_29_method_69_code 6 (.goto 4) 3 9 := And.intro (by decide +kernel) rfl
theorem pf0 : plainFor (⟨"java/lang/Math", "min", "(II)I"⟩ : MethodName) = true := by decide +kernel
theorem d_jdk_65_131_0 : D jdk_65_method_131_code 0 (.iload_n 1) 1 1 := And.intro (by decide +kernel) rfl
theorem d_jdk_65_131_1 : D jdk_65_method_131_code 1 (.iload_n 0) 1 2 := And.intro (by decide +kernel) rfl
theorem d_jdk_65_131_2 : D jdk_65_method_131_code 2 (.if_icmp .ge 35) 3 5 := And.intro (by decide +kernel) rfl
theorem d_jdk_65_131_37 : D jdk_65_method_131_code 37 (.return_) 1 38 := And.intro (by decide +kernel) rfl
theorem pn5 : plainName "java/util/Arrays" = true := by first | (simp [plainName, overriddenIn]; done) | decide +kernel
theorem d_jdk_65_133_0 : D jdk_65_method_133_code 0 (.iload_n 1) 1 1 := And.intro (by decide +kernel) rfl
theorem d_jdk_65_133_1 : D jdk_65_method_133_code 1 (.iload_n 2) 1 2 := And.intro (by decide +kernel) rfl
theorem d_jdk_65_133_2 : D jdk_65_method_133_code 2 (.invokestatic 343) 3 5 := And.intro (by decide +kernel) rfl
theorem pd12 : parseMethodDescriptor "(II)V" = some ⟨[.int, .int], none⟩ := by decide +kernel
theorem d_jdk_65_133_5 : D jdk_65_method_133_code 5 (.iload_n 2) 1 6 := And.intro (by decide +kernel) rfl
theorem d_jdk_65_133_6 : D jdk_65_method_133_code 6 (.iload_n 1) 1 7 := And.intro (by decide +kernel) rfl
theorem d_jdk_65_133_7 : D jdk_65_method_133_code 7 (.isub) 1 8 := And.intro (by decide +kernel) rfl
theorem d_jdk_65_133_8 : D jdk_65_method_133_code 8 (.istore_n 3) 1 9 := And.intro (by decide +kernel) rfl
theorem d_jdk_65_133_9 : D jdk_65_method_133_code 9 (.iload_n 3) 1 10 := And.intro (by decide +kernel) rfl
theorem d_jdk_65_133_10 : D jdk_65_method_133_code 10 (.newarray .byte) 2 12 := And.intro (by decide +kernel) rfl
theorem d_jdk_65_133_12 : D jdk_65_method_133_code 12 (.astore 4) 2 14 := And.intro (by decide +kernel) rfl
theorem d_jdk_65_133_14 : D jdk_65_method_133_code 14 (.aload_n 0) 1 15 := And.intro (by decide +kernel) rfl
theorem d_jdk_65_133_15 : D jdk_65_method_133_code 15 (.iload_n 1) 1 16 := And.intro (by decide +kernel) rfl
theorem d_jdk_65_133_16 : D jdk_65_method_133_code 16 (.aload 4) 2 18 := And.intro (by decide +kernel) rfl
theorem d_jdk_65_133_18 : D jdk_65_method_133_code 18 (.iconst 0) 1 19 := And.intro (by decide +kernel) rfl
theorem d_jdk_65_133_19 : D jdk_65_method_133_code 19 (.aload_n 0) 1 20 := And.intro (by decide +kernel) rfl
theorem d_jdk_65_133_20 : D jdk_65_method_133_code 20 (.arraylength) 1 21 := And.intro (by decide +kernel) rfl
theorem d_jdk_65_133_21 : D jdk_65_method_133_code 21 (.iload_n 1) 1 22 := And.intro (by decide +kernel) rfl
theorem d_jdk_65_133_22 : D jdk_65_method_133_code 22 (.isub) 1 23 := And.intro (by decide +kernel) rfl
theorem d_jdk_65_133_23 : D jdk_65_method_133_code 23 (.iload_n 3) 1 24 := And.intro (by decide +kernel) rfl
theorem d_jdk_65_133_24 : D jdk_65_method_133_code 24 (.invokestatic 304) 3 27 := And.intro (by decide +kernel) rfl
theorem pd13 : parseMethodDescriptor "(II)I" = some ⟨[.int, .int], some .int⟩ := by decide +kernel
theorem d_jdk_65_133_27 : D jdk_65_method_133_code 27 (.invokestatic 150) 3 30 := And.intro (by decide +kernel) rfl
theorem d_jdk_65_133_30 : D jdk_65_method_133_code 30 (.aload 4) 2 32 := And.intro (by decide +kernel) rfl
theorem d_jdk_65_133_32 : D jdk_65_method_133_code 32 (.areturn) 1 33 := And.intro (by decide +kernel) rfl
theorem d_jdk_65_132_0 : D jdk_65_method_132_code 0 (.iload_n 1) 1 1 := And.intro (by decide +kernel) rfl
theorem d_jdk_65_132_1 : D jdk_65_method_132_code 1 (.ifCond .ne 9) 3 4 := And.intro (by decide +kernel) rfl
theorem d_jdk_65_132_10 : D jdk_65_method_132_code 10 (.aload_n 0) 1 11 := And.intro (by decide +kernel) rfl
theorem d_jdk_65_132_11 : D jdk_65_method_132_code 11 (.iload_n 1) 1 12 := And.intro (by decide +kernel) rfl
theorem d_jdk_65_132_12 : D jdk_65_method_132_code 12 (.iload_n 2) 1 13 := And.intro (by decide +kernel) rfl
theorem d_jdk_65_132_13 : D jdk_65_method_132_code 13 (.invokestatic 339) 3 16 := And.intro (by decide +kernel) rfl
theorem pd14 : parseMethodDescriptor "([BII)[B" = some ⟨[(.array .byte), .int, .int], some (.array .byte)⟩ := by decide +kernel
theorem d_jdk_65_132_16 : D jdk_65_method_132_code 16 (.areturn) 1 17 := And.intro (by decide +kernel) rfl
theorem d_jdk_65_132_4 : D jdk_65_method_132_code 4 (.iload_n 2) 1 5 := And.intro (by decide +kernel) rfl
theorem d_jdk_65_132_5 : D jdk_65_method_132_code 5 (.aload_n 0) 1 6 := And.intro (by decide +kernel) rfl
theorem d_jdk_65_132_6 : D jdk_65_method_132_code 6 (.arraylength) 1 7 := And.intro (by decide +kernel) rfl
theorem d_jdk_65_132_7 : D jdk_65_method_132_code 7 (.if_icmp .eq 10) 3 10 := And.intro (by decide +kernel) rfl
theorem d_jdk_68_64_0 : D jdk_68_method_64_code 0 (.aload_n 0) 1 1 := And.intro (by decide +kernel) rfl
theorem d_jdk_68_64_1 : D jdk_68_method_64_code 1 (.getfield 15) 3 4 := And.intro (by decide +kernel) rfl
theorem d_jdk_68_64_4 : D jdk_68_method_64_code 4 (.areturn) 1 5 := And.intro (by decide +kernel) rfl
theorem d_jdk_68_6_0 : D jdk_68_method_6_code 0 (.aload_n 0) 1 1 := And.intro (by decide +kernel) rfl
theorem d_jdk_68_6_1 : D jdk_68_method_6_code 1 (.getfield 79) 3 4 := And.intro (by decide +kernel) rfl
theorem d_jdk_68_6_4 : D jdk_68_method_6_code 4 (.ireturn) 1 5 := And.intro (by decide +kernel) rfl
theorem d_jdk_67_93_0 : D jdk_67_method_93_code 0 (.aload_n 0) 1 1 := And.intro (by decide +kernel) rfl
theorem d_jdk_67_93_1 : D jdk_67_method_93_code 1 (.invokespecial 343) 3 4 := And.intro (by decide +kernel) rfl
theorem d_jdk_67_93_4 : D jdk_67_method_93_code 4 (.ireturn) 1 5 := And.intro (by decide +kernel) rfl
theorem d_jdk_42_150_0 : D jdk_42_method_150_code 0 (.aload_n 0) 1 1 := And.intro (by decide +kernel) rfl
theorem d_jdk_42_150_1 : D jdk_42_method_150_code 1 (.invokespecial 1) 3 4 := And.intro (by decide +kernel) rfl
theorem d_jdk_42_150_4 : D jdk_42_method_150_code 4 (.aload_n 1) 1 5 := And.intro (by decide +kernel) rfl
theorem d_jdk_42_150_5 : D jdk_42_method_150_code 5 (.invokevirtual 552) 3 8 := And.intro (by decide +kernel) rfl
theorem pd15 : parseMethodDescriptor "()[B" = some ⟨[], some (.array .byte)⟩ := by decide +kernel
theorem d_jdk_42_150_8 : D jdk_42_method_150_code 8 (.astore_n 3) 1 9 := And.intro (by decide +kernel) rfl
theorem d_jdk_42_150_9 : D jdk_42_method_150_code 9 (.aload_n 1) 1 10 := And.intro (by decide +kernel) rfl
theorem d_jdk_42_150_10 : D jdk_42_method_150_code 10 (.invokevirtual 549) 3 13 := And.intro (by decide +kernel) rfl
theorem d_jdk_42_150_13 : D jdk_42_method_150_code 13 (.istore 4) 2 15 := And.intro (by decide +kernel) rfl
theorem d_jdk_42_150_15 : D jdk_42_method_150_code 15 (.aload_n 1) 1 16 := And.intro (by decide +kernel) rfl
theorem d_jdk_42_150_16 : D jdk_42_method_150_code 16 (.invokevirtual 1047) 3 19 := And.intro (by decide +kernel) rfl
theorem pd16 : parseMethodDescriptor "()Z" = some ⟨[], some .boolean⟩ := by decide +kernel
theorem d_jdk_42_150_19 : D jdk_42_method_150_code 19 (.ifCond .eq 22) 3 22 := And.intro (by decide +kernel) rfl
theorem d_jdk_42_150_22 : D jdk_42_method_150_code 22 (.aload_n 0) 1 23 := And.intro (by decide +kernel) rfl
theorem d_jdk_42_150_23 : D jdk_42_method_150_code 23 (.iconst 0) 1 24 := And.intro (by decide +kernel) rfl
theorem d_jdk_42_150_24 : D jdk_42_method_150_code 24 (.putfield 15) 3 27 := And.intro (by decide +kernel) rfl
theorem d_jdk_42_150_27 : D jdk_42_method_150_code 27 (.aload_n 0) 1 28 := And.intro (by decide +kernel) rfl
theorem d_jdk_42_150_28 : D jdk_42_method_150_code 28 (.aload_n 3) 1 29 := And.intro (by decide +kernel) rfl
theorem d_jdk_42_150_29 : D jdk_42_method_150_code 29 (.iconst 0) 1 30 := And.intro (by decide +kernel) rfl
theorem d_jdk_42_150_30 : D jdk_42_method_150_code 30 (.iload 4) 2 32 := And.intro (by decide +kernel) rfl
theorem d_jdk_42_150_32 : D jdk_42_method_150_code 32 (.invokestatic 54) 3 35 := And.intro (by decide +kernel) rfl
theorem d_jdk_42_150_35 : D jdk_42_method_150_code 35 (.putfield 9) 3 38 := And.intro (by decide +kernel) rfl
theorem d_jdk_42_150_38 : D jdk_42_method_150_code 38 (.goto 59) 3 41 := And.intro (by decide +kernel) rfl
theorem d_jdk_42_150_97 : D jdk_42_method_150_code 97 (.return_) 1 98 := And.intro (by decide +kernel) rfl
theorem d_jdk_42_53_0 : D jdk_42_method_53_code 0 (.aload_n 0) 1 1 := And.intro (by decide +kernel) rfl
theorem d_jdk_42_53_1 : D jdk_42_method_53_code 1 (.aload_n 1) 1 2 := And.intro (by decide +kernel) rfl
theorem d_jdk_42_53_2 : D jdk_42_method_53_code 2 (.aconst_null) 1 3 := And.intro (by decide +kernel) rfl
theorem d_jdk_42_53_3 : D jdk_42_method_53_code 3 (.invokespecial 489) 3 6 := And.intro (by decide +kernel) rfl
theorem pd17 : parseMethodDescriptor "(Ljava/lang/AbstractStringBuilder;Ljava/lang/Void;)V" = some ⟨[(.object "java/lang/AbstractStringBuilder"), (.object "java/lang/Void")], none⟩ := by decide +kernel
theorem d_jdk_42_53_6 : D jdk_42_method_53_code 6 (.return_) 1 7 := And.intro (by decide +kernel) rfl
theorem d_jdk_67_42_0 : D jdk_67_method_42_code 0 (.new 18) 3 3 := And.intro (by decide +kernel) rfl
theorem d_jdk_67_42_3 : D jdk_67_method_42_code 3 (.dup) 1 4 := And.intro (by decide +kernel) rfl
theorem d_jdk_67_42_4 : D jdk_67_method_42_code 4 (.aload_n 0) 1 5 := And.intro (by decide +kernel) rfl
theorem d_jdk_67_42_5 : D jdk_67_method_42_code 5 (.invokespecial 137) 3 8 := And.intro (by decide +kernel) rfl
theorem pd18 : parseMethodDescriptor "(Ljava/lang/StringBuilder;)V" = some ⟨[(.object "java/lang/StringBuilder")], none⟩ := by decide +kernel
theorem d_jdk_67_42_8 : D jdk_67_method_42_code 8 (.areturn) 1 9 := And.intro (by decide +kernel) rfl
theorem d_method_2_0 : D method_2_code 0 (.iload_n 0) 1 1 := And.intro (by decide +kernel) rfl
theorem d_method_2_1 : D method_2_code 1 (.bipush 8) 2 3 := And.intro (by decide +kernel) rfl
theorem d_method_2_3 : D method_2_code 3 (.iload_n 1) 1 4 := And.intro (by decide +kernel) rfl
theorem d_method_2_4 : D method_2_code 4 (.imul) 1 5 := And.intro (by decide +kernel) rfl
theorem d_method_2_5 : D method_2_code 5 (.iushr) 1 6 := And.intro (by decide +kernel) rfl
theorem d_method_2_6 : D method_2_code 6 (.sipush 255) 3 9 := And.intro (by decide +kernel) rfl
theorem d_method_2_9 : D method_2_code 9 (.iand) 1 10 := And.intro (by decide +kernel) rfl
theorem d_method_2_10 : D method_2_code 10 (.i2c) 1 11 := And.intro (by decide +kernel) rfl
theorem d_method_2_11 : D method_2_code 11 (.ireturn) 1 12 := And.intro (by decide +kernel) rfl
theorem pn6 : plainName "com/example/epochmark/epochmark/cli/ArgumentsUsagePinLaw" = true := by first | (simp [plainName, overriddenIn]; done) | decide +kernel
theorem d_method_3_0 : D method_3_code 0 (.iload_n 0) 1 1 := And.intro (by decide +kernel) rfl
theorem d_method_3_1 : D method_3_code 1 (.ifCond .ne 14) 3 4 := And.intro (by decide +kernel) rfl
theorem d_method_3_4 : D method_3_code 4 (.new 7) 3 7 := And.intro (by decide +kernel) rfl
theorem d_method_3_7 : D method_3_code 7 (.dup) 1 8 := And.intro (by decide +kernel) rfl
theorem d_method_3_8 : D method_3_code 8 (.iconst 0) 1 9 := And.intro (by decide +kernel) rfl
theorem d_method_3_9 : D method_3_code 9 (.newarray .char) 2 11 := And.intro (by decide +kernel) rfl
theorem d_method_3_11 : D method_3_code 11 (.invokespecial 9) 3 14 := And.intro (by decide +kernel) rfl
theorem pd19 : parseMethodDescriptor "([C)V" = some ⟨[(.array .char)], none⟩ := by decide +kernel
theorem d_method_3_14 : D method_3_code 14 (.areturn) 1 15 := And.intro (by decide +kernel) rfl
theorem d_method_3_15 : D method_3_code 15 (.iload_n 0) 1 16 := And.intro (by decide +kernel) rfl
theorem d_method_3_16 : D method_3_code 16 (.iconst 1) 1 17 := And.intro (by decide +kernel) rfl
theorem d_method_3_17 : D method_3_code 17 (.if_icmp .ne 22) 3 20 := And.intro (by decide +kernel) rfl
theorem d_method_3_20 : D method_3_code 20 (.new 7) 3 23 := And.intro (by decide +kernel) rfl
theorem d_method_3_23 : D method_3_code 23 (.dup) 1 24 := And.intro (by decide +kernel) rfl
theorem d_method_3_24 : D method_3_code 24 (.iconst 1) 1 25 := And.intro (by decide +kernel) rfl
theorem d_method_3_25 : D method_3_code 25 (.newarray .char) 2 27 := And.intro (by decide +kernel) rfl
theorem d_method_3_27 : D method_3_code 27 (.dup) 1 28 := And.intro (by decide +kernel) rfl
theorem d_method_3_28 : D method_3_code 28 (.iconst 0) 1 29 := And.intro (by decide +kernel) rfl
theorem d_method_3_29 : D method_3_code 29 (.iload_n 1) 1 30 := And.intro (by decide +kernel) rfl
theorem d_method_3_30 : D method_3_code 30 (.iconst 0) 1 31 := And.intro (by decide +kernel) rfl
theorem d_method_3_31 : D method_3_code 31 (.invokestatic 12) 3 34 := And.intro (by decide +kernel) rfl
theorem pd20 : parseMethodDescriptor "(II)C" = some ⟨[.int, .int], some .char⟩ := by decide +kernel
theorem d_method_3_34 : D method_3_code 34 (.castore) 1 35 := And.intro (by decide +kernel) rfl
theorem d_method_3_35 : D method_3_code 35 (.invokespecial 9) 3 38 := And.intro (by decide +kernel) rfl
theorem d_method_3_38 : D method_3_code 38 (.areturn) 1 39 := And.intro (by decide +kernel) rfl
theorem d_method_3_39 : D method_3_code 39 (.iload_n 0) 1 40 := And.intro (by decide +kernel) rfl
theorem d_method_3_40 : D method_3_code 40 (.iconst 2) 1 41 := And.intro (by decide +kernel) rfl
theorem d_method_3_41 : D method_3_code 41 (.if_icmp .ne 30) 3 44 := And.intro (by decide +kernel) rfl
theorem d_method_3_44 : D method_3_code 44 (.new 7) 3 47 := And.intro (by decide +kernel) rfl
theorem d_method_3_47 : D method_3_code 47 (.dup) 1 48 := And.intro (by decide +kernel) rfl
theorem d_method_3_48 : D method_3_code 48 (.iconst 2) 1 49 := And.intro (by decide +kernel) rfl
theorem d_method_3_49 : D method_3_code 49 (.newarray .char) 2 51 := And.intro (by decide +kernel) rfl
theorem d_method_3_51 : D method_3_code 51 (.dup) 1 52 := And.intro (by decide +kernel) rfl
theorem d_method_3_52 : D method_3_code 52 (.iconst 0) 1 53 := And.intro (by decide +kernel) rfl
theorem d_method_3_53 : D method_3_code 53 (.iload_n 1) 1 54 := And.intro (by decide +kernel) rfl
theorem d_method_3_54 : D method_3_code 54 (.iconst 0) 1 55 := And.intro (by decide +kernel) rfl
theorem d_method_3_55 : D method_3_code 55 (.invokestatic 12) 3 58 := And.intro (by decide +kernel) rfl
theorem d_method_3_58 : D method_3_code 58 (.castore) 1 59 := And.intro (by decide +kernel) rfl
theorem d_method_3_59 : D method_3_code 59 (.dup) 1 60 := And.intro (by decide +kernel) rfl
theorem d_method_3_60 : D method_3_code 60 (.iconst 1) 1 61 := And.intro (by decide +kernel) rfl
theorem d_method_3_61 : D method_3_code 61 (.iload_n 1) 1 62 := And.intro (by decide +kernel) rfl
theorem d_method_3_62 : D method_3_code 62 (.iconst 1) 1 63 := And.intro (by decide +kernel) rfl
theorem d_method_3_63 : D method_3_code 63 (.invokestatic 12) 3 66 := And.intro (by decide +kernel) rfl
theorem d_method_3_66 : D method_3_code 66 (.castore) 1 67 := And.intro (by decide +kernel) rfl
theorem d_method_3_67 : D method_3_code 67 (.invokespecial 9) 3 70 := And.intro (by decide +kernel) rfl
theorem d_method_3_70 : D method_3_code 70 (.areturn) 1 71 := And.intro (by decide +kernel) rfl
theorem d_method_3_71 : D method_3_code 71 (.new 7) 3 74 := And.intro (by decide +kernel) rfl
theorem d_method_3_74 : D method_3_code 74 (.dup) 1 75 := And.intro (by decide +kernel) rfl
theorem d_method_3_75 : D method_3_code 75 (.iconst 3) 1 76 := And.intro (by decide +kernel) rfl
theorem d_method_3_76 : D method_3_code 76 (.newarray .char) 2 78 := And.intro (by decide +kernel) rfl
theorem d_method_3_78 : D method_3_code 78 (.dup) 1 79 := And.intro (by decide +kernel) rfl
theorem d_method_3_79 : D method_3_code 79 (.iconst 0) 1 80 := And.intro (by decide +kernel) rfl
theorem d_method_3_80 : D method_3_code 80 (.iload_n 1) 1 81 := And.intro (by decide +kernel) rfl
theorem d_method_3_81 : D method_3_code 81 (.iconst 0) 1 82 := And.intro (by decide +kernel) rfl
theorem d_method_3_82 : D method_3_code 82 (.invokestatic 12) 3 85 := And.intro (by decide +kernel) rfl
theorem d_method_3_85 : D method_3_code 85 (.castore) 1 86 := And.intro (by decide +kernel) rfl
theorem d_method_3_86 : D method_3_code 86 (.dup) 1 87 := And.intro (by decide +kernel) rfl
theorem d_method_3_87 : D method_3_code 87 (.iconst 1) 1 88 := And.intro (by decide +kernel) rfl
theorem d_method_3_88 : D method_3_code 88 (.iload_n 1) 1 89 := And.intro (by decide +kernel) rfl
theorem d_method_3_89 : D method_3_code 89 (.iconst 1) 1 90 := And.intro (by decide +kernel) rfl
theorem d_method_3_90 : D method_3_code 90 (.invokestatic 12) 3 93 := And.intro (by decide +kernel) rfl
theorem d_method_3_93 : D method_3_code 93 (.castore) 1 94 := And.intro (by decide +kernel) rfl
theorem d_method_3_94 : D method_3_code 94 (.dup) 1 95 := And.intro (by decide +kernel) rfl
theorem d_method_3_95 : D method_3_code 95 (.iconst 2) 1 96 := And.intro (by decide +kernel) rfl
theorem d_method_3_96 : D method_3_code 96 (.iload_n 1) 1 97 := And.intro (by decide +kernel) rfl
theorem d_method_3_97 : D method_3_code 97 (.iconst 2) 1 98 := And.intro (by decide +kernel) rfl
theorem d_method_3_98 : D method_3_code 98 (.invokestatic 12) 3 101 := And.intro (by decide +kernel) rfl
theorem d_method_3_101 : D method_3_code 101 (.castore) 1 102 := And.intro (by decide +kernel) rfl
theorem d_method_3_102 : D method_3_code 102 (.invokespecial 9) 3 105 := And.intro (by decide +kernel) rfl
theorem d_method_3_105 : D method_3_code 105 (.areturn) 1 106 := And.intro (by decide +kernel) rfl
theorem d_method_4_0 : D method_4_code 0 (.iload_n 0) 1 1 := And.intro (by decide +kernel) rfl
theorem d_method_4_1 : D method_4_code 1 (.ifCond .ne 51) 3 4 := And.intro (by decide +kernel) rfl
theorem d_method_4_4 : D method_4_code 4 (.new 7) 3 7 := And.intro (by decide +kernel) rfl
theorem d_method_4_7 : D method_4_code 7 (.dup) 1 8 := And.intro (by decide +kernel) rfl
theorem d_method_4_8 : D method_4_code 8 (.bipush 7) 2 10 := And.intro (by decide +kernel) rfl
theorem d_method_4_10 : D method_4_code 10 (.newarray .char) 2 12 := And.intro (by decide +kernel) rfl
theorem d_method_4_12 : D method_4_code 12 (.dup) 1 13 := And.intro (by decide +kernel) rfl
theorem d_method_4_13 : D method_4_code 13 (.iconst 0) 1 14 := And.intro (by decide +kernel) rfl
theorem d_method_4_14 : D method_4_code 14 (.bipush 117) 2 16 := And.intro (by decide +kernel) rfl
theorem d_method_4_16 : D method_4_code 16 (.castore) 1 17 := And.intro (by decide +kernel) rfl
theorem d_method_4_17 : D method_4_code 17 (.dup) 1 18 := And.intro (by decide +kernel) rfl
theorem d_method_4_18 : D method_4_code 18 (.iconst 1) 1 19 := And.intro (by decide +kernel) rfl
theorem d_method_4_19 : D method_4_code 19 (.bipush 115) 2 21 := And.intro (by decide +kernel) rfl
theorem d_method_4_21 : D method_4_code 21 (.castore) 1 22 := And.intro (by decide +kernel) rfl
theorem d_method_4_22 : D method_4_code 22 (.dup) 1 23 := And.intro (by decide +kernel) rfl
theorem d_method_4_23 : D method_4_code 23 (.iconst 2) 1 24 := And.intro (by decide +kernel) rfl
theorem d_method_4_24 : D method_4_code 24 (.bipush 97) 2 26 := And.intro (by decide +kernel) rfl
theorem d_method_4_26 : D method_4_code 26 (.castore) 1 27 := And.intro (by decide +kernel) rfl
theorem d_method_4_27 : D method_4_code 27 (.dup) 1 28 := And.intro (by decide +kernel) rfl
theorem d_method_4_28 : D method_4_code 28 (.iconst 3) 1 29 := And.intro (by decide +kernel) rfl
theorem d_method_4_29 : D method_4_code 29 (.bipush 103) 2 31 := And.intro (by decide +kernel) rfl
theorem d_method_4_31 : D method_4_code 31 (.castore) 1 32 := And.intro (by decide +kernel) rfl
theorem d_method_4_32 : D method_4_code 32 (.dup) 1 33 := And.intro (by decide +kernel) rfl
theorem d_method_4_33 : D method_4_code 33 (.iconst 4) 1 34 := And.intro (by decide +kernel) rfl
theorem d_method_4_34 : D method_4_code 34 (.bipush 101) 2 36 := And.intro (by decide +kernel) rfl
theorem d_method_4_36 : D method_4_code 36 (.castore) 1 37 := And.intro (by decide +kernel) rfl
theorem d_method_4_37 : D method_4_code 37 (.dup) 1 38 := And.intro (by decide +kernel) rfl
theorem d_method_4_38 : D method_4_code 38 (.iconst 5) 1 39 := And.intro (by decide +kernel) rfl
theorem d_method_4_39 : D method_4_code 39 (.bipush 58) 2 41 := And.intro (by decide +kernel) rfl
theorem d_method_4_41 : D method_4_code 41 (.castore) 1 42 := And.intro (by decide +kernel) rfl
theorem d_method_4_42 : D method_4_code 42 (.dup) 1 43 := And.intro (by decide +kernel) rfl
theorem d_method_4_43 : D method_4_code 43 (.bipush 6) 2 45 := And.intro (by decide +kernel) rfl
theorem d_method_4_45 : D method_4_code 45 (.bipush 32) 2 47 := And.intro (by decide +kernel) rfl
theorem d_method_4_47 : D method_4_code 47 (.castore) 1 48 := And.intro (by decide +kernel) rfl
theorem d_method_4_48 : D method_4_code 48 (.invokespecial 9) 3 51 := And.intro (by decide +kernel) rfl
theorem d_method_4_51 : D method_4_code 51 (.areturn) 1 52 := And.intro (by decide +kernel) rfl
theorem d_method_4_52 : D method_4_code 52 (.iload_n 0) 1 53 := And.intro (by decide +kernel) rfl
theorem d_method_4_53 : D method_4_code 53 (.iconst 1) 1 54 := And.intro (by decide +kernel) rfl
theorem d_method_4_54 : D method_4_code 54 (.if_icmp .ne 60) 3 57 := And.intro (by decide +kernel) rfl
theorem d_method_4_57 : D method_4_code 57 (.new 7) 3 60 := And.intro (by decide +kernel) rfl
theorem d_method_4_60 : D method_4_code 60 (.dup) 1 61 := And.intro (by decide +kernel) rfl
theorem d_method_4_61 : D method_4_code 61 (.bipush 8) 2 63 := And.intro (by decide +kernel) rfl
theorem d_method_4_63 : D method_4_code 63 (.newarray .char) 2 65 := And.intro (by decide +kernel) rfl
theorem d_method_4_65 : D method_4_code 65 (.dup) 1 66 := And.intro (by decide +kernel) rfl
theorem d_method_4_66 : D method_4_code 66 (.iconst 0) 1 67 := And.intro (by decide +kernel) rfl
theorem d_method_4_67 : D method_4_code 67 (.bipush 117) 2 69 := And.intro (by decide +kernel) rfl
theorem d_method_4_69 : D method_4_code 69 (.castore) 1 70 := And.intro (by decide +kernel) rfl
theorem d_method_4_70 : D method_4_code 70 (.dup) 1 71 := And.intro (by decide +kernel) rfl
theorem d_method_4_71 : D method_4_code 71 (.iconst 1) 1 72 := And.intro (by decide +kernel) rfl
theorem d_method_4_72 : D method_4_code 72 (.bipush 115) 2 74 := And.intro (by decide +kernel) rfl
theorem d_method_4_74 : D method_4_code 74 (.castore) 1 75 := And.intro (by decide +kernel) rfl
theorem d_method_4_75 : D method_4_code 75 (.dup) 1 76 := And.intro (by decide +kernel) rfl
theorem d_method_4_76 : D method_4_code 76 (.iconst 2) 1 77 := And.intro (by decide +kernel) rfl
theorem d_method_4_77 : D method_4_code 77 (.bipush 97) 2 79 := And.intro (by decide +kernel) rfl
theorem d_method_4_79 : D method_4_code 79 (.castore) 1 80 := And.intro (by decide +kernel) rfl
theorem d_method_4_80 : D method_4_code 80 (.dup) 1 81 := And.intro (by decide +kernel) rfl
theorem d_method_4_81 : D method_4_code 81 (.iconst 3) 1 82 := And.intro (by decide +kernel) rfl
theorem d_method_4_82 : D method_4_code 82 (.bipush 103) 2 84 := And.intro (by decide +kernel) rfl
theorem d_method_4_84 : D method_4_code 84 (.castore) 1 85 := And.intro (by decide +kernel) rfl
theorem d_method_4_85 : D method_4_code 85 (.dup) 1 86 := And.intro (by decide +kernel) rfl
theorem d_method_4_86 : D method_4_code 86 (.iconst 4) 1 87 := And.intro (by decide +kernel) rfl
theorem d_method_4_87 : D method_4_code 87 (.bipush 101) 2 89 := And.intro (by decide +kernel) rfl
theorem d_method_4_89 : D method_4_code 89 (.castore) 1 90 := And.intro (by decide +kernel) rfl
theorem d_method_4_90 : D method_4_code 90 (.dup) 1 91 := And.intro (by decide +kernel) rfl
theorem d_method_4_91 : D method_4_code 91 (.iconst 5) 1 92 := And.intro (by decide +kernel) rfl
theorem d_method_4_92 : D method_4_code 92 (.bipush 58) 2 94 := And.intro (by decide +kernel) rfl
theorem d_method_4_94 : D method_4_code 94 (.castore) 1 95 := And.intro (by decide +kernel) rfl
theorem d_method_4_95 : D method_4_code 95 (.dup) 1 96 := And.intro (by decide +kernel) rfl
theorem d_method_4_96 : D method_4_code 96 (.bipush 6) 2 98 := And.intro (by decide +kernel) rfl
theorem d_method_4_98 : D method_4_code 98 (.bipush 32) 2 100 := And.intro (by decide +kernel) rfl
theorem d_method_4_100 : D method_4_code 100 (.castore) 1 101 := And.intro (by decide +kernel) rfl
theorem d_method_4_101 : D method_4_code 101 (.dup) 1 102 := And.intro (by decide +kernel) rfl
theorem d_method_4_102 : D method_4_code 102 (.bipush 7) 2 104 := And.intro (by decide +kernel) rfl
theorem d_method_4_104 : D method_4_code 104 (.iload_n 1) 1 105 := And.intro (by decide +kernel) rfl
theorem d_method_4_105 : D method_4_code 105 (.iconst 0) 1 106 := And.intro (by decide +kernel) rfl
theorem d_method_4_106 : D method_4_code 106 (.invokestatic 12) 3 109 := And.intro (by decide +kernel) rfl
theorem d_method_4_109 : D method_4_code 109 (.castore) 1 110 := And.intro (by decide +kernel) rfl
theorem d_method_4_110 : D method_4_code 110 (.invokespecial 9) 3 113 := And.intro (by decide +kernel) rfl
theorem d_method_4_113 : D method_4_code 113 (.areturn) 1 114 := And.intro (by decide +kernel) rfl
theorem d_method_4_114 : D method_4_code 114 (.iload_n 0) 1 115 := And.intro (by decide +kernel) rfl
theorem d_method_4_115 : D method_4_code 115 (.iconst 2) 1 116 := And.intro (by decide +kernel) rfl
theorem d_method_4_116 : D method_4_code 116 (.if_icmp .ne 69) 3 119 := And.intro (by decide +kernel) rfl
theorem d_method_4_119 : D method_4_code 119 (.new 7) 3 122 := And.intro (by decide +kernel) rfl
theorem d_method_4_122 : D method_4_code 122 (.dup) 1 123 := And.intro (by decide +kernel) rfl
theorem d_method_4_123 : D method_4_code 123 (.bipush 9) 2 125 := And.intro (by decide +kernel) rfl
theorem d_method_4_125 : D method_4_code 125 (.newarray .char) 2 127 := And.intro (by decide +kernel) rfl
theorem d_method_4_127 : D method_4_code 127 (.dup) 1 128 := And.intro (by decide +kernel) rfl
theorem d_method_4_128 : D method_4_code 128 (.iconst 0) 1 129 := And.intro (by decide +kernel) rfl
theorem d_method_4_129 : D method_4_code 129 (.bipush 117) 2 131 := And.intro (by decide +kernel) rfl
theorem d_method_4_131 : D method_4_code 131 (.castore) 1 132 := And.intro (by decide +kernel) rfl
theorem d_method_4_132 : D method_4_code 132 (.dup) 1 133 := And.intro (by decide +kernel) rfl
theorem d_method_4_133 : D method_4_code 133 (.iconst 1) 1 134 := And.intro (by decide +kernel) rfl
theorem d_method_4_134 : D method_4_code 134 (.bipush 115) 2 136 := And.intro (by decide +kernel) rfl
theorem d_method_4_136 : D method_4_code 136 (.castore) 1 137 := And.intro (by decide +kernel) rfl
theorem d_method_4_137 : D method_4_code 137 (.dup) 1 138 := And.intro (by decide +kernel) rfl
theorem d_method_4_138 : D method_4_code 138 (.iconst 2) 1 139 := And.intro (by decide +kernel) rfl
theorem d_method_4_139 : D method_4_code 139 (.bipush 97) 2 141 := And.intro (by decide +kernel) rfl
theorem d_method_4_141 : D method_4_code 141 (.castore) 1 142 := And.intro (by decide +kernel) rfl
theorem d_method_4_142 : D method_4_code 142 (.dup) 1 143 := And.intro (by decide +kernel) rfl
theorem d_method_4_143 : D method_4_code 143 (.iconst 3) 1 144 := And.intro (by decide +kernel) rfl
theorem d_method_4_144 : D method_4_code 144 (.bipush 103) 2 146 := And.intro (by decide +kernel) rfl
theorem d_method_4_146 : D method_4_code 146 (.castore) 1 147 := And.intro (by decide +kernel) rfl
theorem d_method_4_147 : D method_4_code 147 (.dup) 1 148 := And.intro (by decide +kernel) rfl
theorem d_method_4_148 : D method_4_code 148 (.iconst 4) 1 149 := And.intro (by decide +kernel) rfl
theorem d_method_4_149 : D method_4_code 149 (.bipush 101) 2 151 := And.intro (by decide +kernel) rfl
theorem d_method_4_151 : D method_4_code 151 (.castore) 1 152 := And.intro (by decide +kernel) rfl
theorem d_method_4_152 : D method_4_code 152 (.dup) 1 153 := And.intro (by decide +kernel) rfl
theorem d_method_4_153 : D method_4_code 153 (.iconst 5) 1 154 := And.intro (by decide +kernel) rfl
theorem d_method_4_154 : D method_4_code 154 (.bipush 58) 2 156 := And.intro (by decide +kernel) rfl
theorem d_method_4_156 : D method_4_code 156 (.castore) 1 157 := And.intro (by decide +kernel) rfl
theorem d_method_4_157 : D method_4_code 157 (.dup) 1 158 := And.intro (by decide +kernel) rfl
theorem d_method_4_158 : D method_4_code 158 (.bipush 6) 2 160 := And.intro (by decide +kernel) rfl
theorem d_method_4_160 : D method_4_code 160 (.bipush 32) 2 162 := And.intro (by decide +kernel) rfl
theorem d_method_4_162 : D method_4_code 162 (.castore) 1 163 := And.intro (by decide +kernel) rfl
theorem d_method_4_163 : D method_4_code 163 (.dup) 1 164 := And.intro (by decide +kernel) rfl
theorem d_method_4_164 : D method_4_code 164 (.bipush 7) 2 166 := And.intro (by decide +kernel) rfl
theorem d_method_4_166 : D method_4_code 166 (.iload_n 1) 1 167 := And.intro (by decide +kernel) rfl
theorem d_method_4_167 : D method_4_code 167 (.iconst 0) 1 168 := And.intro (by decide +kernel) rfl
theorem d_method_4_168 : D method_4_code 168 (.invokestatic 12) 3 171 := And.intro (by decide +kernel) rfl
theorem d_method_4_171 : D method_4_code 171 (.castore) 1 172 := And.intro (by decide +kernel) rfl
theorem d_method_4_172 : D method_4_code 172 (.dup) 1 173 := And.intro (by decide +kernel) rfl
theorem d_method_4_173 : D method_4_code 173 (.bipush 8) 2 175 := And.intro (by decide +kernel) rfl
theorem d_method_4_175 : D method_4_code 175 (.iload_n 1) 1 176 := And.intro (by decide +kernel) rfl
theorem d_method_4_176 : D method_4_code 176 (.iconst 1) 1 177 := And.intro (by decide +kernel) rfl
theorem d_method_4_177 : D method_4_code 177 (.invokestatic 12) 3 180 := And.intro (by decide +kernel) rfl
theorem d_method_4_180 : D method_4_code 180 (.castore) 1 181 := And.intro (by decide +kernel) rfl
theorem d_method_4_181 : D method_4_code 181 (.invokespecial 9) 3 184 := And.intro (by decide +kernel) rfl
theorem d_method_4_184 : D method_4_code 184 (.areturn) 1 185 := And.intro (by decide +kernel) rfl
theorem d_method_4_185 : D method_4_code 185 (.new 7) 3 188 := And.intro (by decide +kernel) rfl
theorem d_method_4_188 : D method_4_code 188 (.dup) 1 189 := And.intro (by decide +kernel) rfl
theorem d_method_4_189 : D method_4_code 189 (.bipush 10) 2 191 := And.intro (by decide +kernel) rfl
theorem d_method_4_191 : D method_4_code 191 (.newarray .char) 2 193 := And.intro (by decide +kernel) rfl
theorem d_method_4_193 : D method_4_code 193 (.dup) 1 194 := And.intro (by decide +kernel) rfl
theorem d_method_4_194 : D method_4_code 194 (.iconst 0) 1 195 := And.intro (by decide +kernel) rfl
theorem d_method_4_195 : D method_4_code 195 (.bipush 117) 2 197 := And.intro (by decide +kernel) rfl
theorem d_method_4_197 : D method_4_code 197 (.castore) 1 198 := And.intro (by decide +kernel) rfl
theorem d_method_4_198 : D method_4_code 198 (.dup) 1 199 := And.intro (by decide +kernel) rfl
theorem d_method_4_199 : D method_4_code 199 (.iconst 1) 1 200 := And.intro (by decide +kernel) rfl
theorem d_method_4_200 : D method_4_code 200 (.bipush 115) 2 202 := And.intro (by decide +kernel) rfl
theorem d_method_4_202 : D method_4_code 202 (.castore) 1 203 := And.intro (by decide +kernel) rfl
theorem d_method_4_203 : D method_4_code 203 (.dup) 1 204 := And.intro (by decide +kernel) rfl
theorem d_method_4_204 : D method_4_code 204 (.iconst 2) 1 205 := And.intro (by decide +kernel) rfl
theorem d_method_4_205 : D method_4_code 205 (.bipush 97) 2 207 := And.intro (by decide +kernel) rfl
theorem d_method_4_207 : D method_4_code 207 (.castore) 1 208 := And.intro (by decide +kernel) rfl
theorem d_method_4_208 : D method_4_code 208 (.dup) 1 209 := And.intro (by decide +kernel) rfl
theorem d_method_4_209 : D method_4_code 209 (.iconst 3) 1 210 := And.intro (by decide +kernel) rfl
theorem d_method_4_210 : D method_4_code 210 (.bipush 103) 2 212 := And.intro (by decide +kernel) rfl
theorem d_method_4_212 : D method_4_code 212 (.castore) 1 213 := And.intro (by decide +kernel) rfl
theorem d_method_4_213 : D method_4_code 213 (.dup) 1 214 := And.intro (by decide +kernel) rfl
theorem d_method_4_214 : D method_4_code 214 (.iconst 4) 1 215 := And.intro (by decide +kernel) rfl
theorem d_method_4_215 : D method_4_code 215 (.bipush 101) 2 217 := And.intro (by decide +kernel) rfl
theorem d_method_4_217 : D method_4_code 217 (.castore) 1 218 := And.intro (by decide +kernel) rfl
theorem d_method_4_218 : D method_4_code 218 (.dup) 1 219 := And.intro (by decide +kernel) rfl
theorem d_method_4_219 : D method_4_code 219 (.iconst 5) 1 220 := And.intro (by decide +kernel) rfl
theorem d_method_4_220 : D method_4_code 220 (.bipush 58) 2 222 := And.intro (by decide +kernel) rfl
theorem d_method_4_222 : D method_4_code 222 (.castore) 1 223 := And.intro (by decide +kernel) rfl
theorem d_method_4_223 : D method_4_code 223 (.dup) 1 224 := And.intro (by decide +kernel) rfl
theorem d_method_4_224 : D method_4_code 224 (.bipush 6) 2 226 := And.intro (by decide +kernel) rfl
theorem d_method_4_226 : D method_4_code 226 (.bipush 32) 2 228 := And.intro (by decide +kernel) rfl
theorem d_method_4_228 : D method_4_code 228 (.castore) 1 229 := And.intro (by decide +kernel) rfl
theorem d_method_4_229 : D method_4_code 229 (.dup) 1 230 := And.intro (by decide +kernel) rfl
theorem d_method_4_230 : D method_4_code 230 (.bipush 7) 2 232 := And.intro (by decide +kernel) rfl
theorem d_method_4_232 : D method_4_code 232 (.iload_n 1) 1 233 := And.intro (by decide +kernel) rfl
theorem d_method_4_233 : D method_4_code 233 (.iconst 0) 1 234 := And.intro (by decide +kernel) rfl
theorem d_method_4_234 : D method_4_code 234 (.invokestatic 12) 3 237 := And.intro (by decide +kernel) rfl
theorem d_method_4_237 : D method_4_code 237 (.castore) 1 238 := And.intro (by decide +kernel) rfl
theorem d_method_4_238 : D method_4_code 238 (.dup) 1 239 := And.intro (by decide +kernel) rfl
theorem d_method_4_239 : D method_4_code 239 (.bipush 8) 2 241 := And.intro (by decide +kernel) rfl
theorem d_method_4_241 : D method_4_code 241 (.iload_n 1) 1 242 := And.intro (by decide +kernel) rfl
theorem d_method_4_242 : D method_4_code 242 (.iconst 1) 1 243 := And.intro (by decide +kernel) rfl
theorem d_method_4_243 : D method_4_code 243 (.invokestatic 12) 3 246 := And.intro (by decide +kernel) rfl
theorem d_method_4_246 : D method_4_code 246 (.castore) 1 247 := And.intro (by decide +kernel) rfl
theorem d_method_4_247 : D method_4_code 247 (.dup) 1 248 := And.intro (by decide +kernel) rfl
theorem d_method_4_248 : D method_4_code 248 (.bipush 9) 2 250 := And.intro (by decide +kernel) rfl
theorem d_method_4_250 : D method_4_code 250 (.iload_n 1) 1 251 := And.intro (by decide +kernel) rfl
theorem d_method_4_251 : D method_4_code 251 (.iconst 2) 1 252 := And.intro (by decide +kernel) rfl
theorem d_method_4_252 : D method_4_code 252 (.invokestatic 12) 3 255 := And.intro (by decide +kernel) rfl
theorem d_method_4_255 : D method_4_code 255 (.castore) 1 256 := And.intro (by decide +kernel) rfl
theorem d_method_4_256 : D method_4_code 256 (.invokespecial 9) 3 259 := And.intro (by decide +kernel) rfl
theorem d_method_4_259 : D method_4_code 259 (.areturn) 1 260 := And.intro (by decide +kernel) rfl
theorem d_jdk_22_1_0 : D jdk_22_method_1_code 0 (.aload_n 0) 1 1 := And.intro (by decide +kernel) rfl
theorem d_jdk_22_1_1 : D jdk_22_method_1_code 1 (.invokespecial 1) 3 4 := And.intro (by decide +kernel) rfl
theorem d_jdk_22_1_4 : D jdk_22_method_1_code 4 (.return_) 1 5 := And.intro (by decide +kernel) rfl
theorem pn7 : plainName "java/util/AbstractCollection" = true := by first | (simp [plainName, overriddenIn]; done) | decide +kernel
theorem d_jdk_71_1_0 : D jdk_71_method_1_code 0 (.aload_n 0) 1 1 := And.intro (by decide +kernel) rfl
theorem d_jdk_71_1_1 : D jdk_71_method_1_code 1 (.invokespecial 1) 3 4 := And.intro (by decide +kernel) rfl
theorem d_jdk_71_1_4 : D jdk_71_method_1_code 4 (.return_) 1 5 := And.intro (by decide +kernel) rfl
theorem pn8 : plainName "java/util/AbstractMap" = true := by first | (simp [plainName, overriddenIn]; done) | decide +kernel
theorem d_jdk_39_1_0 : D jdk_39_method_1_code 0 (.aload_n 0) 1 1 := And.intro (by decide +kernel) rfl
theorem d_jdk_39_1_1 : D jdk_39_method_1_code 1 (.invokespecial 1) 3 4 := And.intro (by decide +kernel) rfl
theorem pd21 : parseMethodDescriptor "()V" = some ⟨[], none⟩ := by decide +kernel
theorem d_jdk_39_1_4 : D jdk_39_method_1_code 4 (.aload_n 0) 1 5 := And.intro (by decide +kernel) rfl
theorem d_jdk_39_1_5 : D jdk_39_method_1_code 5 (.iconst 0) 1 6 := And.intro (by decide +kernel) rfl
theorem d_jdk_39_1_6 : D jdk_39_method_1_code 6 (.putfield 7) 3 9 := And.intro (by decide +kernel) rfl
theorem d_jdk_39_1_9 : D jdk_39_method_1_code 9 (.return_) 1 10 := And.intro (by decide +kernel) rfl
theorem pn9 : plainName "java/util/AbstractList" = true := by first | (simp [plainName, overriddenIn]; done) | decide +kernel
theorem d_jdk_38_2_0 : D jdk_38_method_2_code 0 (.aload_n 0) 1 1 := And.intro (by decide +kernel) rfl
theorem d_jdk_38_2_1 : D jdk_38_method_2_code 1 (.invokespecial 1) 3 4 := And.intro (by decide +kernel) rfl
theorem d_jdk_38_2_4 : D jdk_38_method_2_code 4 (.aload_n 0) 1 5 := And.intro (by decide +kernel) rfl
theorem d_jdk_38_2_5 : D jdk_38_method_2_code 5 (.getstatic 39) 3 8 := And.intro (by decide +kernel) rfl
theorem d_jdk_38_2_8 : D jdk_38_method_2_code 8 (.putfield 9) 3 11 := And.intro (by decide +kernel) rfl
theorem d_jdk_38_2_11 : D jdk_38_method_2_code 11 (.return_) 1 12 := And.intro (by decide +kernel) rfl
theorem pn10 : plainName "java/util/ArrayList" = true := by first | (simp [plainName, overriddenIn]; done) | decide +kernel
theorem d_jdk_69_7_0 : D jdk_69_method_7_code 0 (.aload_n 0) 1 1 := And.intro (by decide +kernel) rfl
theorem d_jdk_69_7_1 : D jdk_69_method_7_code 1 (.invokespecial 43) 3 4 := And.intro (by decide +kernel) rfl
theorem d_jdk_69_7_4 : D jdk_69_method_7_code 4 (.aload_n 0) 1 5 := And.intro (by decide +kernel) rfl
theorem d_jdk_69_7_5 : D jdk_69_method_7_code 5 (.ldc 92) 2 7 := And.intro (by decide +kernel) rfl
theorem d_jdk_69_7_7 : D jdk_69_method_7_code 7 (.putfield 81) 3 10 := And.intro (by decide +kernel) rfl
theorem d_jdk_69_7_10 : D jdk_69_method_7_code 10 (.return_) 1 11 := And.intro (by decide +kernel) rfl
theorem pn11 : plainName "java/util/HashMap" = true := by first | (simp [plainName, overriddenIn]; done) | decide +kernel
theorem d_jdk_49_1_0 : D jdk_49_method_1_code 0 (.aload_n 0) 1 1 := And.intro (by decide +kernel) rfl
theorem d_jdk_49_1_1 : D jdk_49_method_1_code 1 (.aload_n 1) 1 2 := And.intro (by decide +kernel) rfl
theorem d_jdk_49_1_2 : D jdk_49_method_1_code 2 (.putfield 1) 3 5 := And.intro (by decide +kernel) rfl
theorem d_jdk_49_1_5 : D jdk_49_method_1_code 5 (.aload_n 0) 1 6 := And.intro (by decide +kernel) rfl
theorem d_jdk_49_1_6 : D jdk_49_method_1_code 6 (.invokespecial 7) 3 9 := And.intro (by decide +kernel) rfl
theorem d_jdk_49_1_9 : D jdk_49_method_1_code 9 (.aload_n 0) 1 10 := And.intro (by decide +kernel) rfl
theorem d_jdk_49_1_10 : D jdk_49_method_1_code 10 (.iconst (-1)) 1 11 := And.intro (by decide +kernel) rfl
theorem d_jdk_49_1_11 : D jdk_49_method_1_code 11 (.putfield 13) 3 14 := And.intro (by decide +kernel) rfl
theorem d_jdk_49_1_14 : D jdk_49_method_1_code 14 (.aload_n 0) 1 15 := And.intro (by decide +kernel) rfl
theorem d_jdk_49_1_15 : D jdk_49_method_1_code 15 (.aload_n 0) 1 16 := And.intro (by decide +kernel) rfl
theorem d_jdk_49_1_16 : D jdk_49_method_1_code 16 (.getfield 1) 3 19 := And.intro (by decide +kernel) rfl
theorem d_jdk_49_1_19 : D jdk_49_method_1_code 19 (.getfield 17) 3 22 := And.intro (by decide +kernel) rfl
theorem d_jdk_49_1_22 : D jdk_49_method_1_code 22 (.putfield 22) 3 25 := And.intro (by decide +kernel) rfl
theorem d_jdk_49_1_25 : D jdk_49_method_1_code 25 (.return_) 1 26 := And.intro (by decide +kernel) rfl
theorem pn12 : plainName "java/util/ArrayList$Itr" = true := by first | (simp [plainName, overriddenIn]; done) | decide +kernel
theorem d_jdk_38_55_0 : D jdk_38_method_55_code 0 (.new 267) 3 3 := And.intro (by decide +kernel) rfl
theorem d_jdk_38_55_3 : D jdk_38_method_55_code 3 (.dup) 1 4 := And.intro (by decide +kernel) rfl
theorem d_jdk_38_55_4 : D jdk_38_method_55_code 4 (.aload_n 0) 1 5 := And.intro (by decide +kernel) rfl
theorem d_jdk_38_55_5 : D jdk_38_method_55_code 5 (.invokespecial 269) 3 8 := And.intro (by decide +kernel) rfl
theorem pd22 : parseMethodDescriptor "(Ljava/util/ArrayList;)V" = some ⟨[(.object "java/util/ArrayList")], none⟩ := by decide +kernel
theorem d_jdk_38_55_8 : D jdk_38_method_55_code 8 (.areturn) 1 9 := And.intro (by decide +kernel) rfl
theorem d_jdk_49_2_0 : D jdk_49_method_2_code 0 (.aload_n 0) 1 1 := And.intro (by decide +kernel) rfl
theorem d_jdk_49_2_1 : D jdk_49_method_2_code 1 (.getfield 25) 3 4 := And.intro (by decide +kernel) rfl
theorem d_jdk_49_2_4 : D jdk_49_method_2_code 4 (.aload_n 0) 1 5 := And.intro (by decide +kernel) rfl
theorem d_jdk_49_2_5 : D jdk_49_method_2_code 5 (.getfield 1) 3 8 := And.intro (by decide +kernel) rfl
theorem d_jdk_49_2_8 : D jdk_49_method_2_code 8 (.getfield 28) 3 11 := And.intro (by decide +kernel) rfl
theorem d_jdk_49_2_11 : D jdk_49_method_2_code 11 (.if_icmp .eq 7) 3 14 := And.intro (by decide +kernel) rfl
theorem d_jdk_49_2_18 : D jdk_49_method_2_code 18 (.iconst 0) 1 19 := And.intro (by decide +kernel) rfl
theorem d_jdk_49_2_19 : D jdk_49_method_2_code 19 (.ireturn) 1 20 := And.intro (by decide +kernel) rfl
theorem d_prog_1_1_0 : D prog_1_method_1_code 0 (.aload_n 0) 1 1 := And.intro (by decide +kernel) rfl
theorem d_prog_1_1_1 : D prog_1_method_1_code 1 (.invokespecial 1) 3 4 := And.intro (by decide +kernel) rfl
theorem d_prog_1_1_4 : D prog_1_method_1_code 4 (.aload_n 0) 1 5 := And.intro (by decide +kernel) rfl
theorem d_prog_1_1_5 : D prog_1_method_1_code 5 (.new 7) 3 8 := And.intro (by decide +kernel) rfl
theorem d_prog_1_1_8 : D prog_1_method_1_code 8 (.dup) 1 9 := And.intro (by decide +kernel) rfl
theorem d_prog_1_1_9 : D prog_1_method_1_code 9 (.invokespecial 9) 3 12 := And.intro (by decide +kernel) rfl
theorem d_prog_1_1_12 : D prog_1_method_1_code 12 (.putfield 10) 3 15 := And.intro (by decide +kernel) rfl
theorem d_prog_1_1_15 : D prog_1_method_1_code 15 (.aload_n 0) 1 16 := And.intro (by decide +kernel) rfl
theorem d_prog_1_1_16 : D prog_1_method_1_code 16 (.new 16) 3 19 := And.intro (by decide +kernel) rfl
theorem d_prog_1_1_19 : D prog_1_method_1_code 19 (.dup) 1 20 := And.intro (by decide +kernel) rfl
theorem d_prog_1_1_20 : D prog_1_method_1_code 20 (.invokespecial 18) 3 23 := And.intro (by decide +kernel) rfl
theorem d_prog_1_1_23 : D prog_1_method_1_code 23 (.putfield 19) 3 26 := And.intro (by decide +kernel) rfl
theorem d_prog_1_1_26 : D prog_1_method_1_code 26 (.aload_n 0) 1 27 := And.intro (by decide +kernel) rfl
theorem d_prog_1_1_27 : D prog_1_method_1_code 27 (.aload_n 2) 1 28 := And.intro (by decide +kernel) rfl
theorem d_prog_1_1_28 : D prog_1_method_1_code 28 (.putfield 23) 3 31 := And.intro (by decide +kernel) rfl
theorem d_prog_1_1_31 : D prog_1_method_1_code 31 (.aload_n 0) 1 32 := And.intro (by decide +kernel) rfl
theorem d_prog_1_1_32 : D prog_1_method_1_code 32 (.aload 4) 2 34 := And.intro (by decide +kernel) rfl
theorem d_prog_1_1_34 : D prog_1_method_1_code 34 (.putfield 26) 3 37 := And.intro (by decide +kernel) rfl
theorem d_prog_1_1_37 : D prog_1_method_1_code 37 (.aload_n 1) 1 38 := And.intro (by decide +kernel) rfl
theorem d_prog_1_1_38 : D prog_1_method_1_code 38 (.invokeinterface 30 1) 5 43 := And.intro (by decide +kernel) rfl
theorem pd23 : parseMethodDescriptor "()Ljava/util/Iterator;" = some ⟨[], some (.object "java/util/Iterator")⟩ := by decide +kernel
theorem d_prog_1_1_43 : D prog_1_method_1_code 43 (.astore 5) 2 45 := And.intro (by decide +kernel) rfl
theorem d_prog_1_1_45 : D prog_1_method_1_code 45 (.aload 5) 2 47 := And.intro (by decide +kernel) rfl
theorem d_prog_1_1_47 : D prog_1_method_1_code 47 (.invokeinterface 36 1) 5 52 := And.intro (by decide +kernel) rfl
theorem d_prog_1_1_52 : D prog_1_method_1_code 52 (.ifCond .eq 205) 3 55 := And.intro (by decide +kernel) rfl
theorem d_prog_1_1_257 : D prog_1_method_1_code 257 (.return_) 1 258 := And.intro (by decide +kernel) rfl
theorem pn13 : plainName "com/example/epochmark/epochmark/cli/Arguments" = true := by first | (simp [plainName, overriddenIn]; done) | decide +kernel
theorem d_jdk_78_2_0 : D jdk_78_method_2_code 0 (.aload_n 0) 1 1 := And.intro (by decide +kernel) rfl
theorem d_jdk_78_2_1 : D jdk_78_method_2_code 1 (.invokespecial 1) 3 4 := And.intro (by decide +kernel) rfl
theorem d_jdk_78_2_4 : D jdk_78_method_2_code 4 (.aload_n 0) 1 5 := And.intro (by decide +kernel) rfl
theorem d_jdk_78_2_5 : D jdk_78_method_2_code 5 (.aload_n 0) 1 6 := And.intro (by decide +kernel) rfl
theorem d_jdk_78_2_6 : D jdk_78_method_2_code 6 (.putfield 7) 3 9 := And.intro (by decide +kernel) rfl
theorem d_jdk_78_2_9 : D jdk_78_method_2_code 9 (.aload_n 0) 1 10 := And.intro (by decide +kernel) rfl
theorem d_jdk_78_2_10 : D jdk_78_method_2_code 10 (.getstatic 13) 3 13 := And.intro (by decide +kernel) rfl
theorem d_jdk_78_2_13 : D jdk_78_method_2_code 13 (.putfield 17) 3 16 := And.intro (by decide +kernel) rfl
theorem d_jdk_78_2_16 : D jdk_78_method_2_code 16 (.aload_n 0) 1 17 := And.intro (by decide +kernel) rfl
theorem d_jdk_78_2_17 : D jdk_78_method_2_code 17 (.getstatic 20) 3 20 := And.intro (by decide +kernel) rfl
theorem d_jdk_78_2_20 : D jdk_78_method_2_code 20 (.putfield 24) 3 23 := And.intro (by decide +kernel) rfl
theorem d_jdk_78_2_23 : D jdk_78_method_2_code 23 (.aload_n 0) 1 24 := And.intro (by decide +kernel) rfl
theorem d_jdk_78_2_24 : D jdk_78_method_2_code 24 (.invokevirtual 27) 3 27 := And.intro (by decide +kernel) rfl
theorem d_jdk_78_2_27 : D jdk_78_method_2_code 27 (.pop) 1 28 := And.intro (by decide +kernel) rfl
theorem d_jdk_78_2_28 : D jdk_78_method_2_code 28 (.aload_n 0) 1 29 := And.intro (by decide +kernel) rfl
theorem d_jdk_78_2_29 : D jdk_78_method_2_code 29 (.aload_n 1) 1 30 := And.intro (by decide +kernel) rfl
theorem d_jdk_78_2_30 : D jdk_78_method_2_code 30 (.putfield 31) 3 33 := And.intro (by decide +kernel) rfl
theorem d_jdk_78_2_33 : D jdk_78_method_2_code 33 (.return_) 1 34 := And.intro (by decide +kernel) rfl
theorem pn14 : plainName "java/lang/Throwable" = true := by first | (simp [plainName, overriddenIn]; done) | decide +kernel
theorem d_jdk_59_2_0 : D jdk_59_method_2_code 0 (.aload_n 0) 1 1 := And.intro (by decide +kernel) rfl
theorem d_jdk_59_2_1 : D jdk_59_method_2_code 1 (.aload_n 1) 1 2 := And.intro (by decide +kernel) rfl
theorem d_jdk_59_2_2 : D jdk_59_method_2_code 2 (.invokespecial 7) 3 5 := And.intro (by decide +kernel) rfl
theorem d_jdk_59_2_5 : D jdk_59_method_2_code 5 (.return_) 1 6 := And.intro (by decide +kernel) rfl
theorem pn15 : plainName "java/lang/Exception" = true := by first | (simp [plainName, overriddenIn]; done) | decide +kernel
theorem d_prog_3_1_0 : D prog_3_method_1_code 0 (.aload_n 0) 1 1 := And.intro (by decide +kernel) rfl
theorem d_prog_3_1_1 : D prog_3_method_1_code 1 (.aload_n 1) 1 2 := And.intro (by decide +kernel) rfl
theorem d_prog_3_1_2 : D prog_3_method_1_code 2 (.invokespecial 1) 3 5 := And.intro (by decide +kernel) rfl
theorem d_prog_3_1_5 : D prog_3_method_1_code 5 (.aload_n 0) 1 6 := And.intro (by decide +kernel) rfl
theorem d_prog_3_1_6 : D prog_3_method_1_code 6 (.aload_n 2) 1 7 := And.intro (by decide +kernel) rfl
theorem d_prog_3_1_7 : D prog_3_method_1_code 7 (.putfield 7) 3 10 := And.intro (by decide +kernel) rfl
theorem d_prog_3_1_10 : D prog_3_method_1_code 10 (.return_) 1 11 := And.intro (by decide +kernel) rfl
theorem pn16 : plainName "com/example/epochmark/epochmark/cli/UsageException" = true := by first | (simp [plainName, overriddenIn]; done) | decide +kernel
theorem d_prog_1_6_0 : D prog_1_method_6_code 0 (.new 137) 3 3 := And.intro (by decide +kernel) rfl
theorem d_prog_1_6_3 : D prog_1_method_6_code 3 (.dup) 1 4 := And.intro (by decide +kernel) rfl
theorem d_prog_1_6_4 : D prog_1_method_6_code 4 (.aload_n 1) 1 5 := And.intro (by decide +kernel) rfl
theorem d_prog_1_6_5 : D prog_1_method_6_code 5 (.new 54) 3 8 := And.intro (by decide +kernel) rfl
theorem d_prog_1_6_8 : D prog_1_method_6_code 8 (.dup) 1 9 := And.intro (by decide +kernel) rfl
theorem d_prog_1_6_9 : D prog_1_method_6_code 9 (.invokespecial 56) 3 12 := And.intro (by decide +kernel) rfl
theorem d_prog_1_6_12 : D prog_1_method_6_code 12 (.ldc 139) 2 14 := And.intro (by decide +kernel) rfl
theorem d_prog_1_6_14 : D prog_1_method_6_code 14 (.invokevirtual 57) 3 17 := And.intro (by decide +kernel) rfl
theorem pd24 : parseMethodDescriptor "(Ljava/lang/String;)Ljava/lang/StringBuilder;" = some ⟨[(.object "java/lang/String")], some (.object "java/lang/StringBuilder")⟩ := by decide +kernel
theorem d_prog_1_6_17 : D prog_1_method_6_code 17 (.aload_n 0) 1 18 := And.intro (by decide +kernel) rfl
theorem d_prog_1_6_18 : D prog_1_method_6_code 18 (.getfield 26) 3 21 := And.intro (by decide +kernel) rfl
theorem d_prog_1_6_21 : D prog_1_method_6_code 21 (.invokevirtual 57) 3 24 := And.intro (by decide +kernel) rfl
theorem d_prog_1_6_24 : D prog_1_method_6_code 24 (.invokevirtual 67) 3 27 := And.intro (by decide +kernel) rfl
theorem pd25 : parseMethodDescriptor "()Ljava/lang/String;" = some ⟨[], some (.object "java/lang/String")⟩ := by decide +kernel
theorem d_prog_1_6_27 : D prog_1_method_6_code 27 (.invokespecial 141) 3 30 := And.intro (by decide +kernel) rfl
theorem pd26 : parseMethodDescriptor "(Ljava/lang/String;Ljava/lang/String;)V" = some ⟨[(.object "java/lang/String"), (.object "java/lang/String")], none⟩ := by decide +kernel
theorem d_prog_1_6_30 : D prog_1_method_6_code 30 (.areturn) 1 31 := And.intro (by decide +kernel) rfl
theorem d_jdk_78_6_0 : D jdk_78_method_6_code 0 (.aload_n 0) 1 1 := And.intro (by decide +kernel) rfl
theorem d_jdk_78_6_1 : D jdk_78_method_6_code 1 (.getfield 31) 3 4 := And.intro (by decide +kernel) rfl
theorem d_jdk_78_6_4 : D jdk_78_method_6_code 4 (.areturn) 1 5 := And.intro (by decide +kernel) rfl
theorem d_prog_3_2_0 : D prog_3_method_2_code 0 (.aload_n 0) 1 1 := And.intro (by decide +kernel) rfl
theorem d_prog_3_2_1 : D prog_3_method_2_code 1 (.getfield 7) 3 4 := And.intro (by decide +kernel) rfl
theorem d_prog_3_2_4 : D prog_3_method_2_code 4 (.areturn) 1 5 := And.intro (by decide +kernel) rfl
theorem d_code_0 : D code 0 (.iload_n 2) 1 1 := And.intro at_0 rfl
theorem d_code_1 : D code 1 (.iconst 3) 1 2 := And.intro at_1 rfl
theorem d_code_2 : D code 2 (.iand) 1 3 := And.intro at_2 rfl
theorem d_code_3 : D code 3 (.istore_n 3) 1 4 := And.intro at_3 rfl
theorem d_code_4 : D code 4 (.iload_n 2) 1 5 := And.intro at_4 rfl
theorem d_code_5 : D code 5 (.iconst 2) 1 6 := And.intro at_5 rfl
theorem d_code_6 : D code 6 (.iushr) 1 7 := And.intro at_6 rfl
theorem d_code_7 : D code 7 (.iconst 3) 1 8 := And.intro at_7 rfl
theorem d_code_8 : D code 8 (.iand) 1 9 := And.intro at_8 rfl
theorem d_code_9 : D code 9 (.istore 4) 2 11 := And.intro at_9 rfl
theorem d_code_11 : D code 11 (.iload_n 3) 1 12 := And.intro at_11 rfl
theorem d_code_12 : D code 12 (.iload_n 0) 1 13 := And.intro at_12 rfl
theorem d_code_13 : D code 13 (.invokestatic 18) 3 16 := And.intro at_13 rfl
theorem pd27 : parseMethodDescriptor "(II)Ljava/lang/String;" = some ⟨[.int, .int], some (.object "java/lang/String")⟩ := by decide +kernel
theorem d_code_16 : D code 16 (.astore 5) 2 18 := And.intro at_16 rfl
theorem d_code_18 : D code 18 (.iload 4) 2 20 := And.intro at_18 rfl
theorem d_code_20 : D code 20 (.iload_n 1) 1 21 := And.intro at_20 rfl
theorem d_code_21 : D code 21 (.invokestatic 18) 3 24 := And.intro at_21 rfl
theorem d_code_24 : D code 24 (.astore 6) 2 26 := And.intro at_24 rfl
theorem d_code_26 : D code 26 (.iload 4) 2 28 := And.intro at_26 rfl
theorem d_code_28 : D code 28 (.iload_n 1) 1 29 := And.intro at_28 rfl
theorem d_code_29 : D code 29 (.invokestatic 22) 3 32 := And.intro at_29 rfl
theorem d_code_32 : D code 32 (.astore 7) 2 34 := And.intro at_32 rfl
theorem d_code_34 : D code 34 (.new 25) 3 37 := And.intro at_34 rfl
theorem d_code_37 : D code 37 (.dup) 1 38 := And.intro at_37 rfl
theorem d_code_38 : D code 38 (.new 27) 3 41 := And.intro at_38 rfl
theorem d_code_41 : D code 41 (.dup) 1 42 := And.intro at_41 rfl
theorem d_code_42 : D code 42 (.invokespecial 29) 3 45 := And.intro at_42 rfl
theorem d_code_45 : D code 45 (.aconst_null) 1 46 := And.intro at_45 rfl
theorem d_code_46 : D code 46 (.aconst_null) 1 47 := And.intro at_46 rfl
theorem d_code_47 : D code 47 (.aload 6) 2 49 := And.intro at_47 rfl
theorem d_code_49 : D code 49 (.invokespecial 30) 3 52 := And.intro at_49 rfl
theorem pd28 : parseMethodDescriptor "(Ljava/util/List;Ljava/util/Map;Ljava/util/Set;Ljava/lang/String;)V" = some ⟨[(.object "java/util/List"), (.object "java/util/Map"), (.object "java/util/Set"), (.object "java/lang/String")], none⟩ := by decide +kernel
theorem d_code_52 : D code 52 (.astore 8) 2 54 := And.intro at_52 rfl
theorem d_code_54 : D code 54 (.aload 8) 2 56 := And.intro at_54 rfl
theorem d_code_56 : D code 56 (.aload 5) 2 58 := And.intro at_56 rfl
theorem d_code_58 : D code 58 (.invokevirtual 33) 3 61 := And.intro at_58 rfl
theorem pd29 : parseMethodDescriptor "(Ljava/lang/String;)Lcom/example/epochmark/epochmark/cli/UsageException;" = some ⟨[(.object "java/lang/String")], some (.object "com/example/epochmark/epochmark/cli/UsageException")⟩ := by decide +kernel
theorem d_code_61 : D code 61 (.astore 9) 2 63 := And.intro at_61 rfl
theorem d_code_63 : D code 63 (.aload 9) 2 65 := And.intro at_63 rfl
theorem d_code_65 : D code 65 (.ifnonnull 5) 3 68 := And.intro at_65 rfl
theorem d_code_70 : D code 70 (.aload 5) 2 72 := And.intro at_70 rfl
theorem d_code_72 : D code 72 (.aload 9) 2 74 := And.intro at_72 rfl
theorem d_code_74 : D code 74 (.invokevirtual 37) 3 77 := And.intro at_74 rfl
theorem d_code_77 : D code 77 (.invokevirtual 43) 3 80 := And.intro at_77 rfl
theorem pd30 : parseMethodDescriptor "(Ljava/lang/Object;)Z" = some ⟨[(.object "java/lang/Object")], some .boolean⟩ := by decide +kernel
theorem d_code_80 : D code 80 (.ifCond .eq 20) 3 83 := And.intro at_80 rfl
theorem d_code_83 : D code 83 (.aload 7) 2 85 := And.intro at_83 rfl
theorem d_code_85 : D code 85 (.aload 9) 2 87 := And.intro at_85 rfl
theorem d_code_87 : D code 87 (.invokevirtual 47) 3 90 := And.intro at_87 rfl
theorem d_code_90 : D code 90 (.invokevirtual 43) 3 93 := And.intro at_90 rfl
theorem d_code_93 : D code 93 (.ifCond .eq 7) 3 96 := And.intro at_93 rfl
theorem d_code_96 : D code 96 (.iconst 1) 1 97 := And.intro at_96 rfl
theorem d_code_97 : D code 97 (.goto 4) 3 100 := And.intro at_97 rfl
theorem d_code_101 : D code 101 (.ireturn) 1 102 := And.intro at_101 rfl
theorem own_EW {Z : State} {a0 : Array Value} (hw : ∀ d ∈ tables_1, d.before a0 Z = true) : EW Z a0 own_EL := (EW.cons (w164 hw) (by decide) (EW.cons (w37 hw) (by decide) EW.nil))
theorem wS {Z : State} {a0 : Array Value} (hw : ∀ d ∈ tables_1, d.before a0 Z = true) : ∀ a ∈ Bundle.stringAtoms, a.before a0 Z = true := fun a ha => hw a ((by decide +kernel : ∀ a ∈ Bundle.stringAtoms, a ∈ tables_1) a ha)
theorem own_mk {s : State} (h : tablesKnown s = true) : s.vm.MethodsKnown := fun m x hm => by
  obtain ⟨k, hk, hx⟩ := Option.bind_eq_some_iff.mp hm
  refine ⟨k, hk, fun cf hcf => ?_⟩
  have q := Array.all_eq_true_iff_forall_mem.mp h k (Array.mem_of_getElem? hk)
  have q' : k.methods.size = cf.methods.size := by simpa [hcf] using q
  have hlt := (Array.getElem?_eq_some_iff.mp hx).1
  simp [← q', hlt]
theorem own_km {vm : Vm} {m : MethodId} (h : methodKnown vm m = true) : vm.knowsMethod m := by
  unfold methodKnown at h
  split at h
  · rename_i k hk
    refine ⟨k, hk, fun cf hcf => ?_⟩
    rw [hcf] at h; exact h
  · cases h
theorem own_fk {s : State} {m : MethodId} {args : Array Value} {below : List Frame} (h : framesKnown s = true) (hf : s.frames = .invoking m args :: below) : s.vm.FramesKnown below := fun f hm m' e => by
  have q := List.all_eq_true.mp h f (by rw [hf]; exact List.mem_cons_of_mem _ hm)
  cases f with
  | java g => cases e; exact own_km q
  | native g => cases e; exact own_km q
  | _ => cases e
theorem own_wx {Z : State} {a0 : Array Value} (hw : ∀ d ∈ tables_1, d.before a0 Z = true) : ∀ c ∈ Jvm.Free.Exc.excAtoms "com/example/epochmark/epochmark/cli/UsageException", c ≠ noS → c.before a0 Z = true := fun c q r => hw c ((by decide +kernel : ∀ c ∈ Jvm.Free.Exc.excAtoms "com/example/epochmark/epochmark/cli/UsageException", c ≠ noS → c ∈ tables_1) c q r)
set_option maxRecDepth 65536 in
set_option maxHeartbeats 40000000 in
theorem ct_cmp5 (l : Launch) (Z : State) (a0 : Array Value) (hw : ∀ d ∈ tables_1, d.before a0 Z = true) (n0 : Nat) (h0 : Heap) (a b : Addr) (cs : List Int32) (vs : List Value) (A0 : Av Z h0 a .char (cs.map Value.int)) (B0 : Av Z h0 b .byte vs) (hlen : vs.length = cs.length) (hR : ∀ c ∈ cs, Rg c 256) : Ct l Z a0 own_EL false (⟨"java/lang/StringUTF16", "compress", "([CI[BII)I"⟩ : MethodName) jdk_52_method_21_code 7 (Option.some Jvm.ClassFile.FieldType.int) ({ frames := 0, cells := 0, slots := 0, locals := 0 } : Room) #[(.ref a), (.int (0 : Int32)), (.ref b), (.int (0 : Int32)), (.int (Int32.ofNat cs.length))] h0 [b] n0 (fun v h so => v = some (.int (Int32.ofNat cs.length)) ∧ Keep h0 h [b] ∧ Av Z h b .byte ((cs.map i2b).map Value.int)) := by
  refine Ct.body (plainFor_of_name pn0) ?_
  intro p e s m below meth c T W
  refine WP.cast (g' := (mkF m 0 #[.val (.ref a), .val (.int (0 : Int32)), .val (.ref b), .val (.int (0 : Int32)), .val (.int (Int32.ofNat cs.length)), .unset, .unset] [])) (by simp [entryFrame, mkF, argsToLocals, cat_i, cat_l, cat_r, cat_n]) ?_
  have hN : cs.length < 2147483648 := by have := A0.len; simpa using this
  have hab : a ≠ b := ne_av A0 B0 (by decide)
  refine k_iconst W d_jdk_52_21_0 (z := (0 : Int32)) rfl ?_
  refine k_istore W d_jdk_52_21_1 (L' := #[.val (.ref a), .val (.int (0 : Int32)), .val (.ref b), .val (.int (0 : Int32)), .val (.int (Int32.ofNat cs.length)), .val (.int (0 : Int32)), .unset]) rfl ?_
  have loop : ∀ (k i : Nat) (T : State) (h : Heap) (s6 : Slot), i + k = cs.length → (s6 = .unset ∨ ∃ w, s6 = .val w ∧ w.category = 1) → WS p l e ({ frames := 0, cells := 0, slots := 0, locals := 0 } : Room) s m #[(.ref a), (.int (0 : Int32)), (.ref b), (.int (0 : Int32)), (.int (Int32.ofNat cs.length))] below meth c Z a0 own_EL false n0 (⟨"java/lang/StringUTF16", "compress", "([CI[BII)I"⟩ : MethodName) jdk_52_method_21_code 7 (Option.some Jvm.ClassFile.FieldType.int) T h [b] 0 0 → Keep h0 h [b] → Av Z h b .byte (((cs.take i).map i2b).map Value.int ++ vs.drop i) → WP p e below (Fne s n0 Z own_EL false ({ frames := 0, cells := 0, slots := 0, locals := 0 } : Room) (fun v h so => v = some (.int (Int32.ofNat cs.length)) ∧ Keep h0 h [b] ∧ Av Z h b .byte ((cs.map i2b).map Value.int))) T (mkF m 3 #[.val (.ref a), .val (.int (Int32.ofNat i)), .val (.ref b), .val (.int (Int32.ofNat i)), .val (.int (Int32.ofNat cs.length)), .val (.int (Int32.ofNat i)), s6] []) := by
    intro k
    induction k with
    | zero =>
      intro i T h s6 hi h6 W KB AB
      obtain rfl : i = cs.length := by omega
      refine k_iload W d_jdk_52_21_3 rfl ?_
      refine k_iload W d_jdk_52_21_5 rfl ?_
      refine k_icY W 44 d_jdk_52_21_7 (by decide) (show ¬ (Int32.ofNat cs.length) < (Int32.ofNat cs.length) from (of_ge (Nat.le_refl _) hN)) ?_
      refine k_iload W d_jdk_52_21_44 rfl ?_
      exact k_ireturn W d_jdk_52_21_46 rfl [] (fun x hx => nomatch hx) (Nat.le_of_ble_eq_true rfl) (Nat.le_of_ble_eq_true rfl) ⟨rfl, KB, by rw [List.take_length, List.drop_eq_nil_of_le (by omega), List.append_nil] at AB; exact AB⟩
    | succ k ih =>
      intro i T h s6 hi h6 W KB AB
      have hlt : i < cs.length := by omega
      obtain ⟨ci, hci⟩ : ∃ c, cs[i]? = some c := ⟨_, List.getElem?_eq_getElem hlt⟩
      have hRi : Rg ci 256 := hR _ (List.mem_of_getElem? hci)
      refine k_iload W d_jdk_52_21_3 rfl ?_
      refine k_iload W d_jdk_52_21_5 rfl ?_
      refine k_icN W d_jdk_52_21_7 (show ¬ (¬ (Int32.ofNat i) < (Int32.ofNat cs.length)) from (fun q => q (of_lt hlt hN))) ?_
      refine k_aloadN W d_jdk_52_21_10 rfl rfl ?_
      refine k_iloadN W d_jdk_52_21_11 rfl ?_
      refine k_caload W (v := (.int ci)) i d_jdk_52_21_12 (A0.keep KB (nin1 hab)) (ix_of (by omega)) (by simp [hci]) ?_
      refine k_istore W d_jdk_52_21_13 (L' := #[.val (.ref a), .val (.int (Int32.ofNat i)), .val (.ref b), .val (.int (Int32.ofNat i)), .val (.int (Int32.ofNat cs.length)), .val (.int (Int32.ofNat i)), .val (.int ci)]) (XS.store1 rfl h6 rfl) ?_
      refine k_iload W d_jdk_52_21_15 rfl ?_
      refine k_sipush W d_jdk_52_21_17 (z := (255 : Int32)) rfl ?_
      refine k_icY W 26 d_jdk_52_21_20 (by decide) (show ¬ (255 : Int32) < ci from (Rg.le255 hRi)) ?_
      refine k_aloadN W d_jdk_52_21_26 rfl rfl ?_
      refine k_iloadN W d_jdk_52_21_27 rfl ?_
      refine k_iload W d_jdk_52_21_28 rfl ?_
      refine k_i2b W d_jdk_52_21_30 (z := (i2b ci)) rfl ?_
      refine k_bastore W (z := (i2b ci)) i d_jdk_52_21_31 (List.mem_of_getElem? (i := 0) rfl) AB (ix_of (by omega)) (by simp; omega) (nar_i2b _) (fits_i2b _) fun T h1 W Wr1 A1 => ?_
      have K1 : Keep h h1 [b] := Keep.of_wr Wr1
      refine k_iinc W d_jdk_52_21_32 rfl (z := (Int32.ofNat (i + 1))) (of_succ i) (L' := #[.val (.ref a), .val (.int (Int32.ofNat (i + 1))), .val (.ref b), .val (.int (Int32.ofNat i)), .val (.int (Int32.ofNat cs.length)), .val (.int (Int32.ofNat i)), .val (.int ci)]) rfl ?_
      refine k_iinc W d_jdk_52_21_35 rfl (z := (Int32.ofNat (i + 1))) (of_succ i) (L' := #[.val (.ref a), .val (.int (Int32.ofNat (i + 1))), .val (.ref b), .val (.int (Int32.ofNat (i + 1))), .val (.int (Int32.ofNat cs.length)), .val (.int (Int32.ofNat i)), .val (.int ci)]) rfl ?_
      refine k_iinc W d_jdk_52_21_38 rfl (z := (Int32.ofNat (i + 1))) (of_succ i) (L' := #[.val (.ref a), .val (.int (Int32.ofNat (i + 1))), .val (.ref b), .val (.int (Int32.ofNat (i + 1))), .val (.int (Int32.ofNat cs.length)), .val (.int (Int32.ofNat (i + 1))), .val (.int ci)]) rfl ?_
      refine k_goto W 3 d_jdk_52_21_41 (by decide) ?_
      refine ih (i + 1) T h1 _ (by omega) (Or.inr ⟨_, rfl, rfl⟩) W (KB.trans K1 (fun x hx => Or.inl hx)) ?_
      have hh := A1
      rw [cmp_step hci hlen] at hh; exact hh
  exact loop cs.length 0 T h0 .unset (by omega) (Or.inl rfl) W (Keep.refl _ _) (by simpa using B0)
set_option maxRecDepth 65536 in
set_option maxHeartbeats 40000000 in
theorem ct_cmp3 (l : Launch) (Z : State) (a0 : Array Value) (hw : ∀ d ∈ tables_1, d.before a0 Z = true) (n0 : Nat) (h0 : Heap) (a : Addr) (cs : List Int32) (N : Nat) (A0 : Av Z h0 a .char (cs.map Value.int)) (hR : ∀ c ∈ cs, Rg c 256) (hN : cs.length ≤ N) (hN2 : N ≤ 67108864) : Ct l Z a0 own_EL false (⟨"java/lang/StringUTF16", "compress", "([CII)[B"⟩ : MethodName) jdk_52_method_16_code 6 (Option.some (Jvm.ClassFile.FieldType.array Jvm.ClassFile.FieldType.byte)) ({ frames := 1, cells := 1, slots := N, locals := 18 } : Room) #[(.ref a), (.int (0 : Int32)), (.int (Int32.ofNat cs.length))] h0 [] n0 (fun v h so => ∃ b, v = some (.ref b) ∧ h0.size ≤ b ∧ Keep h0 h [] ∧ Av Z h b .byte ((cs.map i2b).map Value.int)) := by
  refine Ct.body (plainFor_of_name pn0) ?_
  intro p e s m below meth c T W
  refine WP.cast (g' := (mkF m 0 #[.val (.ref a), .val (.int (0 : Int32)), .val (.int (Int32.ofNat cs.length)), .unset, .unset, .unset] [])) (by simp [entryFrame, mkF, argsToLocals, cat_i, cat_l, cat_r, cat_n]) ?_
  refine k_iloadN W d_jdk_52_16_0 rfl ?_
  refine k_newarr W cs.length 1 (0 + cs.length) d_jdk_52_16_1 (w26 hw) (ix_of (by omega)) (by omega) ⟨rfl, Nat.le_of_ble_eq_true rfl⟩ ⟨rfl, (by show 0 + cs.length ≤ N; omega)⟩ fun T h2 a3 g3 W E3 A3 => ?_
  have K3 : Keep h0 h2 [] := keep_ext E3 []
  have A3 : Av Z h2 a3 .byte (List.replicate cs.length (defaultValue .byte)) := A3
  refine k_astoreN W d_jdk_52_16_3 rfl (L' := #[.val (.ref a), .val (.int (0 : Int32)), .val (.int (Int32.ofNat cs.length)), .val (.ref a3), .unset, .unset]) rfl ?_
  refine k_aloadN W d_jdk_52_16_4 rfl rfl ?_
  refine k_iloadN W d_jdk_52_16_5 rfl ?_
  refine k_aloadN W d_jdk_52_16_6 rfl rfl ?_
  refine k_iconst W d_jdk_52_16_7 (z := (0 : Int32)) rfl ?_
  refine k_iloadN W d_jdk_52_16_8 rfl ?_
  have f4 := (A0.keep K3 nin0)
  refine k_callS W 0 1 ((0 + cs.length) + 0) (argsL := [(.ref a), (.int (0 : Int32)), (.ref a3), (.int (0 : Int32)), (.int (Int32.ofNat cs.length))]) (rest := []) d_jdk_52_16_9 (w27 hw) (w28 hw) (by decide) (lenOf pd0 rfl) (ct_cmp5 l Z a0 hw n0 h2 a a3 cs (List.replicate cs.length (defaultValue .byte)) f4 A3 (by simp) hR) (w29 hw) (w24 hw) (fun x hx => hx) rfl (Nat.le_of_eq rfl) (Nat.le_of_ble_eq_true rfl) (Nat.le_of_ble_eq_true rfl) ⟨rfl, Nat.le_of_ble_eq_true rfl⟩ ⟨rfl, (by show 0 + cs.length ≤ N; omega)⟩ rfl (fun _ _ q => nomatch q.1) fun T h5 v so W hQ => ?_
  obtain ⟨hv, K5, B5⟩ := hQ
  obtain rfl := Option.some.inj hv
  refine k_istore W d_jdk_52_16_12 (L' := #[.val (.ref a), .val (.int (0 : Int32)), .val (.int (Int32.ofNat cs.length)), .val (.ref a3), .val (.int (Int32.ofNat cs.length)), .unset]) rfl ?_
  refine k_iload W d_jdk_52_16_14 rfl ?_
  refine k_iloadN W d_jdk_52_16_16 rfl ?_
  refine k_icY W 57 d_jdk_52_16_17 (by decide) (show (Int32.ofNat cs.length) = (Int32.ofNat cs.length) from rfl) ?_
  refine k_aloadN W d_jdk_52_16_57 rfl rfl ?_
  have KK6 : Keep h0 h2 [] := (Keep.refl h0 []).trans K3 all0
  have KK7 : Keep h0 h5 [] := KK6.trans K5 (allS (Or.inr (Nat.le_of_eq g3.symm)) all0)
  exact k_areturn W d_jdk_52_16_58 rfl rfl rfl [] (fun x hx => nomatch hx) (Nat.le_of_ble_eq_true rfl) (by show 0 + cs.length + 0 ≤ N; omega) ⟨_, rfl, (Nat.le_of_eq g3.symm), KK7, B5⟩
set_option maxRecDepth 65536 in
set_option maxHeartbeats 40000000 in
theorem ct_cfal (l : Launch) (Z : State) (a0 : Array Value) (hw : ∀ d ∈ tables_1, d.before a0 Z = true) (n0 : Nat) (h0 : Heap) (b : Addr) (vs : List Value) (B0 : Av Z h0 b .byte vs) : Ct l Z a0 own_EL false (⟨"java/lang/StringUTF16", "coderFromArrayLen", "([BI)B"⟩ : MethodName) jdk_52_method_15_code 2 (Option.some Jvm.ClassFile.FieldType.byte) ({ frames := 0, cells := 0, slots := 0, locals := 0 } : Room) #[(.ref b), (.int (Int32.ofNat vs.length))] h0 [] n0 (fun v h so => v = some (.int (0 : Int32)) ∧ h0 = h ∧ so = []) := by
  refine Ct.body (plainFor_of_name pn0) ?_
  intro p e s m below meth c T W
  refine WP.cast (g' := (mkF m 0 #[.val (.ref b), .val (.int (Int32.ofNat vs.length))] [])) (by simp [entryFrame, mkF, argsToLocals, cat_i, cat_l, cat_r, cat_n]) ?_
  refine k_iloadN W d_jdk_52_15_0 rfl ?_
  refine k_aloadN W d_jdk_52_15_1 rfl rfl ?_
  refine k_arraylength W (z := (Int32.ofNat vs.length)) d_jdk_52_15_2 B0 rfl ?_
  refine k_isub W d_jdk_52_15_3 (z := ((Int32.ofNat vs.length) - (Int32.ofNat vs.length))) rfl ?_
  refine k_bipush W d_jdk_52_15_4 (z := (31 : Int32)) rfl ?_
  obtain ⟨v8, ev8⟩ : ∃ z : Int32, z = (XT.ushr ((Int32.ofNat vs.length) - (Int32.ofNat vs.length)) (31 : Int32)) := ⟨_, rfl⟩
  refine k_iushr W d_jdk_52_15_6 ev8.symm ?_
  refine k_i2b W d_jdk_52_15_7 (z := (i2b v8)) rfl ?_
  exact k_retN W (t := .byte) (z' := (0 : Int32)) d_jdk_52_15_8 rfl (by simp) (by subst_vars; rw [Int32.sub_self]; decide) [] (fun x hx => nomatch hx) (Nat.le_of_ble_eq_true rfl) (Nat.le_of_ble_eq_true rfl) ⟨rfl, rfl, rfl⟩
set_option maxRecDepth 65536 in
set_option maxHeartbeats 40000000 in
theorem ct_sinit4 (l : Launch) (Z : State) (a0 : Array Value) (hw : ∀ d ∈ tables_1, d.before a0 Z = true) (n0 : Nat) (h0 : Heap) (x a : Addr) (cs : List Int32) (N : Nat) (zc : Int32) (v0 c0 : Value) (E0 : Exa Z h0 x "java/lang/String") (V0 : Fld Z h0 x "java/lang/String" "value" "[B" v0) (C0 : Fld Z h0 x "java/lang/String" "coder" "B" c0) (A0 : Av Z h0 a .char (cs.map Value.int)) (P0 : Sta Z h0 "java/lang/String" "COMPACT_STRINGS" "Z" (.int zc)) (hzc : zc ≠ 0) (hR : ∀ c ∈ cs, Rg c 256) (hp : 0 < cs.length) (hN : cs.length ≤ N) (hN2 : N ≤ 67108864) : Ct l Z a0 own_EL false (⟨"java/lang/String", "<init>", "([CIILjava/lang/Void;)V"⟩ : MethodName) jdk_42_method_149_code 6 (Option.none : Option Jvm.ClassFile.FieldType) ({ frames := 2, cells := 1, slots := N, locals := 35 } : Room) #[(.ref x), (.ref a), (.int (0 : Int32)), (.int (Int32.ofNat cs.length)), .null] h0 [x] n0 (fun v h so => v = none ∧ ∃ b, h0.size ≤ b ∧ Keep h0 h [x] ∧ St Z h x b (cs.map i2b)) := by
  refine Ct.body (plainFor_of_name pn1) ?_
  intro p e s m below meth c T W
  refine WP.cast (g' := (mkF m 0 #[.val (.ref x), .val (.ref a), .val (.int (0 : Int32)), .val (.int (Int32.ofNat cs.length)), .val .null, .unset] [])) (by simp [entryFrame, mkF, argsToLocals, cat_i, cat_l, cat_r, cat_n]) ?_
  have hL : cs.length < 2147483648 := by omega
  have hnz : ¬ Int32.ofNat cs.length = 0 := of_ne0 hp hL
  refine k_aloadN W d_jdk_42_149_0 rfl rfl ?_
  refine k_initO W 0 d_jdk_42_149_1 (w18 hw) (w19 hw) (w20 hw) rfl (Nat.le_of_eq rfl) (Nat.le_of_ble_eq_true rfl) (Nat.le_of_ble_eq_true rfl) fun T W => ?_
  refine k_iloadN W d_jdk_42_149_4 rfl ?_
  refine k_ifY W 27 d_jdk_42_149_5 (by decide) (show ¬ (Int32.ofNat cs.length) = 0 from hnz) ?_
  refine k_getS W d_jdk_42_149_27 (w21 hw) Via.refl P0 fun T W => ?_
  refine k_ifN W d_jdk_42_149_30 (show ¬ (zc = 0) from hzc) ?_
  refine k_aloadN W d_jdk_42_149_33 rfl rfl ?_
  refine k_iloadN W d_jdk_42_149_34 rfl ?_
  refine k_iloadN W d_jdk_42_149_35 rfl ?_
  refine k_callS W 0 1 (0 + N) (argsL := [(.ref a), (.int (0 : Int32)), (.int (Int32.ofNat cs.length))]) (rest := []) d_jdk_42_149_36 (w22 hw) (w23 hw) (by decide) (lenOf pd1 rfl) (ct_cmp3 l Z a0 hw n0 h0 a cs N A0 hR hN hN2) (w25 hw) (w24 hw) (fun x hx => nomatch hx) rfl (Nat.le_of_eq rfl) (Nat.le_of_ble_eq_true rfl) (Nat.le_of_ble_eq_true rfl) ⟨rfl, Nat.le_of_ble_eq_true rfl⟩ ⟨rfl, (by show 0 + N ≤ N; omega)⟩ rfl (fun _ _ ⟨_, q, _⟩ => nomatch q) fun T h9 v so W hQ => ?_
  obtain ⟨b9, hv, g9, K9, B9⟩ := hQ
  obtain rfl := Option.some.inj hv
  refine k_astore W d_jdk_42_149_39 rfl (L' := #[.val (.ref x), .val (.ref a), .val (.int (0 : Int32)), .val (.int (Int32.ofNat cs.length)), .val .null, .val (.ref b9)]) rfl ?_
  refine k_aloadN W d_jdk_42_149_41 rfl rfl ?_
  refine k_aload W d_jdk_42_149_42 rfl rfl ?_
  refine k_iloadN W d_jdk_42_149_44 rfl ?_
  have hvl : ((cs.map i2b).map Value.int).length = cs.length := by simp
  have hqc := ct_cfal l Z a0 hw n0 h9 b9 ((cs.map i2b).map Value.int) B9
  rw [hvl] at hqc
  refine k_callS W 1 1 ((0 + N) + 0) (argsL := [(.ref b9), (.int (Int32.ofNat cs.length))]) (rest := [(.ref x)]) d_jdk_42_149_45 (w30 hw) (w31 hw) (by decide) (lenOf pd2 rfl) hqc (w32 hw) (w24 hw) (fun x hx => nomatch hx) rfl (Nat.le_of_eq rfl) (Nat.le_of_ble_eq_true rfl) (Nat.le_of_ble_eq_true rfl) ⟨rfl, Nat.le_of_ble_eq_true rfl⟩ ⟨rfl, (by show 0 + N ≤ N; omega)⟩ rfl (fun _ _ q => nomatch q.1) fun T h10 v so W hQ => ?_
  obtain ⟨hv, rfl, -⟩ := hQ
  obtain rfl := Option.some.inj hv
  have f11 := (C0.keep K9 nin0)
  have f12 := (E0.keep K9)
  refine k_putF W d_jdk_42_149_48 (w33 hw) Via.refl (v' := (.int (0 : Int32))) (List.mem_of_getElem? (i := 0) rfl) f11 f12 (Or.inr ⟨(w34 hw), rfl, rfl⟩) (w5 hw) (ty := .byte) (by decide) (by decide) (by decide) fun T h13 W Wr13 => ?_
  have K13 : Keep h9 h13 [x] := Keep.of_wr Wr13
  refine k_aloadN W d_jdk_42_149_51 rfl rfl ?_
  refine k_aload W d_jdk_42_149_52 rfl rfl ?_
  have f14 := ((V0.keep K9 nin0).other Wr13 (Or.inr (slot_ne (Or.inr (w36 hw)) (Or.inr (w34 hw)) (by decide) (t := (.array .byte)) (t' := .byte) (by decide) (by decide))))
  have f15 := (f12.keep K13)
  refine k_putF W d_jdk_42_149_54 (w35 hw) Via.refl (v' := (.ref b9)) (List.mem_of_getElem? (i := 0) rfl) f14 f15 (Or.inr ⟨(w36 hw), rfl, rfl⟩) (w5 hw) (ty := (.array .byte)) (by decide) rfl rfl fun T h16 W Wr16 => ?_
  have K16 : Keep h13 h16 [x] := Keep.of_wr Wr16
  have KK17 : Keep h0 h9 [x] := (Keep.refl h0 [x]).trans K9 all0
  have KK18 : Keep h0 h13 [x] := KK17.trans K13 (allS (Or.inl (List.mem_of_getElem? (i := 0) rfl)) all0)
  have KK19 : Keep h0 h16 [x] := KK18.trans K16 (allS (Or.inl (List.mem_of_getElem? (i := 0) rfl)) all0)
  have f20 := (f15.keep K16)
  have f21 := ((Fld.same Wr13 f11).other Wr16 (Or.inr (slot_ne (Or.inr (w34 hw)) (Or.inr (w36 hw)) (by decide) (t := .byte) (t' := (.array .byte)) (by decide) (by decide))))
  have ne22 : b9 ≠ x := (Ne.symm (Nat.ne_of_lt (Nat.lt_of_lt_of_le E0.lt g9)))
  have f23 := ((B9.keep K13 (ninS ne22 nin0)).keep K16 (ninS ne22 nin0))
  exact k_ret W d_jdk_42_149_57 rfl [] (fun x hx => nomatch hx) (Nat.le_of_ble_eq_true rfl) (by show 0 + N ≤ N; omega) ⟨rfl, _, g9, KK19, f20, f21, (Fld.same Wr16 f14), f23⟩
set_option maxRecDepth 65536 in
set_option maxHeartbeats 40000000 in
theorem ct_sinit (l : Launch) (Z : State) (a0 : Array Value) (hw : ∀ d ∈ tables_1, d.before a0 Z = true) (n0 : Nat) (h0 : Heap) (x a : Addr) (cs : List Int32) (N : Nat) (zc : Int32) (v0 c0 : Value) (E0 : Exa Z h0 x "java/lang/String") (V0 : Fld Z h0 x "java/lang/String" "value" "[B" v0) (C0 : Fld Z h0 x "java/lang/String" "coder" "B" c0) (A0 : Av Z h0 a .char (cs.map Value.int)) (P0 : Sta Z h0 "java/lang/String" "COMPACT_STRINGS" "Z" (.int zc)) (hzc : zc ≠ 0) (hR : ∀ c ∈ cs, Rg c 256) (hp : 0 < cs.length) (hN : cs.length ≤ N) (hN2 : N ≤ 67108864) : Ct l Z a0 own_EL false (⟨"java/lang/String", "<init>", "([C)V"⟩ : MethodName) jdk_42_method_3_code 2 (Option.none : Option Jvm.ClassFile.FieldType) ({ frames := 3, cells := 1, slots := N, locals := 52 } : Room) #[(.ref x), (.ref a)] h0 [x] n0 (fun v h so => v = none ∧ ∃ b, h0.size ≤ b ∧ Keep h0 h [x] ∧ St Z h x b (cs.map i2b)) := by
  refine Ct.body (plainFor_of_name pn1) ?_
  intro p e s m below meth c T W
  refine WP.cast (g' := (mkF m 0 #[.val (.ref x), .val (.ref a)] [])) (by simp [entryFrame, mkF, argsToLocals, cat_i, cat_l, cat_r, cat_n]) ?_
  refine k_aloadN W d_jdk_42_3_0 rfl rfl ?_
  refine k_aloadN W d_jdk_42_3_1 rfl rfl ?_
  refine k_iconst W d_jdk_42_3_2 (z := (0 : Int32)) rfl ?_
  refine k_aloadN W d_jdk_42_3_3 rfl rfl ?_
  refine k_arraylength W (z := (Int32.ofNat cs.length)) d_jdk_42_3_4 A0 (by first | (rw [List.length_map]; done) | (rw [List.length_map]; rfl)) ?_
  refine k_aconst W d_jdk_42_3_5 ?_
  refine k_callI0 W 0 1 (0 + N) (argsL := [(.ref a), (.int (0 : Int32)), (.int (Int32.ofNat cs.length)), .null]) (rest := []) (a := x) d_jdk_42_3_6 rfl rfl (w14 hw) (w15 hw) (by decide) (lenOf pd3 rfl) (ct_sinit4 l Z a0 hw n0 h0 x a cs N zc v0 c0 E0 V0 C0 A0 P0 hzc hR hp hN hN2) (w17 hw) (w6 hw) (fun x hx => hx) rfl (Nat.le_of_eq rfl) (Nat.le_of_ble_eq_true rfl) (Nat.le_of_ble_eq_true rfl) ⟨rfl, Nat.le_of_ble_eq_true rfl⟩ ⟨rfl, (by show 0 + N ≤ N; omega)⟩ rfl (fun _ _ _ q => nomatch q.1) fun T h24 so W hQ => ?_
  have hq24 := hQ.2
  exact k_ret W d_jdk_42_3_9 rfl [] (fun x hx => nomatch hx) (Nat.le_of_ble_eq_true rfl) (by show 0 + N ≤ N; omega) ⟨rfl, hq24⟩
set_option maxRecDepth 65536 in
set_option maxHeartbeats 40000000 in
theorem ct_sinitE4 (l : Launch) (Z : State) (a0 : Array Value) (hw : ∀ d ∈ tables_1, d.before a0 Z = true) (n0 : Nat) (h0 : Heap) (x a : Addr) (sfx : List Addr) (v0 c0 : Value) (E0 : Exa Z h0 x "java/lang/String") (V0 : Fld Z h0 x "java/lang/String" "value" "[B" v0) (C0 : Fld Z h0 x "java/lang/String" "coder" "B" c0) : Ct l Z a0 own_EL false (⟨"java/lang/String", "<init>", "([CIILjava/lang/Void;)V"⟩ : MethodName) jdk_42_method_149_code 6 (Option.none : Option Jvm.ClassFile.FieldType) ({ frames := 1, cells := 4, slots := 8, locals := 12 } : Room) #[(.ref x), (.ref a), (.int (0 : Int32)), (.int (0 : Int32)), .null] h0 (x :: sfx) n0 (fun v h so => v = none ∧ ∃ b, Keep h0 h [x] ∧ St Z h x b [] ∧ ∀ z ∈ x :: sfx, z ≠ b) := by
  refine Ct.body (plainFor_of_name pn1) ?_
  intro p e s m below meth c T W
  refine WP.cast (g' := (mkF m 0 #[.val (.ref x), .val (.ref a), .val (.int (0 : Int32)), .val (.int (0 : Int32)), .val .null, .unset] [])) (by simp [entryFrame, mkF, argsToLocals, cat_i, cat_l, cat_r, cat_n]) ?_
  refine k_aloadN W d_jdk_42_149_0 rfl rfl ?_
  refine k_initO W 0 d_jdk_42_149_1 (w18 hw) (w19 hw) (w20 hw) rfl (Nat.le_of_eq rfl) (Nat.le_of_ble_eq_true rfl) (Nat.le_of_ble_eq_true rfl) fun T W => ?_
  refine k_iloadN W d_jdk_42_149_4 rfl ?_
  refine k_ifN W d_jdk_42_149_5 (show ¬ (¬ (0 : Int32) = 0) by decide) ?_
  refine k_aloadN W d_jdk_42_149_8 rfl rfl ?_
  refine k_ldcS W [] 0 2 4 rfl d_jdk_42_149_9 (w37 hw) (wS hw) (by decide) ⟨by decide, by decide⟩ (by decide) ⟨by decide, by decide⟩ ⟨rfl, Nat.le_of_ble_eq_true rfl⟩ ⟨rfl, Nat.le_of_ble_eq_true rfl⟩ fun T h25 a25 b25 W E25 S25 N25 => ?_
  have K25 : Keep h0 h25 [] := keep_ext E25 []
  refine k_getF W d_jdk_42_149_11 (host := "") (Or.inl (w35 hw)) Via.refl S25.2.2.1 fun T W => ?_
  have f26 := (V0.keep K25 nin0)
  have f27 := (E0.keep K25)
  refine k_putF W d_jdk_42_149_14 (w35 hw) Via.refl (v' := (.ref b25)) (List.mem_of_getElem? (i := 0) rfl) f26 f27 (Or.inr ⟨(w36 hw), rfl, rfl⟩) (w5 hw) (ty := (.array .byte)) (by decide) rfl rfl fun T h28 W Wr28 => ?_
  have K28 : Keep h25 h28 [x] := Keep.of_wr Wr28
  refine k_aloadN W d_jdk_42_149_17 rfl rfl ?_
  refine k_ldcS W [] 0 4 8 rfl d_jdk_42_149_18 (w37 hw) (wS hw) (by decide) ⟨by decide, by decide⟩ (by decide) ⟨by decide, by decide⟩ ⟨rfl, Nat.le_of_ble_eq_true rfl⟩ ⟨rfl, Nat.le_of_ble_eq_true rfl⟩ fun T h29 a29 b29 W E29 S29 N29 => ?_
  have K29 : Keep h28 h29 [] := keep_ext E29 []
  refine k_getF W d_jdk_42_149_20 (host := "") (Or.inl (w33 hw)) Via.refl S29.2.1 fun T W => ?_
  have f30 := (((C0.keep K25 nin0).other Wr28 (Or.inr (slot_ne (Or.inr (w34 hw)) (Or.inr (w36 hw)) (by decide) (t := .byte) (t' := (.array .byte)) (by decide) (by decide)))).keep K29 nin0)
  have f31 := ((f27.keep K28).keep K29)
  refine k_putF W d_jdk_42_149_23 (w33 hw) Via.refl (v' := (.int (0 : Int32))) (List.mem_of_getElem? (i := 0) rfl) f30 f31 (Or.inr ⟨(w34 hw), rfl, rfl⟩) (w5 hw) (ty := .byte) (by decide) (by decide) (by decide) fun T h32 W Wr32 => ?_
  have K32 : Keep h29 h32 [x] := Keep.of_wr Wr32
  have KK33 : Keep h0 h25 [x] := (Keep.refl h0 [x]).trans K25 all0
  have KK34 : Keep h0 h28 [x] := KK33.trans K28 (allS (Or.inl (List.mem_of_getElem? (i := 0) rfl)) all0)
  have KK35 : Keep h0 h29 [x] := KK34.trans K29 all0
  have KK36 : Keep h0 h32 [x] := KK35.trans K32 (allS (Or.inl (List.mem_of_getElem? (i := 0) rfl)) all0)
  have f37 := (f31.keep K32)
  have f38 := (((Fld.same Wr28 f26).keep K29 nin0).other Wr32 (Or.inr (slot_ne (Or.inr (w36 hw)) (Or.inr (w34 hw)) (by decide) (t := (.array .byte)) (t' := .byte) (by decide) (by decide))))
  have ne39 : a25 ≠ x := (Ne.symm (N25 _ (List.mem_of_getElem? (i := 0) rfl)).1)
  have ne40 : b25 ≠ x := (Ne.symm (N25 _ (List.mem_of_getElem? (i := 0) rfl)).2)
  have f41 := (((S25.keep K28 (ninS ne39 nin0) (ninS ne40 nin0)).keep K29 nin0 nin0).keep K32 (ninS ne39 nin0) (ninS ne40 nin0))
  exact k_ret W d_jdk_42_149_26 rfl [] (fun x hx => nomatch hx) (Nat.le_of_ble_eq_true rfl) (Nat.le_of_ble_eq_true rfl) ⟨rfl, b25, KK36, ⟨f37, (Fld.same Wr32 f30), f38, f41.2.2.2⟩, fun z hz => (N25 z hz).2⟩
set_option maxRecDepth 65536 in
set_option maxHeartbeats 40000000 in
theorem ct_sinitE (l : Launch) (Z : State) (a0 : Array Value) (hw : ∀ d ∈ tables_1, d.before a0 Z = true) (n0 : Nat) (h0 : Heap) (x a : Addr) (sfx : List Addr) (v0 c0 : Value) (E0 : Exa Z h0 x "java/lang/String") (V0 : Fld Z h0 x "java/lang/String" "value" "[B" v0) (C0 : Fld Z h0 x "java/lang/String" "coder" "B" c0) (A0 : Av Z h0 a .char []) : Ct l Z a0 own_EL false (⟨"java/lang/String", "<init>", "([C)V"⟩ : MethodName) jdk_42_method_3_code 2 (Option.none : Option Jvm.ClassFile.FieldType) ({ frames := 2, cells := 4, slots := 8, locals := 29 } : Room) #[(.ref x), (.ref a)] h0 (x :: sfx) n0 (fun v h so => v = none ∧ ∃ b, Keep h0 h [x] ∧ St Z h x b [] ∧ ∀ z ∈ x :: sfx, z ≠ b) := by
  refine Ct.body (plainFor_of_name pn1) ?_
  intro p e s m below meth c T W
  refine WP.cast (g' := (mkF m 0 #[.val (.ref x), .val (.ref a)] [])) (by simp [entryFrame, mkF, argsToLocals, cat_i, cat_l, cat_r, cat_n]) ?_
  refine k_aloadN W d_jdk_42_3_0 rfl rfl ?_
  refine k_aloadN W d_jdk_42_3_1 rfl rfl ?_
  refine k_iconst W d_jdk_42_3_2 (z := (0 : Int32)) rfl ?_
  refine k_aloadN W d_jdk_42_3_3 rfl rfl ?_
  refine k_arraylength W (z := (0 : Int32)) d_jdk_42_3_4 A0 rfl ?_
  refine k_aconst W d_jdk_42_3_5 ?_
  refine k_callI0 W 0 4 8 (argsL := [(.ref a), (.int (0 : Int32)), (.int (0 : Int32)), .null]) (rest := []) (a := x) d_jdk_42_3_6 rfl rfl (w14 hw) (w15 hw) (by decide) (lenOf pd3 rfl) (ct_sinitE4 l Z a0 hw n0 h0 x a sfx v0 c0 E0 V0 C0) (w17 hw) (w6 hw) (fun x hx => hx) rfl (Nat.le_of_eq rfl) (Nat.le_of_ble_eq_true rfl) (Nat.le_of_ble_eq_true rfl) ⟨rfl, Nat.le_of_ble_eq_true rfl⟩ ⟨rfl, Nat.le_of_ble_eq_true rfl⟩ rfl (fun _ _ _ q => nomatch q.1) fun T h42 so W hQ => ?_
  have hq42 := hQ.2
  exact k_ret W d_jdk_42_3_9 rfl [] (fun x hx => nomatch hx) (Nat.le_of_ble_eq_true rfl) (Nat.le_of_ble_eq_true rfl) ⟨rfl, hq42⟩
set_option maxRecDepth 65536 in
set_option maxHeartbeats 40000000 in
theorem ct_leq (l : Launch) (Z : State) (a0 : Array Value) (hw : ∀ d ∈ tables_1, d.before a0 Z = true) (n0 : Nat) (h0 : Heap) (a b : Addr) (as bs : List Int32) (A0 : Av Z h0 a .byte (as.map Value.int)) (B0 : Av Z h0 b .byte (bs.map Value.int)) : Ct l Z a0 own_EL false (⟨"java/lang/StringLatin1", "equals", "([B[B)Z"⟩ : MethodName) jdk_43_method_13_code 3 (Option.some Jvm.ClassFile.FieldType.boolean) ({ frames := 0, cells := 0, slots := 0, locals := 0 } : Room) #[(.ref a), (.ref b)] h0 [] n0 (fun v h so => ((as = bs ∧ v = some (.int (1 : Int32))) ∨ (as ≠ bs ∧ v = some (.int (0 : Int32)))) ∧ h0 = h) := by
  refine Ct.body (plainFor_of_name pn2) ?_
  intro p e s m below meth c T W
  refine WP.cast (g' := (mkF m 0 #[.val (.ref a), .val (.ref b), .unset] [])) (by simp [entryFrame, mkF, argsToLocals, cat_i, cat_l, cat_r, cat_n]) ?_
  have hA : as.length < 2147483648 := by have := A0.len; simpa using this
  have hB : bs.length < 2147483648 := by have := B0.len; simpa using this
  refine k_aloadN W d_jdk_43_13_0 rfl rfl ?_
  refine k_arraylength W (z := (Int32.ofNat as.length)) d_jdk_43_13_1 A0 (by first | (rw [List.length_map]; done) | (rw [List.length_map]; rfl)) ?_
  refine k_aloadN W d_jdk_43_13_2 rfl rfl ?_
  refine k_arraylength W (z := (Int32.ofNat bs.length)) d_jdk_43_13_3 B0 (by first | (rw [List.length_map]; done) | (rw [List.length_map]; rfl)) ?_
  refine k_ic W 34 d_jdk_43_13_4 (by decide) (fun (hc43 : ¬ (Int32.ofNat as.length) = (Int32.ofNat bs.length)) => ?_) (fun (hc43 : ¬ (¬ (Int32.ofNat as.length) = (Int32.ofNat bs.length))) => ?_)
  · --
    refine k_iconst W d_jdk_43_13_34 (z := (0 : Int32)) rfl ?_
    exact k_retN W (t := .boolean) (z' := (0 : Int32)) d_jdk_43_13_35 rfl (by simp) (by decide) [] (fun x hx => nomatch hx) (Nat.le_of_ble_eq_true rfl) (Nat.le_of_ble_eq_true rfl) ⟨Or.inr ⟨fun q => hc43 (by rw [q]), rfl⟩, rfl⟩
  · --
    have hl : as.length = bs.length := of_inj hA hB (Classical.not_not.mp hc43)
    refine k_iconst W d_jdk_43_13_7 (z := (0 : Int32)) rfl ?_
    refine k_istoreN W d_jdk_43_13_8 (L' := #[.val (.ref a), .val (.ref b), .val (.int (0 : Int32))]) rfl ?_
    have loop : ∀ (k i : Nat) (T : State), i + k = as.length → as.take i = bs.take i → WS p l e ({ frames := 0, cells := 0, slots := 0, locals := 0 } : Room) s m #[(.ref a), (.ref b)] below meth c Z a0 own_EL false n0 (⟨"java/lang/StringLatin1", "equals", "([B[B)Z"⟩ : MethodName) jdk_43_method_13_code 3 (Option.some Jvm.ClassFile.FieldType.boolean) T h0 [] 0 0 → WP p e below (Fne s n0 Z own_EL false ({ frames := 0, cells := 0, slots := 0, locals := 0 } : Room) (fun v h so => ((as = bs ∧ v = some (.int (1 : Int32))) ∨ (as ≠ bs ∧ v = some (.int (0 : Int32)))) ∧ h0 = h)) T (mkF m 9 #[.val (.ref a), .val (.ref b), .val (.int (Int32.ofNat i))] []) := by
      intro k
      induction k with
      | zero =>
        intro i T hi hE W
        obtain rfl : i = as.length := by omega
        refine k_iloadN W d_jdk_43_13_9 rfl ?_
        refine k_aloadN W d_jdk_43_13_10 rfl rfl ?_
        refine k_arraylength W (z := (Int32.ofNat as.length)) d_jdk_43_13_11 A0 (by first | (rw [List.length_map]; done) | (rw [List.length_map]; rfl)) ?_
        refine k_icY W 32 d_jdk_43_13_12 (by decide) (show ¬ (Int32.ofNat as.length) < (Int32.ofNat as.length) from (of_ge (Nat.le_refl _) hA)) ?_
        refine k_iconst W d_jdk_43_13_32 (z := (1 : Int32)) rfl ?_
        exact k_retN W (t := .boolean) (z' := (1 : Int32)) d_jdk_43_13_33 rfl (by simp) (by decide) [] (fun x hx => nomatch hx) (Nat.le_of_ble_eq_true rfl) (Nat.le_of_ble_eq_true rfl) ⟨Or.inl ⟨by rw [List.take_length, hl, List.take_length] at hE; exact hE, rfl⟩, rfl⟩
      | succ k ih =>
        intro i T hi hE W
        have h1 : i < as.length := by omega
        have h2 : i < bs.length := by omega
        obtain ⟨x, hx⟩ : ∃ c, as[i]? = some c := ⟨_, List.getElem?_eq_getElem h1⟩
        obtain ⟨y, hy⟩ : ∃ c, bs[i]? = some c := ⟨_, List.getElem?_eq_getElem h2⟩
        have hs : ∀ zs : List Int32, ∀ z, zs[i]? = some z → zs.take (i + 1) = zs.take i ++ [z] := fun zs z q => by rw [List.take_succ, q]; rfl
        refine k_iloadN W d_jdk_43_13_9 rfl ?_
        refine k_aloadN W d_jdk_43_13_10 rfl rfl ?_
        refine k_arraylength W (z := (Int32.ofNat as.length)) d_jdk_43_13_11 A0 (by first | (rw [List.length_map]; done) | (rw [List.length_map]; rfl)) ?_
        refine k_icN W d_jdk_43_13_12 (show ¬ (¬ (Int32.ofNat i) < (Int32.ofNat as.length)) from (fun q => q (of_lt h1 hA))) ?_
        refine k_aloadN W d_jdk_43_13_15 rfl rfl ?_
        refine k_iloadN W d_jdk_43_13_16 rfl ?_
        refine k_baload W (v := (.int x)) i d_jdk_43_13_17 A0 (ix_of (by omega)) (by simp [hx]) ?_
        refine k_aloadN W d_jdk_43_13_18 rfl rfl ?_
        refine k_iloadN W d_jdk_43_13_19 rfl ?_
        refine k_baload W (v := (.int y)) i d_jdk_43_13_20 B0 (ix_of (by omega)) (by simp [hy]) ?_
        refine k_ic W 26 d_jdk_43_13_21 (by decide) (fun (hc44 : x = y) => ?_) (fun (hc44 : ¬ (x = y)) => ?_)
        · -- pc 26
          refine k_iinc W d_jdk_43_13_26 rfl (z := (Int32.ofNat (i + 1))) (of_succ i) (L' := #[.val (.ref a), .val (.ref b), .val (.int (Int32.ofNat (i + 1)))]) rfl ?_
          refine k_goto W 9 d_jdk_43_13_29 (by decide) ?_
          exact ih (i + 1) T (by omega) (by rw [hs as x hx, hs bs y hy, hE, hc44]) W
        · -- pc 24
          refine k_iconst W d_jdk_43_13_24 (z := (0 : Int32)) rfl ?_
          exact k_retN W (t := .boolean) (z' := (0 : Int32)) d_jdk_43_13_25 rfl (by simp) (by decide) [] (fun x hx => nomatch hx) (Nat.le_of_ble_eq_true rfl) (Nat.le_of_ble_eq_true rfl) ⟨Or.inr ⟨fun q => hc44 (by rw [q, hy] at hx; exact (Option.some.inj hx).symm), rfl⟩, rfl⟩
    exact loop as.length 0 T (by omega) (by simp) W
set_option maxRecDepth 65536 in
set_option maxHeartbeats 40000000 in
theorem ct_seq (l : Launch) (Z : State) (a0 : Array Value) (hw : ∀ d ∈ tables_1, d.before a0 Z = true) (n0 : Nat) (h0 : Heap) (x a y b : Addr) (as bs : List Int32) (zc : Int32) (hne : x ≠ y) (S0 : St Z h0 x a as) (S1 : St Z h0 y b bs) (P0 : Sta Z h0 "java/lang/String" "COMPACT_STRINGS" "Z" (.int zc)) (hzc : zc ≠ 0) : Ct l Z a0 own_EL false (⟨"java/lang/String", "equals", "(Ljava/lang/Object;)Z"⟩ : MethodName) jdk_42_method_66_code 3 (Option.some Jvm.ClassFile.FieldType.boolean) ({ frames := 1, cells := 0, slots := 0, locals := 14 } : Room) #[(.ref x), (.ref y)] h0 [] n0 (fun v h so => ((as = bs ∧ v = some (.int (1 : Int32))) ∨ (as ≠ bs ∧ v = some (.int (0 : Int32)))) ∧ h0 = h) := by
  refine Ct.body (plainFor_of_name pn1) ?_
  intro p e s m below meth c T W
  refine WP.cast (g' := (mkF m 0 #[.val (.ref x), .val (.ref y), .unset] [])) (by simp [entryFrame, mkF, argsToLocals, cat_i, cat_l, cat_r, cat_n]) ?_
  refine k_aloadN W d_jdk_42_66_0 rfl rfl ?_
  refine k_aloadN W d_jdk_42_66_1 rfl rfl ?_
  refine k_acY W 7 d_jdk_42_66_2 rfl rfl (by decide) (fun q => hne (Value.ref.inj q)) ?_
  refine k_aloadN W d_jdk_42_66_7 rfl rfl ?_
  refine k_instY W d_jdk_42_66_8 (w326 hw) (Ins.self S1.1) fun T W => ?_
  refine k_ifN W d_jdk_42_66_11 (show ¬ ((1 : Int32) = 0) by decide) ?_
  refine k_aloadN W d_jdk_42_66_14 rfl rfl ?_
  refine k_cast W d_jdk_42_66_15 (w326 hw) (Ins.self S1.1) fun T W => ?_
  refine k_astoreN W d_jdk_42_66_18 rfl (L' := #[.val (.ref x), .val (.ref y), .val (.ref y)]) rfl ?_
  refine k_getS W d_jdk_42_66_19 (w21 hw) Via.refl P0 fun T W => ?_
  refine k_ifN W d_jdk_42_66_22 (show ¬ (zc = 0) from hzc) ?_
  refine k_aloadN W d_jdk_42_66_25 rfl rfl ?_
  refine k_getF W d_jdk_42_66_26 (host := "") (Or.inl (w33 hw)) Via.refl S0.2.1 fun T W => ?_
  refine k_aloadN W d_jdk_42_66_29 rfl rfl ?_
  refine k_getF W d_jdk_42_66_30 (host := "") (Or.inl (w33 hw)) Via.refl S1.2.1 fun T W => ?_
  refine k_icN W d_jdk_42_66_33 (show ¬ (¬ (0 : Int32) = (0 : Int32)) from (fun q => q rfl)) ?_
  refine k_aloadN W d_jdk_42_66_36 rfl rfl ?_
  refine k_getF W d_jdk_42_66_37 (host := "") (Or.inl (w35 hw)) Via.refl S0.2.2.1 fun T W => ?_
  refine k_aloadN W d_jdk_42_66_40 rfl rfl ?_
  refine k_getF W d_jdk_42_66_41 (host := "") (Or.inl (w35 hw)) Via.refl S1.2.2.1 fun T W => ?_
  refine k_callS W 0 0 0 (argsL := [(.ref a), (.ref b)]) (rest := []) d_jdk_42_66_44 (w327 hw) (w328 hw) (by decide) (lenOf pd4 rfl) (ct_leq l Z a0 hw n0 h0 a b as bs S0.2.2.2 S1.2.2.2) (w330 hw) (w329 hw) (fun x hx => hx) rfl (Nat.le_of_eq rfl) (Nat.le_of_ble_eq_true rfl) (Nat.le_of_ble_eq_true rfl) ⟨rfl, Nat.le_of_ble_eq_true rfl⟩ ⟨rfl, Nat.le_of_ble_eq_true rfl⟩ rfl (fun _ _ q => by rcases q.1 with ⟨_, u⟩ | ⟨_, u⟩ <;> cases u) fun T h45 v so W hQ => ?_
  obtain ⟨hQ, rfl⟩ := hQ
  rcases hQ with ⟨he, hv⟩ | ⟨he, hv⟩
  · --
    obtain rfl := Option.some.inj hv
    refine k_ifN W d_jdk_42_66_47 (show ¬ ((1 : Int32) = 0) by decide) ?_
    refine k_iconst W d_jdk_42_66_50 (z := (1 : Int32)) rfl ?_
    refine k_goto W 55 d_jdk_42_66_51 (by decide) ?_
    exact k_retN W (t := .boolean) (z' := (1 : Int32)) d_jdk_42_66_55 rfl (by simp) (by decide) [] (fun x hx => nomatch hx) (Nat.le_of_ble_eq_true rfl) (Nat.le_of_ble_eq_true rfl) ⟨Or.inl ⟨he, rfl⟩, rfl⟩
  · --
    obtain rfl := Option.some.inj hv
    refine k_ifY W 54 d_jdk_42_66_47 (by decide) (show (0 : Int32) = 0 by decide) ?_
    refine k_iconst W d_jdk_42_66_54 (z := (0 : Int32)) rfl ?_
    exact k_retN W (t := .boolean) (z' := (0 : Int32)) d_jdk_42_66_55 rfl (by simp) (by decide) [] (fun x hx => nomatch hx) (Nat.le_of_ble_eq_true rfl) (Nat.le_of_ble_eq_true rfl) ⟨Or.inr ⟨he, rfl⟩, rfl⟩
set_option maxRecDepth 65536 in
set_option maxHeartbeats 40000000 in
theorem ct_seqI (l : Launch) (Z : State) (a0 : Array Value) (hw : ∀ d ∈ tables_1, d.before a0 Z = true) (n0 : Nat) (h0 : Heap) (x : Addr) : Ct l Z a0 own_EL false (⟨"java/lang/String", "equals", "(Ljava/lang/Object;)Z"⟩ : MethodName) jdk_42_method_66_code 3 (Option.some Jvm.ClassFile.FieldType.boolean) ({ frames := 0, cells := 0, slots := 0, locals := 0 } : Room) #[(.ref x), (.ref x)] h0 [] n0 (fun v h so => v = some (.int (1 : Int32)) ∧ h0 = h ∧ so = []) := by
  refine Ct.body (plainFor_of_name pn1) ?_
  intro p e s m below meth c T W
  refine WP.cast (g' := (mkF m 0 #[.val (.ref x), .val (.ref x), .unset] [])) (by simp [entryFrame, mkF, argsToLocals, cat_i, cat_l, cat_r, cat_n]) ?_
  refine k_aloadN W d_jdk_42_66_0 rfl rfl ?_
  refine k_aloadN W d_jdk_42_66_1 rfl rfl ?_
  refine k_acN W d_jdk_42_66_2 rfl rfl (by decide) (fun q => q rfl) ?_
  refine k_iconst W d_jdk_42_66_5 (z := (1 : Int32)) rfl ?_
  exact k_retN W (t := .boolean) (z' := (1 : Int32)) d_jdk_42_66_6 rfl (by simp) (by decide) [] (fun x hx => nomatch hx) (Nat.le_of_ble_eq_true rfl) (Nat.le_of_ble_eq_true rfl) ⟨rfl, rfl, rfl⟩
set_option maxRecDepth 65536 in
set_option maxHeartbeats 40000000 in
theorem ct_bini (l : Launch) (Z : State) (a0 : Array Value) (hw : ∀ d ∈ tables_1, d.before a0 Z = true) (n0 : Nat) (h0 : Heap) (x : Addr) (zc : Int32) (EX : Exa Z h0 x "java/lang/StringBuilder") (FV : Fld Z h0 x "java/lang/AbstractStringBuilder" "value" "[B" .null) (FC : Fld Z h0 x "java/lang/AbstractStringBuilder" "coder" "B" (.int (0 : Int32))) (FN : Fld Z h0 x "java/lang/AbstractStringBuilder" "count" "I" (.int (0 : Int32))) (P0 : Sta Z h0 "java/lang/String" "COMPACT_STRINGS" "Z" (.int zc)) (hzc : zc ≠ 0) : Ct l Z a0 own_EL false (⟨"java/lang/AbstractStringBuilder", "<init>", "(I)V"⟩ : MethodName) jdk_68_method_2_code 2 (Option.none : Option Jvm.ClassFile.FieldType) ({ frames := 1, cells := 1, slots := 16, locals := 12 } : Room) #[(.ref x), (.int (16 : Int32))] h0 [x] n0 (fun v h so => v = none ∧ ∃ z, h0.size ≤ z ∧ Keep h0 h [x] ∧ Fld Z h x "java/lang/AbstractStringBuilder" "value" "[B" (.ref z) ∧ Fld Z h x "java/lang/AbstractStringBuilder" "coder" "B" (.int 0) ∧ Fld Z h x "java/lang/AbstractStringBuilder" "count" "I" (.int 0) ∧ Av Z h z .byte (List.map Value.int (List.replicate 16 0)) ∧ so = [z]) := by
  refine Ct.body (plainFor_of_name pn3) ?_
  intro p e s m below meth c T W
  refine WP.cast (g' := (mkF m 0 #[.val (.ref x), .val (.int (16 : Int32))] [])) (by simp [entryFrame, mkF, argsToLocals, cat_i, cat_l, cat_r, cat_n]) ?_
  refine k_aloadN W d_jdk_68_2_0 rfl rfl ?_
  refine k_initO W 0 d_jdk_68_2_1 (w158 hw) (w19 hw) (w20 hw) rfl (Nat.le_of_eq rfl) (Nat.le_of_ble_eq_true rfl) (Nat.le_of_ble_eq_true rfl) fun T W => ?_
  refine k_getS W d_jdk_68_2_4 (w159 hw) Via.refl P0 fun T W => ?_
  refine k_ifN W d_jdk_68_2_7 (show ¬ (zc = 0) from hzc) ?_
  refine k_aloadN W d_jdk_68_2_10 rfl rfl ?_
  refine k_iloadN W d_jdk_68_2_11 rfl ?_
  refine k_newarr W 16 1 16 d_jdk_68_2_12 (w26 hw) (by decide) (by decide) ⟨rfl, Nat.le_of_ble_eq_true rfl⟩ ⟨rfl, Nat.le_of_ble_eq_true rfl⟩ fun T h46 a47 g47 W E47 A47 => ?_
  have K47 : Keep h0 h46 [] := keep_ext E47 []
  have A47 : Av Z h46 a47 .byte [(.int (0 : Int32)), (.int (0 : Int32)), (.int (0 : Int32)), (.int (0 : Int32)), (.int (0 : Int32)), (.int (0 : Int32)), (.int (0 : Int32)), (.int (0 : Int32)), (.int (0 : Int32)), (.int (0 : Int32)), (.int (0 : Int32)), (.int (0 : Int32)), (.int (0 : Int32)), (.int (0 : Int32)), (.int (0 : Int32)), (.int (0 : Int32))] := A47
  have f48 := (FV.keep K47 nin0)
  have f49 := (EX.keep K47)
  refine k_putF W d_jdk_68_2_14 (w160 hw) Via.refl (v' := (.ref a47)) (List.mem_of_getElem? (i := 1) rfl) f48 f49 (Or.inl (w161 hw)) (w147 hw) (ty := (.array .byte)) (by decide) rfl rfl fun T h50 W Wr50 => ?_
  have K50 : Keep h46 h50 [x] := Keep.of_wr Wr50
  refine k_aloadN W d_jdk_68_2_17 rfl rfl ?_
  refine k_iconst W d_jdk_68_2_18 (z := (0 : Int32)) rfl ?_
  have f51 := ((FC.keep K47 nin0).other Wr50 (Or.inr (slot_ne (Or.inl (w163 hw)) (Or.inl (w161 hw)) (by decide) (t := .byte) (t' := (.array .byte)) (by decide) (by decide))))
  have f52 := (f49.keep K50)
  refine k_putF W d_jdk_68_2_19 (w162 hw) Via.refl (v' := (.int (0 : Int32))) (List.mem_of_getElem? (i := 1) rfl) f51 f52 (Or.inl (w163 hw)) (w147 hw) (ty := .byte) (by decide) (by decide) (by decide) fun T h53 W Wr53 => ?_
  have K53 : Keep h50 h53 [x] := Keep.of_wr Wr53
  refine k_goto W 38 d_jdk_68_2_22 (by decide) ?_
  have f54 := ((Fld.same Wr50 f48).other Wr53 (Or.inr (slot_ne (Or.inl (w161 hw)) (Or.inl (w163 hw)) (by decide) (t := (.array .byte)) (t' := .byte) (by decide) (by decide))))
  have KK55 : Keep h0 h46 [x] := (Keep.refl h0 [x]).trans K47 all0
  have KK56 : Keep h0 h50 [x] := KK55.trans K50 (allS (Or.inl (List.mem_of_getElem? (i := 0) rfl)) all0)
  have KK57 : Keep h0 h53 [x] := KK56.trans K53 (allS (Or.inl (List.mem_of_getElem? (i := 0) rfl)) all0)
  have f58 := (((FN.keep K47 nin0).other Wr50 (Or.inr (slot_ne (Or.inl (w186 hw)) (Or.inl (w161 hw)) (by decide) (t := .int) (t' := (.array .byte)) (by decide) (by decide)))).other Wr53 (Or.inr (slot_ne (Or.inl (w186 hw)) (Or.inl (w163 hw)) (by decide) (t := .int) (t' := .byte) (by decide) (by decide))))
  have ne59 : a47 ≠ x := (Ne.symm (Nat.ne_of_lt (Nat.lt_of_lt_of_le EX.lt (Nat.le_of_eq g47.symm))))
  have f60 := ((A47.keep K50 (ninS ne59 nin0)).keep K53 (ninS ne59 nin0))
  exact k_ret W d_jdk_68_2_38 rfl [a47] (fun x hx => by simp only [List.mem_cons, List.not_mem_nil, or_false] at hx; rcases hx with rfl; all_goals first | exact (List.mem_of_getElem? (i := 0) rfl)) (Nat.le_of_ble_eq_true rfl) (Nat.le_of_ble_eq_true rfl) ⟨rfl, _, (Nat.le_of_eq g47.symm), KK57, f54, (Fld.same Wr53 f51), f58, f60, rfl⟩
set_option maxRecDepth 65536 in
set_option maxHeartbeats 40000000 in
theorem ct_sbini (l : Launch) (Z : State) (a0 : Array Value) (hw : ∀ d ∈ tables_1, d.before a0 Z = true) (n0 : Nat) (h0 : Heap) (x : Addr) (zc : Int32) (EX : Exa Z h0 x "java/lang/StringBuilder") (FV : Fld Z h0 x "java/lang/AbstractStringBuilder" "value" "[B" .null) (FC : Fld Z h0 x "java/lang/AbstractStringBuilder" "coder" "B" (.int (0 : Int32))) (FN : Fld Z h0 x "java/lang/AbstractStringBuilder" "count" "I" (.int (0 : Int32))) (P0 : Sta Z h0 "java/lang/String" "COMPACT_STRINGS" "Z" (.int zc)) (hzc : zc ≠ 0) : Ct l Z a0 own_EL false (⟨"java/lang/StringBuilder", "<init>", "()V"⟩ : MethodName) jdk_67_method_1_code 1 (Option.none : Option Jvm.ClassFile.FieldType) ({ frames := 2, cells := 1, slots := 16, locals := 25 } : Room) #[(.ref x)] h0 [x] n0 (fun v h so => v = none ∧ ∃ z, h0.size ≤ z ∧ Keep h0 h [x] ∧ Fld Z h x "java/lang/AbstractStringBuilder" "value" "[B" (.ref z) ∧ Fld Z h x "java/lang/AbstractStringBuilder" "coder" "B" (.int 0) ∧ Fld Z h x "java/lang/AbstractStringBuilder" "count" "I" (.int 0) ∧ Av Z h z .byte (List.map Value.int (List.replicate 16 0)) ∧ so = [z]) := by
  refine Ct.body (plainFor_of_name pn4) ?_
  intro p e s m below meth c T W
  refine WP.cast (g' := (mkF m 0 #[.val (.ref x)] [])) (by simp [entryFrame, mkF, argsToLocals, cat_i, cat_l, cat_r, cat_n]) ?_
  refine k_aloadN W d_jdk_67_1_0 rfl rfl ?_
  refine k_bipush W d_jdk_67_1_1 (z := (16 : Int32)) rfl ?_
  refine k_callIz W 0 1 16 (argsL := [(.int (16 : Int32))]) (rest := []) (a := x) d_jdk_67_1_3 rfl rfl (w152 hw) (w153 hw) (by decide) (lenOf pd5 rfl) (ct_bini l Z a0 hw n0 h0 x zc EX FV FC FN P0 hzc) (w157 hw) (w156 hw) (fun x hx => hx) rfl (Nat.le_of_eq rfl) (Nat.le_of_ble_eq_true rfl) (Nat.le_of_ble_eq_true rfl) ⟨rfl, Nat.le_of_ble_eq_true rfl⟩ ⟨rfl, Nat.le_of_ble_eq_true rfl⟩ rfl (fun _ _ _ q => nomatch q.1) fun T h61 so W hQ => ?_
  obtain ⟨-, z61, g61, K61, V61, C61, N61, A61, rfl⟩ := hQ
  exact k_ret W d_jdk_67_1_6 rfl [z61] (fun x hx => by simp only [List.mem_cons, List.not_mem_nil, or_false] at hx; rcases hx with rfl; all_goals first | exact (List.mem_of_getElem? (i := 0) rfl)) (Nat.le_of_ble_eq_true rfl) (Nat.le_of_ble_eq_true rfl) ⟨rfl, z61, g61, K61, V61, C61, N61, A61, rfl⟩
set_option maxRecDepth 65536 in
set_option maxHeartbeats 40000000 in
theorem ct_coder (l : Launch) (Z : State) (a0 : Array Value) (hw : ∀ d ∈ tables_1, d.before a0 Z = true) (n0 : Nat) (h0 : Heap) (x b : Addr) (bs : List Int32) (zc : Int32) (S0 : St Z h0 x b bs) (P0 : Sta Z h0 "java/lang/String" "COMPACT_STRINGS" "Z" (.int zc)) (hzc : zc ≠ 0) : Ct l Z a0 own_EL false (⟨"java/lang/String", "coder", "()B"⟩ : MethodName) jdk_42_method_152_code 1 (Option.some Jvm.ClassFile.FieldType.byte) ({ frames := 0, cells := 0, slots := 0, locals := 0 } : Room) #[(.ref x)] h0 [] n0 (fun v h so => v = some (.int (0 : Int32)) ∧ h0 = h ∧ so = []) := by
  refine Ct.body (plainFor_of_name pn1) ?_
  intro p e s m below meth c T W
  refine WP.cast (g' := (mkF m 0 #[.val (.ref x)] [])) (by simp [entryFrame, mkF, argsToLocals, cat_i, cat_l, cat_r, cat_n]) ?_
  refine k_getS W d_jdk_42_152_0 (w21 hw) Via.refl P0 fun T W => ?_
  refine k_ifN W d_jdk_42_152_3 (show ¬ (zc = 0) from hzc) ?_
  refine k_aloadN W d_jdk_42_152_6 rfl rfl ?_
  refine k_getF W d_jdk_42_152_7 (host := "") (Or.inl (w33 hw)) Via.refl S0.2.1 fun T W => ?_
  refine k_goto W 14 d_jdk_42_152_10 (by decide) ?_
  exact k_retN W (t := .byte) (z' := (0 : Int32)) d_jdk_42_152_14 rfl (by simp) (by decide) [] (fun x hx => nomatch hx) (Nat.le_of_ble_eq_true rfl) (Nat.le_of_ble_eq_true rfl) ⟨rfl, rfl, rfl⟩
set_option maxRecDepth 65536 in
set_option maxHeartbeats 40000000 in
theorem ct_len (l : Launch) (Z : State) (a0 : Array Value) (hw : ∀ d ∈ tables_1, d.before a0 Z = true) (n0 : Nat) (h0 : Heap) (x b : Addr) (bs : List Int32) (zc : Int32) (S0 : St Z h0 x b bs) (P0 : Sta Z h0 "java/lang/String" "COMPACT_STRINGS" "Z" (.int zc)) (hzc : zc ≠ 0) : Ct l Z a0 own_EL false (⟨"java/lang/String", "length", "()I"⟩ : MethodName) jdk_42_method_54_code 1 (Option.some Jvm.ClassFile.FieldType.int) ({ frames := 1, cells := 0, slots := 0, locals := 13 } : Room) #[(.ref x)] h0 [] n0 (fun v h so => v = some (.int (Int32.ofNat bs.length)) ∧ h0 = h ∧ so = []) := by
  refine Ct.body (plainFor_of_name pn1) ?_
  intro p e s m below meth c T W
  refine WP.cast (g' := (mkF m 0 #[.val (.ref x)] [])) (by simp [entryFrame, mkF, argsToLocals, cat_i, cat_l, cat_r, cat_n]) ?_
  refine k_aloadN W d_jdk_42_54_0 rfl rfl ?_
  refine k_getF W d_jdk_42_54_1 (host := "") (Or.inl (w35 hw)) Via.refl S0.2.2.1 fun T W => ?_
  refine k_arraylength W (z := (Int32.ofNat bs.length)) d_jdk_42_54_4 S0.2.2.2 (by first | (rw [List.length_map]; done) | (rw [List.length_map]; rfl)) ?_
  refine k_aloadN W d_jdk_42_54_5 rfl rfl ?_
  refine k_callV W 1 0 0 (argsL := []) (rest := [(.int (Int32.ofNat bs.length))]) (a := x) (C := "java/lang/String") (z0 := (⟨"java/lang/String", "coder", "()B"⟩ : MethodName)) (z := (⟨"java/lang/String", "coder", "()B"⟩ : MethodName)) d_jdk_42_54_6 (w180 hw) (w181 hw) (nfSel (w183 hw)) (w183 hw) (w182 hw) (by decide) (lenOf pd6 rfl) S0.1 (ct_coder l Z a0 hw n0 h0 x b bs zc S0 P0 hzc) (w184 hw) (w6 hw) (fun x hx => hx) rfl (Nat.le_of_eq rfl) (Nat.le_of_ble_eq_true rfl) (Nat.le_of_ble_eq_true rfl) ⟨rfl, Nat.le_of_ble_eq_true rfl⟩ ⟨rfl, Nat.le_of_ble_eq_true rfl⟩ rfl (fun _ _ q => nomatch q.1) fun T h62 v so W hQ => ?_
  obtain ⟨hv, rfl, -⟩ := hQ
  obtain rfl := Option.some.inj hv
  refine k_ishr W d_jdk_42_54_9 (z := (Int32.ofNat bs.length)) (shr0 _) ?_
  exact k_ireturn W d_jdk_42_54_10 rfl [] (fun x hx => nomatch hx) (Nat.le_of_ble_eq_true rfl) (Nat.le_of_ble_eq_true rfl) ⟨rfl, rfl, rfl⟩
set_option maxRecDepth 65536 in
set_option maxHeartbeats 40000000 in
theorem ct_bl1 (l : Launch) (Z : State) (a0 : Array Value) (hw : ∀ d ∈ tables_1, d.before a0 Z = true) (n0 : Nat) (h0 : Heap) (x : Addr) (zc : Int32) (FC : Fld Z h0 x "java/lang/AbstractStringBuilder" "coder" "B" (.int (0 : Int32))) (P0 : Sta Z h0 "java/lang/String" "COMPACT_STRINGS" "Z" (.int zc)) (hzc : zc ≠ 0) : Ct l Z a0 own_EL false (⟨"java/lang/AbstractStringBuilder", "isLatin1", "()Z"⟩ : MethodName) jdk_68_method_68_code 1 (Option.some Jvm.ClassFile.FieldType.boolean) ({ frames := 0, cells := 0, slots := 0, locals := 0 } : Room) #[(.ref x)] h0 [] n0 (fun v h so => v = some (.int (1 : Int32)) ∧ h0 = h ∧ so = []) := by
  refine Ct.body (plainFor_of_name pn3) ?_
  intro p e s m below meth c T W
  refine WP.cast (g' := (mkF m 0 #[.val (.ref x)] [])) (by simp [entryFrame, mkF, argsToLocals, cat_i, cat_l, cat_r, cat_n]) ?_
  refine k_getS W d_jdk_68_68_0 (w159 hw) Via.refl P0 fun T W => ?_
  refine k_ifN W d_jdk_68_68_3 (show ¬ (zc = 0) from hzc) ?_
  refine k_aloadN W d_jdk_68_68_6 rfl rfl ?_
  refine k_getF W d_jdk_68_68_7 (host := "") (Or.inl (w162 hw)) Via.refl FC fun T W => ?_
  refine k_ifN W d_jdk_68_68_10 (show ¬ (¬ (0 : Int32) = 0) by decide) ?_
  refine k_iconst W d_jdk_68_68_13 (z := (1 : Int32)) rfl ?_
  refine k_goto W 18 d_jdk_68_68_14 (by decide) ?_
  exact k_retN W (t := .boolean) (z' := (1 : Int32)) d_jdk_68_68_18 rfl (by simp) (by decide) [] (fun x hx => nomatch hx) (Nat.le_of_ble_eq_true rfl) (Nat.le_of_ble_eq_true rfl) ⟨rfl, rfl, rfl⟩
set_option maxRecDepth 65536 in
set_option maxHeartbeats 40000000 in
theorem ct_infl (l : Launch) (Z : State) (a0 : Array Value) (hw : ∀ d ∈ tables_1, d.before a0 Z = true) (n0 : Nat) (h0 : Heap) (x y b : Addr) (bs : List Int32) (zc : Int32) (FC : Fld Z h0 x "java/lang/AbstractStringBuilder" "coder" "B" (.int (0 : Int32))) (S0 : St Z h0 y b bs) (P0 : Sta Z h0 "java/lang/String" "COMPACT_STRINGS" "Z" (.int zc)) (hzc : zc ≠ 0) : Ct l Z a0 own_EL false (⟨"java/lang/AbstractStringBuilder", "inflateIfNeededFor", "(Ljava/lang/String;)V"⟩ : MethodName) jdk_68_method_71_code 2 (Option.none : Option Jvm.ClassFile.FieldType) ({ frames := 1, cells := 0, slots := 0, locals := 13 } : Room) #[(.ref x), (.ref y)] h0 [] n0 (fun v h so => v = none ∧ h0 = h ∧ so = []) := by
  refine Ct.body (plainFor_of_name pn3) ?_
  intro p e s m below meth c T W
  refine WP.cast (g' := (mkF m 0 #[.val (.ref x), .val (.ref y)] [])) (by simp [entryFrame, mkF, argsToLocals, cat_i, cat_l, cat_r, cat_n]) ?_
  refine k_getS W d_jdk_68_71_0 (w159 hw) Via.refl P0 fun T W => ?_
  refine k_ifN W d_jdk_68_71_3 (show ¬ (zc = 0) from hzc) ?_
  refine k_aloadN W d_jdk_68_71_6 rfl rfl ?_
  refine k_getF W d_jdk_68_71_7 (host := "") (Or.inl (w162 hw)) Via.refl FC fun T W => ?_
  refine k_aloadN W d_jdk_68_71_10 rfl rfl ?_
  refine k_callV W 1 0 0 (argsL := []) (rest := [(.int (0 : Int32))]) (a := y) (C := "java/lang/String") (z0 := (⟨"java/lang/String", "coder", "()B"⟩ : MethodName)) (z := (⟨"java/lang/String", "coder", "()B"⟩ : MethodName)) d_jdk_68_71_11 (w202 hw) (w181 hw) (nfSel (w183 hw)) (w183 hw) (w182 hw) (by decide) (lenOf pd6 rfl) S0.1 (ct_coder l Z a0 hw n0 h0 y b bs zc S0 P0 hzc) (w184 hw) (w6 hw) (fun x hx => hx) rfl (Nat.le_of_eq rfl) (Nat.le_of_ble_eq_true rfl) (Nat.le_of_ble_eq_true rfl) ⟨rfl, Nat.le_of_ble_eq_true rfl⟩ ⟨rfl, Nat.le_of_ble_eq_true rfl⟩ rfl (fun _ _ q => nomatch q.1) fun T h63 v so W hQ => ?_
  obtain ⟨hv, rfl, -⟩ := hQ
  obtain rfl := Option.some.inj hv
  refine k_icY W 21 d_jdk_68_71_14 (by decide) (show (0 : Int32) = (0 : Int32) by decide) ?_
  exact k_ret W d_jdk_68_71_21 rfl [] (fun x hx => nomatch hx) (Nat.le_of_ble_eq_true rfl) (Nat.le_of_ble_eq_true rfl) ⟨rfl, rfl, rfl⟩
set_option maxRecDepth 65536 in
set_option maxHeartbeats 40000000 in
theorem ct_getB (l : Launch) (Z : State) (a0 : Array Value) (hw : ∀ d ∈ tables_1, d.before a0 Z = true) (n0 : Nat) (h0 : Heap) (y b vb : Addr) (bs cs r : List Int32) (zc : Int32) (hfit : bs.length ≤ r.length) (hne : b ≠ vb) (S0 : St Z h0 y b bs) (AB : Av Z h0 vb .byte (List.map Value.int (cs ++ r))) (P0 : Sta Z h0 "java/lang/String" "COMPACT_STRINGS" "Z" (.int zc)) (hzc : zc ≠ 0) : Ct l Z a0 own_EL false (⟨"java/lang/String", "getBytes", "([BIB)V"⟩ : MethodName) jdk_42_method_147_code 4 (Option.none : Option Jvm.ClassFile.FieldType) ({ frames := 1, cells := 0, slots := 0, locals := 18 } : Room) #[(.ref y), (.ref vb), (.int (Int32.ofNat cs.length)), (.int (0 : Int32))] h0 [vb] n0 (fun v h so => v = none ∧ Keep h0 h [vb] ∧ Av Z h vb .byte (List.map Value.int (cs ++ bs ++ r.drop bs.length))) := by
  refine Ct.body (plainFor_of_name pn1) ?_
  intro p e s m below meth c T W
  refine WP.cast (g' := (mkF m 0 #[.val (.ref y), .val (.ref vb), .val (.int (Int32.ofNat cs.length)), .val (.int (0 : Int32))] [])) (by simp [entryFrame, mkF, argsToLocals, cat_i, cat_l, cat_r, cat_n]) ?_
  have hL : (cs ++ r).length < 2147483648 := by have := AB.len; rw [List.length_map] at this; exact this
  have hle : cs.length ≤ (cs ++ r).length := by rw [List.length_append]; omega
  have hb : bs.length < 2147483648 := by have := S0.2.2.2.len; simpa using this
  refine k_aloadN W d_jdk_42_147_0 rfl rfl ?_
  refine k_callV W 0 0 0 (argsL := []) (rest := []) (a := y) (C := "java/lang/String") (z0 := (⟨"java/lang/String", "coder", "()B"⟩ : MethodName)) (z := (⟨"java/lang/String", "coder", "()B"⟩ : MethodName)) d_jdk_42_147_1 (w180 hw) (w181 hw) (nfSel (w183 hw)) (w183 hw) (w182 hw) (by decide) (lenOf pd6 rfl) S0.1 (ct_coder l Z a0 hw n0 h0 y b bs zc S0 P0 hzc) (w184 hw) (w6 hw) (fun x hx => nomatch hx) rfl (Nat.le_of_eq rfl) (Nat.le_of_ble_eq_true rfl) (Nat.le_of_ble_eq_true rfl) ⟨rfl, Nat.le_of_ble_eq_true rfl⟩ ⟨rfl, Nat.le_of_ble_eq_true rfl⟩ rfl (fun _ _ q => nomatch q.1) fun T h64 v so W hQ => ?_
  obtain ⟨hv, rfl, -⟩ := hQ
  obtain rfl := Option.some.inj hv
  refine k_iloadN W d_jdk_42_147_4 rfl ?_
  refine k_icN W d_jdk_42_147_5 (show ¬ (¬ (0 : Int32) = (0 : Int32)) by decide) ?_
  refine k_aloadN W d_jdk_42_147_8 rfl rfl ?_
  refine k_getF W d_jdk_42_147_9 (host := "") (Or.inl (w35 hw)) Via.refl S0.2.2.1 fun T W => ?_
  refine k_iconst W d_jdk_42_147_12 (z := (0 : Int32)) rfl ?_
  refine k_aloadN W d_jdk_42_147_13 rfl rfl ?_
  refine k_iloadN W d_jdk_42_147_14 rfl ?_
  refine k_iloadN W d_jdk_42_147_15 rfl ?_
  refine k_ishl W d_jdk_42_147_16 (z := (Int32.ofNat cs.length)) (shl0 _) ?_
  refine k_aloadN W d_jdk_42_147_17 rfl rfl ?_
  refine k_getF W d_jdk_42_147_18 (host := "") (Or.inl (w35 hw)) Via.refl S0.2.2.1 fun T W => ?_
  refine k_arraylength W (z := (Int32.ofNat bs.length)) d_jdk_42_147_21 S0.2.2.2 (by first | (rw [List.length_map]; done) | (rw [List.length_map]; rfl)) ?_
  refine k_acopy W 0 0 cs.length bs.length d_jdk_42_147_22 (w208 hw) (w211 hw) (w209 hw) (w210 hw) S0.2.2.2 AB rfl (List.mem_of_getElem? (i := 0) rfl) (by decide) (ix_of (by omega)) (ix_of hb) (by rw [List.length_map]; omega) (by rw [List.length_map, List.length_append]; omega) rfl (Nat.le_of_eq rfl) (Nat.le_of_ble_eq_true rfl) (Nat.le_of_ble_eq_true rfl) fun T h65 W K65 A65 => ?_
  have A65 : Av Z h65 vb .byte (List.map Value.int (cs ++ bs ++ r.drop bs.length)) := (acpB ▸ A65)
  refine k_goto W 43 d_jdk_42_147_25 (by decide) ?_
  have KK66 : Keep h0 h65 [vb] := (Keep.refl h0 [vb]).trans K65 (allS (Or.inl (List.mem_of_getElem? (i := 0) rfl)) all0)
  exact k_ret W d_jdk_42_147_43 rfl [] (fun x hx => nomatch hx) (Nat.le_of_ble_eq_true rfl) (Nat.le_of_ble_eq_true rfl) ⟨rfl, KK66, A65⟩
set_option maxRecDepth 65536 in
set_option maxHeartbeats 40000000 in
theorem ct_putS (l : Launch) (Z : State) (a0 : Array Value) (hw : ∀ d ∈ tables_1, d.before a0 Z = true) (n0 : Nat) (h0 : Heap) (x vb : Addr) (cs r : List Int32) (y b : Addr) (bs : List Int32) (zc : Int32) (hfit : bs.length ≤ r.length) (hne : b ≠ vb) (EX : Exa Z h0 x "java/lang/StringBuilder") (FV : Fld Z h0 x "java/lang/AbstractStringBuilder" "value" "[B" (.ref vb)) (FC : Fld Z h0 x "java/lang/AbstractStringBuilder" "coder" "B" (.int (0 : Int32))) (AB : Av Z h0 vb .byte (List.map Value.int (cs ++ r))) (S0 : St Z h0 y b bs) (P0 : Sta Z h0 "java/lang/String" "COMPACT_STRINGS" "Z" (.int zc)) (hzc : zc ≠ 0) : Ct l Z a0 own_EL false (⟨"java/lang/AbstractStringBuilder", "putStringAt", "(ILjava/lang/String;)V"⟩ : MethodName) jdk_68_method_73_code 3 (Option.none : Option Jvm.ClassFile.FieldType) ({ frames := 2, cells := 0, slots := 0, locals := 33 } : Room) #[(.ref x), (.int (Int32.ofNat cs.length)), (.ref y)] h0 [vb] n0 (fun v h so => v = none ∧ Keep h0 h [vb] ∧ Av Z h vb .byte (List.map Value.int (cs ++ bs ++ r.drop bs.length))) := by
  refine Ct.body (plainFor_of_name pn3) ?_
  intro p e s m below meth c T W
  refine WP.cast (g' := (mkF m 0 #[.val (.ref x), .val (.int (Int32.ofNat cs.length)), .val (.ref y)] [])) (by simp [entryFrame, mkF, argsToLocals, cat_i, cat_l, cat_r, cat_n]) ?_
  refine k_aloadN W d_jdk_68_73_0 rfl rfl ?_
  refine k_aloadN W d_jdk_68_73_1 rfl rfl ?_
  refine k_callP0 W 0 0 0 (argsL := [(.ref y)]) (rest := []) (a := x) (C := "java/lang/StringBuilder") d_jdk_68_73_2 (w197 hw) (w198 hw) (nfSel2 (w190 hw) rfl) (w199 hw) (by decide) (lenOf pd7 rfl) EX (ct_infl l Z a0 hw n0 h0 x y b bs zc FC S0 P0 hzc) (w201 hw) (w156 hw) (fun x hx => nomatch hx) rfl (Nat.le_of_eq rfl) (Nat.le_of_ble_eq_true rfl) (Nat.le_of_ble_eq_true rfl) ⟨rfl, Nat.le_of_ble_eq_true rfl⟩ ⟨rfl, Nat.le_of_ble_eq_true rfl⟩ rfl (fun _ _ _ q => nomatch q.1) fun T h67 so W hQ => ?_
  obtain ⟨-, rfl, -⟩ := hQ
  refine k_aloadN W d_jdk_68_73_5 rfl rfl ?_
  refine k_aloadN W d_jdk_68_73_6 rfl rfl ?_
  refine k_getF W d_jdk_68_73_7 (host := "") (Or.inl (w160 hw)) Via.refl FV fun T W => ?_
  refine k_iloadN W d_jdk_68_73_10 rfl ?_
  refine k_aloadN W d_jdk_68_73_11 rfl rfl ?_
  refine k_getF W d_jdk_68_73_12 (host := "") (Or.inl (w162 hw)) Via.refl FC fun T W => ?_
  refine k_callV0 W 0 0 0 (argsL := [(.ref vb), (.int (Int32.ofNat cs.length)), (.int (0 : Int32))]) (rest := []) (a := y) (C := "java/lang/String") (z0 := (⟨"java/lang/String", "getBytes", "([BIB)V"⟩ : MethodName)) (z := (⟨"java/lang/String", "getBytes", "([BIB)V"⟩ : MethodName)) d_jdk_68_73_15 (w203 hw) (w204 hw) (nfSel (w206 hw)) (w206 hw) (w205 hw) (by decide) (lenOf pd8 rfl) S0.1 (ct_getB l Z a0 hw n0 h0 y b vb bs cs r zc hfit hne S0 AB P0 hzc) (w207 hw) (w6 hw) (fun x hx => hx) rfl (Nat.le_of_eq rfl) (Nat.le_of_ble_eq_true rfl) (Nat.le_of_ble_eq_true rfl) ⟨rfl, Nat.le_of_ble_eq_true rfl⟩ ⟨rfl, Nat.le_of_ble_eq_true rfl⟩ rfl (fun _ _ _ q => nomatch q.1) fun T h68 so W hQ => ?_
  obtain ⟨-, K68, A68⟩ := hQ
  have KK69 : Keep h0 h68 [vb] := (Keep.refl h0 [vb]).trans K68 (allS (Or.inl (List.mem_of_getElem? (i := 0) rfl)) all0)
  exact k_ret W d_jdk_68_73_18 rfl [] (fun x hx => nomatch hx) (Nat.le_of_ble_eq_true rfl) (Nat.le_of_ble_eq_true rfl) ⟨rfl, KK69, A68⟩
set_option maxRecDepth 65536 in
set_option maxHeartbeats 40000000 in
theorem ct_ensF (l : Launch) (Z : State) (a0 : Array Value) (hw : ∀ d ∈ tables_1, d.before a0 Z = true) (n0 : Nat) (h0 : Heap) (x vb : Addr) (cs r : List Int32) (mn : Nat) (hmn : mn ≤ (cs ++ r).length) (FV : Fld Z h0 x "java/lang/AbstractStringBuilder" "value" "[B" (.ref vb)) (FC : Fld Z h0 x "java/lang/AbstractStringBuilder" "coder" "B" (.int (0 : Int32))) (AB : Av Z h0 vb .byte (List.map Value.int (cs ++ r))) : Ct l Z a0 own_EL false (⟨"java/lang/AbstractStringBuilder", "ensureCapacityInternal", "(I)V"⟩ : MethodName) jdk_68_method_9_code 3 (Option.none : Option Jvm.ClassFile.FieldType) ({ frames := 0, cells := 0, slots := 0, locals := 0 } : Room) #[(.ref x), (.int (Int32.ofNat mn))] h0 [] n0 (fun v h so => v = none ∧ h0 = h ∧ so = []) := by
  refine Ct.body (plainFor_of_name pn3) ?_
  intro p e s m below meth c T W
  refine WP.cast (g' := (mkF m 0 #[.val (.ref x), .val (.int (Int32.ofNat mn)), .unset] [])) (by simp [entryFrame, mkF, argsToLocals, cat_i, cat_l, cat_r, cat_n]) ?_
  have hL : (cs ++ r).length < 2147483648 := by have := AB.len; rw [List.length_map] at this; exact this
  refine k_aloadN W d_jdk_68_9_0 rfl rfl ?_
  refine k_getF W d_jdk_68_9_1 (host := "") (Or.inl (w160 hw)) Via.refl FV fun T W => ?_
  refine k_arraylength W (z := (Int32.ofNat (cs ++ r).length)) d_jdk_68_9_4 AB (by first | (rw [List.length_map]; done) | (rw [List.length_map]; rfl)) ?_
  refine k_aloadN W d_jdk_68_9_5 rfl rfl ?_
  refine k_getF W d_jdk_68_9_6 (host := "") (Or.inl (w162 hw)) Via.refl FC fun T W => ?_
  refine k_ishr W d_jdk_68_9_9 (z := (Int32.ofNat (cs ++ r).length)) (shr0 _) ?_
  refine k_istoreN W d_jdk_68_9_10 (L' := #[.val (.ref x), .val (.int (Int32.ofNat mn)), .val (.int (Int32.ofNat (cs ++ r).length))]) rfl ?_
  refine k_iloadN W d_jdk_68_9_11 rfl ?_
  refine k_iloadN W d_jdk_68_9_12 rfl ?_
  refine k_isub W d_jdk_68_9_13 (z := ((Int32.ofNat mn) - (Int32.ofNat (cs ++ r).length))) rfl ?_
  refine k_ifY W 38 d_jdk_68_9_14 (by decide) (show ¬ 0 < ((Int32.ofNat mn) - (Int32.ofNat (cs ++ r).length)) from (sub_le0 hmn hL)) ?_
  exact k_ret W d_jdk_68_9_38 rfl [] (fun x hx => nomatch hx) (Nat.le_of_ble_eq_true rfl) (Nat.le_of_ble_eq_true rfl) ⟨rfl, rfl, rfl⟩
set_option maxRecDepth 65536 in
set_option maxHeartbeats 40000000 in
theorem ct_apSF (l : Launch) (Z : State) (a0 : Array Value) (hw : ∀ d ∈ tables_1, d.before a0 Z = true) (n0 : Nat) (h0 : Heap) (x vb : Addr) (cs r : List Int32) (y b : Addr) (bs : List Int32) (zc : Int32) (hfit : bs.length ≤ r.length) (hne : b ≠ vb) (EX : Exa Z h0 x "java/lang/StringBuilder") (FV : Fld Z h0 x "java/lang/AbstractStringBuilder" "value" "[B" (.ref vb)) (FC : Fld Z h0 x "java/lang/AbstractStringBuilder" "coder" "B" (.int (0 : Int32))) (FN : Fld Z h0 x "java/lang/AbstractStringBuilder" "count" "I" (.int (Int32.ofNat cs.length))) (AB : Av Z h0 vb .byte (List.map Value.int (cs ++ r))) (S0 : St Z h0 y b bs) (P0 : Sta Z h0 "java/lang/String" "COMPACT_STRINGS" "Z" (.int zc)) (hzc : zc ≠ 0) : Ct l Z a0 own_EL false (⟨"java/lang/AbstractStringBuilder", "append", "(Ljava/lang/String;)Ljava/lang/AbstractStringBuilder;"⟩ : MethodName) jdk_68_method_22_code 3 (Option.some (Jvm.ClassFile.FieldType.object "java/lang/AbstractStringBuilder")) ({ frames := 3, cells := 0, slots := 0, locals := 47 } : Room) #[(.ref x), (.ref y)] h0 [x, vb] n0 (fun v h so => v = some (.ref x) ∧ Keep h0 h [x, vb] ∧ Fld Z h x "java/lang/AbstractStringBuilder" "value" "[B" (.ref vb) ∧ Fld Z h x "java/lang/AbstractStringBuilder" "coder" "B" (.int 0) ∧ Fld Z h x "java/lang/AbstractStringBuilder" "count" "I" (.int (Int32.ofNat (cs.length + bs.length))) ∧ Av Z h vb .byte (List.map Value.int (cs ++ bs ++ r.drop bs.length))) := by
  refine Ct.body (plainFor_of_name pn3) ?_
  intro p e s m below meth c T W
  refine WP.cast (g' := (mkF m 0 #[.val (.ref x), .val (.ref y), .unset] [])) (by simp [entryFrame, mkF, argsToLocals, cat_i, cat_l, cat_r, cat_n]) ?_
  have hL : (cs ++ r).length < 2147483648 := by have := AB.len; rw [List.length_map] at this; exact this
  have hle : cs.length ≤ (cs ++ r).length := by rw [List.length_append]; omega
  refine k_aloadN W d_jdk_68_22_0 rfl rfl ?_
  refine k_nnY W 9 d_jdk_68_22_1 (by decide) ?_
  refine k_aloadN W d_jdk_68_22_9 rfl rfl ?_
  refine k_callV W 0 0 0 (argsL := []) (rest := []) (a := y) (C := "java/lang/String") (z0 := (⟨"java/lang/String", "length", "()I"⟩ : MethodName)) (z := (⟨"java/lang/String", "length", "()I"⟩ : MethodName)) d_jdk_68_22_10 (w175 hw) (w176 hw) (nfSel (w178 hw)) (w178 hw) (w177 hw) (by decide) (lenOf pd9 rfl) S0.1 (ct_len l Z a0 hw n0 h0 y b bs zc S0 P0 hzc) (w179 hw) (w6 hw) (fun x hx => nomatch hx) rfl (Nat.le_of_eq rfl) (Nat.le_of_ble_eq_true rfl) (Nat.le_of_ble_eq_true rfl) ⟨rfl, Nat.le_of_ble_eq_true rfl⟩ ⟨rfl, Nat.le_of_ble_eq_true rfl⟩ rfl (fun _ _ q => nomatch q.1) fun T h70 v so W hQ => ?_
  obtain ⟨hv, rfl, -⟩ := hQ
  obtain rfl := Option.some.inj hv
  refine k_istoreN W d_jdk_68_22_13 (L' := #[.val (.ref x), .val (.ref y), .val (.int (Int32.ofNat bs.length))]) rfl ?_
  refine k_aloadN W d_jdk_68_22_14 rfl rfl ?_
  refine k_aloadN W d_jdk_68_22_15 rfl rfl ?_
  refine k_getF W d_jdk_68_22_16 (host := "") (Or.inl (w185 hw)) Via.refl FN fun T W => ?_
  refine k_iloadN W d_jdk_68_22_19 rfl ?_
  refine k_iadd W d_jdk_68_22_20 (z := (Int32.ofNat (cs.length + bs.length))) (of_addn _ _) ?_
  refine k_callP0 W 0 0 0 (argsL := [(.int (Int32.ofNat (cs.length + bs.length)))]) (rest := []) (a := x) (C := "java/lang/StringBuilder") d_jdk_68_22_21 (w187 hw) (w188 hw) (nfSel2 (w190 hw) rfl) (w189 hw) (by decide) (lenOf pd5 rfl) EX (ct_ensF l Z a0 hw n0 h0 x vb cs r (cs.length + bs.length) (by rw [List.length_append]; omega) FV FC AB) (w191 hw) (w156 hw) (fun x hx => nomatch hx) rfl (Nat.le_of_eq rfl) (Nat.le_of_ble_eq_true rfl) (Nat.le_of_ble_eq_true rfl) ⟨rfl, Nat.le_of_ble_eq_true rfl⟩ ⟨rfl, Nat.le_of_ble_eq_true rfl⟩ rfl (fun _ _ _ q => nomatch q.1) fun T h71 so W hQ => ?_
  obtain ⟨-, rfl, -⟩ := hQ
  refine k_aloadN W d_jdk_68_22_24 rfl rfl ?_
  refine k_aloadN W d_jdk_68_22_25 rfl rfl ?_
  refine k_getF W d_jdk_68_22_26 (host := "") (Or.inl (w185 hw)) Via.refl FN fun T W => ?_
  refine k_aloadN W d_jdk_68_22_29 rfl rfl ?_
  refine k_callP0 W 0 0 0 (argsL := [(.int (Int32.ofNat cs.length)), (.ref y)]) (rest := []) (a := x) (C := "java/lang/StringBuilder") d_jdk_68_22_30 (w192 hw) (w193 hw) (nfSel2 (w190 hw) rfl) (w194 hw) (by decide) (lenOf pd10 rfl) EX (ct_putS l Z a0 hw n0 h0 x vb cs r y b bs zc hfit hne EX FV FC AB S0 P0 hzc) (w196 hw) (w156 hw) (fun x hx => by simp only [List.mem_cons, List.not_mem_nil, or_false] at hx; rcases hx with rfl; all_goals first | exact (List.mem_of_getElem? (i := 1) rfl)) rfl (Nat.le_of_eq rfl) (Nat.le_of_ble_eq_true rfl) (Nat.le_of_ble_eq_true rfl) ⟨rfl, Nat.le_of_ble_eq_true rfl⟩ ⟨rfl, Nat.le_of_ble_eq_true rfl⟩ rfl (fun _ _ _ q => nomatch q.1) fun T h72 so W hQ => ?_
  obtain ⟨-, K72, A72⟩ := hQ
  refine k_aloadN W d_jdk_68_22_33 rfl rfl ?_
  refine k_dup W d_jdk_68_22_34 rfl ?_
  have ne73 : x ≠ vb := (ne_exav EX (w147 hw) AB)
  have f74 := (FN.keep K72 (ninS ne73 nin0))
  refine k_getF W d_jdk_68_22_35 (host := "") (Or.inl (w185 hw)) Via.refl f74 fun T W => ?_
  refine k_iloadN W d_jdk_68_22_38 rfl ?_
  refine k_iadd W d_jdk_68_22_39 (z := (Int32.ofNat (cs.length + bs.length))) (of_addn _ _) ?_
  have f75 := (EX.keep K72)
  refine k_putF W d_jdk_68_22_40 (w185 hw) Via.refl (v' := (.int (Int32.ofNat (cs.length + bs.length)))) (List.mem_of_getElem? (i := 0) rfl) f74 f75 (Or.inl (w186 hw)) (w147 hw) (ty := .int) (by decide) rfl rfl fun T h76 W Wr76 => ?_
  have K76 : Keep h72 h76 [x] := Keep.of_wr Wr76
  refine k_aloadN W d_jdk_68_22_43 rfl rfl ?_
  have f77 := ((FV.keep K72 (ninS ne73 nin0)).other Wr76 (Or.inr (slot_ne (Or.inl (w161 hw)) (Or.inl (w186 hw)) (by decide) (t := (.array .byte)) (t' := .int) (by decide) (by decide))))
  have f78 := ((FC.keep K72 (ninS ne73 nin0)).other Wr76 (Or.inr (slot_ne (Or.inl (w163 hw)) (Or.inl (w186 hw)) (by decide) (t := .byte) (t' := .int) (by decide) (by decide))))
  have f79 := (A72.keep K76 (ninS (Ne.symm ne73) nin0))
  have KK80 : Keep h0 h72 [x, vb] := (Keep.refl h0 [x, vb]).trans K72 (allS (Or.inl (List.mem_of_getElem? (i := 1) rfl)) all0)
  have KK81 : Keep h0 h76 [x, vb] := KK80.trans K76 (allS (Or.inl (List.mem_of_getElem? (i := 0) rfl)) all0)
  exact k_areturn W d_jdk_68_22_44 rfl rfl rfl [] (fun x hx => nomatch hx) (Nat.le_of_ble_eq_true rfl) (Nat.le_of_ble_eq_true rfl) ⟨rfl, KK81, f77, f78, (Fld.same Wr76 f74), f79⟩
set_option maxRecDepth 65536 in
set_option maxHeartbeats 40000000 in
theorem ct_sapSF (l : Launch) (Z : State) (a0 : Array Value) (hw : ∀ d ∈ tables_1, d.before a0 Z = true) (n0 : Nat) (h0 : Heap) (x vb : Addr) (cs r : List Int32) (y b : Addr) (bs : List Int32) (zc : Int32) (hfit : bs.length ≤ r.length) (hne : b ≠ vb) (EX : Exa Z h0 x "java/lang/StringBuilder") (FV : Fld Z h0 x "java/lang/AbstractStringBuilder" "value" "[B" (.ref vb)) (FC : Fld Z h0 x "java/lang/AbstractStringBuilder" "coder" "B" (.int (0 : Int32))) (FN : Fld Z h0 x "java/lang/AbstractStringBuilder" "count" "I" (.int (Int32.ofNat cs.length))) (AB : Av Z h0 vb .byte (List.map Value.int (cs ++ r))) (S0 : St Z h0 y b bs) (P0 : Sta Z h0 "java/lang/String" "COMPACT_STRINGS" "Z" (.int zc)) (hzc : zc ≠ 0) : Ct l Z a0 own_EL false (⟨"java/lang/StringBuilder", "append", "(Ljava/lang/String;)Ljava/lang/StringBuilder;"⟩ : MethodName) jdk_67_method_7_code 2 (Option.some (Jvm.ClassFile.FieldType.object "java/lang/StringBuilder")) ({ frames := 4, cells := 0, slots := 0, locals := 61 } : Room) #[(.ref x), (.ref y)] h0 [x, vb] n0 (fun v h so => v = some (.ref x) ∧ Keep h0 h [x, vb] ∧ Fld Z h x "java/lang/AbstractStringBuilder" "value" "[B" (.ref vb) ∧ Fld Z h x "java/lang/AbstractStringBuilder" "coder" "B" (.int 0) ∧ Fld Z h x "java/lang/AbstractStringBuilder" "count" "I" (.int (Int32.ofNat (cs.length + bs.length))) ∧ Av Z h vb .byte (List.map Value.int (cs ++ bs ++ r.drop bs.length))) := by
  refine Ct.body (plainFor_of_name pn4) ?_
  intro p e s m below meth c T W
  refine WP.cast (g' := (mkF m 0 #[.val (.ref x), .val (.ref y)] [])) (by simp [entryFrame, mkF, argsToLocals, cat_i, cat_l, cat_r, cat_n]) ?_
  refine k_aloadN W d_jdk_67_7_0 rfl rfl ?_
  refine k_aloadN W d_jdk_67_7_1 rfl rfl ?_
  refine k_callU W 0 0 0 (argsL := [(.ref y)]) (rest := []) (a := x) (C := "java/lang/StringBuilder") d_jdk_67_7_2 (by decide) (w170 hw) (sameM (w171 hw) (nfSel2 (z0 := (⟨"java/lang/AbstractStringBuilder", "append", "(Ljava/lang/String;)Ljava/lang/AbstractStringBuilder;"⟩ : MethodName)) (w190 hw) rfl Z (State.Warmed39.refl Z)) (by decide)) (w171 hw) (w172 hw) (lenOf pd11 rfl) EX (ct_apSF l Z a0 hw n0 h0 x vb cs r y b bs zc hfit hne EX FV FC FN AB S0 P0 hzc) (w174 hw) (w156 hw) (fun x hx => hx) rfl (Nat.le_of_eq rfl) (Nat.le_of_ble_eq_true rfl) (Nat.le_of_ble_eq_true rfl) ⟨rfl, Nat.le_of_ble_eq_true rfl⟩ ⟨rfl, Nat.le_of_ble_eq_true rfl⟩ rfl (fun _ _ q => nomatch q.1) fun T h82 v so W hQ => ?_
  obtain ⟨hv, K82, V82, C82, N82, A82⟩ := hQ
  obtain rfl := Option.some.inj hv
  refine k_pop W d_jdk_67_7_5 rfl ?_
  refine k_aloadN W d_jdk_67_7_6 rfl rfl ?_
  exact k_areturn W d_jdk_67_7_7 rfl rfl rfl [] (fun x hx => nomatch hx) (Nat.le_of_ble_eq_true rfl) (Nat.le_of_ble_eq_true rfl) ⟨rfl, K82, V82, C82, N82, A82⟩
set_option maxRecDepth 65536 in
set_option maxHeartbeats 40000000 in
theorem ct_minR (l : Launch) (Z : State) (a0 : Array Value) (hw : ∀ d ∈ tables_1, d.before a0 Z = true) (n0 : Nat) (h0 : Heap) (p0 p1 : Int32) (hm : ¬ p0 < p1) : Ct l Z a0 own_EL false (⟨"java/lang/Math", "min", "(II)I"⟩ : MethodName) jdk_29_method_69_code 2 (Option.some Jvm.ClassFile.FieldType.int) ({ frames := 0, cells := 0, slots := 0, locals := 0 } : Room) #[(.int p0), (.int p1)] h0 [] n0 (fun v h so => v = some (.int p1) ∧ h0 = h ∧ so = []) := by
  refine Ct.body pf0 ?_
  intro p e s m below meth c T W
  refine WP.cast (g' := (mkF m 0 #[.val (.int p0), .val (.int p1)] [])) (by simp [entryFrame, mkF, argsToLocals, cat_i, cat_l, cat_r, cat_n]) ?_
  refine k_iloadN W d_jdk_29_69_0 rfl ?_
  refine k_iloadN W d_jdk_29_69_1 rfl ?_
  refine k_ic W 9 d_jdk_29_69_2 (by decide) (fun (hc83 : p1 < p0) => ?_) (fun (hc83 : ¬ (p1 < p0)) => ?_)
  · -- pc 9
    refine k_iloadN W d_jdk_29_69_9 rfl ?_
    exact k_ireturn W d_jdk_29_69_10 rfl [] (fun x hx => nomatch hx) (Nat.le_of_ble_eq_true rfl) (Nat.le_of_ble_eq_true rfl) ⟨rfl, rfl, rfl⟩
  · -- pc 5
    refine k_iloadN W d_jdk_29_69_5 rfl ?_
    refine k_goto W 10 d_jdk_29_69_6 (by decide) ?_
    exact k_ireturn W d_jdk_29_69_10 rfl [] (fun x hx => nomatch hx) (Nat.le_of_ble_eq_true rfl) (Nat.le_of_ble_eq_true rfl) ⟨by rw [lt_as hm hc83], rfl, rfl⟩
set_option maxRecDepth 65536 in
set_option maxHeartbeats 40000000 in
theorem ct_ckl (l : Launch) (Z : State) (a0 : Array Value) (hw : ∀ d ∈ tables_1, d.before a0 Z = true) (n0 : Nat) (h0 : Heap) (i e_ : Nat) (hie : i ≤ e_) (he : e_ < 2147483648) : Ct l Z a0 own_EL false (⟨"java/util/Arrays", "checkLength", "(II)V"⟩ : MethodName) jdk_65_method_131_code 2 (Option.none : Option Jvm.ClassFile.FieldType) ({ frames := 0, cells := 0, slots := 0, locals := 0 } : Room) #[(.int (Int32.ofNat i)), (.int (Int32.ofNat e_))] h0 [] n0 (fun v h so => v = none ∧ h0 = h ∧ so = []) := by
  refine Ct.body (plainFor_of_name pn5) ?_
  intro p e s m below meth c T W
  refine WP.cast (g' := (mkF m 0 #[.val (.int (Int32.ofNat i)), .val (.int (Int32.ofNat e_))] [])) (by simp [entryFrame, mkF, argsToLocals, cat_i, cat_l, cat_r, cat_n]) ?_
  refine k_iloadN W d_jdk_65_131_0 rfl ?_
  refine k_iloadN W d_jdk_65_131_1 rfl ?_
  refine k_icY W 37 d_jdk_65_131_2 (by decide) (show ¬ (Int32.ofNat e_) < (Int32.ofNat i) from (of_ge hie he)) ?_
  exact k_ret W d_jdk_65_131_37 rfl [] (fun x hx => nomatch hx) (Nat.le_of_ble_eq_true rfl) (Nat.le_of_ble_eq_true rfl) ⟨rfl, rfl, rfl⟩
set_option maxRecDepth 65536 in
set_option maxHeartbeats 40000000 in
theorem ct_corb (l : Launch) (Z : State) (a0 : Array Value) (hw : ∀ d ∈ tables_1, d.before a0 Z = true) (n0 : Nat) (h0 : Heap) (b : Addr) (bs : List Int32) (i e_ N : Nat) (hie : i ≤ e_) (hel : e_ ≤ bs.length) (hN : e_ - i ≤ N) (hN2 : N ≤ 67108864) (B0 : Av Z h0 b .byte (bs.map Value.int)) : Ct l Z a0 own_EL false (⟨"java/util/Arrays", "copyOfRangeByte", "([BII)[B"⟩ : MethodName) jdk_65_method_133_code 5 (Option.some (Jvm.ClassFile.FieldType.array Jvm.ClassFile.FieldType.byte)) ({ frames := 1, cells := 1, slots := N, locals := 18 } : Room) #[(.ref b), (.int (Int32.ofNat i)), (.int (Int32.ofNat e_))] h0 [] n0 (fun v h so => ∃ x, v = some (.ref x) ∧ h0.size ≤ x ∧ Keep h0 h [] ∧ Av Z h x .byte (((bs.drop i).take (e_ - i)).map Value.int)) := by
  refine Ct.body (plainFor_of_name pn5) ?_
  intro p e s m below meth c T W
  refine WP.cast (g' := (mkF m 0 #[.val (.ref b), .val (.int (Int32.ofNat i)), .val (.int (Int32.ofNat e_)), .unset, .unset] [])) (by simp [entryFrame, mkF, argsToLocals, cat_i, cat_l, cat_r, cat_n]) ?_
  have hL : bs.length < 2147483648 := by have := B0.len; simpa using this
  refine k_iloadN W d_jdk_65_133_0 rfl ?_
  refine k_iloadN W d_jdk_65_133_1 rfl ?_
  refine k_callS0 W 0 0 0 (argsL := [(.int (Int32.ofNat i)), (.int (Int32.ofNat e_))]) (rest := []) d_jdk_65_133_2 (w249 hw) (w250 hw) (by decide) (lenOf pd12 rfl) (ct_ckl l Z a0 hw n0 h0 i e_ hie (by omega)) (w251 hw) (w244 hw) (fun x hx => hx) rfl (Nat.le_of_eq rfl) (Nat.le_of_ble_eq_true rfl) (Nat.le_of_ble_eq_true rfl) ⟨rfl, Nat.le_of_ble_eq_true rfl⟩ ⟨rfl, (by show _ ≤ N; omega)⟩ rfl (fun _ _ _ q => nomatch q.1) fun T h84 so W hQ => ?_
  obtain ⟨-, rfl, -⟩ := hQ
  refine k_iloadN W d_jdk_65_133_5 rfl ?_
  refine k_iloadN W d_jdk_65_133_6 rfl ?_
  refine k_isub W d_jdk_65_133_7 (z := (Int32.ofNat (e_ - i))) (of_subn hie) ?_
  refine k_istoreN W d_jdk_65_133_8 (L' := #[.val (.ref b), .val (.int (Int32.ofNat i)), .val (.int (Int32.ofNat e_)), .val (.int (Int32.ofNat (e_ - i))), .unset]) rfl ?_
  refine k_iloadN W d_jdk_65_133_9 rfl ?_
  refine k_newarr W (e_ - i) 1 (0 + (e_ - i)) d_jdk_65_133_10 (w26 hw) (ix_of (by omega)) (by omega) ⟨rfl, Nat.le_of_ble_eq_true rfl⟩ ⟨rfl, (by show 0 + (e_ - i) ≤ N; omega)⟩ fun T h85 a86 g86 W E86 A86 => ?_
  have K86 : Keep h0 h85 [] := keep_ext E86 []
  have A86 : Av Z h85 a86 .byte (List.replicate (e_ - i) (defaultValue .byte)) := A86
  refine k_astore W d_jdk_65_133_12 rfl (L' := #[.val (.ref b), .val (.int (Int32.ofNat i)), .val (.int (Int32.ofNat e_)), .val (.int (Int32.ofNat (e_ - i))), .val (.ref a86)]) rfl ?_
  refine k_aloadN W d_jdk_65_133_14 rfl rfl ?_
  refine k_iloadN W d_jdk_65_133_15 rfl ?_
  refine k_aload W d_jdk_65_133_16 rfl rfl ?_
  refine k_iconst W d_jdk_65_133_18 (z := (0 : Int32)) rfl ?_
  refine k_aloadN W d_jdk_65_133_19 rfl rfl ?_
  have f87 := (B0.keep K86 nin0)
  refine k_arraylength W (z := (Int32.ofNat bs.length)) d_jdk_65_133_20 f87 (by first | (rw [List.length_map]; done) | (rw [List.length_map]; rfl)) ?_
  refine k_iloadN W d_jdk_65_133_21 rfl ?_
  refine k_isub W d_jdk_65_133_22 (z := (Int32.ofNat (bs.length - i))) (of_subn (by omega)) ?_
  refine k_iloadN W d_jdk_65_133_23 rfl ?_
  refine k_callS W 4 1 ((0 + (e_ - i)) + 0) (argsL := [(.int (Int32.ofNat (bs.length - i))), (.int (Int32.ofNat (e_ - i)))]) (rest := [(.int (0 : Int32)), (.ref a86), (.int (Int32.ofNat i)), (.ref b)]) d_jdk_65_133_24 (w252 hw) (w253 hw) (by decide) (lenOf pd13 rfl) (ct_minR l Z a0 hw n0 h85 (Int32.ofNat (bs.length - i)) (Int32.ofNat (e_ - i)) (of_ge (by omega) (by omega))) (w255 hw) (w254 hw) (fun x hx => nomatch hx) rfl (Nat.le_of_eq rfl) (Nat.le_of_ble_eq_true rfl) (Nat.le_of_ble_eq_true rfl) ⟨rfl, Nat.le_of_ble_eq_true rfl⟩ ⟨rfl, (by show 0 + (e_ - i) ≤ N; omega)⟩ rfl (fun _ _ q => nomatch q.1) fun T h88 v so W hQ => ?_
  obtain ⟨hv, rfl, -⟩ := hQ
  obtain rfl := Option.some.inj hv
  refine k_acopy W 0 i 0 (e_ - i) d_jdk_65_133_27 (w256 hw) (w211 hw) (w209 hw) (w210 hw) f87 A86 rfl (List.mem_of_getElem? (i := 0) rfl) (ix_of (by omega)) (by decide) (ix_of (by omega)) (by rw [List.length_map]; omega) (by rw [List.length_replicate]; omega) rfl (Nat.le_of_eq rfl) (Nat.le_of_ble_eq_true rfl) (Nat.le_of_ble_eq_true rfl) fun T h89 W K89 A89 => ?_
  have A89 : Av Z h89 a86 .byte (List.map Value.int ((bs.drop i).take (e_ - i))) := (acp0 (List.length_replicate ..) ▸ A89)
  refine k_aload W d_jdk_65_133_30 rfl rfl ?_
  have KK90 : Keep h0 h85 [] := (Keep.refl h0 []).trans K86 all0
  have KK91 : Keep h0 h89 [] := KK90.trans K89 (allS (Or.inr (Nat.le_of_eq g86.symm)) all0)
  exact k_areturn W d_jdk_65_133_32 rfl rfl rfl [] (fun x hx => nomatch hx) (Nat.le_of_ble_eq_true rfl) (by show 0 + (e_ - i) + 0 ≤ N; omega) ⟨_, rfl, (Nat.le_of_eq g86.symm), KK91, A89⟩
set_option maxRecDepth 65536 in
set_option maxHeartbeats 40000000 in
theorem ct_cor (l : Launch) (Z : State) (a0 : Array Value) (hw : ∀ d ∈ tables_1, d.before a0 Z = true) (n0 : Nat) (h0 : Heap) (b : Addr) (bs : List Int32) (i e_ N : Nat) (hie : i ≤ e_) (hel : e_ ≤ bs.length) (hN : e_ - i ≤ N) (hN2 : N ≤ 67108864) (hnf : i ≠ 0 ∨ e_ ≠ bs.length) (B0 : Av Z h0 b .byte (bs.map Value.int)) : Ct l Z a0 own_EL false (⟨"java/util/Arrays", "copyOfRange", "([BII)[B"⟩ : MethodName) jdk_65_method_132_code 3 (Option.some (Jvm.ClassFile.FieldType.array Jvm.ClassFile.FieldType.byte)) ({ frames := 2, cells := 1, slots := N, locals := 34 } : Room) #[(.ref b), (.int (Int32.ofNat i)), (.int (Int32.ofNat e_))] h0 [] n0 (fun v h so => ∃ x, v = some (.ref x) ∧ h0.size ≤ x ∧ Keep h0 h [] ∧ Av Z h x .byte (((bs.drop i).take (e_ - i)).map Value.int)) := by
  refine Ct.body (plainFor_of_name pn5) ?_
  intro p e s m below meth c T W
  refine WP.cast (g' := (mkF m 0 #[.val (.ref b), .val (.int (Int32.ofNat i)), .val (.int (Int32.ofNat e_))] [])) (by simp [entryFrame, mkF, argsToLocals, cat_i, cat_l, cat_r, cat_n]) ?_
  have hL : bs.length < 2147483648 := by have := B0.len; simpa using this
  refine k_iloadN W d_jdk_65_132_0 rfl ?_
  refine k_if W 10 d_jdk_65_132_1 (by decide) (fun (hc92 : ¬ (Int32.ofNat i) = 0) => ?_) (fun (hc92 : ¬ (¬ (Int32.ofNat i) = 0)) => ?_)
  · -- pc 10
    refine k_aloadN W d_jdk_65_132_10 rfl rfl ?_
    refine k_iloadN W d_jdk_65_132_11 rfl ?_
    refine k_iloadN W d_jdk_65_132_12 rfl ?_
    refine k_callS W 0 1 (0 + N) (argsL := [(.ref b), (.int (Int32.ofNat i)), (.int (Int32.ofNat e_))]) (rest := []) d_jdk_65_132_13 (w246 hw) (w247 hw) (by decide) (lenOf pd14 rfl) (ct_corb l Z a0 hw n0 h0 b bs i e_ N hie hel hN hN2 B0) (w248 hw) (w244 hw) (fun x hx => hx) rfl (Nat.le_of_eq rfl) (Nat.le_of_ble_eq_true rfl) (Nat.le_of_ble_eq_true rfl) ⟨rfl, Nat.le_of_ble_eq_true rfl⟩ ⟨rfl, (by show 0 + N ≤ N; omega)⟩ rfl (fun _ _ ⟨_, q, _⟩ => nomatch q) fun T h93 v so W hQ => ?_
    obtain ⟨x93, hv, g93, K93, A93⟩ := hQ
    obtain rfl := Option.some.inj hv
    exact k_areturn W d_jdk_65_132_16 rfl rfl rfl [] (fun x hx => nomatch hx) (Nat.le_of_ble_eq_true rfl) (by show 0 + N ≤ N; omega) ⟨_, rfl, g93, K93, A93⟩
  · -- pc 4
    refine k_iloadN W d_jdk_65_132_4 rfl ?_
    refine k_aloadN W d_jdk_65_132_5 rfl rfl ?_
    refine k_arraylength W (z := (Int32.ofNat bs.length)) d_jdk_65_132_6 B0 (by first | (rw [List.length_map]; done) | (rw [List.length_map]; rfl)) ?_
    refine k_icN W d_jdk_65_132_7 (show ¬ ((Int32.ofNat e_) = (Int32.ofNat bs.length)) from (subne (by omega) (by omega) hL hnf hc92)) ?_
    refine k_aloadN W d_jdk_65_132_10 rfl rfl ?_
    refine k_iloadN W d_jdk_65_132_11 rfl ?_
    refine k_iloadN W d_jdk_65_132_12 rfl ?_
    refine k_callS W 0 1 (0 + N) (argsL := [(.ref b), (.int (Int32.ofNat i)), (.int (Int32.ofNat e_))]) (rest := []) d_jdk_65_132_13 (w246 hw) (w247 hw) (by decide) (lenOf pd14 rfl) (ct_corb l Z a0 hw n0 h0 b bs i e_ N hie hel hN hN2 B0) (w248 hw) (w244 hw) (fun x hx => hx) rfl (Nat.le_of_eq rfl) (Nat.le_of_ble_eq_true rfl) (Nat.le_of_ble_eq_true rfl) ⟨rfl, Nat.le_of_ble_eq_true rfl⟩ ⟨rfl, (by show 0 + N ≤ N; omega)⟩ rfl (fun _ _ ⟨_, q, _⟩ => nomatch q) fun T h94 v so W hQ => ?_
    obtain ⟨x94, hv, g94, K94, A94⟩ := hQ
    obtain rfl := Option.some.inj hv
    exact k_areturn W d_jdk_65_132_16 rfl rfl rfl [] (fun x hx => nomatch hx) (Nat.le_of_ble_eq_true rfl) (by show 0 + N ≤ N; omega) ⟨_, rfl, g94, K94, A94⟩
set_option maxRecDepth 65536 in
set_option maxHeartbeats 40000000 in
theorem ct_gval (l : Launch) (Z : State) (a0 : Array Value) (hw : ∀ d ∈ tables_1, d.before a0 Z = true) (n0 : Nat) (h0 : Heap) (x q : Addr) (FV : Fld Z h0 x "java/lang/AbstractStringBuilder" "value" "[B" (.ref q)) : Ct l Z a0 own_EL false (⟨"java/lang/AbstractStringBuilder", "getValue", "()[B"⟩ : MethodName) jdk_68_method_64_code 1 (Option.some (Jvm.ClassFile.FieldType.array Jvm.ClassFile.FieldType.byte)) ({ frames := 0, cells := 0, slots := 0, locals := 0 } : Room) #[(.ref x)] h0 [] n0 (fun v h so => v = some (.ref q) ∧ h0 = h ∧ so = []) := by
  refine Ct.body (plainFor_of_name pn3) ?_
  intro p e s m below meth c T W
  refine WP.cast (g' := (mkF m 0 #[.val (.ref x)] [])) (by simp [entryFrame, mkF, argsToLocals, cat_i, cat_l, cat_r, cat_n]) ?_
  refine k_aloadN W d_jdk_68_64_0 rfl rfl ?_
  refine k_getF W d_jdk_68_64_1 (host := "") (Or.inl (w160 hw)) Via.refl FV fun T W => ?_
  exact k_areturn W d_jdk_68_64_4 rfl rfl rfl [] (fun x hx => nomatch hx) (Nat.le_of_ble_eq_true rfl) (Nat.le_of_ble_eq_true rfl) ⟨rfl, rfl, rfl⟩
set_option maxRecDepth 65536 in
set_option maxHeartbeats 40000000 in
theorem ct_blen (l : Launch) (Z : State) (a0 : Array Value) (hw : ∀ d ∈ tables_1, d.before a0 Z = true) (n0 : Nat) (h0 : Heap) (x : Addr) (q : Int32) (FN : Fld Z h0 x "java/lang/AbstractStringBuilder" "count" "I" (.int q)) : Ct l Z a0 own_EL false (⟨"java/lang/AbstractStringBuilder", "length", "()I"⟩ : MethodName) jdk_68_method_6_code 1 (Option.some Jvm.ClassFile.FieldType.int) ({ frames := 0, cells := 0, slots := 0, locals := 0 } : Room) #[(.ref x)] h0 [] n0 (fun v h so => v = some (.int q) ∧ h0 = h ∧ so = []) := by
  refine Ct.body (plainFor_of_name pn3) ?_
  intro p e s m below meth c T W
  refine WP.cast (g' := (mkF m 0 #[.val (.ref x)] [])) (by simp [entryFrame, mkF, argsToLocals, cat_i, cat_l, cat_r, cat_n]) ?_
  refine k_aloadN W d_jdk_68_6_0 rfl rfl ?_
  refine k_getF W d_jdk_68_6_1 (host := "") (Or.inl (w185 hw)) Via.refl FN fun T W => ?_
  exact k_ireturn W d_jdk_68_6_4 rfl [] (fun x hx => nomatch hx) (Nat.le_of_ble_eq_true rfl) (Nat.le_of_ble_eq_true rfl) ⟨rfl, rfl, rfl⟩
set_option maxRecDepth 65536 in
set_option maxHeartbeats 40000000 in
theorem ct_sblen (l : Launch) (Z : State) (a0 : Array Value) (hw : ∀ d ∈ tables_1, d.before a0 Z = true) (n0 : Nat) (h0 : Heap) (x : Addr) (q : Int32) (FN : Fld Z h0 x "java/lang/AbstractStringBuilder" "count" "I" (.int q)) (EX : Exa Z h0 x "java/lang/StringBuilder") : Ct l Z a0 own_EL false (⟨"java/lang/StringBuilder", "length", "()I"⟩ : MethodName) jdk_67_method_93_code 1 (Option.some Jvm.ClassFile.FieldType.int) ({ frames := 1, cells := 0, slots := 0, locals := 12 } : Room) #[(.ref x)] h0 [] n0 (fun v h so => v = some (.int q) ∧ h0 = h ∧ so = []) := by
  refine Ct.body (plainFor_of_name pn4) ?_
  intro p e s m below meth c T W
  refine WP.cast (g' := (mkF m 0 #[.val (.ref x)] [])) (by simp [entryFrame, mkF, argsToLocals, cat_i, cat_l, cat_r, cat_n]) ?_
  refine k_aloadN W d_jdk_67_93_0 rfl rfl ?_
  refine k_callU W 0 0 0 (argsL := []) (rest := []) (a := x) (C := "java/lang/StringBuilder") d_jdk_67_93_1 (by decide) (w235 hw) (sameM (w231 hw) (nfSel2 (z0 := (⟨"java/lang/AbstractStringBuilder", "length", "()I"⟩ : MethodName)) (w190 hw) rfl Z (State.Warmed39.refl Z)) (by decide)) (w231 hw) (w172 hw) (lenOf pd9 rfl) EX (ct_blen l Z a0 hw n0 h0 x q FN) (w236 hw) (w156 hw) (fun x hx => hx) rfl (Nat.le_of_eq rfl) (Nat.le_of_ble_eq_true rfl) (Nat.le_of_ble_eq_true rfl) ⟨rfl, Nat.le_of_ble_eq_true rfl⟩ ⟨rfl, Nat.le_of_ble_eq_true rfl⟩ rfl (fun _ _ q => nomatch q.1) fun T h95 v so W hQ => ?_
  obtain ⟨hv, rfl, -⟩ := hQ
  obtain rfl := Option.some.inj hv
  exact k_ireturn W d_jdk_67_93_4 rfl [] (fun x hx => nomatch hx) (Nat.le_of_ble_eq_true rfl) (Nat.le_of_ble_eq_true rfl) ⟨rfl, rfl, rfl⟩
set_option maxRecDepth 65536 in
set_option maxHeartbeats 40000000 in
theorem ct_siA (l : Launch) (Z : State) (a0 : Array Value) (hw : ∀ d ∈ tables_1, d.before a0 Z = true) (n0 : Nat) (h0 : Heap) (y x vb : Addr) (cs r : List Int32) (N : Nat) (zc : Int32) (v0 c0 : Value) (hr : 0 < r.length) (hN : cs.length ≤ N) (hN2 : N ≤ 67108864) (E0 : Exa Z h0 y "java/lang/String") (V0 : Fld Z h0 y "java/lang/String" "value" "[B" v0) (C0 : Fld Z h0 y "java/lang/String" "coder" "B" c0) (EX : Exa Z h0 x "java/lang/StringBuilder") (FV : Fld Z h0 x "java/lang/AbstractStringBuilder" "value" "[B" (.ref vb)) (FC : Fld Z h0 x "java/lang/AbstractStringBuilder" "coder" "B" (.int (0 : Int32))) (FN : Fld Z h0 x "java/lang/AbstractStringBuilder" "count" "I" (.int (Int32.ofNat cs.length))) (AB : Av Z h0 vb .byte (List.map Value.int (cs ++ r))) (P0 : Sta Z h0 "java/lang/String" "COMPACT_STRINGS" "Z" (.int zc)) (hzc : zc ≠ 0) : Ct l Z a0 own_EL false (⟨"java/lang/String", "<init>", "(Ljava/lang/AbstractStringBuilder;Ljava/lang/Void;)V"⟩ : MethodName) jdk_42_method_150_code 5 (Option.none : Option Jvm.ClassFile.FieldType) ({ frames := 3, cells := 1, slots := N, locals := 49 } : Room) #[(.ref y), (.ref x), .null] h0 [y] n0 (fun v h so => v = none ∧ ∃ b, h0.size ≤ b ∧ Keep h0 h [y] ∧ St Z h y b cs) := by
  refine Ct.body (plainFor_of_name pn1) ?_
  intro p e s m below meth c T W
  refine WP.cast (g' := (mkF m 0 #[.val (.ref y), .val (.ref x), .val .null, .unset, .unset] [])) (by simp [entryFrame, mkF, argsToLocals, cat_i, cat_l, cat_r, cat_n]) ?_
  have hL : (cs ++ r).length < 2147483648 := by have := AB.len; rw [List.length_map] at this; exact this
  have hle : cs.length ≤ (cs ++ r).length := by rw [List.length_append]; omega
  have hx : cs.length ≠ (cs ++ r).length := by rw [List.length_append]; omega
  refine k_aloadN W d_jdk_42_150_0 rfl rfl ?_
  refine k_initO W 0 d_jdk_42_150_1 (w18 hw) (w19 hw) (w20 hw) rfl (Nat.le_of_eq rfl) (Nat.le_of_ble_eq_true rfl) (Nat.le_of_ble_eq_true rfl) fun T W => ?_
  refine k_aloadN W d_jdk_42_150_4 rfl rfl ?_
  refine k_callV W 0 0 0 (argsL := []) (rest := []) (a := x) (C := "java/lang/StringBuilder") (z0 := (⟨"java/lang/AbstractStringBuilder", "getValue", "()[B"⟩ : MethodName)) (z := (⟨"java/lang/AbstractStringBuilder", "getValue", "()[B"⟩ : MethodName)) d_jdk_42_150_5 (w224 hw) (w225 hw) (nfSel (w227 hw)) (w227 hw) (w226 hw) (by decide) (lenOf pd15 rfl) EX (ct_gval l Z a0 hw n0 h0 x vb FV) (w228 hw) (w156 hw) (fun x hx => nomatch hx) rfl (Nat.le_of_eq rfl) (Nat.le_of_ble_eq_true rfl) (Nat.le_of_ble_eq_true rfl) ⟨rfl, Nat.le_of_ble_eq_true rfl⟩ ⟨rfl, Nat.le_of_ble_eq_true rfl⟩ rfl (fun _ _ q => nomatch q.1) fun T h96 v so W hQ => ?_
  obtain ⟨hv, rfl, -⟩ := hQ
  obtain rfl := Option.some.inj hv
  refine k_astoreN W d_jdk_42_150_8 rfl (L' := #[.val (.ref y), .val (.ref x), .val .null, .val (.ref vb), .unset]) rfl ?_
  refine k_aloadN W d_jdk_42_150_9 rfl rfl ?_
  refine k_callV W 0 0 0 (argsL := []) (rest := []) (a := x) (C := "java/lang/StringBuilder") (z0 := (⟨"java/lang/AbstractStringBuilder", "length", "()I"⟩ : MethodName)) (z := (⟨"java/lang/StringBuilder", "length", "()I"⟩ : MethodName)) d_jdk_42_150_10 (w229 hw) (w230 hw) (nfSel2 (w190 hw) rfl) (w232 hw) (w233 hw) (by decide) (lenOf pd9 rfl) EX (ct_sblen l Z a0 hw n0 h0 x (Int32.ofNat cs.length) FN EX) (w234 hw) (w148 hw) (fun x hx => nomatch hx) rfl (Nat.le_of_eq rfl) (Nat.le_of_ble_eq_true rfl) (Nat.le_of_ble_eq_true rfl) ⟨rfl, Nat.le_of_ble_eq_true rfl⟩ ⟨rfl, Nat.le_of_ble_eq_true rfl⟩ rfl (fun _ _ q => nomatch q.1) fun T h97 v so W hQ => ?_
  obtain ⟨hv, rfl, -⟩ := hQ
  obtain rfl := Option.some.inj hv
  refine k_istore W d_jdk_42_150_13 (L' := #[.val (.ref y), .val (.ref x), .val .null, .val (.ref vb), .val (.int (Int32.ofNat cs.length))]) rfl ?_
  refine k_aloadN W d_jdk_42_150_15 rfl rfl ?_
  refine k_callV W 0 0 0 (argsL := []) (rest := []) (a := x) (C := "java/lang/StringBuilder") (z0 := (⟨"java/lang/AbstractStringBuilder", "isLatin1", "()Z"⟩ : MethodName)) (z := (⟨"java/lang/AbstractStringBuilder", "isLatin1", "()Z"⟩ : MethodName)) d_jdk_42_150_16 (w237 hw) (w238 hw) (nfSel (w240 hw)) (w240 hw) (w239 hw) (by decide) (lenOf pd16 rfl) EX (ct_bl1 l Z a0 hw n0 h0 x zc FC P0 hzc) (w241 hw) (w156 hw) (fun x hx => nomatch hx) rfl (Nat.le_of_eq rfl) (Nat.le_of_ble_eq_true rfl) (Nat.le_of_ble_eq_true rfl) ⟨rfl, Nat.le_of_ble_eq_true rfl⟩ ⟨rfl, Nat.le_of_ble_eq_true rfl⟩ rfl (fun _ _ q => nomatch q.1) fun T h98 v so W hQ => ?_
  obtain ⟨hv, rfl, -⟩ := hQ
  obtain rfl := Option.some.inj hv
  refine k_ifN W d_jdk_42_150_19 (show ¬ ((1 : Int32) = 0) by decide) ?_
  refine k_aloadN W d_jdk_42_150_22 rfl rfl ?_
  refine k_iconst W d_jdk_42_150_23 (z := (0 : Int32)) rfl ?_
  refine k_putF W d_jdk_42_150_24 (w33 hw) Via.refl (v' := (.int (0 : Int32))) (List.mem_of_getElem? (i := 0) rfl) C0 E0 (Or.inr ⟨(w34 hw), rfl, rfl⟩) (w5 hw) (ty := .byte) (by decide) (by decide) (by decide) fun T h99 W Wr99 => ?_
  have K99 : Keep h0 h99 [y] := Keep.of_wr Wr99
  refine k_aloadN W d_jdk_42_150_27 rfl rfl ?_
  refine k_aloadN W d_jdk_42_150_28 rfl rfl ?_
  refine k_iconst W d_jdk_42_150_29 (z := (0 : Int32)) rfl ?_
  refine k_iload W d_jdk_42_150_30 rfl ?_
  have ne101 : vb ≠ y := (Ne.symm (ne_exav E0 (w5 hw) AB))
  have f102 := (AB.keep K99 (ninS ne101 nin0))
  refine k_callS W 1 1 (0 + N) (argsL := [(.ref vb), (.int (0 : Int32)), (.int (Int32.ofNat cs.length))]) (rest := [(.ref y)]) d_jdk_42_150_32 (w242 hw) (w243 hw) (by decide) (lenOf pd14 rfl) (ct_cor l Z a0 hw n0 h99 vb (cs ++ r) 0 cs.length N (Nat.zero_le _) hle hN hN2 (Or.inr hx) f102) (w245 hw) (w244 hw) (fun x hx => nomatch hx) rfl (Nat.le_of_eq rfl) (Nat.le_of_ble_eq_true rfl) (Nat.le_of_ble_eq_true rfl) ⟨rfl, Nat.le_of_ble_eq_true rfl⟩ ⟨rfl, (by show 0 + N ≤ N; omega)⟩ rfl (fun _ _ ⟨_, q, _⟩ => nomatch q) fun T h100 v so W hQ => ?_
  obtain ⟨z100, hv, g100, K100, A100⟩ := hQ
  obtain rfl := Option.some.inj hv
  rw [tkcs] at A100
  have f103 := ((V0.other Wr99 (Or.inr (slot_ne (Or.inr (w36 hw)) (Or.inr (w34 hw)) (by decide) (t := (.array .byte)) (t' := .byte) (by decide) (by decide)))).keep K100 nin0)
  have f104 := ((E0.keep K99).keep K100)
  refine k_putF W d_jdk_42_150_35 (w35 hw) Via.refl (v' := (.ref z100)) (List.mem_of_getElem? (i := 0) rfl) f103 f104 (Or.inr ⟨(w36 hw), rfl, rfl⟩) (w5 hw) (ty := (.array .byte)) (by decide) rfl rfl fun T h105 W Wr105 => ?_
  have K105 : Keep h100 h105 [y] := Keep.of_wr Wr105
  refine k_goto W 97 d_jdk_42_150_38 (by decide) ?_
  have KK106 : Keep h0 h99 [y] := (Keep.refl h0 [y]).trans K99 (allS (Or.inl (List.mem_of_getElem? (i := 0) rfl)) all0)
  have KK107 : Keep h0 h100 [y] := KK106.trans K100 all0
  have KK108 : Keep h0 h105 [y] := KK107.trans K105 (allS (Or.inl (List.mem_of_getElem? (i := 0) rfl)) all0)
  have f109 := (f104.keep K105)
  have f110 := (((Fld.same Wr99 C0).keep K100 nin0).other Wr105 (Or.inr (slot_ne (Or.inr (w34 hw)) (Or.inr (w36 hw)) (by decide) (t := .byte) (t' := (.array .byte)) (by decide) (by decide))))
  have ne111 : z100 ≠ y := (Ne.symm (Nat.ne_of_lt (Nat.lt_of_lt_of_le (Fld.same Wr99 C0).lt g100)))
  have f112 := (A100.keep K105 (ninS ne111 nin0))
  exact k_ret W d_jdk_42_150_97 rfl [] (fun x hx => nomatch hx) (Nat.le_of_ble_eq_true rfl) (by show 0 + N ≤ N; omega) ⟨rfl, _, (Nat.le_trans K99.1 g100), KK108, f109, f110, (Fld.same Wr105 f103), f112⟩
set_option maxRecDepth 65536 in
set_option maxHeartbeats 40000000 in
theorem ct_siB (l : Launch) (Z : State) (a0 : Array Value) (hw : ∀ d ∈ tables_1, d.before a0 Z = true) (n0 : Nat) (h0 : Heap) (y x vb : Addr) (cs r : List Int32) (N : Nat) (zc : Int32) (v0 c0 : Value) (hr : 0 < r.length) (hN : cs.length ≤ N) (hN2 : N ≤ 67108864) (E0 : Exa Z h0 y "java/lang/String") (V0 : Fld Z h0 y "java/lang/String" "value" "[B" v0) (C0 : Fld Z h0 y "java/lang/String" "coder" "B" c0) (EX : Exa Z h0 x "java/lang/StringBuilder") (FV : Fld Z h0 x "java/lang/AbstractStringBuilder" "value" "[B" (.ref vb)) (FC : Fld Z h0 x "java/lang/AbstractStringBuilder" "coder" "B" (.int (0 : Int32))) (FN : Fld Z h0 x "java/lang/AbstractStringBuilder" "count" "I" (.int (Int32.ofNat cs.length))) (AB : Av Z h0 vb .byte (List.map Value.int (cs ++ r))) (P0 : Sta Z h0 "java/lang/String" "COMPACT_STRINGS" "Z" (.int zc)) (hzc : zc ≠ 0) : Ct l Z a0 own_EL false (⟨"java/lang/String", "<init>", "(Ljava/lang/StringBuilder;)V"⟩ : MethodName) jdk_42_method_53_code 2 (Option.none : Option Jvm.ClassFile.FieldType) ({ frames := 4, cells := 1, slots := N, locals := 65 } : Room) #[(.ref y), (.ref x)] h0 [y] n0 (fun v h so => v = none ∧ ∃ b, h0.size ≤ b ∧ Keep h0 h [y] ∧ St Z h y b cs) := by
  refine Ct.body (plainFor_of_name pn1) ?_
  intro p e s m below meth c T W
  refine WP.cast (g' := (mkF m 0 #[.val (.ref y), .val (.ref x)] [])) (by simp [entryFrame, mkF, argsToLocals, cat_i, cat_l, cat_r, cat_n]) ?_
  refine k_aloadN W d_jdk_42_53_0 rfl rfl ?_
  refine k_aloadN W d_jdk_42_53_1 rfl rfl ?_
  refine k_aconst W d_jdk_42_53_2 ?_
  refine k_callI0 W 0 1 (0 + N) (argsL := [(.ref x), .null]) (rest := []) (a := y) d_jdk_42_53_3 rfl rfl (w221 hw) (w222 hw) (by decide) (lenOf pd17 rfl) (ct_siA l Z a0 hw n0 h0 y x vb cs r N zc v0 c0 hr hN hN2 E0 V0 C0 EX FV FC FN AB P0 hzc) (w223 hw) (w6 hw) (fun x hx => hx) rfl (Nat.le_of_eq rfl) (Nat.le_of_ble_eq_true rfl) (Nat.le_of_ble_eq_true rfl) ⟨rfl, Nat.le_of_ble_eq_true rfl⟩ ⟨rfl, (by show 0 + N ≤ N; omega)⟩ rfl (fun _ _ _ q => nomatch q.1) fun T h113 so W hQ => ?_
  obtain ⟨-, b113, g113, K113, S113⟩ := hQ
  have KK114 : Keep h0 h113 [y] := (Keep.refl h0 [y]).trans K113 (allS (Or.inl (List.mem_of_getElem? (i := 0) rfl)) all0)
  exact k_ret W d_jdk_42_53_6 rfl [] (fun x hx => nomatch hx) (Nat.le_of_ble_eq_true rfl) (by show 0 + N ≤ N; omega) ⟨rfl, _, g113, KK114, S113⟩
set_option maxRecDepth 65536 in
set_option maxHeartbeats 40000000 in
theorem ct_sbts (l : Launch) (Z : State) (a0 : Array Value) (hw : ∀ d ∈ tables_1, d.before a0 Z = true) (n0 : Nat) (h0 : Heap) (x vb : Addr) (cs r : List Int32) (N : Nat) (zc : Int32) (hr : 0 < r.length) (hN : cs.length ≤ N) (hN2 : N ≤ 67108864) (EX : Exa Z h0 x "java/lang/StringBuilder") (FV : Fld Z h0 x "java/lang/AbstractStringBuilder" "value" "[B" (.ref vb)) (FC : Fld Z h0 x "java/lang/AbstractStringBuilder" "coder" "B" (.int (0 : Int32))) (FN : Fld Z h0 x "java/lang/AbstractStringBuilder" "count" "I" (.int (Int32.ofNat cs.length))) (AB : Av Z h0 vb .byte (List.map Value.int (cs ++ r))) (P0 : Sta Z h0 "java/lang/String" "COMPACT_STRINGS" "Z" (.int zc)) (hzc : zc ≠ 0) : Ct l Z a0 own_EL false (⟨"java/lang/StringBuilder", "toString", "()Ljava/lang/String;"⟩ : MethodName) jdk_67_method_42_code 1 (Option.some (Jvm.ClassFile.FieldType.object "java/lang/String")) ({ frames := 5, cells := 2, slots := 4 + N, locals := 79 } : Room) #[(.ref x)] h0 [] n0 (fun v h so => ∃ y b, v = some (.ref y) ∧ h0.size ≤ y ∧ h0.size ≤ b ∧ Keep h0 h [] ∧ St Z h y b cs) := by
  refine Ct.body (plainFor_of_name pn4) ?_
  intro p e s m below meth c T W
  refine WP.cast (g' := (mkF m 0 #[.val (.ref x)] [])) (by simp [entryFrame, mkF, argsToLocals, cat_i, cat_l, cat_r, cat_n]) ?_
  refine k_new W 1 4 d_jdk_67_42_0 (w217 hw) (w5 hw) (w6 hw) ⟨rfl, (by show _ ≤ 2; omega)⟩ ⟨rfl, (by show _ ≤ 4 + N; omega)⟩ fun T h115 a116 g116 W E116 X116 D116 => ?_
  have K116 : Keep h0 h115 [] := keep_ext E116 []
  refine k_dup W d_jdk_67_42_3 rfl ?_
  refine k_aloadN W d_jdk_67_42_4 rfl rfl ?_
  have f118 := (EX.keep K116)
  have f119 := (FV.keep K116 nin0)
  have f120 := (FC.keep K116 nin0)
  have f121 := (FN.keep K116 nin0)
  have f122 := (AB.keep K116 nin0)
  have f123 := (Sta.keep P0 K116 ns0)
  refine k_callI0 W 1 2 (4 + N) (argsL := [(.ref x)]) (rest := [(.ref a116)]) (a := a116) d_jdk_67_42_5 rfl rfl (w218 hw) (w219 hw) (by decide) (lenOf pd18 rfl) (ct_siB l Z a0 hw n0 h115 a116 x vb cs r N zc .null (.int (0 : Int32)) hr hN hN2 X116 (D116 (Or.inr (w36 hw)) (ty := (.array .byte)) (by decide)) (D116 (Or.inr (w34 hw)) (ty := .byte) (by decide)) f118 f119 f120 f121 f122 f123 hzc) (w220 hw) (w6 hw) (fun x hx => hx) rfl (Nat.le_of_eq rfl) (Nat.le_of_ble_eq_true rfl) (Nat.le_of_ble_eq_true rfl) ⟨rfl, (by show _ ≤ 2; omega)⟩ ⟨rfl, (by show 4 + N ≤ 4 + N; omega)⟩ rfl (fun _ _ _ q => nomatch q.1) fun T h117 so W hQ => ?_
  obtain ⟨-, b117, g117, K117, S117⟩ := hQ
  have KK124 : Keep h0 h115 [] := (Keep.refl h0 []).trans K116 all0
  have KK125 : Keep h0 h117 [] := KK124.trans K117 (allS (Or.inr (Nat.le_of_eq g116.symm)) all0)
  exact k_areturn W d_jdk_67_42_8 rfl rfl rfl [] (fun x hx => nomatch hx) (by show _ ≤ 2; omega) (by show _ ≤ 4 + N; omega) ⟨_, _, rfl, (Nat.le_of_eq g116.symm), (Nat.le_trans E116.1 g117), KK125, S117⟩
set_option maxRecDepth 65536 in
set_option maxHeartbeats 40000000 in
theorem ct_ch0 (l : Launch) (Z : State) (a0 : Array Value) (hw : ∀ d ∈ tables_1, d.before a0 Z = true) (n0 : Nat) (h0 : Heap) (p0 : Int32) : Ct l Z a0 own_EL false (⟨"com/example/epochmark/epochmark/cli/ArgumentsUsagePinLaw", "ch", "(II)C"⟩ : MethodName) method_2_code 2 (Option.some Jvm.ClassFile.FieldType.char) ({ frames := 0, cells := 0, slots := 0, locals := 0 } : Room) #[(.int p0), (.int (0 : Int32))] h0 [] n0 (fun v h so => v = some (.int ((XT.ushr p0 (0 : Int32)) &&& (255 : Int32))) ∧ h0 = h ∧ so = []) := by
  refine Ct.body (plainFor_of_name pn6) ?_
  intro p e s m below meth c T W
  refine WP.cast (g' := (mkF m 0 #[.val (.int p0), .val (.int (0 : Int32))] [])) (by simp [entryFrame, mkF, argsToLocals, cat_i, cat_l, cat_r, cat_n]) ?_
  refine k_iloadN W d_method_2_0 rfl ?_
  refine k_bipush W d_method_2_1 (z := (8 : Int32)) rfl ?_
  refine k_iloadN W d_method_2_3 rfl ?_
  refine k_imul W d_method_2_4 (z := (0 : Int32)) (by decide) ?_
  refine k_iushr W d_method_2_5 (z := (XT.ushr p0 (0 : Int32))) rfl ?_
  refine k_sipush W d_method_2_6 (z := (255 : Int32)) rfl ?_
  refine k_iand W d_method_2_9 (z := ((XT.ushr p0 (0 : Int32)) &&& (255 : Int32))) rfl ?_
  refine k_i2c W d_method_2_10 (z := ((XT.ushr p0 (0 : Int32)) &&& (255 : Int32))) (Rg.c (Rg.mono (Rg.and (n := 256) (XT.ushr p0 (0 : Int32)) (255 : Int32) (by decide)) (by decide))) ?_
  exact k_retN W (t := .char) (z' := ((XT.ushr p0 (0 : Int32)) &&& (255 : Int32))) d_method_2_11 rfl (by simp) (Rg.nar (Rg.mono (Rg.and (n := 256) (XT.ushr p0 (0 : Int32)) (255 : Int32) (by decide)) (by decide))) [] (fun x hx => nomatch hx) (Nat.le_of_ble_eq_true rfl) (Nat.le_of_ble_eq_true rfl) ⟨rfl, rfl, rfl⟩
set_option maxRecDepth 65536 in
set_option maxHeartbeats 40000000 in
theorem ct_ch1 (l : Launch) (Z : State) (a0 : Array Value) (hw : ∀ d ∈ tables_1, d.before a0 Z = true) (n0 : Nat) (h0 : Heap) (p0 : Int32) : Ct l Z a0 own_EL false (⟨"com/example/epochmark/epochmark/cli/ArgumentsUsagePinLaw", "ch", "(II)C"⟩ : MethodName) method_2_code 2 (Option.some Jvm.ClassFile.FieldType.char) ({ frames := 0, cells := 0, slots := 0, locals := 0 } : Room) #[(.int p0), (.int (1 : Int32))] h0 [] n0 (fun v h so => v = some (.int ((XT.ushr p0 (8 : Int32)) &&& (255 : Int32))) ∧ h0 = h ∧ so = []) := by
  refine Ct.body (plainFor_of_name pn6) ?_
  intro p e s m below meth c T W
  refine WP.cast (g' := (mkF m 0 #[.val (.int p0), .val (.int (1 : Int32))] [])) (by simp [entryFrame, mkF, argsToLocals, cat_i, cat_l, cat_r, cat_n]) ?_
  refine k_iloadN W d_method_2_0 rfl ?_
  refine k_bipush W d_method_2_1 (z := (8 : Int32)) rfl ?_
  refine k_iloadN W d_method_2_3 rfl ?_
  refine k_imul W d_method_2_4 (z := (8 : Int32)) (by decide) ?_
  refine k_iushr W d_method_2_5 (z := (XT.ushr p0 (8 : Int32))) rfl ?_
  refine k_sipush W d_method_2_6 (z := (255 : Int32)) rfl ?_
  refine k_iand W d_method_2_9 (z := ((XT.ushr p0 (8 : Int32)) &&& (255 : Int32))) rfl ?_
  refine k_i2c W d_method_2_10 (z := ((XT.ushr p0 (8 : Int32)) &&& (255 : Int32))) (Rg.c (Rg.mono (Rg.and (n := 256) (XT.ushr p0 (8 : Int32)) (255 : Int32) (by decide)) (by decide))) ?_
  exact k_retN W (t := .char) (z' := ((XT.ushr p0 (8 : Int32)) &&& (255 : Int32))) d_method_2_11 rfl (by simp) (Rg.nar (Rg.mono (Rg.and (n := 256) (XT.ushr p0 (8 : Int32)) (255 : Int32) (by decide)) (by decide))) [] (fun x hx => nomatch hx) (Nat.le_of_ble_eq_true rfl) (Nat.le_of_ble_eq_true rfl) ⟨rfl, rfl, rfl⟩
set_option maxRecDepth 65536 in
set_option maxHeartbeats 40000000 in
theorem ct_ch2 (l : Launch) (Z : State) (a0 : Array Value) (hw : ∀ d ∈ tables_1, d.before a0 Z = true) (n0 : Nat) (h0 : Heap) (p0 : Int32) : Ct l Z a0 own_EL false (⟨"com/example/epochmark/epochmark/cli/ArgumentsUsagePinLaw", "ch", "(II)C"⟩ : MethodName) method_2_code 2 (Option.some Jvm.ClassFile.FieldType.char) ({ frames := 0, cells := 0, slots := 0, locals := 0 } : Room) #[(.int p0), (.int (2 : Int32))] h0 [] n0 (fun v h so => v = some (.int ((XT.ushr p0 (16 : Int32)) &&& (255 : Int32))) ∧ h0 = h ∧ so = []) := by
  refine Ct.body (plainFor_of_name pn6) ?_
  intro p e s m below meth c T W
  refine WP.cast (g' := (mkF m 0 #[.val (.int p0), .val (.int (2 : Int32))] [])) (by simp [entryFrame, mkF, argsToLocals, cat_i, cat_l, cat_r, cat_n]) ?_
  refine k_iloadN W d_method_2_0 rfl ?_
  refine k_bipush W d_method_2_1 (z := (8 : Int32)) rfl ?_
  refine k_iloadN W d_method_2_3 rfl ?_
  refine k_imul W d_method_2_4 (z := (16 : Int32)) (by decide) ?_
  refine k_iushr W d_method_2_5 (z := (XT.ushr p0 (16 : Int32))) rfl ?_
  refine k_sipush W d_method_2_6 (z := (255 : Int32)) rfl ?_
  refine k_iand W d_method_2_9 (z := ((XT.ushr p0 (16 : Int32)) &&& (255 : Int32))) rfl ?_
  refine k_i2c W d_method_2_10 (z := ((XT.ushr p0 (16 : Int32)) &&& (255 : Int32))) (Rg.c (Rg.mono (Rg.and (n := 256) (XT.ushr p0 (16 : Int32)) (255 : Int32) (by decide)) (by decide))) ?_
  exact k_retN W (t := .char) (z' := ((XT.ushr p0 (16 : Int32)) &&& (255 : Int32))) d_method_2_11 rfl (by simp) (Rg.nar (Rg.mono (Rg.and (n := 256) (XT.ushr p0 (16 : Int32)) (255 : Int32) (by decide)) (by decide))) [] (fun x hx => nomatch hx) (Nat.le_of_ble_eq_true rfl) (Nat.le_of_ble_eq_true rfl) ⟨rfl, rfl, rfl⟩
set_option maxRecDepth 65536 in
set_option maxHeartbeats 40000000 in
theorem ct_tx0 (l : Launch) (Z : State) (a0 : Array Value) (hw : ∀ d ∈ tables_1, d.before a0 Z = true) (n0 : Nat) (h0 : Heap) (p0 : Int32) (zc : Int32) (P0 : Sta Z h0 "java/lang/String" "COMPACT_STRINGS" "Z" (.int zc)) (hzc : zc ≠ 0) : Ct l Z a0 own_EL false (⟨"com/example/epochmark/epochmark/cli/ArgumentsUsagePinLaw", "text", "(II)Ljava/lang/String;"⟩ : MethodName) method_3_code 2 (Option.some (Jvm.ClassFile.FieldType.object "java/lang/String")) ({ frames := 3, cells := 6, slots := 12, locals := 43 } : Room) #[(.int (0 : Int32)), (.int p0)] h0 [] n0 (fun v h so => ∃ x b, v = some (.ref x) ∧ h0.size ≤ x ∧ Keep h0 h [] ∧ St Z h x b []) := by
  refine Ct.body (plainFor_of_name pn6) ?_
  intro p e s m below meth c T W
  refine WP.cast (g' := (mkF m 0 #[.val (.int (0 : Int32)), .val (.int p0)] [])) (by simp [entryFrame, mkF, argsToLocals, cat_i, cat_l, cat_r, cat_n]) ?_
  refine k_iloadN W d_method_3_0 rfl ?_
  refine k_ifN W d_method_3_1 (show ¬ (¬ (0 : Int32) = 0) by decide) ?_
  refine k_new W 1 4 d_method_3_4 (w4 hw) (w5 hw) (w6 hw) ⟨rfl, Nat.le_of_ble_eq_true rfl⟩ ⟨rfl, Nat.le_of_ble_eq_true rfl⟩ fun T h126 a127 g127 W E127 X127 D127 => ?_
  have K127 : Keep h0 h126 [] := keep_ext E127 []
  refine k_dup W d_method_3_7 rfl ?_
  refine k_iconst W d_method_3_8 (z := (0 : Int32)) rfl ?_
  refine k_newarr W 0 2 4 d_method_3_9 (w7 hw) (by decide) (by decide) ⟨rfl, Nat.le_of_ble_eq_true rfl⟩ ⟨rfl, Nat.le_of_ble_eq_true rfl⟩ fun T h128 a129 g129 W E129 A129 => ?_
  have K129 : Keep h126 h128 [] := keep_ext E129 []
  have A129 : Av Z h128 a129 .char [] := A129
  have f130 := (X127.keep K129)
  have f131 := ((D127 (Or.inr (w36 hw)) (ty := (.array .byte)) (by decide)).keep K129 nin0)
  have f132 := ((D127 (Or.inr (w34 hw)) (ty := .byte) (by decide)).keep K129 nin0)
  have f133 := (Sta.keep (Sta.keep P0 K127 ns0) K129 ns0)
  refine k_callI0 W 1 6 12 (argsL := [(.ref a129)]) (rest := [(.ref a127)]) (a := a127) d_method_3_11 rfl rfl (w11 hw) (w12 hw) (by decide) (lenOf pd19 rfl) (ct_sinitE l Z a0 hw n0 h128 a127 a129 [a129] .null (.int (0 : Int32)) f130 f131 f132 A129) (w13 hw) (w6 hw) (fun x hx => by simp only [List.mem_cons, List.not_mem_nil, or_false] at hx; rcases hx with rfl | rfl; all_goals first | exact (List.mem_of_getElem? (i := 1) rfl) | exact (List.mem_of_getElem? (i := 0) rfl)) rfl (Nat.le_of_eq rfl) (Nat.le_of_ble_eq_true rfl) (Nat.le_of_ble_eq_true rfl) ⟨rfl, Nat.le_of_ble_eq_true rfl⟩ ⟨rfl, Nat.le_of_ble_eq_true rfl⟩ rfl (fun _ _ _ q => nomatch q.1) fun T h135 so W hQ => ?_
  obtain ⟨-, b135, K135, S135, N135⟩ := hQ
  have KK136 : Keep h0 h126 [] := (Keep.refl h0 []).trans K127 all0
  have KK137 : Keep h0 h128 [] := KK136.trans K129 all0
  have KK138 : Keep h0 h135 [] := KK137.trans K135 (allS (Or.inr (Nat.le_of_eq g127.symm)) all0)
  exact k_areturn W d_method_3_14 rfl rfl rfl [] (fun x hx => nomatch hx) (Nat.le_of_ble_eq_true rfl) (Nat.le_of_ble_eq_true rfl) ⟨_, _, rfl, (Nat.le_of_eq g127.symm), KK138, S135⟩
set_option maxRecDepth 65536 in
set_option maxHeartbeats 40000000 in
theorem ct_tx1 (l : Launch) (Z : State) (a0 : Array Value) (hw : ∀ d ∈ tables_1, d.before a0 Z = true) (n0 : Nat) (h0 : Heap) (p0 : Int32) (zc : Int32) (P0 : Sta Z h0 "java/lang/String" "COMPACT_STRINGS" "Z" (.int zc)) (hzc : zc ≠ 0) : Ct l Z a0 own_EL false (⟨"com/example/epochmark/epochmark/cli/ArgumentsUsagePinLaw", "text", "(II)Ljava/lang/String;"⟩ : MethodName) method_3_code 2 (Option.some (Jvm.ClassFile.FieldType.object "java/lang/String")) ({ frames := 4, cells := 3, slots := 6, locals := 66 } : Room) #[(.int (1 : Int32)), (.int p0)] h0 [] n0 (fun v h so => ∃ x b, v = some (.ref x) ∧ h0.size ≤ x ∧ Keep h0 h [] ∧ St Z h x b [(i2b ((XT.ushr p0 (0 : Int32)) &&& (255 : Int32)))]) := by
  refine Ct.body (plainFor_of_name pn6) ?_
  intro p e s m below meth c T W
  refine WP.cast (g' := (mkF m 0 #[.val (.int (1 : Int32)), .val (.int p0)] [])) (by simp [entryFrame, mkF, argsToLocals, cat_i, cat_l, cat_r, cat_n]) ?_
  refine k_iloadN W d_method_3_0 rfl ?_
  refine k_ifY W 15 d_method_3_1 (by decide) (show ¬ (1 : Int32) = 0 by decide) ?_
  refine k_iloadN W d_method_3_15 rfl ?_
  refine k_iconst W d_method_3_16 (z := (1 : Int32)) rfl ?_
  refine k_icN W d_method_3_17 (show ¬ (¬ (1 : Int32) = (1 : Int32)) by decide) ?_
  refine k_new W 1 4 d_method_3_20 (w4 hw) (w5 hw) (w6 hw) ⟨rfl, Nat.le_of_ble_eq_true rfl⟩ ⟨rfl, Nat.le_of_ble_eq_true rfl⟩ fun T h139 a140 g140 W E140 X140 D140 => ?_
  have K140 : Keep h0 h139 [] := keep_ext E140 []
  refine k_dup W d_method_3_23 rfl ?_
  refine k_iconst W d_method_3_24 (z := (1 : Int32)) rfl ?_
  refine k_newarr W 1 2 5 d_method_3_25 (w7 hw) (by decide) (by decide) ⟨rfl, Nat.le_of_ble_eq_true rfl⟩ ⟨rfl, Nat.le_of_ble_eq_true rfl⟩ fun T h141 a142 g142 W E142 A142 => ?_
  have K142 : Keep h139 h141 [] := keep_ext E142 []
  have A142 : Av Z h141 a142 .char [(.int (0 : Int32))] := A142
  refine k_dup W d_method_3_27 rfl ?_
  refine k_iconst W d_method_3_28 (z := (0 : Int32)) rfl ?_
  refine k_iloadN W d_method_3_29 rfl ?_
  refine k_iconst W d_method_3_30 (z := (0 : Int32)) rfl ?_
  refine k_callS W 5 2 5 (argsL := [(.int p0), (.int (0 : Int32))]) (rest := [(.int (0 : Int32)), (.ref a142), (.ref a142), (.ref a140), (.ref a140)]) d_method_3_31 (w8 hw) (w9 hw) (by decide) (lenOf pd20 rfl) (ct_ch0 l Z a0 hw n0 h141 p0) (w10 hw) (w2 hw) (fun x hx => nomatch hx) rfl (Nat.le_of_eq rfl) (Nat.le_of_ble_eq_true rfl) (Nat.le_of_ble_eq_true rfl) ⟨rfl, Nat.le_of_ble_eq_true rfl⟩ ⟨rfl, Nat.le_of_ble_eq_true rfl⟩ rfl (fun _ _ q => nomatch q.1) fun T h143 v so W hQ => ?_
  obtain ⟨hv, rfl, -⟩ := hQ
  obtain rfl := Option.some.inj hv
  refine k_castore W (z := ((XT.ushr p0 (0 : Int32)) &&& (255 : Int32))) 0 d_method_3_34 (List.mem_of_getElem? (i := 0) rfl) A142 (by decide) (Nat.le_of_ble_eq_true rfl) (Rg.nar (Rg.mono (Rg.and (n := 256) (XT.ushr p0 (0 : Int32)) (255 : Int32) (by decide)) (by decide))) (Rg.fits (Rg.mono (Rg.and (n := 256) (XT.ushr p0 (0 : Int32)) (255 : Int32) (by decide)) (by decide))) fun T h144 W Wr144 A144 => ?_
  have K144 : Keep h141 h144 [a142] := Keep.of_wr Wr144
  have A144 : Av Z h144 a142 .char [(.int ((XT.ushr p0 (0 : Int32)) &&& (255 : Int32)))] := A144
  have f145 := ((X140.keep K142).keep K144)
  have ne146 : a140 ≠ a142 := (Nat.ne_of_lt (Nat.lt_of_lt_of_le X140.lt (Nat.le_of_eq g142.symm)))
  have f147 := (((D140 (Or.inr (w36 hw)) (ty := (.array .byte)) (by decide)).keep K142 nin0).keep K144 (ninS ne146 nin0))
  have f148 := (((D140 (Or.inr (w34 hw)) (ty := .byte) (by decide)).keep K142 nin0).keep K144 (ninS ne146 nin0))
  have f149 := (Sta.keep (Sta.keep (Sta.keep P0 K140 ns0) K142 ns0) K144 (nsS (Av.plain A142) ns0))
  refine k_callI0 W 1 3 6 (argsL := [(.ref a142)]) (rest := [(.ref a140)]) (a := a140) d_method_3_35 rfl rfl (w11 hw) (w12 hw) (by decide) (lenOf pd19 rfl) (ct_sinit l Z a0 hw n0 h144 a140 a142 [((XT.ushr p0 (0 : Int32)) &&& (255 : Int32))] 1 zc .null (.int (0 : Int32)) f145 f147 f148 A144 f149 hzc (rgS (Rg.and (n := 256) (XT.ushr p0 (0 : Int32)) (255 : Int32) (by decide)) (fun _ q => nomatch q)) (Nat.le_of_ble_eq_true rfl) (Nat.le_of_ble_eq_true rfl) (by decide)) (w13 hw) (w6 hw) (fun x hx => by simp only [List.mem_cons, List.not_mem_nil, or_false] at hx; rcases hx with rfl; all_goals first | exact (List.mem_of_getElem? (i := 1) rfl)) rfl (Nat.le_of_eq rfl) (Nat.le_of_ble_eq_true rfl) (Nat.le_of_ble_eq_true rfl) ⟨rfl, Nat.le_of_ble_eq_true rfl⟩ ⟨rfl, Nat.le_of_ble_eq_true rfl⟩ rfl (fun _ _ _ q => nomatch q.1) fun T h150 so W hQ => ?_
  obtain ⟨-, b150, g150, K150, S150⟩ := hQ
  have S150 : St Z h150 a140 b150 [(i2b ((XT.ushr p0 (0 : Int32)) &&& (255 : Int32)))] := S150
  have KK151 : Keep h0 h139 [] := (Keep.refl h0 []).trans K140 all0
  have KK152 : Keep h0 h141 [] := KK151.trans K142 all0
  have KK153 : Keep h0 h144 [] := KK152.trans K144 (allS (Or.inr (Nat.le_trans E140.1 (Nat.le_of_eq g142.symm))) all0)
  have KK154 : Keep h0 h150 [] := KK153.trans K150 (allS (Or.inr (Nat.le_of_eq g140.symm)) all0)
  exact k_areturn W d_method_3_38 rfl rfl rfl [] (fun x hx => nomatch hx) (Nat.le_of_ble_eq_true rfl) (Nat.le_of_ble_eq_true rfl) ⟨_, _, rfl, (Nat.le_of_eq g140.symm), KK154, S150⟩
set_option maxRecDepth 65536 in
set_option maxHeartbeats 40000000 in
theorem ct_tx2 (l : Launch) (Z : State) (a0 : Array Value) (hw : ∀ d ∈ tables_1, d.before a0 Z = true) (n0 : Nat) (h0 : Heap) (p0 : Int32) (zc : Int32) (P0 : Sta Z h0 "java/lang/String" "COMPACT_STRINGS" "Z" (.int zc)) (hzc : zc ≠ 0) : Ct l Z a0 own_EL false (⟨"com/example/epochmark/epochmark/cli/ArgumentsUsagePinLaw", "text", "(II)Ljava/lang/String;"⟩ : MethodName) method_3_code 2 (Option.some (Jvm.ClassFile.FieldType.object "java/lang/String")) ({ frames := 4, cells := 3, slots := 8, locals := 66 } : Room) #[(.int (2 : Int32)), (.int p0)] h0 [] n0 (fun v h so => ∃ x b, v = some (.ref x) ∧ h0.size ≤ x ∧ Keep h0 h [] ∧ St Z h x b [(i2b ((XT.ushr p0 (0 : Int32)) &&& (255 : Int32))), (i2b ((XT.ushr p0 (8 : Int32)) &&& (255 : Int32)))]) := by
  refine Ct.body (plainFor_of_name pn6) ?_
  intro p e s m below meth c T W
  refine WP.cast (g' := (mkF m 0 #[.val (.int (2 : Int32)), .val (.int p0)] [])) (by simp [entryFrame, mkF, argsToLocals, cat_i, cat_l, cat_r, cat_n]) ?_
  refine k_iloadN W d_method_3_0 rfl ?_
  refine k_ifY W 15 d_method_3_1 (by decide) (show ¬ (2 : Int32) = 0 by decide) ?_
  refine k_iloadN W d_method_3_15 rfl ?_
  refine k_iconst W d_method_3_16 (z := (1 : Int32)) rfl ?_
  refine k_icY W 39 d_method_3_17 (by decide) (show ¬ (2 : Int32) = (1 : Int32) by decide) ?_
  refine k_iloadN W d_method_3_39 rfl ?_
  refine k_iconst W d_method_3_40 (z := (2 : Int32)) rfl ?_
  refine k_icN W d_method_3_41 (show ¬ (¬ (2 : Int32) = (2 : Int32)) by decide) ?_
  refine k_new W 1 4 d_method_3_44 (w4 hw) (w5 hw) (w6 hw) ⟨rfl, Nat.le_of_ble_eq_true rfl⟩ ⟨rfl, Nat.le_of_ble_eq_true rfl⟩ fun T h155 a156 g156 W E156 X156 D156 => ?_
  have K156 : Keep h0 h155 [] := keep_ext E156 []
  refine k_dup W d_method_3_47 rfl ?_
  refine k_iconst W d_method_3_48 (z := (2 : Int32)) rfl ?_
  refine k_newarr W 2 2 6 d_method_3_49 (w7 hw) (by decide) (by decide) ⟨rfl, Nat.le_of_ble_eq_true rfl⟩ ⟨rfl, Nat.le_of_ble_eq_true rfl⟩ fun T h157 a158 g158 W E158 A158 => ?_
  have K158 : Keep h155 h157 [] := keep_ext E158 []
  have A158 : Av Z h157 a158 .char [(.int (0 : Int32)), (.int (0 : Int32))] := A158
  refine k_dup W d_method_3_51 rfl ?_
  refine k_iconst W d_method_3_52 (z := (0 : Int32)) rfl ?_
  refine k_iloadN W d_method_3_53 rfl ?_
  refine k_iconst W d_method_3_54 (z := (0 : Int32)) rfl ?_
  refine k_callS W 5 2 6 (argsL := [(.int p0), (.int (0 : Int32))]) (rest := [(.int (0 : Int32)), (.ref a158), (.ref a158), (.ref a156), (.ref a156)]) d_method_3_55 (w8 hw) (w9 hw) (by decide) (lenOf pd20 rfl) (ct_ch0 l Z a0 hw n0 h157 p0) (w10 hw) (w2 hw) (fun x hx => nomatch hx) rfl (Nat.le_of_eq rfl) (Nat.le_of_ble_eq_true rfl) (Nat.le_of_ble_eq_true rfl) ⟨rfl, Nat.le_of_ble_eq_true rfl⟩ ⟨rfl, Nat.le_of_ble_eq_true rfl⟩ rfl (fun _ _ q => nomatch q.1) fun T h159 v so W hQ => ?_
  obtain ⟨hv, rfl, -⟩ := hQ
  obtain rfl := Option.some.inj hv
  refine k_castore W (z := ((XT.ushr p0 (0 : Int32)) &&& (255 : Int32))) 0 d_method_3_58 (List.mem_of_getElem? (i := 0) rfl) A158 (by decide) (Nat.le_of_ble_eq_true rfl) (Rg.nar (Rg.mono (Rg.and (n := 256) (XT.ushr p0 (0 : Int32)) (255 : Int32) (by decide)) (by decide))) (Rg.fits (Rg.mono (Rg.and (n := 256) (XT.ushr p0 (0 : Int32)) (255 : Int32) (by decide)) (by decide))) fun T h160 W Wr160 A160 => ?_
  have K160 : Keep h157 h160 [a158] := Keep.of_wr Wr160
  have A160 : Av Z h160 a158 .char [(.int ((XT.ushr p0 (0 : Int32)) &&& (255 : Int32))), (.int (0 : Int32))] := A160
  refine k_dup W d_method_3_59 rfl ?_
  refine k_iconst W d_method_3_60 (z := (1 : Int32)) rfl ?_
  refine k_iloadN W d_method_3_61 rfl ?_
  refine k_iconst W d_method_3_62 (z := (1 : Int32)) rfl ?_
  refine k_callS W 5 2 6 (argsL := [(.int p0), (.int (1 : Int32))]) (rest := [(.int (1 : Int32)), (.ref a158), (.ref a158), (.ref a156), (.ref a156)]) d_method_3_63 (w8 hw) (w9 hw) (by decide) (lenOf pd20 rfl) (ct_ch1 l Z a0 hw n0 h160 p0) (w10 hw) (w2 hw) (fun x hx => nomatch hx) rfl (Nat.le_of_eq rfl) (Nat.le_of_ble_eq_true rfl) (Nat.le_of_ble_eq_true rfl) ⟨rfl, Nat.le_of_ble_eq_true rfl⟩ ⟨rfl, Nat.le_of_ble_eq_true rfl⟩ rfl (fun _ _ q => nomatch q.1) fun T h161 v so W hQ => ?_
  obtain ⟨hv, rfl, -⟩ := hQ
  obtain rfl := Option.some.inj hv
  refine k_castore W (z := ((XT.ushr p0 (8 : Int32)) &&& (255 : Int32))) 1 d_method_3_66 (List.mem_of_getElem? (i := 0) rfl) A160 (by decide) (Nat.le_of_ble_eq_true rfl) (Rg.nar (Rg.mono (Rg.and (n := 256) (XT.ushr p0 (8 : Int32)) (255 : Int32) (by decide)) (by decide))) (Rg.fits (Rg.mono (Rg.and (n := 256) (XT.ushr p0 (8 : Int32)) (255 : Int32) (by decide)) (by decide))) fun T h162 W Wr162 A162 => ?_
  have K162 : Keep h160 h162 [a158] := Keep.of_wr Wr162
  have A162 : Av Z h162 a158 .char [(.int ((XT.ushr p0 (0 : Int32)) &&& (255 : Int32))), (.int ((XT.ushr p0 (8 : Int32)) &&& (255 : Int32)))] := A162
  have f163 := (((X156.keep K158).keep K160).keep K162)
  have ne164 : a156 ≠ a158 := (Nat.ne_of_lt (Nat.lt_of_lt_of_le X156.lt (Nat.le_of_eq g158.symm)))
  have f165 := ((((D156 (Or.inr (w36 hw)) (ty := (.array .byte)) (by decide)).keep K158 nin0).keep K160 (ninS ne164 nin0)).keep K162 (ninS ne164 nin0))
  have f166 := ((((D156 (Or.inr (w34 hw)) (ty := .byte) (by decide)).keep K158 nin0).keep K160 (ninS ne164 nin0)).keep K162 (ninS ne164 nin0))
  have f167 := (Sta.keep (Sta.keep (Sta.keep (Sta.keep P0 K156 ns0) K158 ns0) K160 (nsS (Av.plain A158) ns0)) K162 (nsS (Av.plain A160) ns0))
  refine k_callI0 W 1 3 8 (argsL := [(.ref a158)]) (rest := [(.ref a156)]) (a := a156) d_method_3_67 rfl rfl (w11 hw) (w12 hw) (by decide) (lenOf pd19 rfl) (ct_sinit l Z a0 hw n0 h162 a156 a158 [((XT.ushr p0 (0 : Int32)) &&& (255 : Int32)), ((XT.ushr p0 (8 : Int32)) &&& (255 : Int32))] 2 zc .null (.int (0 : Int32)) f163 f165 f166 A162 f167 hzc (rgS (Rg.and (n := 256) (XT.ushr p0 (0 : Int32)) (255 : Int32) (by decide)) (rgS (Rg.and (n := 256) (XT.ushr p0 (8 : Int32)) (255 : Int32) (by decide)) (fun _ q => nomatch q))) (Nat.le_of_ble_eq_true rfl) (Nat.le_of_ble_eq_true rfl) (by decide)) (w13 hw) (w6 hw) (fun x hx => by simp only [List.mem_cons, List.not_mem_nil, or_false] at hx; rcases hx with rfl; all_goals first | exact (List.mem_of_getElem? (i := 1) rfl)) rfl (Nat.le_of_eq rfl) (Nat.le_of_ble_eq_true rfl) (Nat.le_of_ble_eq_true rfl) ⟨rfl, Nat.le_of_ble_eq_true rfl⟩ ⟨rfl, Nat.le_of_ble_eq_true rfl⟩ rfl (fun _ _ _ q => nomatch q.1) fun T h168 so W hQ => ?_
  obtain ⟨-, b168, g168, K168, S168⟩ := hQ
  have S168 : St Z h168 a156 b168 [(i2b ((XT.ushr p0 (0 : Int32)) &&& (255 : Int32))), (i2b ((XT.ushr p0 (8 : Int32)) &&& (255 : Int32)))] := S168
  have KK169 : Keep h0 h155 [] := (Keep.refl h0 []).trans K156 all0
  have KK170 : Keep h0 h157 [] := KK169.trans K158 all0
  have KK171 : Keep h0 h160 [] := KK170.trans K160 (allS (Or.inr (Nat.le_trans E156.1 (Nat.le_of_eq g158.symm))) all0)
  have KK172 : Keep h0 h162 [] := KK171.trans K162 (allS (Or.inr (Nat.le_trans E156.1 (Nat.le_of_eq g158.symm))) all0)
  have KK173 : Keep h0 h168 [] := KK172.trans K168 (allS (Or.inr (Nat.le_of_eq g156.symm)) all0)
  exact k_areturn W d_method_3_70 rfl rfl rfl [] (fun x hx => nomatch hx) (Nat.le_of_ble_eq_true rfl) (Nat.le_of_ble_eq_true rfl) ⟨_, _, rfl, (Nat.le_of_eq g156.symm), KK173, S168⟩
set_option maxRecDepth 65536 in
set_option maxHeartbeats 40000000 in
theorem ct_tx3 (l : Launch) (Z : State) (a0 : Array Value) (hw : ∀ d ∈ tables_1, d.before a0 Z = true) (n0 : Nat) (h0 : Heap) (p0 : Int32) (zc : Int32) (P0 : Sta Z h0 "java/lang/String" "COMPACT_STRINGS" "Z" (.int zc)) (hzc : zc ≠ 0) : Ct l Z a0 own_EL false (⟨"com/example/epochmark/epochmark/cli/ArgumentsUsagePinLaw", "text", "(II)Ljava/lang/String;"⟩ : MethodName) method_3_code 2 (Option.some (Jvm.ClassFile.FieldType.object "java/lang/String")) ({ frames := 4, cells := 3, slots := 10, locals := 66 } : Room) #[(.int (3 : Int32)), (.int p0)] h0 [] n0 (fun v h so => ∃ x b, v = some (.ref x) ∧ h0.size ≤ x ∧ Keep h0 h [] ∧ St Z h x b [(i2b ((XT.ushr p0 (0 : Int32)) &&& (255 : Int32))), (i2b ((XT.ushr p0 (8 : Int32)) &&& (255 : Int32))), (i2b ((XT.ushr p0 (16 : Int32)) &&& (255 : Int32)))]) := by
  refine Ct.body (plainFor_of_name pn6) ?_
  intro p e s m below meth c T W
  refine WP.cast (g' := (mkF m 0 #[.val (.int (3 : Int32)), .val (.int p0)] [])) (by simp [entryFrame, mkF, argsToLocals, cat_i, cat_l, cat_r, cat_n]) ?_
  refine k_iloadN W d_method_3_0 rfl ?_
  refine k_ifY W 15 d_method_3_1 (by decide) (show ¬ (3 : Int32) = 0 by decide) ?_
  refine k_iloadN W d_method_3_15 rfl ?_
  refine k_iconst W d_method_3_16 (z := (1 : Int32)) rfl ?_
  refine k_icY W 39 d_method_3_17 (by decide) (show ¬ (3 : Int32) = (1 : Int32) by decide) ?_
  refine k_iloadN W d_method_3_39 rfl ?_
  refine k_iconst W d_method_3_40 (z := (2 : Int32)) rfl ?_
  refine k_icY W 71 d_method_3_41 (by decide) (show ¬ (3 : Int32) = (2 : Int32) by decide) ?_
  refine k_new W 1 4 d_method_3_71 (w4 hw) (w5 hw) (w6 hw) ⟨rfl, Nat.le_of_ble_eq_true rfl⟩ ⟨rfl, Nat.le_of_ble_eq_true rfl⟩ fun T h174 a175 g175 W E175 X175 D175 => ?_
  have K175 : Keep h0 h174 [] := keep_ext E175 []
  refine k_dup W d_method_3_74 rfl ?_
  refine k_iconst W d_method_3_75 (z := (3 : Int32)) rfl ?_
  refine k_newarr W 3 2 7 d_method_3_76 (w7 hw) (by decide) (by decide) ⟨rfl, Nat.le_of_ble_eq_true rfl⟩ ⟨rfl, Nat.le_of_ble_eq_true rfl⟩ fun T h176 a177 g177 W E177 A177 => ?_
  have K177 : Keep h174 h176 [] := keep_ext E177 []
  have A177 : Av Z h176 a177 .char [(.int (0 : Int32)), (.int (0 : Int32)), (.int (0 : Int32))] := A177
  refine k_dup W d_method_3_78 rfl ?_
  refine k_iconst W d_method_3_79 (z := (0 : Int32)) rfl ?_
  refine k_iloadN W d_method_3_80 rfl ?_
  refine k_iconst W d_method_3_81 (z := (0 : Int32)) rfl ?_
  refine k_callS W 5 2 7 (argsL := [(.int p0), (.int (0 : Int32))]) (rest := [(.int (0 : Int32)), (.ref a177), (.ref a177), (.ref a175), (.ref a175)]) d_method_3_82 (w8 hw) (w9 hw) (by decide) (lenOf pd20 rfl) (ct_ch0 l Z a0 hw n0 h176 p0) (w10 hw) (w2 hw) (fun x hx => nomatch hx) rfl (Nat.le_of_eq rfl) (Nat.le_of_ble_eq_true rfl) (Nat.le_of_ble_eq_true rfl) ⟨rfl, Nat.le_of_ble_eq_true rfl⟩ ⟨rfl, Nat.le_of_ble_eq_true rfl⟩ rfl (fun _ _ q => nomatch q.1) fun T h178 v so W hQ => ?_
  obtain ⟨hv, rfl, -⟩ := hQ
  obtain rfl := Option.some.inj hv
  refine k_castore W (z := ((XT.ushr p0 (0 : Int32)) &&& (255 : Int32))) 0 d_method_3_85 (List.mem_of_getElem? (i := 0) rfl) A177 (by decide) (Nat.le_of_ble_eq_true rfl) (Rg.nar (Rg.mono (Rg.and (n := 256) (XT.ushr p0 (0 : Int32)) (255 : Int32) (by decide)) (by decide))) (Rg.fits (Rg.mono (Rg.and (n := 256) (XT.ushr p0 (0 : Int32)) (255 : Int32) (by decide)) (by decide))) fun T h179 W Wr179 A179 => ?_
  have K179 : Keep h176 h179 [a177] := Keep.of_wr Wr179
  have A179 : Av Z h179 a177 .char [(.int ((XT.ushr p0 (0 : Int32)) &&& (255 : Int32))), (.int (0 : Int32)), (.int (0 : Int32))] := A179
  refine k_dup W d_method_3_86 rfl ?_
  refine k_iconst W d_method_3_87 (z := (1 : Int32)) rfl ?_
  refine k_iloadN W d_method_3_88 rfl ?_
  refine k_iconst W d_method_3_89 (z := (1 : Int32)) rfl ?_
  refine k_callS W 5 2 7 (argsL := [(.int p0), (.int (1 : Int32))]) (rest := [(.int (1 : Int32)), (.ref a177), (.ref a177), (.ref a175), (.ref a175)]) d_method_3_90 (w8 hw) (w9 hw) (by decide) (lenOf pd20 rfl) (ct_ch1 l Z a0 hw n0 h179 p0) (w10 hw) (w2 hw) (fun x hx => nomatch hx) rfl (Nat.le_of_eq rfl) (Nat.le_of_ble_eq_true rfl) (Nat.le_of_ble_eq_true rfl) ⟨rfl, Nat.le_of_ble_eq_true rfl⟩ ⟨rfl, Nat.le_of_ble_eq_true rfl⟩ rfl (fun _ _ q => nomatch q.1) fun T h180 v so W hQ => ?_
  obtain ⟨hv, rfl, -⟩ := hQ
  obtain rfl := Option.some.inj hv
  refine k_castore W (z := ((XT.ushr p0 (8 : Int32)) &&& (255 : Int32))) 1 d_method_3_93 (List.mem_of_getElem? (i := 0) rfl) A179 (by decide) (Nat.le_of_ble_eq_true rfl) (Rg.nar (Rg.mono (Rg.and (n := 256) (XT.ushr p0 (8 : Int32)) (255 : Int32) (by decide)) (by decide))) (Rg.fits (Rg.mono (Rg.and (n := 256) (XT.ushr p0 (8 : Int32)) (255 : Int32) (by decide)) (by decide))) fun T h181 W Wr181 A181 => ?_
  have K181 : Keep h179 h181 [a177] := Keep.of_wr Wr181
  have A181 : Av Z h181 a177 .char [(.int ((XT.ushr p0 (0 : Int32)) &&& (255 : Int32))), (.int ((XT.ushr p0 (8 : Int32)) &&& (255 : Int32))), (.int (0 : Int32))] := A181
  refine k_dup W d_method_3_94 rfl ?_
  refine k_iconst W d_method_3_95 (z := (2 : Int32)) rfl ?_
  refine k_iloadN W d_method_3_96 rfl ?_
  refine k_iconst W d_method_3_97 (z := (2 : Int32)) rfl ?_
  refine k_callS W 5 2 7 (argsL := [(.int p0), (.int (2 : Int32))]) (rest := [(.int (2 : Int32)), (.ref a177), (.ref a177), (.ref a175), (.ref a175)]) d_method_3_98 (w8 hw) (w9 hw) (by decide) (lenOf pd20 rfl) (ct_ch2 l Z a0 hw n0 h181 p0) (w10 hw) (w2 hw) (fun x hx => nomatch hx) rfl (Nat.le_of_eq rfl) (Nat.le_of_ble_eq_true rfl) (Nat.le_of_ble_eq_true rfl) ⟨rfl, Nat.le_of_ble_eq_true rfl⟩ ⟨rfl, Nat.le_of_ble_eq_true rfl⟩ rfl (fun _ _ q => nomatch q.1) fun T h182 v so W hQ => ?_
  obtain ⟨hv, rfl, -⟩ := hQ
  obtain rfl := Option.some.inj hv
  refine k_castore W (z := ((XT.ushr p0 (16 : Int32)) &&& (255 : Int32))) 2 d_method_3_101 (List.mem_of_getElem? (i := 0) rfl) A181 (by decide) (Nat.le_of_ble_eq_true rfl) (Rg.nar (Rg.mono (Rg.and (n := 256) (XT.ushr p0 (16 : Int32)) (255 : Int32) (by decide)) (by decide))) (Rg.fits (Rg.mono (Rg.and (n := 256) (XT.ushr p0 (16 : Int32)) (255 : Int32) (by decide)) (by decide))) fun T h183 W Wr183 A183 => ?_
  have K183 : Keep h181 h183 [a177] := Keep.of_wr Wr183
  have A183 : Av Z h183 a177 .char [(.int ((XT.ushr p0 (0 : Int32)) &&& (255 : Int32))), (.int ((XT.ushr p0 (8 : Int32)) &&& (255 : Int32))), (.int ((XT.ushr p0 (16 : Int32)) &&& (255 : Int32)))] := A183
  have f184 := ((((X175.keep K177).keep K179).keep K181).keep K183)
  have ne185 : a175 ≠ a177 := (Nat.ne_of_lt (Nat.lt_of_lt_of_le X175.lt (Nat.le_of_eq g177.symm)))
  have f186 := (((((D175 (Or.inr (w36 hw)) (ty := (.array .byte)) (by decide)).keep K177 nin0).keep K179 (ninS ne185 nin0)).keep K181 (ninS ne185 nin0)).keep K183 (ninS ne185 nin0))
  have f187 := (((((D175 (Or.inr (w34 hw)) (ty := .byte) (by decide)).keep K177 nin0).keep K179 (ninS ne185 nin0)).keep K181 (ninS ne185 nin0)).keep K183 (ninS ne185 nin0))
  have f188 := (Sta.keep (Sta.keep (Sta.keep (Sta.keep (Sta.keep P0 K175 ns0) K177 ns0) K179 (nsS (Av.plain A177) ns0)) K181 (nsS (Av.plain A179) ns0)) K183 (nsS (Av.plain A181) ns0))
  refine k_callI0 W 1 3 10 (argsL := [(.ref a177)]) (rest := [(.ref a175)]) (a := a175) d_method_3_102 rfl rfl (w11 hw) (w12 hw) (by decide) (lenOf pd19 rfl) (ct_sinit l Z a0 hw n0 h183 a175 a177 [((XT.ushr p0 (0 : Int32)) &&& (255 : Int32)), ((XT.ushr p0 (8 : Int32)) &&& (255 : Int32)), ((XT.ushr p0 (16 : Int32)) &&& (255 : Int32))] 3 zc .null (.int (0 : Int32)) f184 f186 f187 A183 f188 hzc (rgS (Rg.and (n := 256) (XT.ushr p0 (0 : Int32)) (255 : Int32) (by decide)) (rgS (Rg.and (n := 256) (XT.ushr p0 (8 : Int32)) (255 : Int32) (by decide)) (rgS (Rg.and (n := 256) (XT.ushr p0 (16 : Int32)) (255 : Int32) (by decide)) (fun _ q => nomatch q)))) (Nat.le_of_ble_eq_true rfl) (Nat.le_of_ble_eq_true rfl) (by decide)) (w13 hw) (w6 hw) (fun x hx => by simp only [List.mem_cons, List.not_mem_nil, or_false] at hx; rcases hx with rfl; all_goals first | exact (List.mem_of_getElem? (i := 1) rfl)) rfl (Nat.le_of_eq rfl) (Nat.le_of_ble_eq_true rfl) (Nat.le_of_ble_eq_true rfl) ⟨rfl, Nat.le_of_ble_eq_true rfl⟩ ⟨rfl, Nat.le_of_ble_eq_true rfl⟩ rfl (fun _ _ _ q => nomatch q.1) fun T h189 so W hQ => ?_
  obtain ⟨-, b189, g189, K189, S189⟩ := hQ
  have S189 : St Z h189 a175 b189 [(i2b ((XT.ushr p0 (0 : Int32)) &&& (255 : Int32))), (i2b ((XT.ushr p0 (8 : Int32)) &&& (255 : Int32))), (i2b ((XT.ushr p0 (16 : Int32)) &&& (255 : Int32)))] := S189
  have KK190 : Keep h0 h174 [] := (Keep.refl h0 []).trans K175 all0
  have KK191 : Keep h0 h176 [] := KK190.trans K177 all0
  have KK192 : Keep h0 h179 [] := KK191.trans K179 (allS (Or.inr (Nat.le_trans E175.1 (Nat.le_of_eq g177.symm))) all0)
  have KK193 : Keep h0 h181 [] := KK192.trans K181 (allS (Or.inr (Nat.le_trans E175.1 (Nat.le_of_eq g177.symm))) all0)
  have KK194 : Keep h0 h183 [] := KK193.trans K183 (allS (Or.inr (Nat.le_trans E175.1 (Nat.le_of_eq g177.symm))) all0)
  have KK195 : Keep h0 h189 [] := KK194.trans K189 (allS (Or.inr (Nat.le_of_eq g175.symm)) all0)
  exact k_areturn W d_method_3_105 rfl rfl rfl [] (fun x hx => nomatch hx) (Nat.le_of_ble_eq_true rfl) (Nat.le_of_ble_eq_true rfl) ⟨_, _, rfl, (Nat.le_of_eq g175.symm), KK195, S189⟩
set_option maxRecDepth 65536 in
set_option maxHeartbeats 40000000 in
theorem ct_pf0 (l : Launch) (Z : State) (a0 : Array Value) (hw : ∀ d ∈ tables_1, d.before a0 Z = true) (n0 : Nat) (h0 : Heap) (p0 : Int32) (zc : Int32) (P0 : Sta Z h0 "java/lang/String" "COMPACT_STRINGS" "Z" (.int zc)) (hzc : zc ≠ 0) : Ct l Z a0 own_EL false (⟨"com/example/epochmark/epochmark/cli/ArgumentsUsagePinLaw", "prefixed", "(II)Ljava/lang/String;"⟩ : MethodName) method_4_code 2 (Option.some (Jvm.ClassFile.FieldType.object "java/lang/String")) ({ frames := 4, cells := 3, slots := 18, locals := 66 } : Room) #[(.int (0 : Int32)), (.int p0)] h0 [] n0 (fun v h so => ∃ x b, v = some (.ref x) ∧ h0.size ≤ x ∧ Keep h0 h [] ∧ St Z h x b [(117 : Int32), (115 : Int32), (97 : Int32), (103 : Int32), (101 : Int32), (58 : Int32), (32 : Int32)]) := by
  refine Ct.body (plainFor_of_name pn6) ?_
  intro p e s m below meth c T W
  refine WP.cast (g' := (mkF m 0 #[.val (.int (0 : Int32)), .val (.int p0)] [])) (by simp [entryFrame, mkF, argsToLocals, cat_i, cat_l, cat_r, cat_n]) ?_
  refine k_iloadN W d_method_4_0 rfl ?_
  refine k_ifN W d_method_4_1 (show ¬ (¬ (0 : Int32) = 0) by decide) ?_
  refine k_new W 1 4 d_method_4_4 (w4 hw) (w5 hw) (w6 hw) ⟨rfl, Nat.le_of_ble_eq_true rfl⟩ ⟨rfl, Nat.le_of_ble_eq_true rfl⟩ fun T h196 a197 g197 W E197 X197 D197 => ?_
  have K197 : Keep h0 h196 [] := keep_ext E197 []
  refine k_dup W d_method_4_7 rfl ?_
  refine k_bipush W d_method_4_8 (z := (7 : Int32)) rfl ?_
  refine k_newarr W 7 2 11 d_method_4_10 (w7 hw) (by decide) (by decide) ⟨rfl, Nat.le_of_ble_eq_true rfl⟩ ⟨rfl, Nat.le_of_ble_eq_true rfl⟩ fun T h198 a199 g199 W E199 A199 => ?_
  have K199 : Keep h196 h198 [] := keep_ext E199 []
  have A199 : Av Z h198 a199 .char [(.int (0 : Int32)), (.int (0 : Int32)), (.int (0 : Int32)), (.int (0 : Int32)), (.int (0 : Int32)), (.int (0 : Int32)), (.int (0 : Int32))] := A199
  refine k_dup W d_method_4_12 rfl ?_
  refine k_iconst W d_method_4_13 (z := (0 : Int32)) rfl ?_
  refine k_bipush W d_method_4_14 (z := (117 : Int32)) rfl ?_
  refine k_castore W (z := (117 : Int32)) 0 d_method_4_16 (List.mem_of_getElem? (i := 0) rfl) A199 (by decide) (Nat.le_of_ble_eq_true rfl) (by decide) (by decide) fun T h200 W Wr200 A200 => ?_
  have K200 : Keep h198 h200 [a199] := Keep.of_wr Wr200
  have A200 : Av Z h200 a199 .char [(.int (117 : Int32)), (.int (0 : Int32)), (.int (0 : Int32)), (.int (0 : Int32)), (.int (0 : Int32)), (.int (0 : Int32)), (.int (0 : Int32))] := A200
  refine k_dup W d_method_4_17 rfl ?_
  refine k_iconst W d_method_4_18 (z := (1 : Int32)) rfl ?_
  refine k_bipush W d_method_4_19 (z := (115 : Int32)) rfl ?_
  refine k_castore W (z := (115 : Int32)) 1 d_method_4_21 (List.mem_of_getElem? (i := 0) rfl) A200 (by decide) (Nat.le_of_ble_eq_true rfl) (by decide) (by decide) fun T h201 W Wr201 A201 => ?_
  have K201 : Keep h200 h201 [a199] := Keep.of_wr Wr201
  have A201 : Av Z h201 a199 .char [(.int (117 : Int32)), (.int (115 : Int32)), (.int (0 : Int32)), (.int (0 : Int32)), (.int (0 : Int32)), (.int (0 : Int32)), (.int (0 : Int32))] := A201
  refine k_dup W d_method_4_22 rfl ?_
  refine k_iconst W d_method_4_23 (z := (2 : Int32)) rfl ?_
  refine k_bipush W d_method_4_24 (z := (97 : Int32)) rfl ?_
  refine k_castore W (z := (97 : Int32)) 2 d_method_4_26 (List.mem_of_getElem? (i := 0) rfl) A201 (by decide) (Nat.le_of_ble_eq_true rfl) (by decide) (by decide) fun T h202 W Wr202 A202 => ?_
  have K202 : Keep h201 h202 [a199] := Keep.of_wr Wr202
  have A202 : Av Z h202 a199 .char [(.int (117 : Int32)), (.int (115 : Int32)), (.int (97 : Int32)), (.int (0 : Int32)), (.int (0 : Int32)), (.int (0 : Int32)), (.int (0 : Int32))] := A202
  refine k_dup W d_method_4_27 rfl ?_
  refine k_iconst W d_method_4_28 (z := (3 : Int32)) rfl ?_
  refine k_bipush W d_method_4_29 (z := (103 : Int32)) rfl ?_
  refine k_castore W (z := (103 : Int32)) 3 d_method_4_31 (List.mem_of_getElem? (i := 0) rfl) A202 (by decide) (Nat.le_of_ble_eq_true rfl) (by decide) (by decide) fun T h203 W Wr203 A203 => ?_
  have K203 : Keep h202 h203 [a199] := Keep.of_wr Wr203
  have A203 : Av Z h203 a199 .char [(.int (117 : Int32)), (.int (115 : Int32)), (.int (97 : Int32)), (.int (103 : Int32)), (.int (0 : Int32)), (.int (0 : Int32)), (.int (0 : Int32))] := A203
  refine k_dup W d_method_4_32 rfl ?_
  refine k_iconst W d_method_4_33 (z := (4 : Int32)) rfl ?_
  refine k_bipush W d_method_4_34 (z := (101 : Int32)) rfl ?_
  refine k_castore W (z := (101 : Int32)) 4 d_method_4_36 (List.mem_of_getElem? (i := 0) rfl) A203 (by decide) (Nat.le_of_ble_eq_true rfl) (by decide) (by decide) fun T h204 W Wr204 A204 => ?_
  have K204 : Keep h203 h204 [a199] := Keep.of_wr Wr204
  have A204 : Av Z h204 a199 .char [(.int (117 : Int32)), (.int (115 : Int32)), (.int (97 : Int32)), (.int (103 : Int32)), (.int (101 : Int32)), (.int (0 : Int32)), (.int (0 : Int32))] := A204
  refine k_dup W d_method_4_37 rfl ?_
  refine k_iconst W d_method_4_38 (z := (5 : Int32)) rfl ?_
  refine k_bipush W d_method_4_39 (z := (58 : Int32)) rfl ?_
  refine k_castore W (z := (58 : Int32)) 5 d_method_4_41 (List.mem_of_getElem? (i := 0) rfl) A204 (by decide) (Nat.le_of_ble_eq_true rfl) (by decide) (by decide) fun T h205 W Wr205 A205 => ?_
  have K205 : Keep h204 h205 [a199] := Keep.of_wr Wr205
  have A205 : Av Z h205 a199 .char [(.int (117 : Int32)), (.int (115 : Int32)), (.int (97 : Int32)), (.int (103 : Int32)), (.int (101 : Int32)), (.int (58 : Int32)), (.int (0 : Int32))] := A205
  refine k_dup W d_method_4_42 rfl ?_
  refine k_bipush W d_method_4_43 (z := (6 : Int32)) rfl ?_
  refine k_bipush W d_method_4_45 (z := (32 : Int32)) rfl ?_
  refine k_castore W (z := (32 : Int32)) 6 d_method_4_47 (List.mem_of_getElem? (i := 0) rfl) A205 (by decide) (Nat.le_of_ble_eq_true rfl) (by decide) (by decide) fun T h206 W Wr206 A206 => ?_
  have K206 : Keep h205 h206 [a199] := Keep.of_wr Wr206
  have A206 : Av Z h206 a199 .char [(.int (117 : Int32)), (.int (115 : Int32)), (.int (97 : Int32)), (.int (103 : Int32)), (.int (101 : Int32)), (.int (58 : Int32)), (.int (32 : Int32))] := A206
  have f207 := ((((((((X197.keep K199).keep K200).keep K201).keep K202).keep K203).keep K204).keep K205).keep K206)
  have ne208 : a197 ≠ a199 := (Nat.ne_of_lt (Nat.lt_of_lt_of_le X197.lt (Nat.le_of_eq g199.symm)))
  have f209 := (((((((((D197 (Or.inr (w36 hw)) (ty := (.array .byte)) (by decide)).keep K199 nin0).keep K200 (ninS ne208 nin0)).keep K201 (ninS ne208 nin0)).keep K202 (ninS ne208 nin0)).keep K203 (ninS ne208 nin0)).keep K204 (ninS ne208 nin0)).keep K205 (ninS ne208 nin0)).keep K206 (ninS ne208 nin0))
  have f210 := (((((((((D197 (Or.inr (w34 hw)) (ty := .byte) (by decide)).keep K199 nin0).keep K200 (ninS ne208 nin0)).keep K201 (ninS ne208 nin0)).keep K202 (ninS ne208 nin0)).keep K203 (ninS ne208 nin0)).keep K204 (ninS ne208 nin0)).keep K205 (ninS ne208 nin0)).keep K206 (ninS ne208 nin0))
  have f211 := (Sta.keep (Sta.keep (Sta.keep (Sta.keep (Sta.keep (Sta.keep (Sta.keep (Sta.keep (Sta.keep P0 K197 ns0) K199 ns0) K200 (nsS (Av.plain A199) ns0)) K201 (nsS (Av.plain A200) ns0)) K202 (nsS (Av.plain A201) ns0)) K203 (nsS (Av.plain A202) ns0)) K204 (nsS (Av.plain A203) ns0)) K205 (nsS (Av.plain A204) ns0)) K206 (nsS (Av.plain A205) ns0))
  refine k_callI0 W 1 3 18 (argsL := [(.ref a199)]) (rest := [(.ref a197)]) (a := a197) d_method_4_48 rfl rfl (w11 hw) (w12 hw) (by decide) (lenOf pd19 rfl) (ct_sinit l Z a0 hw n0 h206 a197 a199 [(117 : Int32), (115 : Int32), (97 : Int32), (103 : Int32), (101 : Int32), (58 : Int32), (32 : Int32)] 7 zc .null (.int (0 : Int32)) f207 f209 f210 A206 f211 hzc (rgS (by decide) (rgS (by decide) (rgS (by decide) (rgS (by decide) (rgS (by decide) (rgS (by decide) (rgS (by decide) (fun _ q => nomatch q)))))))) (by decide) (by decide) (by decide)) (w13 hw) (w6 hw) (fun x hx => by simp only [List.mem_cons, List.not_mem_nil, or_false] at hx; rcases hx with rfl; all_goals first | exact (List.mem_of_getElem? (i := 1) rfl)) rfl (Nat.le_of_eq rfl) (Nat.le_of_ble_eq_true rfl) (Nat.le_of_ble_eq_true rfl) ⟨rfl, Nat.le_of_ble_eq_true rfl⟩ ⟨rfl, Nat.le_of_ble_eq_true rfl⟩ rfl (fun _ _ _ q => nomatch q.1) fun T h212 so W hQ => ?_
  obtain ⟨-, b212, g212, K212, S212⟩ := hQ
  have S212 : St Z h212 a197 b212 [(117 : Int32), (115 : Int32), (97 : Int32), (103 : Int32), (101 : Int32), (58 : Int32), (32 : Int32)] := S212
  have KK213 : Keep h0 h196 [] := (Keep.refl h0 []).trans K197 all0
  have KK214 : Keep h0 h198 [] := KK213.trans K199 all0
  have KK215 : Keep h0 h200 [] := KK214.trans K200 (allS (Or.inr (Nat.le_trans E197.1 (Nat.le_of_eq g199.symm))) all0)
  have KK216 : Keep h0 h201 [] := KK215.trans K201 (allS (Or.inr (Nat.le_trans E197.1 (Nat.le_of_eq g199.symm))) all0)
  have KK217 : Keep h0 h202 [] := KK216.trans K202 (allS (Or.inr (Nat.le_trans E197.1 (Nat.le_of_eq g199.symm))) all0)
  have KK218 : Keep h0 h203 [] := KK217.trans K203 (allS (Or.inr (Nat.le_trans E197.1 (Nat.le_of_eq g199.symm))) all0)
  have KK219 : Keep h0 h204 [] := KK218.trans K204 (allS (Or.inr (Nat.le_trans E197.1 (Nat.le_of_eq g199.symm))) all0)
  have KK220 : Keep h0 h205 [] := KK219.trans K205 (allS (Or.inr (Nat.le_trans E197.1 (Nat.le_of_eq g199.symm))) all0)
  have KK221 : Keep h0 h206 [] := KK220.trans K206 (allS (Or.inr (Nat.le_trans E197.1 (Nat.le_of_eq g199.symm))) all0)
  have KK222 : Keep h0 h212 [] := KK221.trans K212 (allS (Or.inr (Nat.le_of_eq g197.symm)) all0)
  exact k_areturn W d_method_4_51 rfl rfl rfl [] (fun x hx => nomatch hx) (Nat.le_of_ble_eq_true rfl) (Nat.le_of_ble_eq_true rfl) ⟨_, _, rfl, (Nat.le_of_eq g197.symm), KK222, S212⟩
set_option maxRecDepth 65536 in
set_option maxHeartbeats 40000000 in
theorem ct_pf1 (l : Launch) (Z : State) (a0 : Array Value) (hw : ∀ d ∈ tables_1, d.before a0 Z = true) (n0 : Nat) (h0 : Heap) (p0 : Int32) (zc : Int32) (P0 : Sta Z h0 "java/lang/String" "COMPACT_STRINGS" "Z" (.int zc)) (hzc : zc ≠ 0) : Ct l Z a0 own_EL false (⟨"com/example/epochmark/epochmark/cli/ArgumentsUsagePinLaw", "prefixed", "(II)Ljava/lang/String;"⟩ : MethodName) method_4_code 2 (Option.some (Jvm.ClassFile.FieldType.object "java/lang/String")) ({ frames := 4, cells := 3, slots := 20, locals := 66 } : Room) #[(.int (1 : Int32)), (.int p0)] h0 [] n0 (fun v h so => ∃ x b, v = some (.ref x) ∧ h0.size ≤ x ∧ Keep h0 h [] ∧ St Z h x b [(117 : Int32), (115 : Int32), (97 : Int32), (103 : Int32), (101 : Int32), (58 : Int32), (32 : Int32), (i2b ((XT.ushr p0 (0 : Int32)) &&& (255 : Int32)))]) := by
  refine Ct.body (plainFor_of_name pn6) ?_
  intro p e s m below meth c T W
  refine WP.cast (g' := (mkF m 0 #[.val (.int (1 : Int32)), .val (.int p0)] [])) (by simp [entryFrame, mkF, argsToLocals, cat_i, cat_l, cat_r, cat_n]) ?_
  refine k_iloadN W d_method_4_0 rfl ?_
  refine k_ifY W 52 d_method_4_1 (by decide) (show ¬ (1 : Int32) = 0 by decide) ?_
  refine k_iloadN W d_method_4_52 rfl ?_
  refine k_iconst W d_method_4_53 (z := (1 : Int32)) rfl ?_
  refine k_icN W d_method_4_54 (show ¬ (¬ (1 : Int32) = (1 : Int32)) by decide) ?_
  refine k_new W 1 4 d_method_4_57 (w4 hw) (w5 hw) (w6 hw) ⟨rfl, Nat.le_of_ble_eq_true rfl⟩ ⟨rfl, Nat.le_of_ble_eq_true rfl⟩ fun T h223 a224 g224 W E224 X224 D224 => ?_
  have K224 : Keep h0 h223 [] := keep_ext E224 []
  refine k_dup W d_method_4_60 rfl ?_
  refine k_bipush W d_method_4_61 (z := (8 : Int32)) rfl ?_
  refine k_newarr W 8 2 12 d_method_4_63 (w7 hw) (by decide) (by decide) ⟨rfl, Nat.le_of_ble_eq_true rfl⟩ ⟨rfl, Nat.le_of_ble_eq_true rfl⟩ fun T h225 a226 g226 W E226 A226 => ?_
  have K226 : Keep h223 h225 [] := keep_ext E226 []
  have A226 : Av Z h225 a226 .char [(.int (0 : Int32)), (.int (0 : Int32)), (.int (0 : Int32)), (.int (0 : Int32)), (.int (0 : Int32)), (.int (0 : Int32)), (.int (0 : Int32)), (.int (0 : Int32))] := A226
  refine k_dup W d_method_4_65 rfl ?_
  refine k_iconst W d_method_4_66 (z := (0 : Int32)) rfl ?_
  refine k_bipush W d_method_4_67 (z := (117 : Int32)) rfl ?_
  refine k_castore W (z := (117 : Int32)) 0 d_method_4_69 (List.mem_of_getElem? (i := 0) rfl) A226 (by decide) (Nat.le_of_ble_eq_true rfl) (by decide) (by decide) fun T h227 W Wr227 A227 => ?_
  have K227 : Keep h225 h227 [a226] := Keep.of_wr Wr227
  have A227 : Av Z h227 a226 .char [(.int (117 : Int32)), (.int (0 : Int32)), (.int (0 : Int32)), (.int (0 : Int32)), (.int (0 : Int32)), (.int (0 : Int32)), (.int (0 : Int32)), (.int (0 : Int32))] := A227
  refine k_dup W d_method_4_70 rfl ?_
  refine k_iconst W d_method_4_71 (z := (1 : Int32)) rfl ?_
  refine k_bipush W d_method_4_72 (z := (115 : Int32)) rfl ?_
  refine k_castore W (z := (115 : Int32)) 1 d_method_4_74 (List.mem_of_getElem? (i := 0) rfl) A227 (by decide) (Nat.le_of_ble_eq_true rfl) (by decide) (by decide) fun T h228 W Wr228 A228 => ?_
  have K228 : Keep h227 h228 [a226] := Keep.of_wr Wr228
  have A228 : Av Z h228 a226 .char [(.int (117 : Int32)), (.int (115 : Int32)), (.int (0 : Int32)), (.int (0 : Int32)), (.int (0 : Int32)), (.int (0 : Int32)), (.int (0 : Int32)), (.int (0 : Int32))] := A228
  refine k_dup W d_method_4_75 rfl ?_
  refine k_iconst W d_method_4_76 (z := (2 : Int32)) rfl ?_
  refine k_bipush W d_method_4_77 (z := (97 : Int32)) rfl ?_
  refine k_castore W (z := (97 : Int32)) 2 d_method_4_79 (List.mem_of_getElem? (i := 0) rfl) A228 (by decide) (Nat.le_of_ble_eq_true rfl) (by decide) (by decide) fun T h229 W Wr229 A229 => ?_
  have K229 : Keep h228 h229 [a226] := Keep.of_wr Wr229
  have A229 : Av Z h229 a226 .char [(.int (117 : Int32)), (.int (115 : Int32)), (.int (97 : Int32)), (.int (0 : Int32)), (.int (0 : Int32)), (.int (0 : Int32)), (.int (0 : Int32)), (.int (0 : Int32))] := A229
  refine k_dup W d_method_4_80 rfl ?_
  refine k_iconst W d_method_4_81 (z := (3 : Int32)) rfl ?_
  refine k_bipush W d_method_4_82 (z := (103 : Int32)) rfl ?_
  refine k_castore W (z := (103 : Int32)) 3 d_method_4_84 (List.mem_of_getElem? (i := 0) rfl) A229 (by decide) (Nat.le_of_ble_eq_true rfl) (by decide) (by decide) fun T h230 W Wr230 A230 => ?_
  have K230 : Keep h229 h230 [a226] := Keep.of_wr Wr230
  have A230 : Av Z h230 a226 .char [(.int (117 : Int32)), (.int (115 : Int32)), (.int (97 : Int32)), (.int (103 : Int32)), (.int (0 : Int32)), (.int (0 : Int32)), (.int (0 : Int32)), (.int (0 : Int32))] := A230
  refine k_dup W d_method_4_85 rfl ?_
  refine k_iconst W d_method_4_86 (z := (4 : Int32)) rfl ?_
  refine k_bipush W d_method_4_87 (z := (101 : Int32)) rfl ?_
  refine k_castore W (z := (101 : Int32)) 4 d_method_4_89 (List.mem_of_getElem? (i := 0) rfl) A230 (by decide) (Nat.le_of_ble_eq_true rfl) (by decide) (by decide) fun T h231 W Wr231 A231 => ?_
  have K231 : Keep h230 h231 [a226] := Keep.of_wr Wr231
  have A231 : Av Z h231 a226 .char [(.int (117 : Int32)), (.int (115 : Int32)), (.int (97 : Int32)), (.int (103 : Int32)), (.int (101 : Int32)), (.int (0 : Int32)), (.int (0 : Int32)), (.int (0 : Int32))] := A231
  refine k_dup W d_method_4_90 rfl ?_
  refine k_iconst W d_method_4_91 (z := (5 : Int32)) rfl ?_
  refine k_bipush W d_method_4_92 (z := (58 : Int32)) rfl ?_
  refine k_castore W (z := (58 : Int32)) 5 d_method_4_94 (List.mem_of_getElem? (i := 0) rfl) A231 (by decide) (Nat.le_of_ble_eq_true rfl) (by decide) (by decide) fun T h232 W Wr232 A232 => ?_
  have K232 : Keep h231 h232 [a226] := Keep.of_wr Wr232
  have A232 : Av Z h232 a226 .char [(.int (117 : Int32)), (.int (115 : Int32)), (.int (97 : Int32)), (.int (103 : Int32)), (.int (101 : Int32)), (.int (58 : Int32)), (.int (0 : Int32)), (.int (0 : Int32))] := A232
  refine k_dup W d_method_4_95 rfl ?_
  refine k_bipush W d_method_4_96 (z := (6 : Int32)) rfl ?_
  refine k_bipush W d_method_4_98 (z := (32 : Int32)) rfl ?_
  refine k_castore W (z := (32 : Int32)) 6 d_method_4_100 (List.mem_of_getElem? (i := 0) rfl) A232 (by decide) (Nat.le_of_ble_eq_true rfl) (by decide) (by decide) fun T h233 W Wr233 A233 => ?_
  have K233 : Keep h232 h233 [a226] := Keep.of_wr Wr233
  have A233 : Av Z h233 a226 .char [(.int (117 : Int32)), (.int (115 : Int32)), (.int (97 : Int32)), (.int (103 : Int32)), (.int (101 : Int32)), (.int (58 : Int32)), (.int (32 : Int32)), (.int (0 : Int32))] := A233
  refine k_dup W d_method_4_101 rfl ?_
  refine k_bipush W d_method_4_102 (z := (7 : Int32)) rfl ?_
  refine k_iloadN W d_method_4_104 rfl ?_
  refine k_iconst W d_method_4_105 (z := (0 : Int32)) rfl ?_
  refine k_callS W 5 2 12 (argsL := [(.int p0), (.int (0 : Int32))]) (rest := [(.int (7 : Int32)), (.ref a226), (.ref a226), (.ref a224), (.ref a224)]) d_method_4_106 (w8 hw) (w9 hw) (by decide) (lenOf pd20 rfl) (ct_ch0 l Z a0 hw n0 h233 p0) (w10 hw) (w2 hw) (fun x hx => nomatch hx) rfl (Nat.le_of_eq rfl) (Nat.le_of_ble_eq_true rfl) (Nat.le_of_ble_eq_true rfl) ⟨rfl, Nat.le_of_ble_eq_true rfl⟩ ⟨rfl, Nat.le_of_ble_eq_true rfl⟩ rfl (fun _ _ q => nomatch q.1) fun T h234 v so W hQ => ?_
  obtain ⟨hv, rfl, -⟩ := hQ
  obtain rfl := Option.some.inj hv
  refine k_castore W (z := ((XT.ushr p0 (0 : Int32)) &&& (255 : Int32))) 7 d_method_4_109 (List.mem_of_getElem? (i := 0) rfl) A233 (by decide) (Nat.le_of_ble_eq_true rfl) (Rg.nar (Rg.mono (Rg.and (n := 256) (XT.ushr p0 (0 : Int32)) (255 : Int32) (by decide)) (by decide))) (Rg.fits (Rg.mono (Rg.and (n := 256) (XT.ushr p0 (0 : Int32)) (255 : Int32) (by decide)) (by decide))) fun T h235 W Wr235 A235 => ?_
  have K235 : Keep h233 h235 [a226] := Keep.of_wr Wr235
  have A235 : Av Z h235 a226 .char [(.int (117 : Int32)), (.int (115 : Int32)), (.int (97 : Int32)), (.int (103 : Int32)), (.int (101 : Int32)), (.int (58 : Int32)), (.int (32 : Int32)), (.int ((XT.ushr p0 (0 : Int32)) &&& (255 : Int32)))] := A235
  have f236 := (((((((((X224.keep K226).keep K227).keep K228).keep K229).keep K230).keep K231).keep K232).keep K233).keep K235)
  have ne237 : a224 ≠ a226 := (Nat.ne_of_lt (Nat.lt_of_lt_of_le X224.lt (Nat.le_of_eq g226.symm)))
  have f238 := ((((((((((D224 (Or.inr (w36 hw)) (ty := (.array .byte)) (by decide)).keep K226 nin0).keep K227 (ninS ne237 nin0)).keep K228 (ninS ne237 nin0)).keep K229 (ninS ne237 nin0)).keep K230 (ninS ne237 nin0)).keep K231 (ninS ne237 nin0)).keep K232 (ninS ne237 nin0)).keep K233 (ninS ne237 nin0)).keep K235 (ninS ne237 nin0))
  have f239 := ((((((((((D224 (Or.inr (w34 hw)) (ty := .byte) (by decide)).keep K226 nin0).keep K227 (ninS ne237 nin0)).keep K228 (ninS ne237 nin0)).keep K229 (ninS ne237 nin0)).keep K230 (ninS ne237 nin0)).keep K231 (ninS ne237 nin0)).keep K232 (ninS ne237 nin0)).keep K233 (ninS ne237 nin0)).keep K235 (ninS ne237 nin0))
  have f240 := (Sta.keep (Sta.keep (Sta.keep (Sta.keep (Sta.keep (Sta.keep (Sta.keep (Sta.keep (Sta.keep (Sta.keep P0 K224 ns0) K226 ns0) K227 (nsS (Av.plain A226) ns0)) K228 (nsS (Av.plain A227) ns0)) K229 (nsS (Av.plain A228) ns0)) K230 (nsS (Av.plain A229) ns0)) K231 (nsS (Av.plain A230) ns0)) K232 (nsS (Av.plain A231) ns0)) K233 (nsS (Av.plain A232) ns0)) K235 (nsS (Av.plain A233) ns0))
  refine k_callI0 W 1 3 20 (argsL := [(.ref a226)]) (rest := [(.ref a224)]) (a := a224) d_method_4_110 rfl rfl (w11 hw) (w12 hw) (by decide) (lenOf pd19 rfl) (ct_sinit l Z a0 hw n0 h235 a224 a226 [(117 : Int32), (115 : Int32), (97 : Int32), (103 : Int32), (101 : Int32), (58 : Int32), (32 : Int32), ((XT.ushr p0 (0 : Int32)) &&& (255 : Int32))] 8 zc .null (.int (0 : Int32)) f236 f238 f239 A235 f240 hzc (rgS (by decide) (rgS (by decide) (rgS (by decide) (rgS (by decide) (rgS (by decide) (rgS (by decide) (rgS (by decide) (rgS (Rg.and (n := 256) (XT.ushr p0 (0 : Int32)) (255 : Int32) (by decide)) (fun _ q => nomatch q))))))))) (Nat.le_of_ble_eq_true rfl) (Nat.le_of_ble_eq_true rfl) (by decide)) (w13 hw) (w6 hw) (fun x hx => by simp only [List.mem_cons, List.not_mem_nil, or_false] at hx; rcases hx with rfl; all_goals first | exact (List.mem_of_getElem? (i := 1) rfl)) rfl (Nat.le_of_eq rfl) (Nat.le_of_ble_eq_true rfl) (Nat.le_of_ble_eq_true rfl) ⟨rfl, Nat.le_of_ble_eq_true rfl⟩ ⟨rfl, Nat.le_of_ble_eq_true rfl⟩ rfl (fun _ _ _ q => nomatch q.1) fun T h241 so W hQ => ?_
  obtain ⟨-, b241, g241, K241, S241⟩ := hQ
  have S241 : St Z h241 a224 b241 [(117 : Int32), (115 : Int32), (97 : Int32), (103 : Int32), (101 : Int32), (58 : Int32), (32 : Int32), (i2b ((XT.ushr p0 (0 : Int32)) &&& (255 : Int32)))] := S241
  have KK242 : Keep h0 h223 [] := (Keep.refl h0 []).trans K224 all0
  have KK243 : Keep h0 h225 [] := KK242.trans K226 all0
  have KK244 : Keep h0 h227 [] := KK243.trans K227 (allS (Or.inr (Nat.le_trans E224.1 (Nat.le_of_eq g226.symm))) all0)
  have KK245 : Keep h0 h228 [] := KK244.trans K228 (allS (Or.inr (Nat.le_trans E224.1 (Nat.le_of_eq g226.symm))) all0)
  have KK246 : Keep h0 h229 [] := KK245.trans K229 (allS (Or.inr (Nat.le_trans E224.1 (Nat.le_of_eq g226.symm))) all0)
  have KK247 : Keep h0 h230 [] := KK246.trans K230 (allS (Or.inr (Nat.le_trans E224.1 (Nat.le_of_eq g226.symm))) all0)
  have KK248 : Keep h0 h231 [] := KK247.trans K231 (allS (Or.inr (Nat.le_trans E224.1 (Nat.le_of_eq g226.symm))) all0)
  have KK249 : Keep h0 h232 [] := KK248.trans K232 (allS (Or.inr (Nat.le_trans E224.1 (Nat.le_of_eq g226.symm))) all0)
  have KK250 : Keep h0 h233 [] := KK249.trans K233 (allS (Or.inr (Nat.le_trans E224.1 (Nat.le_of_eq g226.symm))) all0)
  have KK251 : Keep h0 h235 [] := KK250.trans K235 (allS (Or.inr (Nat.le_trans E224.1 (Nat.le_of_eq g226.symm))) all0)
  have KK252 : Keep h0 h241 [] := KK251.trans K241 (allS (Or.inr (Nat.le_of_eq g224.symm)) all0)
  exact k_areturn W d_method_4_113 rfl rfl rfl [] (fun x hx => nomatch hx) (Nat.le_of_ble_eq_true rfl) (Nat.le_of_ble_eq_true rfl) ⟨_, _, rfl, (Nat.le_of_eq g224.symm), KK252, S241⟩
set_option maxRecDepth 65536 in
set_option maxHeartbeats 40000000 in
theorem ct_pf2 (l : Launch) (Z : State) (a0 : Array Value) (hw : ∀ d ∈ tables_1, d.before a0 Z = true) (n0 : Nat) (h0 : Heap) (p0 : Int32) (zc : Int32) (P0 : Sta Z h0 "java/lang/String" "COMPACT_STRINGS" "Z" (.int zc)) (hzc : zc ≠ 0) : Ct l Z a0 own_EL false (⟨"com/example/epochmark/epochmark/cli/ArgumentsUsagePinLaw", "prefixed", "(II)Ljava/lang/String;"⟩ : MethodName) method_4_code 2 (Option.some (Jvm.ClassFile.FieldType.object "java/lang/String")) ({ frames := 4, cells := 3, slots := 22, locals := 66 } : Room) #[(.int (2 : Int32)), (.int p0)] h0 [] n0 (fun v h so => ∃ x b, v = some (.ref x) ∧ h0.size ≤ x ∧ Keep h0 h [] ∧ St Z h x b [(117 : Int32), (115 : Int32), (97 : Int32), (103 : Int32), (101 : Int32), (58 : Int32), (32 : Int32), (i2b ((XT.ushr p0 (0 : Int32)) &&& (255 : Int32))), (i2b ((XT.ushr p0 (8 : Int32)) &&& (255 : Int32)))]) := by
  refine Ct.body (plainFor_of_name pn6) ?_
  intro p e s m below meth c T W
  refine WP.cast (g' := (mkF m 0 #[.val (.int (2 : Int32)), .val (.int p0)] [])) (by simp [entryFrame, mkF, argsToLocals, cat_i, cat_l, cat_r, cat_n]) ?_
  refine k_iloadN W d_method_4_0 rfl ?_
  refine k_ifY W 52 d_method_4_1 (by decide) (show ¬ (2 : Int32) = 0 by decide) ?_
  refine k_iloadN W d_method_4_52 rfl ?_
  refine k_iconst W d_method_4_53 (z := (1 : Int32)) rfl ?_
  refine k_icY W 114 d_method_4_54 (by decide) (show ¬ (2 : Int32) = (1 : Int32) by decide) ?_
  refine k_iloadN W d_method_4_114 rfl ?_
  refine k_iconst W d_method_4_115 (z := (2 : Int32)) rfl ?_
  refine k_icN W d_method_4_116 (show ¬ (¬ (2 : Int32) = (2 : Int32)) by decide) ?_
  refine k_new W 1 4 d_method_4_119 (w4 hw) (w5 hw) (w6 hw) ⟨rfl, Nat.le_of_ble_eq_true rfl⟩ ⟨rfl, Nat.le_of_ble_eq_true rfl⟩ fun T h253 a254 g254 W E254 X254 D254 => ?_
  have K254 : Keep h0 h253 [] := keep_ext E254 []
  refine k_dup W d_method_4_122 rfl ?_
  refine k_bipush W d_method_4_123 (z := (9 : Int32)) rfl ?_
  refine k_newarr W 9 2 13 d_method_4_125 (w7 hw) (by decide) (by decide) ⟨rfl, Nat.le_of_ble_eq_true rfl⟩ ⟨rfl, Nat.le_of_ble_eq_true rfl⟩ fun T h255 a256 g256 W E256 A256 => ?_
  have K256 : Keep h253 h255 [] := keep_ext E256 []
  have A256 : Av Z h255 a256 .char [(.int (0 : Int32)), (.int (0 : Int32)), (.int (0 : Int32)), (.int (0 : Int32)), (.int (0 : Int32)), (.int (0 : Int32)), (.int (0 : Int32)), (.int (0 : Int32)), (.int (0 : Int32))] := A256
  refine k_dup W d_method_4_127 rfl ?_
  refine k_iconst W d_method_4_128 (z := (0 : Int32)) rfl ?_
  refine k_bipush W d_method_4_129 (z := (117 : Int32)) rfl ?_
  refine k_castore W (z := (117 : Int32)) 0 d_method_4_131 (List.mem_of_getElem? (i := 0) rfl) A256 (by decide) (Nat.le_of_ble_eq_true rfl) (by decide) (by decide) fun T h257 W Wr257 A257 => ?_
  have K257 : Keep h255 h257 [a256] := Keep.of_wr Wr257
  have A257 : Av Z h257 a256 .char [(.int (117 : Int32)), (.int (0 : Int32)), (.int (0 : Int32)), (.int (0 : Int32)), (.int (0 : Int32)), (.int (0 : Int32)), (.int (0 : Int32)), (.int (0 : Int32)), (.int (0 : Int32))] := A257
  refine k_dup W d_method_4_132 rfl ?_
  refine k_iconst W d_method_4_133 (z := (1 : Int32)) rfl ?_
  refine k_bipush W d_method_4_134 (z := (115 : Int32)) rfl ?_
  refine k_castore W (z := (115 : Int32)) 1 d_method_4_136 (List.mem_of_getElem? (i := 0) rfl) A257 (by decide) (Nat.le_of_ble_eq_true rfl) (by decide) (by decide) fun T h258 W Wr258 A258 => ?_
  have K258 : Keep h257 h258 [a256] := Keep.of_wr Wr258
  have A258 : Av Z h258 a256 .char [(.int (117 : Int32)), (.int (115 : Int32)), (.int (0 : Int32)), (.int (0 : Int32)), (.int (0 : Int32)), (.int (0 : Int32)), (.int (0 : Int32)), (.int (0 : Int32)), (.int (0 : Int32))] := A258
  refine k_dup W d_method_4_137 rfl ?_
  refine k_iconst W d_method_4_138 (z := (2 : Int32)) rfl ?_
  refine k_bipush W d_method_4_139 (z := (97 : Int32)) rfl ?_
  refine k_castore W (z := (97 : Int32)) 2 d_method_4_141 (List.mem_of_getElem? (i := 0) rfl) A258 (by decide) (Nat.le_of_ble_eq_true rfl) (by decide) (by decide) fun T h259 W Wr259 A259 => ?_
  have K259 : Keep h258 h259 [a256] := Keep.of_wr Wr259
  have A259 : Av Z h259 a256 .char [(.int (117 : Int32)), (.int (115 : Int32)), (.int (97 : Int32)), (.int (0 : Int32)), (.int (0 : Int32)), (.int (0 : Int32)), (.int (0 : Int32)), (.int (0 : Int32)), (.int (0 : Int32))] := A259
  refine k_dup W d_method_4_142 rfl ?_
  refine k_iconst W d_method_4_143 (z := (3 : Int32)) rfl ?_
  refine k_bipush W d_method_4_144 (z := (103 : Int32)) rfl ?_
  refine k_castore W (z := (103 : Int32)) 3 d_method_4_146 (List.mem_of_getElem? (i := 0) rfl) A259 (by decide) (Nat.le_of_ble_eq_true rfl) (by decide) (by decide) fun T h260 W Wr260 A260 => ?_
  have K260 : Keep h259 h260 [a256] := Keep.of_wr Wr260
  have A260 : Av Z h260 a256 .char [(.int (117 : Int32)), (.int (115 : Int32)), (.int (97 : Int32)), (.int (103 : Int32)), (.int (0 : Int32)), (.int (0 : Int32)), (.int (0 : Int32)), (.int (0 : Int32)), (.int (0 : Int32))] := A260
  refine k_dup W d_method_4_147 rfl ?_
  refine k_iconst W d_method_4_148 (z := (4 : Int32)) rfl ?_
  refine k_bipush W d_method_4_149 (z := (101 : Int32)) rfl ?_
  refine k_castore W (z := (101 : Int32)) 4 d_method_4_151 (List.mem_of_getElem? (i := 0) rfl) A260 (by decide) (Nat.le_of_ble_eq_true rfl) (by decide) (by decide) fun T h261 W Wr261 A261 => ?_
  have K261 : Keep h260 h261 [a256] := Keep.of_wr Wr261
  have A261 : Av Z h261 a256 .char [(.int (117 : Int32)), (.int (115 : Int32)), (.int (97 : Int32)), (.int (103 : Int32)), (.int (101 : Int32)), (.int (0 : Int32)), (.int (0 : Int32)), (.int (0 : Int32)), (.int (0 : Int32))] := A261
  refine k_dup W d_method_4_152 rfl ?_
  refine k_iconst W d_method_4_153 (z := (5 : Int32)) rfl ?_
  refine k_bipush W d_method_4_154 (z := (58 : Int32)) rfl ?_
  refine k_castore W (z := (58 : Int32)) 5 d_method_4_156 (List.mem_of_getElem? (i := 0) rfl) A261 (by decide) (Nat.le_of_ble_eq_true rfl) (by decide) (by decide) fun T h262 W Wr262 A262 => ?_
  have K262 : Keep h261 h262 [a256] := Keep.of_wr Wr262
  have A262 : Av Z h262 a256 .char [(.int (117 : Int32)), (.int (115 : Int32)), (.int (97 : Int32)), (.int (103 : Int32)), (.int (101 : Int32)), (.int (58 : Int32)), (.int (0 : Int32)), (.int (0 : Int32)), (.int (0 : Int32))] := A262
  refine k_dup W d_method_4_157 rfl ?_
  refine k_bipush W d_method_4_158 (z := (6 : Int32)) rfl ?_
  refine k_bipush W d_method_4_160 (z := (32 : Int32)) rfl ?_
  refine k_castore W (z := (32 : Int32)) 6 d_method_4_162 (List.mem_of_getElem? (i := 0) rfl) A262 (by decide) (Nat.le_of_ble_eq_true rfl) (by decide) (by decide) fun T h263 W Wr263 A263 => ?_
  have K263 : Keep h262 h263 [a256] := Keep.of_wr Wr263
  have A263 : Av Z h263 a256 .char [(.int (117 : Int32)), (.int (115 : Int32)), (.int (97 : Int32)), (.int (103 : Int32)), (.int (101 : Int32)), (.int (58 : Int32)), (.int (32 : Int32)), (.int (0 : Int32)), (.int (0 : Int32))] := A263
  refine k_dup W d_method_4_163 rfl ?_
  refine k_bipush W d_method_4_164 (z := (7 : Int32)) rfl ?_
  refine k_iloadN W d_method_4_166 rfl ?_
  refine k_iconst W d_method_4_167 (z := (0 : Int32)) rfl ?_
  refine k_callS W 5 2 13 (argsL := [(.int p0), (.int (0 : Int32))]) (rest := [(.int (7 : Int32)), (.ref a256), (.ref a256), (.ref a254), (.ref a254)]) d_method_4_168 (w8 hw) (w9 hw) (by decide) (lenOf pd20 rfl) (ct_ch0 l Z a0 hw n0 h263 p0) (w10 hw) (w2 hw) (fun x hx => nomatch hx) rfl (Nat.le_of_eq rfl) (Nat.le_of_ble_eq_true rfl) (Nat.le_of_ble_eq_true rfl) ⟨rfl, Nat.le_of_ble_eq_true rfl⟩ ⟨rfl, Nat.le_of_ble_eq_true rfl⟩ rfl (fun _ _ q => nomatch q.1) fun T h264 v so W hQ => ?_
  obtain ⟨hv, rfl, -⟩ := hQ
  obtain rfl := Option.some.inj hv
  refine k_castore W (z := ((XT.ushr p0 (0 : Int32)) &&& (255 : Int32))) 7 d_method_4_171 (List.mem_of_getElem? (i := 0) rfl) A263 (by decide) (Nat.le_of_ble_eq_true rfl) (Rg.nar (Rg.mono (Rg.and (n := 256) (XT.ushr p0 (0 : Int32)) (255 : Int32) (by decide)) (by decide))) (Rg.fits (Rg.mono (Rg.and (n := 256) (XT.ushr p0 (0 : Int32)) (255 : Int32) (by decide)) (by decide))) fun T h265 W Wr265 A265 => ?_
  have K265 : Keep h263 h265 [a256] := Keep.of_wr Wr265
  have A265 : Av Z h265 a256 .char [(.int (117 : Int32)), (.int (115 : Int32)), (.int (97 : Int32)), (.int (103 : Int32)), (.int (101 : Int32)), (.int (58 : Int32)), (.int (32 : Int32)), (.int ((XT.ushr p0 (0 : Int32)) &&& (255 : Int32))), (.int (0 : Int32))] := A265
  refine k_dup W d_method_4_172 rfl ?_
  refine k_bipush W d_method_4_173 (z := (8 : Int32)) rfl ?_
  refine k_iloadN W d_method_4_175 rfl ?_
  refine k_iconst W d_method_4_176 (z := (1 : Int32)) rfl ?_
  refine k_callS W 5 2 13 (argsL := [(.int p0), (.int (1 : Int32))]) (rest := [(.int (8 : Int32)), (.ref a256), (.ref a256), (.ref a254), (.ref a254)]) d_method_4_177 (w8 hw) (w9 hw) (by decide) (lenOf pd20 rfl) (ct_ch1 l Z a0 hw n0 h265 p0) (w10 hw) (w2 hw) (fun x hx => nomatch hx) rfl (Nat.le_of_eq rfl) (Nat.le_of_ble_eq_true rfl) (Nat.le_of_ble_eq_true rfl) ⟨rfl, Nat.le_of_ble_eq_true rfl⟩ ⟨rfl, Nat.le_of_ble_eq_true rfl⟩ rfl (fun _ _ q => nomatch q.1) fun T h266 v so W hQ => ?_
  obtain ⟨hv, rfl, -⟩ := hQ
  obtain rfl := Option.some.inj hv
  refine k_castore W (z := ((XT.ushr p0 (8 : Int32)) &&& (255 : Int32))) 8 d_method_4_180 (List.mem_of_getElem? (i := 0) rfl) A265 (by decide) (Nat.le_of_ble_eq_true rfl) (Rg.nar (Rg.mono (Rg.and (n := 256) (XT.ushr p0 (8 : Int32)) (255 : Int32) (by decide)) (by decide))) (Rg.fits (Rg.mono (Rg.and (n := 256) (XT.ushr p0 (8 : Int32)) (255 : Int32) (by decide)) (by decide))) fun T h267 W Wr267 A267 => ?_
  have K267 : Keep h265 h267 [a256] := Keep.of_wr Wr267
  have A267 : Av Z h267 a256 .char [(.int (117 : Int32)), (.int (115 : Int32)), (.int (97 : Int32)), (.int (103 : Int32)), (.int (101 : Int32)), (.int (58 : Int32)), (.int (32 : Int32)), (.int ((XT.ushr p0 (0 : Int32)) &&& (255 : Int32))), (.int ((XT.ushr p0 (8 : Int32)) &&& (255 : Int32)))] := A267
  have f268 := ((((((((((X254.keep K256).keep K257).keep K258).keep K259).keep K260).keep K261).keep K262).keep K263).keep K265).keep K267)
  have ne269 : a254 ≠ a256 := (Nat.ne_of_lt (Nat.lt_of_lt_of_le X254.lt (Nat.le_of_eq g256.symm)))
  have f270 := (((((((((((D254 (Or.inr (w36 hw)) (ty := (.array .byte)) (by decide)).keep K256 nin0).keep K257 (ninS ne269 nin0)).keep K258 (ninS ne269 nin0)).keep K259 (ninS ne269 nin0)).keep K260 (ninS ne269 nin0)).keep K261 (ninS ne269 nin0)).keep K262 (ninS ne269 nin0)).keep K263 (ninS ne269 nin0)).keep K265 (ninS ne269 nin0)).keep K267 (ninS ne269 nin0))
  have f271 := (((((((((((D254 (Or.inr (w34 hw)) (ty := .byte) (by decide)).keep K256 nin0).keep K257 (ninS ne269 nin0)).keep K258 (ninS ne269 nin0)).keep K259 (ninS ne269 nin0)).keep K260 (ninS ne269 nin0)).keep K261 (ninS ne269 nin0)).keep K262 (ninS ne269 nin0)).keep K263 (ninS ne269 nin0)).keep K265 (ninS ne269 nin0)).keep K267 (ninS ne269 nin0))
  have f272 := (Sta.keep (Sta.keep (Sta.keep (Sta.keep (Sta.keep (Sta.keep (Sta.keep (Sta.keep (Sta.keep (Sta.keep (Sta.keep P0 K254 ns0) K256 ns0) K257 (nsS (Av.plain A256) ns0)) K258 (nsS (Av.plain A257) ns0)) K259 (nsS (Av.plain A258) ns0)) K260 (nsS (Av.plain A259) ns0)) K261 (nsS (Av.plain A260) ns0)) K262 (nsS (Av.plain A261) ns0)) K263 (nsS (Av.plain A262) ns0)) K265 (nsS (Av.plain A263) ns0)) K267 (nsS (Av.plain A265) ns0))
  refine k_callI0 W 1 3 22 (argsL := [(.ref a256)]) (rest := [(.ref a254)]) (a := a254) d_method_4_181 rfl rfl (w11 hw) (w12 hw) (by decide) (lenOf pd19 rfl) (ct_sinit l Z a0 hw n0 h267 a254 a256 [(117 : Int32), (115 : Int32), (97 : Int32), (103 : Int32), (101 : Int32), (58 : Int32), (32 : Int32), ((XT.ushr p0 (0 : Int32)) &&& (255 : Int32)), ((XT.ushr p0 (8 : Int32)) &&& (255 : Int32))] 9 zc .null (.int (0 : Int32)) f268 f270 f271 A267 f272 hzc (rgS (by decide) (rgS (by decide) (rgS (by decide) (rgS (by decide) (rgS (by decide) (rgS (by decide) (rgS (by decide) (rgS (Rg.and (n := 256) (XT.ushr p0 (0 : Int32)) (255 : Int32) (by decide)) (rgS (Rg.and (n := 256) (XT.ushr p0 (8 : Int32)) (255 : Int32) (by decide)) (fun _ q => nomatch q)))))))))) (Nat.le_of_ble_eq_true rfl) (Nat.le_of_ble_eq_true rfl) (by decide)) (w13 hw) (w6 hw) (fun x hx => by simp only [List.mem_cons, List.not_mem_nil, or_false] at hx; rcases hx with rfl; all_goals first | exact (List.mem_of_getElem? (i := 1) rfl)) rfl (Nat.le_of_eq rfl) (Nat.le_of_ble_eq_true rfl) (Nat.le_of_ble_eq_true rfl) ⟨rfl, Nat.le_of_ble_eq_true rfl⟩ ⟨rfl, Nat.le_of_ble_eq_true rfl⟩ rfl (fun _ _ _ q => nomatch q.1) fun T h273 so W hQ => ?_
  obtain ⟨-, b273, g273, K273, S273⟩ := hQ
  have S273 : St Z h273 a254 b273 [(117 : Int32), (115 : Int32), (97 : Int32), (103 : Int32), (101 : Int32), (58 : Int32), (32 : Int32), (i2b ((XT.ushr p0 (0 : Int32)) &&& (255 : Int32))), (i2b ((XT.ushr p0 (8 : Int32)) &&& (255 : Int32)))] := S273
  have KK274 : Keep h0 h253 [] := (Keep.refl h0 []).trans K254 all0
  have KK275 : Keep h0 h255 [] := KK274.trans K256 all0
  have KK276 : Keep h0 h257 [] := KK275.trans K257 (allS (Or.inr (Nat.le_trans E254.1 (Nat.le_of_eq g256.symm))) all0)
  have KK277 : Keep h0 h258 [] := KK276.trans K258 (allS (Or.inr (Nat.le_trans E254.1 (Nat.le_of_eq g256.symm))) all0)
  have KK278 : Keep h0 h259 [] := KK277.trans K259 (allS (Or.inr (Nat.le_trans E254.1 (Nat.le_of_eq g256.symm))) all0)
  have KK279 : Keep h0 h260 [] := KK278.trans K260 (allS (Or.inr (Nat.le_trans E254.1 (Nat.le_of_eq g256.symm))) all0)
  have KK280 : Keep h0 h261 [] := KK279.trans K261 (allS (Or.inr (Nat.le_trans E254.1 (Nat.le_of_eq g256.symm))) all0)
  have KK281 : Keep h0 h262 [] := KK280.trans K262 (allS (Or.inr (Nat.le_trans E254.1 (Nat.le_of_eq g256.symm))) all0)
  have KK282 : Keep h0 h263 [] := KK281.trans K263 (allS (Or.inr (Nat.le_trans E254.1 (Nat.le_of_eq g256.symm))) all0)
  have KK283 : Keep h0 h265 [] := KK282.trans K265 (allS (Or.inr (Nat.le_trans E254.1 (Nat.le_of_eq g256.symm))) all0)
  have KK284 : Keep h0 h267 [] := KK283.trans K267 (allS (Or.inr (Nat.le_trans E254.1 (Nat.le_of_eq g256.symm))) all0)
  have KK285 : Keep h0 h273 [] := KK284.trans K273 (allS (Or.inr (Nat.le_of_eq g254.symm)) all0)
  exact k_areturn W d_method_4_184 rfl rfl rfl [] (fun x hx => nomatch hx) (Nat.le_of_ble_eq_true rfl) (Nat.le_of_ble_eq_true rfl) ⟨_, _, rfl, (Nat.le_of_eq g254.symm), KK285, S273⟩
set_option maxRecDepth 65536 in
set_option maxHeartbeats 40000000 in
theorem ct_pf3 (l : Launch) (Z : State) (a0 : Array Value) (hw : ∀ d ∈ tables_1, d.before a0 Z = true) (n0 : Nat) (h0 : Heap) (p0 : Int32) (zc : Int32) (P0 : Sta Z h0 "java/lang/String" "COMPACT_STRINGS" "Z" (.int zc)) (hzc : zc ≠ 0) : Ct l Z a0 own_EL false (⟨"com/example/epochmark/epochmark/cli/ArgumentsUsagePinLaw", "prefixed", "(II)Ljava/lang/String;"⟩ : MethodName) method_4_code 2 (Option.some (Jvm.ClassFile.FieldType.object "java/lang/String")) ({ frames := 4, cells := 3, slots := 24, locals := 66 } : Room) #[(.int (3 : Int32)), (.int p0)] h0 [] n0 (fun v h so => ∃ x b, v = some (.ref x) ∧ h0.size ≤ x ∧ Keep h0 h [] ∧ St Z h x b [(117 : Int32), (115 : Int32), (97 : Int32), (103 : Int32), (101 : Int32), (58 : Int32), (32 : Int32), (i2b ((XT.ushr p0 (0 : Int32)) &&& (255 : Int32))), (i2b ((XT.ushr p0 (8 : Int32)) &&& (255 : Int32))), (i2b ((XT.ushr p0 (16 : Int32)) &&& (255 : Int32)))]) := by
  refine Ct.body (plainFor_of_name pn6) ?_
  intro p e s m below meth c T W
  refine WP.cast (g' := (mkF m 0 #[.val (.int (3 : Int32)), .val (.int p0)] [])) (by simp [entryFrame, mkF, argsToLocals, cat_i, cat_l, cat_r, cat_n]) ?_
  refine k_iloadN W d_method_4_0 rfl ?_
  refine k_ifY W 52 d_method_4_1 (by decide) (show ¬ (3 : Int32) = 0 by decide) ?_
  refine k_iloadN W d_method_4_52 rfl ?_
  refine k_iconst W d_method_4_53 (z := (1 : Int32)) rfl ?_
  refine k_icY W 114 d_method_4_54 (by decide) (show ¬ (3 : Int32) = (1 : Int32) by decide) ?_
  refine k_iloadN W d_method_4_114 rfl ?_
  refine k_iconst W d_method_4_115 (z := (2 : Int32)) rfl ?_
  refine k_icY W 185 d_method_4_116 (by decide) (show ¬ (3 : Int32) = (2 : Int32) by decide) ?_
  refine k_new W 1 4 d_method_4_185 (w4 hw) (w5 hw) (w6 hw) ⟨rfl, Nat.le_of_ble_eq_true rfl⟩ ⟨rfl, Nat.le_of_ble_eq_true rfl⟩ fun T h286 a287 g287 W E287 X287 D287 => ?_
  have K287 : Keep h0 h286 [] := keep_ext E287 []
  refine k_dup W d_method_4_188 rfl ?_
  refine k_bipush W d_method_4_189 (z := (10 : Int32)) rfl ?_
  refine k_newarr W 10 2 14 d_method_4_191 (w7 hw) (by decide) (by decide) ⟨rfl, Nat.le_of_ble_eq_true rfl⟩ ⟨rfl, Nat.le_of_ble_eq_true rfl⟩ fun T h288 a289 g289 W E289 A289 => ?_
  have K289 : Keep h286 h288 [] := keep_ext E289 []
  have A289 : Av Z h288 a289 .char [(.int (0 : Int32)), (.int (0 : Int32)), (.int (0 : Int32)), (.int (0 : Int32)), (.int (0 : Int32)), (.int (0 : Int32)), (.int (0 : Int32)), (.int (0 : Int32)), (.int (0 : Int32)), (.int (0 : Int32))] := A289
  refine k_dup W d_method_4_193 rfl ?_
  refine k_iconst W d_method_4_194 (z := (0 : Int32)) rfl ?_
  refine k_bipush W d_method_4_195 (z := (117 : Int32)) rfl ?_
  refine k_castore W (z := (117 : Int32)) 0 d_method_4_197 (List.mem_of_getElem? (i := 0) rfl) A289 (by decide) (Nat.le_of_ble_eq_true rfl) (by decide) (by decide) fun T h290 W Wr290 A290 => ?_
  have K290 : Keep h288 h290 [a289] := Keep.of_wr Wr290
  have A290 : Av Z h290 a289 .char [(.int (117 : Int32)), (.int (0 : Int32)), (.int (0 : Int32)), (.int (0 : Int32)), (.int (0 : Int32)), (.int (0 : Int32)), (.int (0 : Int32)), (.int (0 : Int32)), (.int (0 : Int32)), (.int (0 : Int32))] := A290
  refine k_dup W d_method_4_198 rfl ?_
  refine k_iconst W d_method_4_199 (z := (1 : Int32)) rfl ?_
  refine k_bipush W d_method_4_200 (z := (115 : Int32)) rfl ?_
  refine k_castore W (z := (115 : Int32)) 1 d_method_4_202 (List.mem_of_getElem? (i := 0) rfl) A290 (by decide) (Nat.le_of_ble_eq_true rfl) (by decide) (by decide) fun T h291 W Wr291 A291 => ?_
  have K291 : Keep h290 h291 [a289] := Keep.of_wr Wr291
  have A291 : Av Z h291 a289 .char [(.int (117 : Int32)), (.int (115 : Int32)), (.int (0 : Int32)), (.int (0 : Int32)), (.int (0 : Int32)), (.int (0 : Int32)), (.int (0 : Int32)), (.int (0 : Int32)), (.int (0 : Int32)), (.int (0 : Int32))] := A291
  refine k_dup W d_method_4_203 rfl ?_
  refine k_iconst W d_method_4_204 (z := (2 : Int32)) rfl ?_
  refine k_bipush W d_method_4_205 (z := (97 : Int32)) rfl ?_
  refine k_castore W (z := (97 : Int32)) 2 d_method_4_207 (List.mem_of_getElem? (i := 0) rfl) A291 (by decide) (Nat.le_of_ble_eq_true rfl) (by decide) (by decide) fun T h292 W Wr292 A292 => ?_
  have K292 : Keep h291 h292 [a289] := Keep.of_wr Wr292
  have A292 : Av Z h292 a289 .char [(.int (117 : Int32)), (.int (115 : Int32)), (.int (97 : Int32)), (.int (0 : Int32)), (.int (0 : Int32)), (.int (0 : Int32)), (.int (0 : Int32)), (.int (0 : Int32)), (.int (0 : Int32)), (.int (0 : Int32))] := A292
  refine k_dup W d_method_4_208 rfl ?_
  refine k_iconst W d_method_4_209 (z := (3 : Int32)) rfl ?_
  refine k_bipush W d_method_4_210 (z := (103 : Int32)) rfl ?_
  refine k_castore W (z := (103 : Int32)) 3 d_method_4_212 (List.mem_of_getElem? (i := 0) rfl) A292 (by decide) (Nat.le_of_ble_eq_true rfl) (by decide) (by decide) fun T h293 W Wr293 A293 => ?_
  have K293 : Keep h292 h293 [a289] := Keep.of_wr Wr293
  have A293 : Av Z h293 a289 .char [(.int (117 : Int32)), (.int (115 : Int32)), (.int (97 : Int32)), (.int (103 : Int32)), (.int (0 : Int32)), (.int (0 : Int32)), (.int (0 : Int32)), (.int (0 : Int32)), (.int (0 : Int32)), (.int (0 : Int32))] := A293
  refine k_dup W d_method_4_213 rfl ?_
  refine k_iconst W d_method_4_214 (z := (4 : Int32)) rfl ?_
  refine k_bipush W d_method_4_215 (z := (101 : Int32)) rfl ?_
  refine k_castore W (z := (101 : Int32)) 4 d_method_4_217 (List.mem_of_getElem? (i := 0) rfl) A293 (by decide) (Nat.le_of_ble_eq_true rfl) (by decide) (by decide) fun T h294 W Wr294 A294 => ?_
  have K294 : Keep h293 h294 [a289] := Keep.of_wr Wr294
  have A294 : Av Z h294 a289 .char [(.int (117 : Int32)), (.int (115 : Int32)), (.int (97 : Int32)), (.int (103 : Int32)), (.int (101 : Int32)), (.int (0 : Int32)), (.int (0 : Int32)), (.int (0 : Int32)), (.int (0 : Int32)), (.int (0 : Int32))] := A294
  refine k_dup W d_method_4_218 rfl ?_
  refine k_iconst W d_method_4_219 (z := (5 : Int32)) rfl ?_
  refine k_bipush W d_method_4_220 (z := (58 : Int32)) rfl ?_
  refine k_castore W (z := (58 : Int32)) 5 d_method_4_222 (List.mem_of_getElem? (i := 0) rfl) A294 (by decide) (Nat.le_of_ble_eq_true rfl) (by decide) (by decide) fun T h295 W Wr295 A295 => ?_
  have K295 : Keep h294 h295 [a289] := Keep.of_wr Wr295
  have A295 : Av Z h295 a289 .char [(.int (117 : Int32)), (.int (115 : Int32)), (.int (97 : Int32)), (.int (103 : Int32)), (.int (101 : Int32)), (.int (58 : Int32)), (.int (0 : Int32)), (.int (0 : Int32)), (.int (0 : Int32)), (.int (0 : Int32))] := A295
  refine k_dup W d_method_4_223 rfl ?_
  refine k_bipush W d_method_4_224 (z := (6 : Int32)) rfl ?_
  refine k_bipush W d_method_4_226 (z := (32 : Int32)) rfl ?_
  refine k_castore W (z := (32 : Int32)) 6 d_method_4_228 (List.mem_of_getElem? (i := 0) rfl) A295 (by decide) (Nat.le_of_ble_eq_true rfl) (by decide) (by decide) fun T h296 W Wr296 A296 => ?_
  have K296 : Keep h295 h296 [a289] := Keep.of_wr Wr296
  have A296 : Av Z h296 a289 .char [(.int (117 : Int32)), (.int (115 : Int32)), (.int (97 : Int32)), (.int (103 : Int32)), (.int (101 : Int32)), (.int (58 : Int32)), (.int (32 : Int32)), (.int (0 : Int32)), (.int (0 : Int32)), (.int (0 : Int32))] := A296
  refine k_dup W d_method_4_229 rfl ?_
  refine k_bipush W d_method_4_230 (z := (7 : Int32)) rfl ?_
  refine k_iloadN W d_method_4_232 rfl ?_
  refine k_iconst W d_method_4_233 (z := (0 : Int32)) rfl ?_
  refine k_callS W 5 2 14 (argsL := [(.int p0), (.int (0 : Int32))]) (rest := [(.int (7 : Int32)), (.ref a289), (.ref a289), (.ref a287), (.ref a287)]) d_method_4_234 (w8 hw) (w9 hw) (by decide) (lenOf pd20 rfl) (ct_ch0 l Z a0 hw n0 h296 p0) (w10 hw) (w2 hw) (fun x hx => nomatch hx) rfl (Nat.le_of_eq rfl) (Nat.le_of_ble_eq_true rfl) (Nat.le_of_ble_eq_true rfl) ⟨rfl, Nat.le_of_ble_eq_true rfl⟩ ⟨rfl, Nat.le_of_ble_eq_true rfl⟩ rfl (fun _ _ q => nomatch q.1) fun T h297 v so W hQ => ?_
  obtain ⟨hv, rfl, -⟩ := hQ
  obtain rfl := Option.some.inj hv
  refine k_castore W (z := ((XT.ushr p0 (0 : Int32)) &&& (255 : Int32))) 7 d_method_4_237 (List.mem_of_getElem? (i := 0) rfl) A296 (by decide) (Nat.le_of_ble_eq_true rfl) (Rg.nar (Rg.mono (Rg.and (n := 256) (XT.ushr p0 (0 : Int32)) (255 : Int32) (by decide)) (by decide))) (Rg.fits (Rg.mono (Rg.and (n := 256) (XT.ushr p0 (0 : Int32)) (255 : Int32) (by decide)) (by decide))) fun T h298 W Wr298 A298 => ?_
  have K298 : Keep h296 h298 [a289] := Keep.of_wr Wr298
  have A298 : Av Z h298 a289 .char [(.int (117 : Int32)), (.int (115 : Int32)), (.int (97 : Int32)), (.int (103 : Int32)), (.int (101 : Int32)), (.int (58 : Int32)), (.int (32 : Int32)), (.int ((XT.ushr p0 (0 : Int32)) &&& (255 : Int32))), (.int (0 : Int32)), (.int (0 : Int32))] := A298
  refine k_dup W d_method_4_238 rfl ?_
  refine k_bipush W d_method_4_239 (z := (8 : Int32)) rfl ?_
  refine k_iloadN W d_method_4_241 rfl ?_
  refine k_iconst W d_method_4_242 (z := (1 : Int32)) rfl ?_
  refine k_callS W 5 2 14 (argsL := [(.int p0), (.int (1 : Int32))]) (rest := [(.int (8 : Int32)), (.ref a289), (.ref a289), (.ref a287), (.ref a287)]) d_method_4_243 (w8 hw) (w9 hw) (by decide) (lenOf pd20 rfl) (ct_ch1 l Z a0 hw n0 h298 p0) (w10 hw) (w2 hw) (fun x hx => nomatch hx) rfl (Nat.le_of_eq rfl) (Nat.le_of_ble_eq_true rfl) (Nat.le_of_ble_eq_true rfl) ⟨rfl, Nat.le_of_ble_eq_true rfl⟩ ⟨rfl, Nat.le_of_ble_eq_true rfl⟩ rfl (fun _ _ q => nomatch q.1) fun T h299 v so W hQ => ?_
  obtain ⟨hv, rfl, -⟩ := hQ
  obtain rfl := Option.some.inj hv
  refine k_castore W (z := ((XT.ushr p0 (8 : Int32)) &&& (255 : Int32))) 8 d_method_4_246 (List.mem_of_getElem? (i := 0) rfl) A298 (by decide) (Nat.le_of_ble_eq_true rfl) (Rg.nar (Rg.mono (Rg.and (n := 256) (XT.ushr p0 (8 : Int32)) (255 : Int32) (by decide)) (by decide))) (Rg.fits (Rg.mono (Rg.and (n := 256) (XT.ushr p0 (8 : Int32)) (255 : Int32) (by decide)) (by decide))) fun T h300 W Wr300 A300 => ?_
  have K300 : Keep h298 h300 [a289] := Keep.of_wr Wr300
  have A300 : Av Z h300 a289 .char [(.int (117 : Int32)), (.int (115 : Int32)), (.int (97 : Int32)), (.int (103 : Int32)), (.int (101 : Int32)), (.int (58 : Int32)), (.int (32 : Int32)), (.int ((XT.ushr p0 (0 : Int32)) &&& (255 : Int32))), (.int ((XT.ushr p0 (8 : Int32)) &&& (255 : Int32))), (.int (0 : Int32))] := A300
  refine k_dup W d_method_4_247 rfl ?_
  refine k_bipush W d_method_4_248 (z := (9 : Int32)) rfl ?_
  refine k_iloadN W d_method_4_250 rfl ?_
  refine k_iconst W d_method_4_251 (z := (2 : Int32)) rfl ?_
  refine k_callS W 5 2 14 (argsL := [(.int p0), (.int (2 : Int32))]) (rest := [(.int (9 : Int32)), (.ref a289), (.ref a289), (.ref a287), (.ref a287)]) d_method_4_252 (w8 hw) (w9 hw) (by decide) (lenOf pd20 rfl) (ct_ch2 l Z a0 hw n0 h300 p0) (w10 hw) (w2 hw) (fun x hx => nomatch hx) rfl (Nat.le_of_eq rfl) (Nat.le_of_ble_eq_true rfl) (Nat.le_of_ble_eq_true rfl) ⟨rfl, Nat.le_of_ble_eq_true rfl⟩ ⟨rfl, Nat.le_of_ble_eq_true rfl⟩ rfl (fun _ _ q => nomatch q.1) fun T h301 v so W hQ => ?_
  obtain ⟨hv, rfl, -⟩ := hQ
  obtain rfl := Option.some.inj hv
  refine k_castore W (z := ((XT.ushr p0 (16 : Int32)) &&& (255 : Int32))) 9 d_method_4_255 (List.mem_of_getElem? (i := 0) rfl) A300 (by decide) (Nat.le_of_ble_eq_true rfl) (Rg.nar (Rg.mono (Rg.and (n := 256) (XT.ushr p0 (16 : Int32)) (255 : Int32) (by decide)) (by decide))) (Rg.fits (Rg.mono (Rg.and (n := 256) (XT.ushr p0 (16 : Int32)) (255 : Int32) (by decide)) (by decide))) fun T h302 W Wr302 A302 => ?_
  have K302 : Keep h300 h302 [a289] := Keep.of_wr Wr302
  have A302 : Av Z h302 a289 .char [(.int (117 : Int32)), (.int (115 : Int32)), (.int (97 : Int32)), (.int (103 : Int32)), (.int (101 : Int32)), (.int (58 : Int32)), (.int (32 : Int32)), (.int ((XT.ushr p0 (0 : Int32)) &&& (255 : Int32))), (.int ((XT.ushr p0 (8 : Int32)) &&& (255 : Int32))), (.int ((XT.ushr p0 (16 : Int32)) &&& (255 : Int32)))] := A302
  have f303 := (((((((((((X287.keep K289).keep K290).keep K291).keep K292).keep K293).keep K294).keep K295).keep K296).keep K298).keep K300).keep K302)
  have ne304 : a287 ≠ a289 := (Nat.ne_of_lt (Nat.lt_of_lt_of_le X287.lt (Nat.le_of_eq g289.symm)))
  have f305 := ((((((((((((D287 (Or.inr (w36 hw)) (ty := (.array .byte)) (by decide)).keep K289 nin0).keep K290 (ninS ne304 nin0)).keep K291 (ninS ne304 nin0)).keep K292 (ninS ne304 nin0)).keep K293 (ninS ne304 nin0)).keep K294 (ninS ne304 nin0)).keep K295 (ninS ne304 nin0)).keep K296 (ninS ne304 nin0)).keep K298 (ninS ne304 nin0)).keep K300 (ninS ne304 nin0)).keep K302 (ninS ne304 nin0))
  have f306 := ((((((((((((D287 (Or.inr (w34 hw)) (ty := .byte) (by decide)).keep K289 nin0).keep K290 (ninS ne304 nin0)).keep K291 (ninS ne304 nin0)).keep K292 (ninS ne304 nin0)).keep K293 (ninS ne304 nin0)).keep K294 (ninS ne304 nin0)).keep K295 (ninS ne304 nin0)).keep K296 (ninS ne304 nin0)).keep K298 (ninS ne304 nin0)).keep K300 (ninS ne304 nin0)).keep K302 (ninS ne304 nin0))
  have f307 := (Sta.keep (Sta.keep (Sta.keep (Sta.keep (Sta.keep (Sta.keep (Sta.keep (Sta.keep (Sta.keep (Sta.keep (Sta.keep (Sta.keep P0 K287 ns0) K289 ns0) K290 (nsS (Av.plain A289) ns0)) K291 (nsS (Av.plain A290) ns0)) K292 (nsS (Av.plain A291) ns0)) K293 (nsS (Av.plain A292) ns0)) K294 (nsS (Av.plain A293) ns0)) K295 (nsS (Av.plain A294) ns0)) K296 (nsS (Av.plain A295) ns0)) K298 (nsS (Av.plain A296) ns0)) K300 (nsS (Av.plain A298) ns0)) K302 (nsS (Av.plain A300) ns0))
  refine k_callI0 W 1 3 24 (argsL := [(.ref a289)]) (rest := [(.ref a287)]) (a := a287) d_method_4_256 rfl rfl (w11 hw) (w12 hw) (by decide) (lenOf pd19 rfl) (ct_sinit l Z a0 hw n0 h302 a287 a289 [(117 : Int32), (115 : Int32), (97 : Int32), (103 : Int32), (101 : Int32), (58 : Int32), (32 : Int32), ((XT.ushr p0 (0 : Int32)) &&& (255 : Int32)), ((XT.ushr p0 (8 : Int32)) &&& (255 : Int32)), ((XT.ushr p0 (16 : Int32)) &&& (255 : Int32))] 10 zc .null (.int (0 : Int32)) f303 f305 f306 A302 f307 hzc (rgS (by decide) (rgS (by decide) (rgS (by decide) (rgS (by decide) (rgS (by decide) (rgS (by decide) (rgS (by decide) (rgS (Rg.and (n := 256) (XT.ushr p0 (0 : Int32)) (255 : Int32) (by decide)) (rgS (Rg.and (n := 256) (XT.ushr p0 (8 : Int32)) (255 : Int32) (by decide)) (rgS (Rg.and (n := 256) (XT.ushr p0 (16 : Int32)) (255 : Int32) (by decide)) (fun _ q => nomatch q))))))))))) (Nat.le_of_ble_eq_true rfl) (Nat.le_of_ble_eq_true rfl) (by decide)) (w13 hw) (w6 hw) (fun x hx => by simp only [List.mem_cons, List.not_mem_nil, or_false] at hx; rcases hx with rfl; all_goals first | exact (List.mem_of_getElem? (i := 1) rfl)) rfl (Nat.le_of_eq rfl) (Nat.le_of_ble_eq_true rfl) (Nat.le_of_ble_eq_true rfl) ⟨rfl, Nat.le_of_ble_eq_true rfl⟩ ⟨rfl, Nat.le_of_ble_eq_true rfl⟩ rfl (fun _ _ _ q => nomatch q.1) fun T h308 so W hQ => ?_
  obtain ⟨-, b308, g308, K308, S308⟩ := hQ
  have S308 : St Z h308 a287 b308 [(117 : Int32), (115 : Int32), (97 : Int32), (103 : Int32), (101 : Int32), (58 : Int32), (32 : Int32), (i2b ((XT.ushr p0 (0 : Int32)) &&& (255 : Int32))), (i2b ((XT.ushr p0 (8 : Int32)) &&& (255 : Int32))), (i2b ((XT.ushr p0 (16 : Int32)) &&& (255 : Int32)))] := S308
  have KK309 : Keep h0 h286 [] := (Keep.refl h0 []).trans K287 all0
  have KK310 : Keep h0 h288 [] := KK309.trans K289 all0
  have KK311 : Keep h0 h290 [] := KK310.trans K290 (allS (Or.inr (Nat.le_trans E287.1 (Nat.le_of_eq g289.symm))) all0)
  have KK312 : Keep h0 h291 [] := KK311.trans K291 (allS (Or.inr (Nat.le_trans E287.1 (Nat.le_of_eq g289.symm))) all0)
  have KK313 : Keep h0 h292 [] := KK312.trans K292 (allS (Or.inr (Nat.le_trans E287.1 (Nat.le_of_eq g289.symm))) all0)
  have KK314 : Keep h0 h293 [] := KK313.trans K293 (allS (Or.inr (Nat.le_trans E287.1 (Nat.le_of_eq g289.symm))) all0)
  have KK315 : Keep h0 h294 [] := KK314.trans K294 (allS (Or.inr (Nat.le_trans E287.1 (Nat.le_of_eq g289.symm))) all0)
  have KK316 : Keep h0 h295 [] := KK315.trans K295 (allS (Or.inr (Nat.le_trans E287.1 (Nat.le_of_eq g289.symm))) all0)
  have KK317 : Keep h0 h296 [] := KK316.trans K296 (allS (Or.inr (Nat.le_trans E287.1 (Nat.le_of_eq g289.symm))) all0)
  have KK318 : Keep h0 h298 [] := KK317.trans K298 (allS (Or.inr (Nat.le_trans E287.1 (Nat.le_of_eq g289.symm))) all0)
  have KK319 : Keep h0 h300 [] := KK318.trans K300 (allS (Or.inr (Nat.le_trans E287.1 (Nat.le_of_eq g289.symm))) all0)
  have KK320 : Keep h0 h302 [] := KK319.trans K302 (allS (Or.inr (Nat.le_trans E287.1 (Nat.le_of_eq g289.symm))) all0)
  have KK321 : Keep h0 h308 [] := KK320.trans K308 (allS (Or.inr (Nat.le_of_eq g287.symm)) all0)
  exact k_areturn W d_method_4_259 rfl rfl rfl [] (fun x hx => nomatch hx) (Nat.le_of_ble_eq_true rfl) (Nat.le_of_ble_eq_true rfl) ⟨_, _, rfl, (Nat.le_of_eq g287.symm), KK321, S308⟩
set_option maxRecDepth 65536 in
set_option maxHeartbeats 40000000 in
theorem ct_txA (l : Launch) (Z : State) (a0 : Array Value) (hw : ∀ d ∈ tables_1, d.before a0 Z = true) (n0 : Nat) (h0 : Heap) (q0 p0 : Int32) (zc : Int32) (P0 : Sta Z h0 "java/lang/String" "COMPACT_STRINGS" "Z" (.int zc)) (hzc : zc ≠ 0) : Ct l Z a0 own_EL false (⟨"com/example/epochmark/epochmark/cli/ArgumentsUsagePinLaw", "text", "(II)Ljava/lang/String;"⟩ : MethodName) method_3_code 2 (Option.some (Jvm.ClassFile.FieldType.object "java/lang/String")) ({ frames := 4, cells := 6, slots := 12, locals := 66 } : Room) #[(.int q0), (.int p0)] h0 [] n0 (fun v h so => ∃ x b bs, v = some (.ref x) ∧ h0.size ≤ x ∧ Keep h0 h [] ∧ St Z h x b bs) := by
  refine Ct.body (plainFor_of_name pn6) ?_
  intro p e s m below meth c T W
  refine WP.cast (g' := (mkF m 0 #[.val (.int q0), .val (.int p0)] [])) (by simp [entryFrame, mkF, argsToLocals, cat_i, cat_l, cat_r, cat_n]) ?_
  refine k_iloadN W d_method_3_0 rfl ?_
  refine k_if W 15 d_method_3_1 (by decide) (fun (hc322 : ¬ q0 = 0) => ?_) (fun (hc322 : ¬ (¬ q0 = 0)) => ?_)
  · -- pc 15
    refine k_iloadN W d_method_3_15 rfl ?_
    refine k_iconst W d_method_3_16 (z := (1 : Int32)) rfl ?_
    refine k_ic W 39 d_method_3_17 (by decide) (fun (hc323 : ¬ q0 = (1 : Int32)) => ?_) (fun (hc323 : ¬ (¬ q0 = (1 : Int32))) => ?_)
    · -- pc 39
      refine k_iloadN W d_method_3_39 rfl ?_
      refine k_iconst W d_method_3_40 (z := (2 : Int32)) rfl ?_
      refine k_ic W 71 d_method_3_41 (by decide) (fun (hc324 : ¬ q0 = (2 : Int32)) => ?_) (fun (hc324 : ¬ (¬ q0 = (2 : Int32))) => ?_)
      · -- pc 71
        refine k_new W 1 4 d_method_3_71 (w4 hw) (w5 hw) (w6 hw) ⟨rfl, Nat.le_of_ble_eq_true rfl⟩ ⟨rfl, Nat.le_of_ble_eq_true rfl⟩ fun T h325 a326 g326 W E326 X326 D326 => ?_
        have K326 : Keep h0 h325 [] := keep_ext E326 []
        refine k_dup W d_method_3_74 rfl ?_
        refine k_iconst W d_method_3_75 (z := (3 : Int32)) rfl ?_
        refine k_newarr W 3 2 7 d_method_3_76 (w7 hw) (by decide) (by decide) ⟨rfl, Nat.le_of_ble_eq_true rfl⟩ ⟨rfl, Nat.le_of_ble_eq_true rfl⟩ fun T h327 a328 g328 W E328 A328 => ?_
        have K328 : Keep h325 h327 [] := keep_ext E328 []
        have A328 : Av Z h327 a328 .char [(.int (0 : Int32)), (.int (0 : Int32)), (.int (0 : Int32))] := A328
        refine k_dup W d_method_3_78 rfl ?_
        refine k_iconst W d_method_3_79 (z := (0 : Int32)) rfl ?_
        refine k_iloadN W d_method_3_80 rfl ?_
        refine k_iconst W d_method_3_81 (z := (0 : Int32)) rfl ?_
        refine k_callS W 5 2 7 (argsL := [(.int p0), (.int (0 : Int32))]) (rest := [(.int (0 : Int32)), (.ref a328), (.ref a328), (.ref a326), (.ref a326)]) d_method_3_82 (w8 hw) (w9 hw) (by decide) (lenOf pd20 rfl) (ct_ch0 l Z a0 hw n0 h327 p0) (w10 hw) (w2 hw) (fun x hx => nomatch hx) rfl (Nat.le_of_eq rfl) (Nat.le_of_ble_eq_true rfl) (Nat.le_of_ble_eq_true rfl) ⟨rfl, Nat.le_of_ble_eq_true rfl⟩ ⟨rfl, Nat.le_of_ble_eq_true rfl⟩ rfl (fun _ _ q => nomatch q.1) fun T h329 v so W hQ => ?_
        obtain ⟨hv, rfl, -⟩ := hQ
        obtain rfl := Option.some.inj hv
        refine k_castore W (z := ((XT.ushr p0 (0 : Int32)) &&& (255 : Int32))) 0 d_method_3_85 (List.mem_of_getElem? (i := 0) rfl) A328 (by decide) (Nat.le_of_ble_eq_true rfl) (Rg.nar (Rg.mono (Rg.and (n := 256) (XT.ushr p0 (0 : Int32)) (255 : Int32) (by decide)) (by decide))) (Rg.fits (Rg.mono (Rg.and (n := 256) (XT.ushr p0 (0 : Int32)) (255 : Int32) (by decide)) (by decide))) fun T h330 W Wr330 A330 => ?_
        have K330 : Keep h327 h330 [a328] := Keep.of_wr Wr330
        have A330 : Av Z h330 a328 .char [(.int ((XT.ushr p0 (0 : Int32)) &&& (255 : Int32))), (.int (0 : Int32)), (.int (0 : Int32))] := A330
        refine k_dup W d_method_3_86 rfl ?_
        refine k_iconst W d_method_3_87 (z := (1 : Int32)) rfl ?_
        refine k_iloadN W d_method_3_88 rfl ?_
        refine k_iconst W d_method_3_89 (z := (1 : Int32)) rfl ?_
        refine k_callS W 5 2 7 (argsL := [(.int p0), (.int (1 : Int32))]) (rest := [(.int (1 : Int32)), (.ref a328), (.ref a328), (.ref a326), (.ref a326)]) d_method_3_90 (w8 hw) (w9 hw) (by decide) (lenOf pd20 rfl) (ct_ch1 l Z a0 hw n0 h330 p0) (w10 hw) (w2 hw) (fun x hx => nomatch hx) rfl (Nat.le_of_eq rfl) (Nat.le_of_ble_eq_true rfl) (Nat.le_of_ble_eq_true rfl) ⟨rfl, Nat.le_of_ble_eq_true rfl⟩ ⟨rfl, Nat.le_of_ble_eq_true rfl⟩ rfl (fun _ _ q => nomatch q.1) fun T h331 v so W hQ => ?_
        obtain ⟨hv, rfl, -⟩ := hQ
        obtain rfl := Option.some.inj hv
        refine k_castore W (z := ((XT.ushr p0 (8 : Int32)) &&& (255 : Int32))) 1 d_method_3_93 (List.mem_of_getElem? (i := 0) rfl) A330 (by decide) (Nat.le_of_ble_eq_true rfl) (Rg.nar (Rg.mono (Rg.and (n := 256) (XT.ushr p0 (8 : Int32)) (255 : Int32) (by decide)) (by decide))) (Rg.fits (Rg.mono (Rg.and (n := 256) (XT.ushr p0 (8 : Int32)) (255 : Int32) (by decide)) (by decide))) fun T h332 W Wr332 A332 => ?_
        have K332 : Keep h330 h332 [a328] := Keep.of_wr Wr332
        have A332 : Av Z h332 a328 .char [(.int ((XT.ushr p0 (0 : Int32)) &&& (255 : Int32))), (.int ((XT.ushr p0 (8 : Int32)) &&& (255 : Int32))), (.int (0 : Int32))] := A332
        refine k_dup W d_method_3_94 rfl ?_
        refine k_iconst W d_method_3_95 (z := (2 : Int32)) rfl ?_
        refine k_iloadN W d_method_3_96 rfl ?_
        refine k_iconst W d_method_3_97 (z := (2 : Int32)) rfl ?_
        refine k_callS W 5 2 7 (argsL := [(.int p0), (.int (2 : Int32))]) (rest := [(.int (2 : Int32)), (.ref a328), (.ref a328), (.ref a326), (.ref a326)]) d_method_3_98 (w8 hw) (w9 hw) (by decide) (lenOf pd20 rfl) (ct_ch2 l Z a0 hw n0 h332 p0) (w10 hw) (w2 hw) (fun x hx => nomatch hx) rfl (Nat.le_of_eq rfl) (Nat.le_of_ble_eq_true rfl) (Nat.le_of_ble_eq_true rfl) ⟨rfl, Nat.le_of_ble_eq_true rfl⟩ ⟨rfl, Nat.le_of_ble_eq_true rfl⟩ rfl (fun _ _ q => nomatch q.1) fun T h333 v so W hQ => ?_
        obtain ⟨hv, rfl, -⟩ := hQ
        obtain rfl := Option.some.inj hv
        refine k_castore W (z := ((XT.ushr p0 (16 : Int32)) &&& (255 : Int32))) 2 d_method_3_101 (List.mem_of_getElem? (i := 0) rfl) A332 (by decide) (Nat.le_of_ble_eq_true rfl) (Rg.nar (Rg.mono (Rg.and (n := 256) (XT.ushr p0 (16 : Int32)) (255 : Int32) (by decide)) (by decide))) (Rg.fits (Rg.mono (Rg.and (n := 256) (XT.ushr p0 (16 : Int32)) (255 : Int32) (by decide)) (by decide))) fun T h334 W Wr334 A334 => ?_
        have K334 : Keep h332 h334 [a328] := Keep.of_wr Wr334
        have A334 : Av Z h334 a328 .char [(.int ((XT.ushr p0 (0 : Int32)) &&& (255 : Int32))), (.int ((XT.ushr p0 (8 : Int32)) &&& (255 : Int32))), (.int ((XT.ushr p0 (16 : Int32)) &&& (255 : Int32)))] := A334
        have f335 := ((((X326.keep K328).keep K330).keep K332).keep K334)
        have ne336 : a326 ≠ a328 := (Nat.ne_of_lt (Nat.lt_of_lt_of_le X326.lt (Nat.le_of_eq g328.symm)))
        have f337 := (((((D326 (Or.inr (w36 hw)) (ty := (.array .byte)) (by decide)).keep K328 nin0).keep K330 (ninS ne336 nin0)).keep K332 (ninS ne336 nin0)).keep K334 (ninS ne336 nin0))
        have f338 := (((((D326 (Or.inr (w34 hw)) (ty := .byte) (by decide)).keep K328 nin0).keep K330 (ninS ne336 nin0)).keep K332 (ninS ne336 nin0)).keep K334 (ninS ne336 nin0))
        have f339 := (Sta.keep (Sta.keep (Sta.keep (Sta.keep (Sta.keep P0 K326 ns0) K328 ns0) K330 (nsS (Av.plain A328) ns0)) K332 (nsS (Av.plain A330) ns0)) K334 (nsS (Av.plain A332) ns0))
        refine k_callI0 W 1 3 10 (argsL := [(.ref a328)]) (rest := [(.ref a326)]) (a := a326) d_method_3_102 rfl rfl (w11 hw) (w12 hw) (by decide) (lenOf pd19 rfl) (ct_sinit l Z a0 hw n0 h334 a326 a328 [((XT.ushr p0 (0 : Int32)) &&& (255 : Int32)), ((XT.ushr p0 (8 : Int32)) &&& (255 : Int32)), ((XT.ushr p0 (16 : Int32)) &&& (255 : Int32))] 3 zc .null (.int (0 : Int32)) f335 f337 f338 A334 f339 hzc (rgS (Rg.and (n := 256) (XT.ushr p0 (0 : Int32)) (255 : Int32) (by decide)) (rgS (Rg.and (n := 256) (XT.ushr p0 (8 : Int32)) (255 : Int32) (by decide)) (rgS (Rg.and (n := 256) (XT.ushr p0 (16 : Int32)) (255 : Int32) (by decide)) (fun _ q => nomatch q)))) (Nat.le_of_ble_eq_true rfl) (Nat.le_of_ble_eq_true rfl) (by decide)) (w13 hw) (w6 hw) (fun x hx => by simp only [List.mem_cons, List.not_mem_nil, or_false] at hx; rcases hx with rfl; all_goals first | exact (List.mem_of_getElem? (i := 1) rfl)) rfl (Nat.le_of_eq rfl) (Nat.le_of_ble_eq_true rfl) (Nat.le_of_ble_eq_true rfl) ⟨rfl, Nat.le_of_ble_eq_true rfl⟩ ⟨rfl, Nat.le_of_ble_eq_true rfl⟩ rfl (fun _ _ _ q => nomatch q.1) fun T h340 so W hQ => ?_
        obtain ⟨-, b340, g340, K340, S340⟩ := hQ
        have S340 : St Z h340 a326 b340 [(i2b ((XT.ushr p0 (0 : Int32)) &&& (255 : Int32))), (i2b ((XT.ushr p0 (8 : Int32)) &&& (255 : Int32))), (i2b ((XT.ushr p0 (16 : Int32)) &&& (255 : Int32)))] := S340
        have KK341 : Keep h0 h325 [] := (Keep.refl h0 []).trans K326 all0
        have KK342 : Keep h0 h327 [] := KK341.trans K328 all0
        have KK343 : Keep h0 h330 [] := KK342.trans K330 (allS (Or.inr (Nat.le_trans E326.1 (Nat.le_of_eq g328.symm))) all0)
        have KK344 : Keep h0 h332 [] := KK343.trans K332 (allS (Or.inr (Nat.le_trans E326.1 (Nat.le_of_eq g328.symm))) all0)
        have KK345 : Keep h0 h334 [] := KK344.trans K334 (allS (Or.inr (Nat.le_trans E326.1 (Nat.le_of_eq g328.symm))) all0)
        have KK346 : Keep h0 h340 [] := KK345.trans K340 (allS (Or.inr (Nat.le_of_eq g326.symm)) all0)
        exact k_areturn W d_method_3_105 rfl rfl rfl [] (fun x hx => nomatch hx) (Nat.le_of_ble_eq_true rfl) (Nat.le_of_ble_eq_true rfl) ⟨_, _, _, rfl, (Nat.le_of_eq g326.symm), KK346, S340⟩
      · -- pc 44
        refine k_new W 1 4 d_method_3_44 (w4 hw) (w5 hw) (w6 hw) ⟨rfl, Nat.le_of_ble_eq_true rfl⟩ ⟨rfl, Nat.le_of_ble_eq_true rfl⟩ fun T h347 a348 g348 W E348 X348 D348 => ?_
        have K348 : Keep h0 h347 [] := keep_ext E348 []
        refine k_dup W d_method_3_47 rfl ?_
        refine k_iconst W d_method_3_48 (z := (2 : Int32)) rfl ?_
        refine k_newarr W 2 2 6 d_method_3_49 (w7 hw) (by decide) (by decide) ⟨rfl, Nat.le_of_ble_eq_true rfl⟩ ⟨rfl, Nat.le_of_ble_eq_true rfl⟩ fun T h349 a350 g350 W E350 A350 => ?_
        have K350 : Keep h347 h349 [] := keep_ext E350 []
        have A350 : Av Z h349 a350 .char [(.int (0 : Int32)), (.int (0 : Int32))] := A350
        refine k_dup W d_method_3_51 rfl ?_
        refine k_iconst W d_method_3_52 (z := (0 : Int32)) rfl ?_
        refine k_iloadN W d_method_3_53 rfl ?_
        refine k_iconst W d_method_3_54 (z := (0 : Int32)) rfl ?_
        refine k_callS W 5 2 6 (argsL := [(.int p0), (.int (0 : Int32))]) (rest := [(.int (0 : Int32)), (.ref a350), (.ref a350), (.ref a348), (.ref a348)]) d_method_3_55 (w8 hw) (w9 hw) (by decide) (lenOf pd20 rfl) (ct_ch0 l Z a0 hw n0 h349 p0) (w10 hw) (w2 hw) (fun x hx => nomatch hx) rfl (Nat.le_of_eq rfl) (Nat.le_of_ble_eq_true rfl) (Nat.le_of_ble_eq_true rfl) ⟨rfl, Nat.le_of_ble_eq_true rfl⟩ ⟨rfl, Nat.le_of_ble_eq_true rfl⟩ rfl (fun _ _ q => nomatch q.1) fun T h351 v so W hQ => ?_
        obtain ⟨hv, rfl, -⟩ := hQ
        obtain rfl := Option.some.inj hv
        refine k_castore W (z := ((XT.ushr p0 (0 : Int32)) &&& (255 : Int32))) 0 d_method_3_58 (List.mem_of_getElem? (i := 0) rfl) A350 (by decide) (Nat.le_of_ble_eq_true rfl) (Rg.nar (Rg.mono (Rg.and (n := 256) (XT.ushr p0 (0 : Int32)) (255 : Int32) (by decide)) (by decide))) (Rg.fits (Rg.mono (Rg.and (n := 256) (XT.ushr p0 (0 : Int32)) (255 : Int32) (by decide)) (by decide))) fun T h352 W Wr352 A352 => ?_
        have K352 : Keep h349 h352 [a350] := Keep.of_wr Wr352
        have A352 : Av Z h352 a350 .char [(.int ((XT.ushr p0 (0 : Int32)) &&& (255 : Int32))), (.int (0 : Int32))] := A352
        refine k_dup W d_method_3_59 rfl ?_
        refine k_iconst W d_method_3_60 (z := (1 : Int32)) rfl ?_
        refine k_iloadN W d_method_3_61 rfl ?_
        refine k_iconst W d_method_3_62 (z := (1 : Int32)) rfl ?_
        refine k_callS W 5 2 6 (argsL := [(.int p0), (.int (1 : Int32))]) (rest := [(.int (1 : Int32)), (.ref a350), (.ref a350), (.ref a348), (.ref a348)]) d_method_3_63 (w8 hw) (w9 hw) (by decide) (lenOf pd20 rfl) (ct_ch1 l Z a0 hw n0 h352 p0) (w10 hw) (w2 hw) (fun x hx => nomatch hx) rfl (Nat.le_of_eq rfl) (Nat.le_of_ble_eq_true rfl) (Nat.le_of_ble_eq_true rfl) ⟨rfl, Nat.le_of_ble_eq_true rfl⟩ ⟨rfl, Nat.le_of_ble_eq_true rfl⟩ rfl (fun _ _ q => nomatch q.1) fun T h353 v so W hQ => ?_
        obtain ⟨hv, rfl, -⟩ := hQ
        obtain rfl := Option.some.inj hv
        refine k_castore W (z := ((XT.ushr p0 (8 : Int32)) &&& (255 : Int32))) 1 d_method_3_66 (List.mem_of_getElem? (i := 0) rfl) A352 (by decide) (Nat.le_of_ble_eq_true rfl) (Rg.nar (Rg.mono (Rg.and (n := 256) (XT.ushr p0 (8 : Int32)) (255 : Int32) (by decide)) (by decide))) (Rg.fits (Rg.mono (Rg.and (n := 256) (XT.ushr p0 (8 : Int32)) (255 : Int32) (by decide)) (by decide))) fun T h354 W Wr354 A354 => ?_
        have K354 : Keep h352 h354 [a350] := Keep.of_wr Wr354
        have A354 : Av Z h354 a350 .char [(.int ((XT.ushr p0 (0 : Int32)) &&& (255 : Int32))), (.int ((XT.ushr p0 (8 : Int32)) &&& (255 : Int32)))] := A354
        have f355 := (((X348.keep K350).keep K352).keep K354)
        have ne356 : a348 ≠ a350 := (Nat.ne_of_lt (Nat.lt_of_lt_of_le X348.lt (Nat.le_of_eq g350.symm)))
        have f357 := ((((D348 (Or.inr (w36 hw)) (ty := (.array .byte)) (by decide)).keep K350 nin0).keep K352 (ninS ne356 nin0)).keep K354 (ninS ne356 nin0))
        have f358 := ((((D348 (Or.inr (w34 hw)) (ty := .byte) (by decide)).keep K350 nin0).keep K352 (ninS ne356 nin0)).keep K354 (ninS ne356 nin0))
        have f359 := (Sta.keep (Sta.keep (Sta.keep (Sta.keep P0 K348 ns0) K350 ns0) K352 (nsS (Av.plain A350) ns0)) K354 (nsS (Av.plain A352) ns0))
        refine k_callI0 W 1 3 8 (argsL := [(.ref a350)]) (rest := [(.ref a348)]) (a := a348) d_method_3_67 rfl rfl (w11 hw) (w12 hw) (by decide) (lenOf pd19 rfl) (ct_sinit l Z a0 hw n0 h354 a348 a350 [((XT.ushr p0 (0 : Int32)) &&& (255 : Int32)), ((XT.ushr p0 (8 : Int32)) &&& (255 : Int32))] 2 zc .null (.int (0 : Int32)) f355 f357 f358 A354 f359 hzc (rgS (Rg.and (n := 256) (XT.ushr p0 (0 : Int32)) (255 : Int32) (by decide)) (rgS (Rg.and (n := 256) (XT.ushr p0 (8 : Int32)) (255 : Int32) (by decide)) (fun _ q => nomatch q))) (Nat.le_of_ble_eq_true rfl) (Nat.le_of_ble_eq_true rfl) (by decide)) (w13 hw) (w6 hw) (fun x hx => by simp only [List.mem_cons, List.not_mem_nil, or_false] at hx; rcases hx with rfl; all_goals first | exact (List.mem_of_getElem? (i := 1) rfl)) rfl (Nat.le_of_eq rfl) (Nat.le_of_ble_eq_true rfl) (Nat.le_of_ble_eq_true rfl) ⟨rfl, Nat.le_of_ble_eq_true rfl⟩ ⟨rfl, Nat.le_of_ble_eq_true rfl⟩ rfl (fun _ _ _ q => nomatch q.1) fun T h360 so W hQ => ?_
        obtain ⟨-, b360, g360, K360, S360⟩ := hQ
        have S360 : St Z h360 a348 b360 [(i2b ((XT.ushr p0 (0 : Int32)) &&& (255 : Int32))), (i2b ((XT.ushr p0 (8 : Int32)) &&& (255 : Int32)))] := S360
        have KK361 : Keep h0 h347 [] := (Keep.refl h0 []).trans K348 all0
        have KK362 : Keep h0 h349 [] := KK361.trans K350 all0
        have KK363 : Keep h0 h352 [] := KK362.trans K352 (allS (Or.inr (Nat.le_trans E348.1 (Nat.le_of_eq g350.symm))) all0)
        have KK364 : Keep h0 h354 [] := KK363.trans K354 (allS (Or.inr (Nat.le_trans E348.1 (Nat.le_of_eq g350.symm))) all0)
        have KK365 : Keep h0 h360 [] := KK364.trans K360 (allS (Or.inr (Nat.le_of_eq g348.symm)) all0)
        exact k_areturn W d_method_3_70 rfl rfl rfl [] (fun x hx => nomatch hx) (Nat.le_of_ble_eq_true rfl) (Nat.le_of_ble_eq_true rfl) ⟨_, _, _, rfl, (Nat.le_of_eq g348.symm), KK365, S360⟩
    · -- pc 20
      refine k_new W 1 4 d_method_3_20 (w4 hw) (w5 hw) (w6 hw) ⟨rfl, Nat.le_of_ble_eq_true rfl⟩ ⟨rfl, Nat.le_of_ble_eq_true rfl⟩ fun T h366 a367 g367 W E367 X367 D367 => ?_
      have K367 : Keep h0 h366 [] := keep_ext E367 []
      refine k_dup W d_method_3_23 rfl ?_
      refine k_iconst W d_method_3_24 (z := (1 : Int32)) rfl ?_
      refine k_newarr W 1 2 5 d_method_3_25 (w7 hw) (by decide) (by decide) ⟨rfl, Nat.le_of_ble_eq_true rfl⟩ ⟨rfl, Nat.le_of_ble_eq_true rfl⟩ fun T h368 a369 g369 W E369 A369 => ?_
      have K369 : Keep h366 h368 [] := keep_ext E369 []
      have A369 : Av Z h368 a369 .char [(.int (0 : Int32))] := A369
      refine k_dup W d_method_3_27 rfl ?_
      refine k_iconst W d_method_3_28 (z := (0 : Int32)) rfl ?_
      refine k_iloadN W d_method_3_29 rfl ?_
      refine k_iconst W d_method_3_30 (z := (0 : Int32)) rfl ?_
      refine k_callS W 5 2 5 (argsL := [(.int p0), (.int (0 : Int32))]) (rest := [(.int (0 : Int32)), (.ref a369), (.ref a369), (.ref a367), (.ref a367)]) d_method_3_31 (w8 hw) (w9 hw) (by decide) (lenOf pd20 rfl) (ct_ch0 l Z a0 hw n0 h368 p0) (w10 hw) (w2 hw) (fun x hx => nomatch hx) rfl (Nat.le_of_eq rfl) (Nat.le_of_ble_eq_true rfl) (Nat.le_of_ble_eq_true rfl) ⟨rfl, Nat.le_of_ble_eq_true rfl⟩ ⟨rfl, Nat.le_of_ble_eq_true rfl⟩ rfl (fun _ _ q => nomatch q.1) fun T h370 v so W hQ => ?_
      obtain ⟨hv, rfl, -⟩ := hQ
      obtain rfl := Option.some.inj hv
      refine k_castore W (z := ((XT.ushr p0 (0 : Int32)) &&& (255 : Int32))) 0 d_method_3_34 (List.mem_of_getElem? (i := 0) rfl) A369 (by decide) (Nat.le_of_ble_eq_true rfl) (Rg.nar (Rg.mono (Rg.and (n := 256) (XT.ushr p0 (0 : Int32)) (255 : Int32) (by decide)) (by decide))) (Rg.fits (Rg.mono (Rg.and (n := 256) (XT.ushr p0 (0 : Int32)) (255 : Int32) (by decide)) (by decide))) fun T h371 W Wr371 A371 => ?_
      have K371 : Keep h368 h371 [a369] := Keep.of_wr Wr371
      have A371 : Av Z h371 a369 .char [(.int ((XT.ushr p0 (0 : Int32)) &&& (255 : Int32)))] := A371
      have f372 := ((X367.keep K369).keep K371)
      have ne373 : a367 ≠ a369 := (Nat.ne_of_lt (Nat.lt_of_lt_of_le X367.lt (Nat.le_of_eq g369.symm)))
      have f374 := (((D367 (Or.inr (w36 hw)) (ty := (.array .byte)) (by decide)).keep K369 nin0).keep K371 (ninS ne373 nin0))
      have f375 := (((D367 (Or.inr (w34 hw)) (ty := .byte) (by decide)).keep K369 nin0).keep K371 (ninS ne373 nin0))
      have f376 := (Sta.keep (Sta.keep (Sta.keep P0 K367 ns0) K369 ns0) K371 (nsS (Av.plain A369) ns0))
      refine k_callI0 W 1 3 6 (argsL := [(.ref a369)]) (rest := [(.ref a367)]) (a := a367) d_method_3_35 rfl rfl (w11 hw) (w12 hw) (by decide) (lenOf pd19 rfl) (ct_sinit l Z a0 hw n0 h371 a367 a369 [((XT.ushr p0 (0 : Int32)) &&& (255 : Int32))] 1 zc .null (.int (0 : Int32)) f372 f374 f375 A371 f376 hzc (rgS (Rg.and (n := 256) (XT.ushr p0 (0 : Int32)) (255 : Int32) (by decide)) (fun _ q => nomatch q)) (Nat.le_of_ble_eq_true rfl) (Nat.le_of_ble_eq_true rfl) (by decide)) (w13 hw) (w6 hw) (fun x hx => by simp only [List.mem_cons, List.not_mem_nil, or_false] at hx; rcases hx with rfl; all_goals first | exact (List.mem_of_getElem? (i := 1) rfl)) rfl (Nat.le_of_eq rfl) (Nat.le_of_ble_eq_true rfl) (Nat.le_of_ble_eq_true rfl) ⟨rfl, Nat.le_of_ble_eq_true rfl⟩ ⟨rfl, Nat.le_of_ble_eq_true rfl⟩ rfl (fun _ _ _ q => nomatch q.1) fun T h377 so W hQ => ?_
      obtain ⟨-, b377, g377, K377, S377⟩ := hQ
      have S377 : St Z h377 a367 b377 [(i2b ((XT.ushr p0 (0 : Int32)) &&& (255 : Int32)))] := S377
      have KK378 : Keep h0 h366 [] := (Keep.refl h0 []).trans K367 all0
      have KK379 : Keep h0 h368 [] := KK378.trans K369 all0
      have KK380 : Keep h0 h371 [] := KK379.trans K371 (allS (Or.inr (Nat.le_trans E367.1 (Nat.le_of_eq g369.symm))) all0)
      have KK381 : Keep h0 h377 [] := KK380.trans K377 (allS (Or.inr (Nat.le_of_eq g367.symm)) all0)
      exact k_areturn W d_method_3_38 rfl rfl rfl [] (fun x hx => nomatch hx) (Nat.le_of_ble_eq_true rfl) (Nat.le_of_ble_eq_true rfl) ⟨_, _, _, rfl, (Nat.le_of_eq g367.symm), KK381, S377⟩
  · -- pc 4
    refine k_new W 1 4 d_method_3_4 (w4 hw) (w5 hw) (w6 hw) ⟨rfl, Nat.le_of_ble_eq_true rfl⟩ ⟨rfl, Nat.le_of_ble_eq_true rfl⟩ fun T h382 a383 g383 W E383 X383 D383 => ?_
    have K383 : Keep h0 h382 [] := keep_ext E383 []
    refine k_dup W d_method_3_7 rfl ?_
    refine k_iconst W d_method_3_8 (z := (0 : Int32)) rfl ?_
    refine k_newarr W 0 2 4 d_method_3_9 (w7 hw) (by decide) (by decide) ⟨rfl, Nat.le_of_ble_eq_true rfl⟩ ⟨rfl, Nat.le_of_ble_eq_true rfl⟩ fun T h384 a385 g385 W E385 A385 => ?_
    have K385 : Keep h382 h384 [] := keep_ext E385 []
    have A385 : Av Z h384 a385 .char [] := A385
    have f386 := (X383.keep K385)
    have f387 := ((D383 (Or.inr (w36 hw)) (ty := (.array .byte)) (by decide)).keep K385 nin0)
    have f388 := ((D383 (Or.inr (w34 hw)) (ty := .byte) (by decide)).keep K385 nin0)
    have f389 := (Sta.keep (Sta.keep P0 K383 ns0) K385 ns0)
    refine k_callI0 W 1 6 12 (argsL := [(.ref a385)]) (rest := [(.ref a383)]) (a := a383) d_method_3_11 rfl rfl (w11 hw) (w12 hw) (by decide) (lenOf pd19 rfl) (ct_sinitE l Z a0 hw n0 h384 a383 a385 [a385] .null (.int (0 : Int32)) f386 f387 f388 A385) (w13 hw) (w6 hw) (fun x hx => by simp only [List.mem_cons, List.not_mem_nil, or_false] at hx; rcases hx with rfl | rfl; all_goals first | exact (List.mem_of_getElem? (i := 1) rfl) | exact (List.mem_of_getElem? (i := 0) rfl)) rfl (Nat.le_of_eq rfl) (Nat.le_of_ble_eq_true rfl) (Nat.le_of_ble_eq_true rfl) ⟨rfl, Nat.le_of_ble_eq_true rfl⟩ ⟨rfl, Nat.le_of_ble_eq_true rfl⟩ rfl (fun _ _ _ q => nomatch q.1) fun T h391 so W hQ => ?_
    obtain ⟨-, b391, K391, S391, N391⟩ := hQ
    have KK392 : Keep h0 h382 [] := (Keep.refl h0 []).trans K383 all0
    have KK393 : Keep h0 h384 [] := KK392.trans K385 all0
    have KK394 : Keep h0 h391 [] := KK393.trans K391 (allS (Or.inr (Nat.le_of_eq g383.symm)) all0)
    exact k_areturn W d_method_3_14 rfl rfl rfl [] (fun x hx => nomatch hx) (Nat.le_of_ble_eq_true rfl) (Nat.le_of_ble_eq_true rfl) ⟨_, _, _, rfl, (Nat.le_of_eq g383.symm), KK394, S391⟩
set_option maxRecDepth 65536 in
set_option maxHeartbeats 40000000 in
theorem ct_acol (l : Launch) (Z : State) (a0 : Array Value) (hw : ∀ d ∈ tables_1, d.before a0 Z = true) (n0 : Nat) (h0 : Heap) (x : Addr) : Ct l Z a0 own_EL false (⟨"java/util/AbstractCollection", "<init>", "()V"⟩ : MethodName) jdk_22_method_1_code 1 (Option.none : Option Jvm.ClassFile.FieldType) ({ frames := 1, cells := 0, slots := 0, locals := 12 } : Room) #[(.ref x)] h0 [] n0 (fun v h so => v = none ∧ h0 = h ∧ so = []) := by
  refine Ct.body (plainFor_of_name pn7) ?_
  intro p e s m below meth c T W
  refine WP.cast (g' := (mkF m 0 #[.val (.ref x)] [])) (by simp [entryFrame, mkF, argsToLocals, cat_i, cat_l, cat_r, cat_n]) ?_
  refine k_aloadN W d_jdk_22_1_0 rfl rfl ?_
  refine k_initO W 0 d_jdk_22_1_1 (w64 hw) (w19 hw) (w20 hw) rfl (Nat.le_of_eq rfl) (Nat.le_of_ble_eq_true rfl) (Nat.le_of_ble_eq_true rfl) fun T W => ?_
  exact k_ret W d_jdk_22_1_4 rfl [] (fun x hx => nomatch hx) (Nat.le_of_ble_eq_true rfl) (Nat.le_of_ble_eq_true rfl) ⟨rfl, rfl, rfl⟩
set_option maxRecDepth 65536 in
set_option maxHeartbeats 40000000 in
theorem ct_amap (l : Launch) (Z : State) (a0 : Array Value) (hw : ∀ d ∈ tables_1, d.before a0 Z = true) (n0 : Nat) (h0 : Heap) (x : Addr) : Ct l Z a0 own_EL false (⟨"java/util/AbstractMap", "<init>", "()V"⟩ : MethodName) jdk_71_method_1_code 1 (Option.none : Option Jvm.ClassFile.FieldType) ({ frames := 1, cells := 0, slots := 0, locals := 12 } : Room) #[(.ref x)] h0 [] n0 (fun v h so => v = none ∧ h0 = h ∧ so = []) := by
  refine Ct.body (plainFor_of_name pn8) ?_
  intro p e s m below meth c T W
  refine WP.cast (g' := (mkF m 0 #[.val (.ref x)] [])) (by simp [entryFrame, mkF, argsToLocals, cat_i, cat_l, cat_r, cat_n]) ?_
  refine k_aloadN W d_jdk_71_1_0 rfl rfl ?_
  refine k_initO W 0 d_jdk_71_1_1 (w86 hw) (w19 hw) (w20 hw) rfl (Nat.le_of_eq rfl) (Nat.le_of_ble_eq_true rfl) (Nat.le_of_ble_eq_true rfl) fun T W => ?_
  exact k_ret W d_jdk_71_1_4 rfl [] (fun x hx => nomatch hx) (Nat.le_of_ble_eq_true rfl) (Nat.le_of_ble_eq_true rfl) ⟨rfl, rfl, rfl⟩
set_option maxRecDepth 65536 in
set_option maxHeartbeats 40000000 in
theorem ct_alist (l : Launch) (Z : State) (a0 : Array Value) (hw : ∀ d ∈ tables_1, d.before a0 Z = true) (n0 : Nat) (h0 : Heap) (x : Addr) (EX : Exa Z h0 x "java/util/ArrayList") (FS : Fld Z h0 x "java/util/ArrayList" "size" "I" (.int (0 : Int32))) (FM : Fld Z h0 x "java/util/AbstractList" "modCount" "I" (.int (0 : Int32))) (FE : Fld Z h0 x "java/util/ArrayList" "elementData" "[Ljava/lang/Object;" .null) : Ct l Z a0 own_EL false (⟨"java/util/AbstractList", "<init>", "()V"⟩ : MethodName) jdk_39_method_1_code 1 (Option.none : Option Jvm.ClassFile.FieldType) ({ frames := 2, cells := 0, slots := 0, locals := 24 } : Room) #[(.ref x)] h0 [x] n0 (fun v h so => v = none ∧ Keep h0 h [x] ∧ Fld Z h x "java/util/ArrayList" "size" "I" (.int 0) ∧ Fld Z h x "java/util/AbstractList" "modCount" "I" (.int 0) ∧ Fld Z h x "java/util/ArrayList" "elementData" "[Ljava/lang/Object;" .null) := by
  refine Ct.body (plainFor_of_name pn9) ?_
  intro p e s m below meth c T W
  refine WP.cast (g' := (mkF m 0 #[.val (.ref x)] [])) (by simp [entryFrame, mkF, argsToLocals, cat_i, cat_l, cat_r, cat_n]) ?_
  refine k_aloadN W d_jdk_39_1_0 rfl rfl ?_
  refine k_callI0 W 0 0 0 (argsL := []) (rest := []) (a := x) d_jdk_39_1_1 rfl rfl (w58 hw) (w59 hw) (by decide) (lenOf pd21 rfl) (ct_acol l Z a0 hw n0 h0 x) (w63 hw) (w62 hw) (fun x hx => nomatch hx) rfl (Nat.le_of_eq rfl) (Nat.le_of_ble_eq_true rfl) (Nat.le_of_ble_eq_true rfl) ⟨rfl, Nat.le_of_ble_eq_true rfl⟩ ⟨rfl, Nat.le_of_ble_eq_true rfl⟩ rfl (fun _ _ _ q => nomatch q.1) fun T h395 so W hQ => ?_
  obtain ⟨-, rfl, -⟩ := hQ
  refine k_aloadN W d_jdk_39_1_4 rfl rfl ?_
  refine k_iconst W d_jdk_39_1_5 (z := (0 : Int32)) rfl ?_
  refine k_putF W d_jdk_39_1_6 (w65 hw) Via.refl (v' := (.int (0 : Int32))) (List.mem_of_getElem? (i := 0) rfl) FM EX (Or.inl (w66 hw)) (w47 hw) (ty := .int) (by decide) rfl rfl fun T h396 W Wr396 => ?_
  have K396 : Keep h0 h396 [x] := Keep.of_wr Wr396
  have KK397 : Keep h0 h396 [x] := (Keep.refl h0 [x]).trans K396 (allS (Or.inl (List.mem_of_getElem? (i := 0) rfl)) all0)
  have f398 := (FS.other Wr396 (Or.inr (slot_ne (Or.inl (w137 hw)) (Or.inl (w66 hw)) (by decide) (t := .int) (t' := .int) (by decide) (by decide))))
  have f399 := (FE.other Wr396 (Or.inr (slot_ne (Or.inl (w69 hw)) (Or.inl (w66 hw)) (by decide) (t := (.array (.object "java/lang/Object"))) (t' := .int) (by decide) (by decide))))
  exact k_ret W d_jdk_39_1_9 rfl [] (fun x hx => nomatch hx) (Nat.le_of_ble_eq_true rfl) (Nat.le_of_ble_eq_true rfl) ⟨rfl, KK397, f398, (Fld.same Wr396 FM), f399⟩
set_option maxRecDepth 65536 in
set_option maxHeartbeats 40000000 in
theorem ct_arl (l : Launch) (Z : State) (a0 : Array Value) (hw : ∀ d ∈ tables_1, d.before a0 Z = true) (n0 : Nat) (h0 : Heap) (x : Addr) (dc : Value) (EX : Exa Z h0 x "java/util/ArrayList") (FS : Fld Z h0 x "java/util/ArrayList" "size" "I" (.int (0 : Int32))) (FM : Fld Z h0 x "java/util/AbstractList" "modCount" "I" (.int (0 : Int32))) (FE : Fld Z h0 x "java/util/ArrayList" "elementData" "[Ljava/lang/Object;" .null) (DC : Sta Z h0 "java/util/ArrayList" "DEFAULTCAPACITY_EMPTY_ELEMENTDATA" "[Ljava/lang/Object;" dc) (hdc : dc.isRef = true) : Ct l Z a0 own_EL false (⟨"java/util/ArrayList", "<init>", "()V"⟩ : MethodName) jdk_38_method_2_code 1 (Option.none : Option Jvm.ClassFile.FieldType) ({ frames := 3, cells := 0, slots := 0, locals := 36 } : Room) #[(.ref x)] h0 [x] n0 (fun v h so => v = none ∧ Keep h0 h [x] ∧ Fld Z h x "java/util/ArrayList" "size" "I" (.int 0) ∧ Fld Z h x "java/util/AbstractList" "modCount" "I" (.int 0)) := by
  refine Ct.body (plainFor_of_name pn10) ?_
  intro p e s m below meth c T W
  refine WP.cast (g' := (mkF m 0 #[.val (.ref x)] [])) (by simp [entryFrame, mkF, argsToLocals, cat_i, cat_l, cat_r, cat_n]) ?_
  refine k_aloadN W d_jdk_38_2_0 rfl rfl ?_
  refine k_callI0 W 0 0 0 (argsL := []) (rest := []) (a := x) d_jdk_38_2_1 rfl rfl (w52 hw) (w53 hw) (by decide) (lenOf pd21 rfl) (ct_alist l Z a0 hw n0 h0 x EX FS FM FE) (w57 hw) (w56 hw) (fun x hx => hx) rfl (Nat.le_of_eq rfl) (Nat.le_of_ble_eq_true rfl) (Nat.le_of_ble_eq_true rfl) ⟨rfl, Nat.le_of_ble_eq_true rfl⟩ ⟨rfl, Nat.le_of_ble_eq_true rfl⟩ rfl (fun _ _ _ q => nomatch q.1) fun T h400 so W hQ => ?_
  obtain ⟨-, K400, S400, M400, D400⟩ := hQ
  refine k_aloadN W d_jdk_38_2_4 rfl rfl ?_
  have f401 := (Sta.keep DC K400 (nsS (Exa.plain EX) ns0))
  refine k_getS W d_jdk_38_2_5 (w67 hw) Via.refl f401 fun T W => ?_
  have f402 := (EX.keep K400)
  refine k_putF W d_jdk_38_2_8 (w68 hw) Via.refl (v' := dc) (List.mem_of_getElem? (i := 0) rfl) D400 f402 (Or.inl (w69 hw)) (w47 hw) (ty := (.array (.object "java/lang/Object"))) (by decide) (nar_refv hdc rfl) (fits_refv hdc rfl) fun T h403 W Wr403 => ?_
  have K403 : Keep h400 h403 [x] := Keep.of_wr Wr403
  have KK404 : Keep h0 h400 [x] := (Keep.refl h0 [x]).trans K400 (allS (Or.inl (List.mem_of_getElem? (i := 0) rfl)) all0)
  have KK405 : Keep h0 h403 [x] := KK404.trans K403 (allS (Or.inl (List.mem_of_getElem? (i := 0) rfl)) all0)
  have f406 := (S400.other Wr403 (Or.inr (slot_ne (Or.inl (w137 hw)) (Or.inl (w69 hw)) (by decide) (t := .int) (t' := (.array (.object "java/lang/Object"))) (by decide) (by decide))))
  have f407 := (M400.other Wr403 (Or.inr (slot_ne (Or.inl (w66 hw)) (Or.inl (w69 hw)) (by decide) (t := .int) (t' := (.array (.object "java/lang/Object"))) (by decide) (by decide))))
  exact k_ret W d_jdk_38_2_11 rfl [] (fun x hx => nomatch hx) (Nat.le_of_ble_eq_true rfl) (Nat.le_of_ble_eq_true rfl) ⟨rfl, KK405, f406, f407⟩
set_option maxRecDepth 65536 in
set_option maxHeartbeats 40000000 in
theorem ct_hm (l : Launch) (Z : State) (a0 : Array Value) (hw : ∀ d ∈ tables_1, d.before a0 Z = true) (n0 : Nat) (h0 : Heap) (x : Addr) (EX : Exa Z h0 x "java/util/HashMap") (FL : Fld Z h0 x "java/util/HashMap" "loadFactor" "F" (defaultValue .float)) : Ct l Z a0 own_EL false (⟨"java/util/HashMap", "<init>", "()V"⟩ : MethodName) jdk_69_method_7_code 1 (Option.none : Option Jvm.ClassFile.FieldType) ({ frames := 2, cells := 0, slots := 0, locals := 24 } : Room) #[(.ref x)] h0 [x] n0 (fun v h so => v = none ∧ Keep h0 h [x]) := by
  refine Ct.body (plainFor_of_name pn11) ?_
  intro p e s m below meth c T W
  refine WP.cast (g' := (mkF m 0 #[.val (.ref x)] [])) (by simp [entryFrame, mkF, argsToLocals, cat_i, cat_l, cat_r, cat_n]) ?_
  refine k_aloadN W d_jdk_69_7_0 rfl rfl ?_
  refine k_callI0 W 0 0 0 (argsL := []) (rest := []) (a := x) d_jdk_69_7_1 rfl rfl (w80 hw) (w81 hw) (by decide) (lenOf pd21 rfl) (ct_amap l Z a0 hw n0 h0 x) (w85 hw) (w84 hw) (fun x hx => nomatch hx) rfl (Nat.le_of_eq rfl) (Nat.le_of_ble_eq_true rfl) (Nat.le_of_ble_eq_true rfl) ⟨rfl, Nat.le_of_ble_eq_true rfl⟩ ⟨rfl, Nat.le_of_ble_eq_true rfl⟩ rfl (fun _ _ _ q => nomatch q.1) fun T h408 so W hQ => ?_
  obtain ⟨-, rfl, -⟩ := hQ
  refine k_aloadN W d_jdk_69_7_4 rfl rfl ?_
  refine k_ldcF W d_jdk_69_7_5 (w87 hw) ?_
  refine k_putF W d_jdk_69_7_7 (w88 hw) Via.refl (v' := (.float (1061158912 : UInt32))) (List.mem_of_getElem? (i := 0) rfl) FL EX (Or.inr ⟨(w89 hw), rfl, rfl⟩) (w75 hw) (ty := .float) (by decide) rfl rfl fun T h409 W Wr409 => ?_
  have K409 : Keep h0 h409 [x] := Keep.of_wr Wr409
  have KK410 : Keep h0 h409 [x] := (Keep.refl h0 [x]).trans K409 (allS (Or.inl (List.mem_of_getElem? (i := 0) rfl)) all0)
  exact k_ret W d_jdk_69_7_10 rfl [] (fun x hx => nomatch hx) (Nat.le_of_ble_eq_true rfl) (Nat.le_of_ble_eq_true rfl) ⟨rfl, KK410⟩
set_option maxRecDepth 65536 in
set_option maxHeartbeats 40000000 in
theorem ct_itr (l : Launch) (Z : State) (a0 : Array Value) (hw : ∀ d ∈ tables_1, d.before a0 Z = true) (n0 : Nat) (h0 : Heap) (x y : Addr) (EX : Exa Z h0 x "java/util/ArrayList$Itr") (EY : Exa Z h0 y "java/util/ArrayList") (F0 : Fld Z h0 x "java/util/ArrayList$Itr" "this$0" "Ljava/util/ArrayList;" .null) (F1 : Fld Z h0 x "java/util/ArrayList$Itr" "lastRet" "I" (.int (0 : Int32))) (F2 : Fld Z h0 x "java/util/ArrayList$Itr" "expectedModCount" "I" (.int (0 : Int32))) (F3 : Fld Z h0 x "java/util/ArrayList$Itr" "cursor" "I" (.int (0 : Int32))) (F4 : Fld Z h0 y "java/util/AbstractList" "modCount" "I" (.int (0 : Int32))) : Ct l Z a0 own_EL false (⟨"java/util/ArrayList$Itr", "<init>", "(Ljava/util/ArrayList;)V"⟩ : MethodName) jdk_49_method_1_code 2 (Option.none : Option Jvm.ClassFile.FieldType) ({ frames := 1, cells := 0, slots := 0, locals := 12 } : Room) #[(.ref x), (.ref y)] h0 [x] n0 (fun v h so => v = none ∧ Keep h0 h [x] ∧ Fld Z h x "java/util/ArrayList$Itr" "this$0" "Ljava/util/ArrayList;" (.ref y) ∧ Fld Z h x "java/util/ArrayList$Itr" "cursor" "I" (.int 0)) := by
  refine Ct.body (plainFor_of_name pn12) ?_
  intro p e s m below meth c T W
  refine WP.cast (g' := (mkF m 0 #[.val (.ref x), .val (.ref y)] [])) (by simp [entryFrame, mkF, argsToLocals, cat_i, cat_l, cat_r, cat_n]) ?_
  refine k_aloadN W d_jdk_49_1_0 rfl rfl ?_
  refine k_aloadN W d_jdk_49_1_1 rfl rfl ?_
  refine k_putF W d_jdk_49_1_2 (w116 hw) Via.refl (v' := (.ref y)) (List.mem_of_getElem? (i := 0) rfl) F0 EX (Or.inr ⟨(w117 hw), rfl, rfl⟩) (w110 hw) (ty := (.object "java/util/ArrayList")) (by decide) rfl rfl fun T h411 W Wr411 => ?_
  have K411 : Keep h0 h411 [x] := Keep.of_wr Wr411
  refine k_aloadN W d_jdk_49_1_5 rfl rfl ?_
  refine k_initO W 0 d_jdk_49_1_6 (w118 hw) (w19 hw) (w20 hw) rfl (Nat.le_of_eq rfl) (Nat.le_of_ble_eq_true rfl) (Nat.le_of_ble_eq_true rfl) fun T W => ?_
  refine k_aloadN W d_jdk_49_1_9 rfl rfl ?_
  refine k_iconst W d_jdk_49_1_10 (z := (-1 : Int32)) rfl ?_
  have f412 := (F1.other Wr411 (Or.inr (slot_ne (Or.inl (w120 hw)) (Or.inr (w117 hw)) (by decide) (t := .int) (t' := (.object "java/util/ArrayList")) (by decide) (by decide))))
  have f413 := (EX.keep K411)
  refine k_putF W d_jdk_49_1_11 (w119 hw) Via.refl (v' := (.int (-1 : Int32))) (List.mem_of_getElem? (i := 0) rfl) f412 f413 (Or.inl (w120 hw)) (w110 hw) (ty := .int) (by decide) rfl rfl fun T h414 W Wr414 => ?_
  have K414 : Keep h411 h414 [x] := Keep.of_wr Wr414
  refine k_aloadN W d_jdk_49_1_14 rfl rfl ?_
  refine k_aloadN W d_jdk_49_1_15 rfl rfl ?_
  have f415 := ((Fld.same Wr411 F0).other Wr414 (Or.inr (slot_ne (Or.inr (w117 hw)) (Or.inl (w120 hw)) (by decide) (t := (.object "java/util/ArrayList")) (t' := .int) (by decide) (by decide))))
  refine k_getF W d_jdk_49_1_16 (host := "") (Or.inl (w116 hw)) Via.refl f415 fun T W => ?_
  have ne416 : y ≠ x := (ne_exa ((EY.keep K411).keep K414) (f413.keep K414) (by decide))
  have f417 := ((F4.keep K411 (ninS ne416 nin0)).keep K414 (ninS ne416 nin0))
  refine k_getF W d_jdk_49_1_19 (host := "") (Or.inl (w121 hw)) (Via.of (w122 hw)) f417 fun T W => ?_
  have f418 := ((F2.other Wr411 (Or.inr (slot_ne (Or.inl (w124 hw)) (Or.inr (w117 hw)) (by decide) (t := .int) (t' := (.object "java/util/ArrayList")) (by decide) (by decide)))).other Wr414 (Or.inr (slot_ne (Or.inl (w124 hw)) (Or.inl (w120 hw)) (by decide) (t := .int) (t' := .int) (by decide) (by decide))))
  have f419 := (f413.keep K414)
  refine k_putF W d_jdk_49_1_22 (w123 hw) Via.refl (v' := (.int (0 : Int32))) (List.mem_of_getElem? (i := 0) rfl) f418 f419 (Or.inl (w124 hw)) (w110 hw) (ty := .int) (by decide) rfl rfl fun T h420 W Wr420 => ?_
  have K420 : Keep h414 h420 [x] := Keep.of_wr Wr420
  have KK421 : Keep h0 h411 [x] := (Keep.refl h0 [x]).trans K411 (allS (Or.inl (List.mem_of_getElem? (i := 0) rfl)) all0)
  have KK422 : Keep h0 h414 [x] := KK421.trans K414 (allS (Or.inl (List.mem_of_getElem? (i := 0) rfl)) all0)
  have KK423 : Keep h0 h420 [x] := KK422.trans K420 (allS (Or.inl (List.mem_of_getElem? (i := 0) rfl)) all0)
  have f424 := (f415.other Wr420 (Or.inr (slot_ne (Or.inr (w117 hw)) (Or.inl (w124 hw)) (by decide) (t := (.object "java/util/ArrayList")) (t' := .int) (by decide) (by decide))))
  have f425 := (((F3.other Wr411 (Or.inr (slot_ne (Or.inl (w135 hw)) (Or.inr (w117 hw)) (by decide) (t := .int) (t' := (.object "java/util/ArrayList")) (by decide) (by decide)))).other Wr414 (Or.inr (slot_ne (Or.inl (w135 hw)) (Or.inl (w120 hw)) (by decide) (t := .int) (t' := .int) (by decide) (by decide)))).other Wr420 (Or.inr (slot_ne (Or.inl (w135 hw)) (Or.inl (w124 hw)) (by decide) (t := .int) (t' := .int) (by decide) (by decide))))
  exact k_ret W d_jdk_49_1_25 rfl [] (fun x hx => nomatch hx) (Nat.le_of_ble_eq_true rfl) (Nat.le_of_ble_eq_true rfl) ⟨rfl, KK423, f424, f425⟩
set_option maxRecDepth 65536 in
set_option maxHeartbeats 40000000 in
theorem ct_iter (l : Launch) (Z : State) (a0 : Array Value) (hw : ∀ d ∈ tables_1, d.before a0 Z = true) (n0 : Nat) (h0 : Heap) (y : Addr) (EY : Exa Z h0 y "java/util/ArrayList") (F4 : Fld Z h0 y "java/util/AbstractList" "modCount" "I" (.int (0 : Int32))) : Ct l Z a0 own_EL false (⟨"java/util/ArrayList", "iterator", "()Ljava/util/Iterator;"⟩ : MethodName) jdk_38_method_55_code 1 (Option.some (Jvm.ClassFile.FieldType.object "java/util/Iterator")) ({ frames := 2, cells := 1, slots := 4, locals := 26 } : Room) #[(.ref y)] h0 [] n0 (fun v h so => ∃ x, v = some (.ref x) ∧ h0.size ≤ x ∧ Keep h0 h [] ∧ Exa Z h x "java/util/ArrayList$Itr" ∧ Fld Z h x "java/util/ArrayList$Itr" "this$0" "Ljava/util/ArrayList;" (.ref y) ∧ Fld Z h x "java/util/ArrayList$Itr" "cursor" "I" (.int 0)) := by
  refine Ct.body (plainFor_of_name pn10) ?_
  intro p e s m below meth c T W
  refine WP.cast (g' := (mkF m 0 #[.val (.ref y)] [])) (by simp [entryFrame, mkF, argsToLocals, cat_i, cat_l, cat_r, cat_n]) ?_
  refine k_new W 1 4 d_jdk_38_55_0 (w109 hw) (w110 hw) (w111 hw) ⟨rfl, Nat.le_of_ble_eq_true rfl⟩ ⟨rfl, Nat.le_of_ble_eq_true rfl⟩ fun T h426 a427 g427 W E427 X427 D427 => ?_
  have K427 : Keep h0 h426 [] := keep_ext E427 []
  refine k_dup W d_jdk_38_55_3 rfl ?_
  refine k_aloadN W d_jdk_38_55_4 rfl rfl ?_
  have f429 := (EY.keep K427)
  have f430 := (F4.keep K427 nin0)
  refine k_callI0 W 1 1 4 (argsL := [(.ref y)]) (rest := [(.ref a427)]) (a := a427) d_jdk_38_55_5 rfl rfl (w112 hw) (w113 hw) (by decide) (lenOf pd22 rfl) (ct_itr l Z a0 hw n0 h426 a427 y X427 f429 (D427 (Or.inr (w117 hw)) (ty := (.object "java/util/ArrayList")) (by decide)) (D427 (Or.inl (w120 hw)) (ty := .int) (by decide)) (D427 (Or.inl (w124 hw)) (ty := .int) (by decide)) (D427 (Or.inl (w135 hw)) (ty := .int) (by decide)) f430) (w115 hw) (w111 hw) (fun x hx => hx) rfl (Nat.le_of_eq rfl) (Nat.le_of_ble_eq_true rfl) (Nat.le_of_ble_eq_true rfl) ⟨rfl, Nat.le_of_ble_eq_true rfl⟩ ⟨rfl, Nat.le_of_ble_eq_true rfl⟩ rfl (fun _ _ _ q => nomatch q.1) fun T h428 so W hQ => ?_
  obtain ⟨-, K428, T428, C428⟩ := hQ
  have KK431 : Keep h0 h426 [] := (Keep.refl h0 []).trans K427 all0
  have KK432 : Keep h0 h428 [] := KK431.trans K428 (allS (Or.inr (Nat.le_of_eq g427.symm)) all0)
  have f433 := (X427.keep K428)
  exact k_areturn W d_jdk_38_55_8 rfl rfl rfl [] (fun x hx => nomatch hx) (Nat.le_of_ble_eq_true rfl) (Nat.le_of_ble_eq_true rfl) ⟨_, rfl, (Nat.le_of_eq g427.symm), KK432, f433, T428, C428⟩
set_option maxRecDepth 65536 in
set_option maxHeartbeats 40000000 in
theorem ct_hasN (l : Launch) (Z : State) (a0 : Array Value) (hw : ∀ d ∈ tables_1, d.before a0 Z = true) (n0 : Nat) (h0 : Heap) (x y : Addr) (F0 : Fld Z h0 x "java/util/ArrayList$Itr" "this$0" "Ljava/util/ArrayList;" (.ref y)) (F3 : Fld Z h0 x "java/util/ArrayList$Itr" "cursor" "I" (.int (0 : Int32))) (F5 : Fld Z h0 y "java/util/ArrayList" "size" "I" (.int (0 : Int32))) : Ct l Z a0 own_EL false (⟨"java/util/ArrayList$Itr", "hasNext", "()Z"⟩ : MethodName) jdk_49_method_2_code 1 (Option.some Jvm.ClassFile.FieldType.boolean) ({ frames := 0, cells := 0, slots := 0, locals := 0 } : Room) #[(.ref x)] h0 [] n0 (fun v h so => v = some (.int (0 : Int32)) ∧ h0 = h ∧ so = []) := by
  refine Ct.body (plainFor_of_name pn12) ?_
  intro p e s m below meth c T W
  refine WP.cast (g' := (mkF m 0 #[.val (.ref x)] [])) (by simp [entryFrame, mkF, argsToLocals, cat_i, cat_l, cat_r, cat_n]) ?_
  refine k_aloadN W d_jdk_49_2_0 rfl rfl ?_
  refine k_getF W d_jdk_49_2_1 (host := "") (Or.inl (w134 hw)) Via.refl F3 fun T W => ?_
  refine k_aloadN W d_jdk_49_2_4 rfl rfl ?_
  refine k_getF W d_jdk_49_2_5 (host := "") (Or.inl (w116 hw)) Via.refl F0 fun T W => ?_
  refine k_getF W d_jdk_49_2_8 (Or.inr (w136 hw)) Via.refl F5 fun T W => ?_
  refine k_icY W 18 d_jdk_49_2_11 (by decide) (show (0 : Int32) = (0 : Int32) by decide) ?_
  refine k_iconst W d_jdk_49_2_18 (z := (0 : Int32)) rfl ?_
  exact k_retN W (t := .boolean) (z' := (0 : Int32)) d_jdk_49_2_19 rfl (by simp) (by decide) [] (fun x hx => nomatch hx) (Nat.le_of_ble_eq_true rfl) (Nat.le_of_ble_eq_true rfl) ⟨rfl, rfl, rfl⟩
set_option maxRecDepth 65536 in
set_option maxHeartbeats 40000000 in
theorem ct_args (l : Launch) (Z : State) (a0 : Array Value) (hw : ∀ d ∈ tables_1, d.before a0 Z = true) (n0 : Nat) (h0 : Heap) (x y sy : Addr) (dc : Value) (EX : Exa Z h0 x "com/example/epochmark/epochmark/cli/Arguments") (EY : Exa Z h0 y "java/util/ArrayList") (F4 : Fld Z h0 y "java/util/AbstractList" "modCount" "I" (.int (0 : Int32))) (F5 : Fld Z h0 y "java/util/ArrayList" "size" "I" (.int (0 : Int32))) (G0 : Fld Z h0 x "com/example/epochmark/epochmark/cli/Arguments" "values" "Ljava/util/Map;" .null) (G1 : Fld Z h0 x "com/example/epochmark/epochmark/cli/Arguments" "operands" "Ljava/util/List;" .null) (G2 : Fld Z h0 x "com/example/epochmark/epochmark/cli/Arguments" "takes" "Ljava/util/Map;" .null) (G3 : Fld Z h0 x "com/example/epochmark/epochmark/cli/Arguments" "synopsis" "Ljava/lang/String;" .null) (DC : Sta Z h0 "java/util/ArrayList" "DEFAULTCAPACITY_EMPTY_ELEMENTDATA" "[Ljava/lang/Object;" dc) (hdc : dc.isRef = true) : Ct l Z a0 own_EL false (⟨"com/example/epochmark/epochmark/cli/Arguments", "<init>", "(Ljava/util/List;Ljava/util/Map;Ljava/util/Set;Ljava/lang/String;)V"⟩ : MethodName) prog_1_method_1_code 8 (Option.none : Option Jvm.ClassFile.FieldType) ({ frames := 4, cells := 3, slots := 15, locals := 50 } : Room) #[(.ref x), (.ref y), .null, .null, (.ref sy)] h0 [x] n0 (fun v h so => v = none ∧ Keep h0 h [x] ∧ Fld Z h x "com/example/epochmark/epochmark/cli/Arguments" "synopsis" "Ljava/lang/String;" (.ref sy)) := by
  refine Ct.body (plainFor_of_name pn13) ?_
  intro p e s m below meth c T W
  refine WP.cast (g' := (mkF m 0 #[.val (.ref x), .val (.ref y), .val .null, .val .null, .val (.ref sy), .unset, .unset, .unset] [])) (by simp [entryFrame, mkF, argsToLocals, cat_i, cat_l, cat_r, cat_n]) ?_
  refine k_aloadN W d_prog_1_1_0 rfl rfl ?_
  refine k_initO W 0 d_prog_1_1_1 (w73 hw) (w19 hw) (w20 hw) rfl (Nat.le_of_eq rfl) (Nat.le_of_ble_eq_true rfl) (Nat.le_of_ble_eq_true rfl) fun T W => ?_
  refine k_aloadN W d_prog_1_1_4 rfl rfl ?_
  refine k_new W 1 8 d_prog_1_1_5 (w74 hw) (w75 hw) (w76 hw) ⟨rfl, Nat.le_of_ble_eq_true rfl⟩ ⟨rfl, Nat.le_of_ble_eq_true rfl⟩ fun T h434 a435 g435 W E435 X435 D435 => ?_
  have K435 : Keep h0 h434 [] := keep_ext E435 []
  refine k_dup W d_prog_1_1_8 rfl ?_
  refine k_callI0 W 2 1 8 (argsL := []) (rest := [(.ref a435), (.ref x)]) (a := a435) d_prog_1_1_9 rfl rfl (w77 hw) (w78 hw) (by decide) (lenOf pd21 rfl) (ct_hm l Z a0 hw n0 h434 a435 X435 (D435 (Or.inr (w89 hw)) (ty := .float) (by decide))) (w79 hw) (w76 hw) (fun x hx => by simp only [List.mem_cons, List.not_mem_nil, or_false] at hx; rcases hx with rfl; all_goals first | exact (List.mem_of_getElem? (i := 0) rfl)) rfl (Nat.le_of_eq rfl) (Nat.le_of_ble_eq_true rfl) (Nat.le_of_ble_eq_true rfl) ⟨rfl, Nat.le_of_ble_eq_true rfl⟩ ⟨rfl, Nat.le_of_ble_eq_true rfl⟩ rfl (fun _ _ _ q => nomatch q.1) fun T h436 so W hQ => ?_
  obtain ⟨-, K436⟩ := hQ
  have ne437 : x ≠ a435 := (Nat.ne_of_lt (Nat.lt_of_lt_of_le EX.lt (Nat.le_of_eq g435.symm)))
  have f438 := ((G0.keep K435 nin0).keep K436 (ninS ne437 nin0))
  have f439 := ((EX.keep K435).keep K436)
  refine k_putF W d_prog_1_1_12 (w90 hw) Via.refl (v' := (.ref a435)) (List.mem_of_getElem? (i := 1) rfl) f438 f439 (Or.inr ⟨(w91 hw), rfl, rfl⟩) (w44 hw) (ty := (.object "java/util/Map")) (by decide) rfl rfl fun T h440 W Wr440 => ?_
  have K440 : Keep h436 h440 [x] := Keep.of_wr Wr440
  refine k_aloadN W d_prog_1_1_15 rfl rfl ?_
  refine k_new W 2 11 d_prog_1_1_16 (w92 hw) (w47 hw) (w48 hw) ⟨rfl, Nat.le_of_ble_eq_true rfl⟩ ⟨rfl, Nat.le_of_ble_eq_true rfl⟩ fun T h441 a442 g442 W E442 X442 D442 => ?_
  have K442 : Keep h440 h441 [] := keep_ext E442 []
  refine k_dup W d_prog_1_1_19 rfl ?_
  have f444 := (Sta.keep (Sta.keep (Sta.keep (Sta.keep DC K435 ns0) K436 (nsS (Exa.plain X435) ns0)) K440 (nsS (Exa.plain f439) ns0)) K442 ns0)
  refine k_callI0 W 2 2 11 (argsL := []) (rest := [(.ref a442), (.ref x)]) (a := a442) d_prog_1_1_20 rfl rfl (w93 hw) (w50 hw) (by decide) (lenOf pd21 rfl) (ct_arl l Z a0 hw n0 h441 a442 dc X442 (D442 (Or.inl (w137 hw)) (ty := .int) (by decide)) (D442 (Or.inl (w66 hw)) (ty := .int) (by decide)) (D442 (Or.inl (w69 hw)) (ty := (.array (.object "java/lang/Object"))) (by decide)) f444 hdc) (w51 hw) (w48 hw) (fun x hx => by simp only [List.mem_cons, List.not_mem_nil, or_false] at hx; rcases hx with rfl; all_goals first | exact (List.mem_of_getElem? (i := 0) rfl)) rfl (Nat.le_of_eq rfl) (Nat.le_of_ble_eq_true rfl) (Nat.le_of_ble_eq_true rfl) ⟨rfl, Nat.le_of_ble_eq_true rfl⟩ ⟨rfl, Nat.le_of_ble_eq_true rfl⟩ rfl (fun _ _ _ q => nomatch q.1) fun T h443 so W hQ => ?_
  obtain ⟨-, K443, S443, M443⟩ := hQ
  have ne445 : x ≠ a442 := (Nat.ne_of_lt (Nat.lt_of_lt_of_le (Fld.same Wr440 f438).lt (Nat.le_of_eq g442.symm)))
  have f446 := (((((G1.keep K435 nin0).keep K436 (ninS ne437 nin0)).other Wr440 (Or.inr (slot_ne (Or.inr (w95 hw)) (Or.inr (w91 hw)) (by decide) (t := (.object "java/util/List")) (t' := (.object "java/util/Map")) (by decide) (by decide)))).keep K442 nin0).keep K443 (ninS ne445 nin0))
  have f447 := (((f439.keep K440).keep K442).keep K443)
  refine k_putF W d_prog_1_1_23 (w94 hw) Via.refl (v' := (.ref a442)) (List.mem_of_getElem? (i := 2) rfl) f446 f447 (Or.inr ⟨(w95 hw), rfl, rfl⟩) (w44 hw) (ty := (.object "java/util/List")) (by decide) rfl rfl fun T h448 W Wr448 => ?_
  have K448 : Keep h443 h448 [x] := Keep.of_wr Wr448
  refine k_aloadN W d_prog_1_1_26 rfl rfl ?_
  refine k_aloadN W d_prog_1_1_27 rfl rfl ?_
  have f449 := ((((((G2.keep K435 nin0).keep K436 (ninS ne437 nin0)).other Wr440 (Or.inr (slot_ne (Or.inr (w97 hw)) (Or.inr (w91 hw)) (by decide) (t := (.object "java/util/Map")) (t' := (.object "java/util/Map")) (by decide) (by decide)))).keep K442 nin0).keep K443 (ninS ne445 nin0)).other Wr448 (Or.inr (slot_ne (Or.inr (w97 hw)) (Or.inr (w95 hw)) (by decide) (t := (.object "java/util/Map")) (t' := (.object "java/util/List")) (by decide) (by decide))))
  have f450 := (f447.keep K448)
  refine k_putF W d_prog_1_1_28 (w96 hw) Via.refl (v' := .null) (List.mem_of_getElem? (i := 2) rfl) f449 f450 (Or.inr ⟨(w97 hw), rfl, rfl⟩) (w44 hw) (ty := (.object "java/util/Map")) (by decide) rfl rfl fun T h451 W Wr451 => ?_
  have K451 : Keep h448 h451 [x] := Keep.of_wr Wr451
  refine k_aloadN W d_prog_1_1_31 rfl rfl ?_
  refine k_aload W d_prog_1_1_32 rfl rfl ?_
  have f452 := (((((((G3.keep K435 nin0).keep K436 (ninS ne437 nin0)).other Wr440 (Or.inr (slot_ne (Or.inr (w99 hw)) (Or.inr (w91 hw)) (by decide) (t := (.object "java/lang/String")) (t' := (.object "java/util/Map")) (by decide) (by decide)))).keep K442 nin0).keep K443 (ninS ne445 nin0)).other Wr448 (Or.inr (slot_ne (Or.inr (w99 hw)) (Or.inr (w95 hw)) (by decide) (t := (.object "java/lang/String")) (t' := (.object "java/util/List")) (by decide) (by decide)))).other Wr451 (Or.inr (slot_ne (Or.inr (w99 hw)) (Or.inr (w97 hw)) (by decide) (t := (.object "java/lang/String")) (t' := (.object "java/util/Map")) (by decide) (by decide))))
  have f453 := (f450.keep K451)
  refine k_putF W d_prog_1_1_34 (w98 hw) Via.refl (v' := (.ref sy)) (List.mem_of_getElem? (i := 2) rfl) f452 f453 (Or.inr ⟨(w99 hw), rfl, rfl⟩) (w44 hw) (ty := (.object "java/lang/String")) (by decide) rfl rfl fun T h454 W Wr454 => ?_
  have K454 : Keep h451 h454 [x] := Keep.of_wr Wr454
  refine k_aloadN W d_prog_1_1_37 rfl rfl ?_
  have f456 := ((((((((EY.keep K435).keep K436).keep K440).keep K442).keep K443).keep K448).keep K451).keep K454)
  have ne457 : y ≠ a435 := (Nat.ne_of_lt (Nat.lt_of_lt_of_le EY.lt (Nat.le_of_eq g435.symm)))
  have ne458 : y ≠ x := (ne_exa f456 (f453.keep K454) (by decide))
  have ne459 : y ≠ a442 := (Nat.ne_of_lt (Nat.lt_of_lt_of_le (Nat.lt_of_lt_of_le EY.lt (Nat.le_trans (Nat.le_trans E435.1 K436.1) K440.1)) (Nat.le_of_eq g442.symm)))
  have f460 := ((((((((F4.keep K435 nin0).keep K436 (ninS ne457 nin0)).keep K440 (ninS ne458 nin0)).keep K442 nin0).keep K443 (ninS ne459 nin0)).keep K448 (ninS ne458 nin0)).keep K451 (ninS ne458 nin0)).keep K454 (ninS ne458 nin0))
  refine k_callF W 0 3 15 (argsL := []) (rest := []) (a := y) (C := "java/util/ArrayList") (z0 := (⟨"java/util/List", "iterator", "()Ljava/util/Iterator;"⟩ : MethodName)) (z := (⟨"java/util/ArrayList", "iterator", "()Ljava/util/Iterator;"⟩ : MethodName)) d_prog_1_1_38 (w100 hw) (w101 hw) (w102 hw) (w103 hw) (w104 hw) (w105 hw) (w106 hw) (w107 hw) (by decide) (lenOf pd23 rfl) f456 (ct_iter l Z a0 hw n0 h454 y f456 f460) (w108 hw) (w48 hw) (fun x hx => nomatch hx) rfl (Nat.le_of_eq rfl) (Nat.le_of_ble_eq_true rfl) (Nat.le_of_ble_eq_true rfl) ⟨rfl, Nat.le_of_ble_eq_true rfl⟩ ⟨rfl, Nat.le_of_ble_eq_true rfl⟩ rfl (fun _ _ ⟨_, q, _⟩ => nomatch q) fun T h455 v so W hQ => ?_
  obtain ⟨x455, hv, g455, K455, E455, T455, C455⟩ := hQ
  obtain rfl := Option.some.inj hv
  refine k_astore W d_prog_1_1_43 rfl (L' := #[.val (.ref x), .val (.ref y), .val .null, .val .null, .val (.ref sy), .val (.ref x455), .unset, .unset]) rfl ?_
  refine k_aload W d_prog_1_1_45 rfl rfl ?_
  have f461 := (((((((((F5.keep K435 nin0).keep K436 (ninS ne457 nin0)).keep K440 (ninS ne458 nin0)).keep K442 nin0).keep K443 (ninS ne459 nin0)).keep K448 (ninS ne458 nin0)).keep K451 (ninS ne458 nin0)).keep K454 (ninS ne458 nin0)).keep K455 nin0)
  refine k_callF W 0 3 15 (argsL := []) (rest := []) (a := x455) (C := "java/util/ArrayList$Itr") (z0 := (⟨"java/util/Iterator", "hasNext", "()Z"⟩ : MethodName)) (z := (⟨"java/util/ArrayList$Itr", "hasNext", "()Z"⟩ : MethodName)) d_prog_1_1_47 (w125 hw) (w126 hw) (w127 hw) (w128 hw) (w129 hw) (w130 hw) (w131 hw) (w132 hw) (by decide) (lenOf pd16 rfl) E455 (ct_hasN l Z a0 hw n0 h455 x455 y T455 C455 f461) (w133 hw) (w111 hw) (fun x hx => nomatch hx) rfl (Nat.le_of_eq rfl) (Nat.le_of_ble_eq_true rfl) (Nat.le_of_ble_eq_true rfl) ⟨rfl, Nat.le_of_ble_eq_true rfl⟩ ⟨rfl, Nat.le_of_ble_eq_true rfl⟩ rfl (fun _ _ q => nomatch q.1) fun T h462 v so W hQ => ?_
  obtain ⟨hv, rfl, -⟩ := hQ
  obtain rfl := Option.some.inj hv
  refine k_ifY W 257 d_prog_1_1_52 (by decide) (show (0 : Int32) = 0 by decide) ?_
  have KK463 : Keep h0 h434 [x] := (Keep.refl h0 [x]).trans K435 all0
  have KK464 : Keep h0 h436 [x] := KK463.trans K436 (allS (Or.inr (Nat.le_of_eq g435.symm)) all0)
  have KK465 : Keep h0 h440 [x] := KK464.trans K440 (allS (Or.inl (List.mem_of_getElem? (i := 0) rfl)) all0)
  have KK466 : Keep h0 h441 [x] := KK465.trans K442 all0
  have KK467 : Keep h0 h443 [x] := KK466.trans K443 (allS (Or.inr (Nat.le_trans (Nat.le_trans (Nat.le_trans E435.1 K436.1) K440.1) (Nat.le_of_eq g442.symm))) all0)
  have KK468 : Keep h0 h448 [x] := KK467.trans K448 (allS (Or.inl (List.mem_of_getElem? (i := 0) rfl)) all0)
  have KK469 : Keep h0 h451 [x] := KK468.trans K451 (allS (Or.inl (List.mem_of_getElem? (i := 0) rfl)) all0)
  have KK470 : Keep h0 h454 [x] := KK469.trans K454 (allS (Or.inl (List.mem_of_getElem? (i := 0) rfl)) all0)
  have KK471 : Keep h0 h455 [x] := KK470.trans K455 all0
  have f472 := ((Fld.same Wr454 f452).keep K455 nin0)
  exact k_ret W d_prog_1_1_257 rfl [] (fun x hx => nomatch hx) (Nat.le_of_ble_eq_true rfl) (Nat.le_of_ble_eq_true rfl) ⟨rfl, KK471, f472⟩
set_option maxRecDepth 65536 in
set_option maxHeartbeats 40000000 in
theorem ct_thr (l : Launch) (Z : State) (a0 : Array Value) (hw : ∀ d ∈ tables_1, d.before a0 Z = true) (n0 : Nat) (h0 : Heap) (x y us : Addr) (sen : Value) (EX : Exa Z h0 x "com/example/epochmark/epochmark/cli/UsageException") (UN : Unt h0 x) (G0 : Fld Z h0 x "java/lang/Throwable" "cause" "Ljava/lang/Throwable;" .null) (G1 : Fld Z h0 x "java/lang/Throwable" "stackTrace" "[Ljava/lang/StackTraceElement;" .null) (G2 : Fld Z h0 x "java/lang/Throwable" "suppressedExceptions" "Ljava/util/List;" .null) (G3 : Fld Z h0 x "java/lang/Throwable" "detailMessage" "Ljava/lang/String;" .null) (G4 : Fld Z h0 x "java/lang/Throwable" "backtrace" "Ljava/lang/Object;" .null) (hlst : l.stackTraces = true) (TH0 : ThS Z h0) (UNS : Sta Z h0 "java/lang/Throwable" "UNASSIGNED_STACK" "[Ljava/lang/StackTraceElement;" (.ref us)) (SEN : Sta Z h0 "java/lang/Throwable" "SUPPRESSED_SENTINEL" "Ljava/util/List;" sen) (hsen : sen.isRef = true) : CtX l Z a0 own_EL false (⟨"java/lang/Throwable", "<init>", "(Ljava/lang/String;)V"⟩ : MethodName) jdk_78_method_2_code 2 (Option.none : Option Jvm.ClassFile.FieldType) ({ frames := 3, cells := 1, slots := 2752, locals := 42 } : Room) #[(.ref x), (.ref y)] h0 [x] n0 (fun v h so => v = none ∧ Keep h0 h [x] ∧ Fld Z h x "java/lang/Throwable" "detailMessage" "Ljava/lang/String;" (.ref y)) := by
  refine CtX.body (plainFor_of_name pn14) ?_
  intro p e s m below meth c T W hs0 hTK hBl
  refine WP.cast (g' := (mkF m 0 #[.val (.ref x), .val (.ref y)] [])) (by simp [entryFrame, mkF, argsToLocals, cat_i, cat_l, cat_r, cat_n]) ?_
  refine k_aloadN W d_jdk_78_2_0 rfl rfl ?_
  refine k_initO W 0 d_jdk_78_2_1 (w271 hw) (w19 hw) (w20 hw) rfl (Nat.le_of_eq rfl) (Nat.le_of_ble_eq_true rfl) (Nat.le_of_ble_eq_true rfl) fun T W => ?_
  refine k_aloadN W d_jdk_78_2_4 rfl rfl ?_
  refine k_aloadN W d_jdk_78_2_5 rfl rfl ?_
  refine k_putF W d_jdk_78_2_6 (w272 hw) Via.refl (v' := (.ref x)) (List.mem_of_getElem? (i := 0) rfl) G0 EX (Or.inl (w273 hw)) (w144 hw) (ty := (.object "java/lang/Throwable")) (by decide) rfl rfl fun T h473 W Wr473 => ?_
  have K473 : Keep h0 h473 [x] := Keep.of_wr Wr473
  refine k_aloadN W d_jdk_78_2_9 rfl rfl ?_
  have f474 := (Sta.keep UNS K473 (nsS (Exa.plain EX) ns0))
  refine k_getS W d_jdk_78_2_10 (w274 hw) Via.refl f474 fun T W => ?_
  have f475 := (G1.other Wr473 (Or.inr (slot_ne (Or.inl (w276 hw)) (Or.inl (w273 hw)) (by decide) (t := (.array (.object "java/lang/StackTraceElement"))) (t' := (.object "java/lang/Throwable")) (by decide) (by decide))))
  have f476 := (EX.keep K473)
  refine k_putF W d_jdk_78_2_13 (w275 hw) Via.refl (v' := (.ref us)) (List.mem_of_getElem? (i := 0) rfl) f475 f476 (Or.inl (w276 hw)) (w144 hw) (ty := (.array (.object "java/lang/StackTraceElement"))) (by decide) rfl rfl fun T h477 W Wr477 => ?_
  have K477 : Keep h473 h477 [x] := Keep.of_wr Wr477
  refine k_aloadN W d_jdk_78_2_16 rfl rfl ?_
  have f478 := (Sta.keep (Sta.keep SEN K473 (nsS (Exa.plain EX) ns0)) K477 (nsS (Exa.plain f476) ns0))
  refine k_getS W d_jdk_78_2_17 (w277 hw) Via.refl f478 fun T W => ?_
  have f479 := ((G2.other Wr473 (Or.inr (slot_ne (Or.inl (w279 hw)) (Or.inl (w273 hw)) (by decide) (t := (.object "java/util/List")) (t' := (.object "java/lang/Throwable")) (by decide) (by decide)))).other Wr477 (Or.inr (slot_ne (Or.inl (w279 hw)) (Or.inl (w276 hw)) (by decide) (t := (.object "java/util/List")) (t' := (.array (.object "java/lang/StackTraceElement"))) (by decide) (by decide))))
  have f480 := (f476.keep K477)
  refine k_putF W d_jdk_78_2_20 (w278 hw) Via.refl (v' := sen) (List.mem_of_getElem? (i := 0) rfl) f479 f480 (Or.inl (w279 hw)) (w144 hw) (ty := (.object "java/util/List")) (by decide) (nar_refv hsen rfl) (fits_refv hsen rfl) fun T h481 W Wr481 => ?_
  have K481 : Keep h477 h481 [x] := Keep.of_wr Wr481
  refine k_aloadN W d_jdk_78_2_23 rfl rfl ?_
  have f482 := (f480.keep K481)
  have f483 := (Unt.wr Wr481 (Unt.wr Wr477 (Unt.wr Wr473 UN)))
  have f484 := (((G4.other Wr473 (Or.inr (slot_ne (Or.inl (w304 hw)) (Or.inl (w273 hw)) (by decide) (t := (.object "java/lang/Object")) (t' := (.object "java/lang/Throwable")) (by decide) (by decide)))).other Wr477 (Or.inr (slot_ne (Or.inl (w304 hw)) (Or.inl (w276 hw)) (by decide) (t := (.object "java/lang/Object")) (t' := (.array (.object "java/lang/StackTraceElement"))) (by decide) (by decide)))).other Wr481 (Or.inr (slot_ne (Or.inl (w304 hw)) (Or.inl (w279 hw)) (by decide) (t := (.object "java/lang/Object")) (t' := (.object "java/util/List")) (by decide) (by decide))))
  have f485 := ((Fld.same Wr477 f475).other Wr481 (Or.inr (slot_ne (Or.inl (w276 hw)) (Or.inl (w279 hw)) (by decide) (t := (.array (.object "java/lang/StackTraceElement"))) (t' := (.object "java/util/List")) (by decide) (by decide))))
  have f486 := (Sta.keep (Sta.keep f474 K477 (nsS (Exa.plain f476) ns0)) K481 (nsS (Exa.plain f480) ns0))
  refine k_fill W 0 1 2752 d_jdk_78_2_24 rfl hlst (by decide) (own_wx hw) (w144 hw) hs0 TH0 hTK hBl (List.mem_of_getElem? (i := 0) rfl) f482 f483 f484 f485 f486 rfl (Nat.le_of_eq rfl) (Nat.le_of_ble_eq_true rfl) (Nat.le_of_ble_eq_true rfl) ⟨rfl, Nat.le_of_ble_eq_true rfl⟩ ⟨rfl, Nat.le_of_ble_eq_true rfl⟩ fun T h487 W K487 => ?_
  refine k_pop W d_jdk_78_2_27 rfl ?_
  refine k_aloadN W d_jdk_78_2_28 rfl rfl ?_
  refine k_aloadN W d_jdk_78_2_29 rfl rfl ?_
  have f488 := (Kn.keep (Kn.keep (Kn.keep (Kn.keep (Kn.of UN) K473) K477) K481) K487)
  have f489 := (f482.keep K487)
  obtain ⟨lv, LV⟩ := Kn.fld f488 f489 (w144 hw) (Or.inl (w303 hw))
  refine k_putF W d_jdk_78_2_30 (w307 hw) Via.refl (v' := (.ref y)) (List.mem_of_getElem? (i := 0) rfl) LV f489 (Or.inl (w303 hw)) (w144 hw) (ty := (.object "java/lang/String")) (by decide) rfl rfl fun T h490 W Wr490 => ?_
  have K490 : Keep h487 h490 [x] := Keep.of_wr Wr490
  have KK491 : Keep h0 h473 [x] := (Keep.refl h0 [x]).trans K473 (allS (Or.inl (List.mem_of_getElem? (i := 0) rfl)) all0)
  have KK492 : Keep h0 h477 [x] := KK491.trans K477 (allS (Or.inl (List.mem_of_getElem? (i := 0) rfl)) all0)
  have KK493 : Keep h0 h481 [x] := KK492.trans K481 (allS (Or.inl (List.mem_of_getElem? (i := 0) rfl)) all0)
  have KK494 : Keep h0 h487 [x] := KK493.trans K487 (allS (Or.inl (List.mem_of_getElem? (i := 0) rfl)) all0)
  have KK495 : Keep h0 h490 [x] := KK494.trans K490 (allS (Or.inl (List.mem_of_getElem? (i := 0) rfl)) all0)
  exact k_ret W d_jdk_78_2_33 rfl [] (fun x hx => nomatch hx) (Nat.le_of_ble_eq_true rfl) (Nat.le_of_ble_eq_true rfl) ⟨rfl, KK495, (Fld.same Wr490 LV)⟩
set_option maxRecDepth 65536 in
set_option maxHeartbeats 40000000 in
theorem ct_exc (l : Launch) (Z : State) (a0 : Array Value) (hw : ∀ d ∈ tables_1, d.before a0 Z = true) (n0 : Nat) (h0 : Heap) (x y us : Addr) (sen : Value) (EX : Exa Z h0 x "com/example/epochmark/epochmark/cli/UsageException") (UN : Unt h0 x) (G0 : Fld Z h0 x "java/lang/Throwable" "cause" "Ljava/lang/Throwable;" .null) (G1 : Fld Z h0 x "java/lang/Throwable" "stackTrace" "[Ljava/lang/StackTraceElement;" .null) (G2 : Fld Z h0 x "java/lang/Throwable" "suppressedExceptions" "Ljava/util/List;" .null) (G3 : Fld Z h0 x "java/lang/Throwable" "detailMessage" "Ljava/lang/String;" .null) (G4 : Fld Z h0 x "java/lang/Throwable" "backtrace" "Ljava/lang/Object;" .null) (hlst : l.stackTraces = true) (TH0 : ThS Z h0) (UNS : Sta Z h0 "java/lang/Throwable" "UNASSIGNED_STACK" "[Ljava/lang/StackTraceElement;" (.ref us)) (SEN : Sta Z h0 "java/lang/Throwable" "SUPPRESSED_SENTINEL" "Ljava/util/List;" sen) (hsen : sen.isRef = true) : CtX l Z a0 own_EL false (⟨"java/lang/Exception", "<init>", "(Ljava/lang/String;)V"⟩ : MethodName) jdk_59_method_2_code 2 (Option.none : Option Jvm.ClassFile.FieldType) ({ frames := 4, cells := 1, slots := 2752, locals := 55 } : Room) #[(.ref x), (.ref y)] h0 [x] n0 (fun v h so => v = none ∧ Keep h0 h [x] ∧ Fld Z h x "java/lang/Throwable" "detailMessage" "Ljava/lang/String;" (.ref y)) := by
  refine CtX.body (plainFor_of_name pn15) ?_
  intro p e s m below meth c T W hs0 hTK hBl
  refine WP.cast (g' := (mkF m 0 #[.val (.ref x), .val (.ref y)] [])) (by simp [entryFrame, mkF, argsToLocals, cat_i, cat_l, cat_r, cat_n]) ?_
  refine k_aloadN W d_jdk_59_2_0 rfl rfl ?_
  refine k_aloadN W d_jdk_59_2_1 rfl rfl ?_
  refine k_callIX0 W 0 1 2752 (argsL := [(.ref y)]) (rest := []) (a := x) d_jdk_59_2_2 rfl rfl (w265 hw) (w266 hw) (by decide) (lenOf pd7 rfl) hTK hBl (ct_thr l Z a0 hw n0 h0 x y us sen EX UN G0 G1 G2 G3 G4 hlst TH0 UNS SEN hsen) (w270 hw) (w269 hw) (fun x hx => hx) rfl (Nat.le_of_eq rfl) (Nat.le_of_ble_eq_true rfl) (Nat.le_of_ble_eq_true rfl) ⟨rfl, Nat.le_of_ble_eq_true rfl⟩ ⟨rfl, Nat.le_of_ble_eq_true rfl⟩ rfl (fun _ _ _ q => nomatch q.1) fun T h496 so W hQ => ?_
  obtain ⟨-, K496, D496⟩ := hQ
  have KK497 : Keep h0 h496 [x] := (Keep.refl h0 [x]).trans K496 (allS (Or.inl (List.mem_of_getElem? (i := 0) rfl)) all0)
  exact k_ret W d_jdk_59_2_5 rfl [] (fun x hx => nomatch hx) (Nat.le_of_ble_eq_true rfl) (Nat.le_of_ble_eq_true rfl) ⟨rfl, KK497, D496⟩
set_option maxRecDepth 65536 in
set_option maxHeartbeats 40000000 in
theorem ct_uex (l : Launch) (Z : State) (a0 : Array Value) (hw : ∀ d ∈ tables_1, d.before a0 Z = true) (n0 : Nat) (h0 : Heap) (u : Addr) (x y us : Addr) (sen : Value) (EX : Exa Z h0 x "com/example/epochmark/epochmark/cli/UsageException") (UN : Unt h0 x) (G0 : Fld Z h0 x "java/lang/Throwable" "cause" "Ljava/lang/Throwable;" .null) (G1 : Fld Z h0 x "java/lang/Throwable" "stackTrace" "[Ljava/lang/StackTraceElement;" .null) (G2 : Fld Z h0 x "java/lang/Throwable" "suppressedExceptions" "Ljava/util/List;" .null) (G3 : Fld Z h0 x "java/lang/Throwable" "detailMessage" "Ljava/lang/String;" .null) (G4 : Fld Z h0 x "java/lang/Throwable" "backtrace" "Ljava/lang/Object;" .null) (hlst : l.stackTraces = true) (TH0 : ThS Z h0) (UNS : Sta Z h0 "java/lang/Throwable" "UNASSIGNED_STACK" "[Ljava/lang/StackTraceElement;" (.ref us)) (SEN : Sta Z h0 "java/lang/Throwable" "SUPPRESSED_SENTINEL" "Ljava/util/List;" sen) (hsen : sen.isRef = true) : CtX l Z a0 own_EL false (⟨"com/example/epochmark/epochmark/cli/UsageException", "<init>", "(Ljava/lang/String;Ljava/lang/String;)V"⟩ : MethodName) prog_3_method_1_code 3 (Option.none : Option Jvm.ClassFile.FieldType) ({ frames := 5, cells := 1, slots := 2752, locals := 68 } : Room) #[(.ref x), (.ref y), (.ref u)] h0 [x] n0 (fun v h so => v = none ∧ Keep h0 h [x] ∧ Fld Z h x "java/lang/Throwable" "detailMessage" "Ljava/lang/String;" (.ref y) ∧ Fld Z h x "com/example/epochmark/epochmark/cli/UsageException" "usage" "Ljava/lang/String;" (.ref u)) := by
  refine CtX.body (plainFor_of_name pn16) ?_
  intro p e s m below meth c T W hs0 hTK hBl
  refine WP.cast (g' := (mkF m 0 #[.val (.ref x), .val (.ref y), .val (.ref u)] [])) (by simp [entryFrame, mkF, argsToLocals, cat_i, cat_l, cat_r, cat_n]) ?_
  refine k_aloadN W d_prog_3_1_0 rfl rfl ?_
  refine k_aloadN W d_prog_3_1_1 rfl rfl ?_
  refine k_callIX0 W 0 1 2752 (argsL := [(.ref y)]) (rest := []) (a := x) d_prog_3_1_2 rfl rfl (w260 hw) (w261 hw) (by decide) (lenOf pd7 rfl) hTK hBl (ct_exc l Z a0 hw n0 h0 x y us sen EX UN G0 G1 G2 G3 G4 hlst TH0 UNS SEN hsen) (w264 hw) (w263 hw) (fun x hx => hx) rfl (Nat.le_of_eq rfl) (Nat.le_of_ble_eq_true rfl) (Nat.le_of_ble_eq_true rfl) ⟨rfl, Nat.le_of_ble_eq_true rfl⟩ ⟨rfl, Nat.le_of_ble_eq_true rfl⟩ rfl (fun _ _ _ q => nomatch q.1) fun T h498 so W hQ => ?_
  obtain ⟨-, K498, D498⟩ := hQ
  refine k_aloadN W d_prog_3_1_5 rfl rfl ?_
  refine k_aloadN W d_prog_3_1_6 rfl rfl ?_
  have f499 := (Kn.keep (Kn.of UN) K498)
  have f500 := (EX.keep K498)
  obtain ⟨lv, LV⟩ := Kn.fld f499 f500 (w144 hw) (Or.inr (w309 hw))
  refine k_putF W d_prog_3_1_7 (w308 hw) Via.refl (v' := (.ref u)) (List.mem_of_getElem? (i := 0) rfl) LV f500 (Or.inr ⟨(w309 hw), rfl, rfl⟩) (w144 hw) (ty := (.object "java/lang/String")) (by decide) rfl rfl fun T h501 W Wr501 => ?_
  have K501 : Keep h498 h501 [x] := Keep.of_wr Wr501
  have KK502 : Keep h0 h498 [x] := (Keep.refl h0 [x]).trans K498 (allS (Or.inl (List.mem_of_getElem? (i := 0) rfl)) all0)
  have KK503 : Keep h0 h501 [x] := KK502.trans K501 (allS (Or.inl (List.mem_of_getElem? (i := 0) rfl)) all0)
  have f504 := (D498.other Wr501 (Or.inr (slot_ne (Or.inl (w303 hw)) (Or.inr (w309 hw)) (by decide) (t := (.object "java/lang/String")) (t' := (.object "java/lang/String")) (by decide) (by decide))))
  exact k_ret W d_prog_3_1_10 rfl [] (fun x hx => nomatch hx) (Nat.le_of_ble_eq_true rfl) (Nat.le_of_ble_eq_true rfl) ⟨rfl, KK503, f504, (Fld.same Wr501 LV)⟩
set_option maxRecDepth 65536 in
set_option maxHeartbeats 40000000 in
theorem ct_us0 (l : Launch) (Z : State) (a0 : Array Value) (hw : ∀ d ∈ tables_1, d.before a0 Z = true) (n0 : Nat) (h0 : Heap) (g pr sy b us : Addr) (zc : Int32) (sen : Value) (FY : Fld Z h0 g "com/example/epochmark/epochmark/cli/Arguments" "synopsis" "Ljava/lang/String;" (.ref sy)) (S0 : St Z h0 sy b []) (P0 : Sta Z h0 "java/lang/String" "COMPACT_STRINGS" "Z" (.int zc)) (hzc : zc ≠ 0) (hlst : l.stackTraces = true) (TH0 : ThS Z h0) (UNS : Sta Z h0 "java/lang/Throwable" "UNASSIGNED_STACK" "[Ljava/lang/StackTraceElement;" (.ref us)) (SEN : Sta Z h0 "java/lang/Throwable" "SUPPRESSED_SENTINEL" "Ljava/util/List;" sen) (hsen : sen.isRef = true) : CtX l Z a0 own_EL false (⟨"com/example/epochmark/epochmark/cli/Arguments", "usage", "(Ljava/lang/String;)Lcom/example/epochmark/epochmark/cli/UsageException;"⟩ : MethodName) prog_1_method_6_code 2 (Option.some (Jvm.ClassFile.FieldType.object "com/example/epochmark/epochmark/cli/UsageException")) ({ frames := 6, cells := 8, slots := 2822, locals := 94 } : Room) #[(.ref g), (.ref pr)] h0 [] n0 (fun v h so => ∃ x u bu, v = some (.ref x) ∧ h0.size ≤ x ∧ h0.size ≤ u ∧ Keep h0 h [] ∧ Exa Z h x "com/example/epochmark/epochmark/cli/UsageException" ∧ Fld Z h x "java/lang/Throwable" "detailMessage" "Ljava/lang/String;" (.ref pr) ∧ Fld Z h x "com/example/epochmark/epochmark/cli/UsageException" "usage" "Ljava/lang/String;" (.ref u) ∧ St Z h u bu [(117 : Int32), (115 : Int32), (97 : Int32), (103 : Int32), (101 : Int32), (58 : Int32), (32 : Int32)]) := by
  refine CtX.body (plainFor_of_name pn13) ?_
  intro p e s m below meth c T W hs0 hTK hBl
  refine WP.cast (g' := (mkF m 0 #[.val (.ref g), .val (.ref pr)] [])) (by simp [entryFrame, mkF, argsToLocals, cat_i, cat_l, cat_r, cat_n]) ?_
  refine k_newU W 1 7 d_prog_1_6_0 (w143 hw) (w144 hw) (w145 hw) ⟨rfl, Nat.le_of_ble_eq_true rfl⟩ ⟨rfl, Nat.le_of_ble_eq_true rfl⟩ fun T h505 a506 g506 W E506 X506 D506 U506 => ?_
  have K506 : Keep h0 h505 [] := keep_ext E506 []
  refine k_dup W d_prog_1_6_3 rfl ?_
  refine k_aloadN W d_prog_1_6_4 rfl rfl ?_
  refine k_new W 2 11 d_prog_1_6_5 (w146 hw) (w147 hw) (w148 hw) ⟨rfl, Nat.le_of_ble_eq_true rfl⟩ ⟨rfl, Nat.le_of_ble_eq_true rfl⟩ fun T h507 a508 g508 W E508 X508 D508 => ?_
  have K508 : Keep h505 h507 [] := keep_ext E508 []
  refine k_dup W d_prog_1_6_8 rfl ?_
  have f510 := (Sta.keep (Sta.keep P0 K506 ns0) K508 ns0)
  refine k_callIz W 4 3 27 (argsL := []) (rest := [(.ref a508), (.ref pr), (.ref a506), (.ref a506)]) (a := a508) d_prog_1_6_9 rfl rfl (w149 hw) (w150 hw) (by decide) (lenOf pd21 rfl) (ct_sbini l Z a0 hw n0 h507 a508 zc X508 (D508 (Or.inl (w161 hw)) (ty := (.array .byte)) (by decide)) (D508 (Or.inl (w163 hw)) (ty := .byte) (by decide)) (D508 (Or.inl (w186 hw)) (ty := .int) (by decide)) f510 hzc) (w151 hw) (w148 hw) (fun x hx => by simp only [List.mem_cons, List.not_mem_nil, or_false] at hx; rcases hx with rfl; all_goals first | exact (List.mem_of_getElem? (i := 0) rfl)) rfl (Nat.le_of_eq rfl) (Nat.le_of_ble_eq_true rfl) (Nat.le_of_ble_eq_true rfl) ⟨rfl, Nat.le_of_ble_eq_true rfl⟩ ⟨rfl, Nat.le_of_ble_eq_true rfl⟩ rfl (fun _ _ _ q => nomatch q.1) fun T h509 so W hQ => ?_
  obtain ⟨-, z509, g509, K509, V509, C509, N509, A509, rfl⟩ := hQ
  obtain ⟨cs509, ecs509⟩ : ∃ c : List Int32, c = [] := ⟨_, rfl⟩
  have lcs509 : cs509.length = 0 := by rw [ecs509]; rfl
  have A509 : Av Z h509 z509 .byte (List.map Value.int (cs509 ++ List.replicate 16 (0 : Int32))) := by rw [ecs509]; exact A509
  have N509 : Fld Z h509 a508 "java/lang/AbstractStringBuilder" "count" "I" (.int (Int32.ofNat cs509.length)) := by rw [lcs509]; exact N509
  refine k_ldcS W [(117 : Int32), (115 : Int32), (97 : Int32), (103 : Int32), (101 : Int32), (58 : Int32), (32 : Int32)] 28 5 59 rfl d_prog_1_6_12 (w164 hw) (wS hw) (by decide) ⟨by decide, by decide⟩ (by decide) ⟨by decide, by decide⟩ ⟨rfl, Nat.le_of_ble_eq_true rfl⟩ ⟨rfl, Nat.le_of_ble_eq_true rfl⟩ fun T h511 a511 b511 W E511 S511 N511 => ?_
  have K511 : Keep h509 h511 [] := keep_ext E511 []
  have f512 := (V509.keep K511 nin0)
  have f514 := ((X508.keep K509).keep K511)
  have f515 := (C509.keep K511 nin0)
  have f516 := (N509.keep K511 nin0)
  have f517 := (A509.keep K511 nin0)
  have hb513 : [(117 : Int32), (115 : Int32), (97 : Int32), (103 : Int32), (101 : Int32), (58 : Int32), (32 : Int32)].length = 7 := rfl
  have hf513 : [(117 : Int32), (115 : Int32), (97 : Int32), (103 : Int32), (101 : Int32), (58 : Int32), (32 : Int32)].length ≤ (List.replicate 16 (0 : Int32)).length := by rw [List.length_replicate]; exact Nat.le_of_ble_eq_true rfl
  have ne518 : b511 ≠ z509 := (Ne.symm (N511 _ (List.mem_of_getElem? (i := 0) rfl)).2)
  have f519 := (Sta.keep (Sta.keep f510 K509 (nsS (Exa.plain X508) ns0)) K511 ns0)
  refine k_callV W 3 5 59 (argsL := [(.ref a511)]) (rest := [(.ref pr), (.ref a506), (.ref a506)]) (a := a508) (C := "java/lang/StringBuilder") (z0 := (⟨"java/lang/StringBuilder", "append", "(Ljava/lang/String;)Ljava/lang/StringBuilder;"⟩ : MethodName)) (z := (⟨"java/lang/StringBuilder", "append", "(Ljava/lang/String;)Ljava/lang/StringBuilder;"⟩ : MethodName)) d_prog_1_6_14 (w165 hw) (w166 hw) (nfSel (w168 hw)) (w168 hw) (w167 hw) (by decide) (lenOf pd24 rfl) f514 (ct_sapSF l Z a0 hw n0 h511 a508 z509 cs509 (List.replicate 16 (0 : Int32)) a511 b511 [(117 : Int32), (115 : Int32), (97 : Int32), (103 : Int32), (101 : Int32), (58 : Int32), (32 : Int32)] zc hf513 ne518 f514 f512 f515 f516 f517 S511 f519 hzc) (w169 hw) (w148 hw) (fun x hx => by simp only [List.mem_cons, List.not_mem_nil, or_false] at hx; rcases hx with rfl | rfl; all_goals first | exact (List.mem_of_getElem? (i := 1) rfl) | exact (List.mem_of_getElem? (i := 0) rfl)) rfl (Nat.le_of_eq rfl) (Nat.le_of_ble_eq_true rfl) (Nat.le_of_ble_eq_true rfl) ⟨rfl, Nat.le_of_ble_eq_true rfl⟩ ⟨rfl, Nat.le_of_ble_eq_true rfl⟩ rfl (fun _ _ q => nomatch q.1) fun T h513 v so W hQ => ?_
  obtain ⟨hv, K513, V513, C513, N513, A513⟩ := hQ
  obtain rfl := Option.some.inj hv
  obtain ⟨cs513, ecs513⟩ : ∃ c : List Int32, c = cs509 ++ [(117 : Int32), (115 : Int32), (97 : Int32), (103 : Int32), (101 : Int32), (58 : Int32), (32 : Int32)] := ⟨_, rfl⟩
  have lcs513 : cs513.length = 7 := by rw [ecs513, List.length_append, lcs509, hb513]
  have A513 : Av Z h513 z509 .byte (List.map Value.int (cs513 ++ List.replicate 9 (0 : Int32))) := by have q := A513; rw [fitD hb513, ← ecs513] at q; exact q
  have N513 : Fld Z h513 a508 "java/lang/AbstractStringBuilder" "count" "I" (.int (Int32.ofNat cs513.length)) := by rw [lcs513]; have q := N513; rw [lcs509] at q; exact q
  refine k_aloadN W d_prog_1_6_17 rfl rfl ?_
  have ne520 : g ≠ a508 := (Nat.ne_of_lt (Nat.lt_of_lt_of_le (Nat.lt_of_lt_of_le FY.lt E506.1) (Nat.le_of_eq g508.symm)))
  have ne521 : g ≠ z509 := (Nat.ne_of_lt (Nat.lt_of_lt_of_le (Nat.lt_of_lt_of_le FY.lt (Nat.le_trans E506.1 E508.1)) g509))
  have f522 := (((((FY.keep K506 nin0).keep K508 nin0).keep K509 (ninS ne520 nin0)).keep K511 nin0).keep K513 (ninS ne520 (ninS ne521 nin0)))
  refine k_getF W d_prog_1_6_18 (host := "") (Or.inl (w98 hw)) Via.refl f522 fun T W => ?_
  have ne523 : sy ≠ a508 := (Nat.ne_of_lt (Nat.lt_of_lt_of_le (Nat.lt_of_lt_of_le S0.1.lt E506.1) (Nat.le_of_eq g508.symm)))
  have ne524 : b ≠ a508 := (Nat.ne_of_lt (Nat.lt_of_lt_of_le (Nat.lt_of_lt_of_le S0.2.2.2.lt E506.1) (Nat.le_of_eq g508.symm)))
  have ne525 : sy ≠ z509 := (Nat.ne_of_lt (Nat.lt_of_lt_of_le (Nat.lt_of_lt_of_le S0.1.lt (Nat.le_trans E506.1 E508.1)) g509))
  have ne526 : b ≠ z509 := (Nat.ne_of_lt (Nat.lt_of_lt_of_le (Nat.lt_of_lt_of_le S0.2.2.2.lt (Nat.le_trans E506.1 E508.1)) g509))
  have f527 := (((((S0.keep K506 nin0 nin0).keep K508 nin0 nin0).keep K509 (ninS ne523 nin0) (ninS ne524 nin0)).keep K511 nin0 nin0).keep K513 (ninS ne523 (ninS ne525 nin0)) (ninS ne524 (ninS ne526 nin0)))
  have f529 := (f514.keep K513)
  have hb528 : ([] : List Int32).length = 0 := rfl
  have hf528 : ([] : List Int32).length ≤ (List.replicate 9 (0 : Int32)).length := by rw [List.length_replicate]; exact Nat.le_of_ble_eq_true rfl
  have f530 := (Sta.keep f519 K513 (nsS (Exa.plain f514) (nsS (Av.plain f517) ns0)))
  refine k_callV W 3 5 59 (argsL := [(.ref sy)]) (rest := [(.ref pr), (.ref a506), (.ref a506)]) (a := a508) (C := "java/lang/StringBuilder") (z0 := (⟨"java/lang/StringBuilder", "append", "(Ljava/lang/String;)Ljava/lang/StringBuilder;"⟩ : MethodName)) (z := (⟨"java/lang/StringBuilder", "append", "(Ljava/lang/String;)Ljava/lang/StringBuilder;"⟩ : MethodName)) d_prog_1_6_21 (w165 hw) (w166 hw) (nfSel (w168 hw)) (w168 hw) (w167 hw) (by decide) (lenOf pd24 rfl) f529 (ct_sapSF l Z a0 hw n0 h513 a508 z509 cs513 (List.replicate 9 (0 : Int32)) sy b [] zc hf528 ne526 f529 V513 C513 N513 A513 f527 f530 hzc) (w169 hw) (w148 hw) (fun x hx => by simp only [List.mem_cons, List.not_mem_nil, or_false] at hx; rcases hx with rfl | rfl; all_goals first | exact (List.mem_of_getElem? (i := 1) rfl) | exact (List.mem_of_getElem? (i := 0) rfl)) rfl (Nat.le_of_eq rfl) (Nat.le_of_ble_eq_true rfl) (Nat.le_of_ble_eq_true rfl) ⟨rfl, Nat.le_of_ble_eq_true rfl⟩ ⟨rfl, Nat.le_of_ble_eq_true rfl⟩ rfl (fun _ _ q => nomatch q.1) fun T h528 v so W hQ => ?_
  obtain ⟨hv, K528, V528, C528, N528, A528⟩ := hQ
  obtain rfl := Option.some.inj hv
  obtain ⟨cs528, ecs528⟩ : ∃ c : List Int32, c = cs513 ++ ([] : List Int32) := ⟨_, rfl⟩
  have lcs528 : cs528.length = 7 := by rw [ecs528, List.length_append, lcs513, hb528]
  have A528 : Av Z h528 z509 .byte (List.map Value.int (cs528 ++ List.replicate 9 (0 : Int32))) := by have q := A528; rw [fitD hb528, ← ecs528] at q; exact q
  have N528 : Fld Z h528 a508 "java/lang/AbstractStringBuilder" "count" "I" (.int (Int32.ofNat cs528.length)) := by rw [lcs528]; have q := N528; rw [lcs513] at q; exact q
  have hr531 : 0 < (List.replicate 9 (0 : Int32)).length := by rw [List.length_replicate]; decide
  have hN531 : cs528.length ≤ 7 := by rw [lcs528]; decide
  have f532 := (f529.keep K528)
  have f533 := (Sta.keep f530 K528 (nsS (Exa.plain f529) (nsS (Av.plain A513) ns0)))
  refine k_callV W 3 7 70 (argsL := []) (rest := [(.ref pr), (.ref a506), (.ref a506)]) (a := a508) (C := "java/lang/StringBuilder") (z0 := (⟨"java/lang/StringBuilder", "toString", "()Ljava/lang/String;"⟩ : MethodName)) (z := (⟨"java/lang/StringBuilder", "toString", "()Ljava/lang/String;"⟩ : MethodName)) d_prog_1_6_24 (w212 hw) (w213 hw) (nfSel (w215 hw)) (w215 hw) (w214 hw) (by decide) (lenOf pd25 rfl) f532 (ct_sbts l Z a0 hw n0 h528 a508 z509 cs528 (List.replicate 9 (0 : Int32)) 7 zc hr531 hN531 (by decide) f532 V528 C528 N528 A528 f533 hzc) (w216 hw) (w148 hw) (fun x hx => nomatch hx) rfl (Nat.le_of_eq rfl) (Nat.le_of_ble_eq_true rfl) (Nat.le_of_ble_eq_true rfl) ⟨rfl, Nat.le_of_ble_eq_true rfl⟩ ⟨rfl, Nat.le_of_ble_eq_true rfl⟩ rfl (fun _ _ ⟨_, _, q, _⟩ => nomatch q) fun T h531 v so W hQ => ?_
  obtain ⟨y531, b531, hv, g531, gb531, K531, S531⟩ := hQ
  obtain rfl := Option.some.inj hv
  have S531 : St Z h531 y531 b531 [(117 : Int32), (115 : Int32), (97 : Int32), (103 : Int32), (101 : Int32), (58 : Int32), (32 : Int32)] := by have q := S531; rw [ecs528, ecs513, ecs509] at q; simp only [List.nil_append, List.append_assoc, List.cons_append] at q; exact q
  have f535 := (Sta.keep (Sta.keep (Sta.keep (Sta.keep (Sta.keep (Sta.keep (Sta.keep UNS K506 ns0) K508 ns0) K509 (nsS (Exa.plain X508) ns0)) K511 ns0) K513 (nsS (Exa.plain f514) (nsS (Av.plain f517) ns0))) K528 (nsS (Exa.plain f529) (nsS (Av.plain A513) ns0))) K531 ns0)
  have f536 := (Sta.keep (Sta.keep (Sta.keep (Sta.keep (Sta.keep (Sta.keep (Sta.keep SEN K506 ns0) K508 ns0) K509 (nsS (Exa.plain X508) ns0)) K511 ns0) K513 (nsS (Exa.plain f514) (nsS (Av.plain f517) ns0))) K528 (nsS (Exa.plain f529) (nsS (Av.plain A513) ns0))) K531 ns0)
  have f537 := ((((((X506.keep K508).keep K509).keep K511).keep K513).keep K528).keep K531)
  have ne538 : a506 ≠ a508 := (Nat.ne_of_lt (Nat.lt_of_lt_of_le X506.lt (Nat.le_of_eq g508.symm)))
  have ne539 : a506 ≠ z509 := (Nat.ne_of_lt (Nat.lt_of_lt_of_le (Nat.lt_of_lt_of_le X506.lt E508.1) g509))
  have f540 := (Unt.keep K531 nin0 (Unt.keep K528 (ninS ne538 (ninS ne539 nin0)) (Unt.keep K513 (ninS ne538 (ninS ne539 nin0)) (Unt.keep K511 nin0 (Unt.keep K509 (ninS ne538 nin0) (Unt.keep K508 nin0 U506))))))
  have f541 := (((((((D506 (Or.inl (w273 hw)) (ty := (.object "java/lang/Throwable")) (by decide)).keep K508 nin0).keep K509 (ninS ne538 nin0)).keep K511 nin0).keep K513 (ninS ne538 (ninS ne539 nin0))).keep K528 (ninS ne538 (ninS ne539 nin0))).keep K531 nin0)
  have f542 := (((((((D506 (Or.inl (w276 hw)) (ty := (.array (.object "java/lang/StackTraceElement"))) (by decide)).keep K508 nin0).keep K509 (ninS ne538 nin0)).keep K511 nin0).keep K513 (ninS ne538 (ninS ne539 nin0))).keep K528 (ninS ne538 (ninS ne539 nin0))).keep K531 nin0)
  have f543 := (((((((D506 (Or.inl (w279 hw)) (ty := (.object "java/util/List")) (by decide)).keep K508 nin0).keep K509 (ninS ne538 nin0)).keep K511 nin0).keep K513 (ninS ne538 (ninS ne539 nin0))).keep K528 (ninS ne538 (ninS ne539 nin0))).keep K531 nin0)
  have f544 := (((((((D506 (Or.inl (w303 hw)) (ty := (.object "java/lang/String")) (by decide)).keep K508 nin0).keep K509 (ninS ne538 nin0)).keep K511 nin0).keep K513 (ninS ne538 (ninS ne539 nin0))).keep K528 (ninS ne538 (ninS ne539 nin0))).keep K531 nin0)
  have f545 := (((((((D506 (Or.inl (w304 hw)) (ty := (.object "java/lang/Object")) (by decide)).keep K508 nin0).keep K509 (ninS ne538 nin0)).keep K511 nin0).keep K513 (ninS ne538 (ninS ne539 nin0))).keep K528 (ninS ne538 (ninS ne539 nin0))).keep K531 nin0)
  have f546 := (ThS.keep K531 ns0 (ThS.keep K528 (nsS (Exa.plain f529) (nsS (Av.plain A513) ns0)) (ThS.keep K513 (nsS (Exa.plain f514) (nsS (Av.plain f517) ns0)) (ThS.keep K511 ns0 (ThS.keep K509 (nsS (Exa.plain X508) ns0) (ThS.keep K508 ns0 (ThS.keep K506 ns0 TH0)))))))
  refine k_callIX0 W 1 8 2822 (argsL := [(.ref pr), (.ref y531)]) (rest := [(.ref a506)]) (a := a506) d_prog_1_6_27 rfl rfl (w257 hw) (w258 hw) (by decide) (lenOf pd26 rfl) hTK hBl (ct_uex l Z a0 hw n0 h531 y531 a506 pr us sen f537 f540 f541 f542 f543 f544 f545 hlst f546 f535 f536 hsen) (w259 hw) (w145 hw) (fun x hx => by simp only [List.mem_cons, List.not_mem_nil, or_false] at hx; rcases hx with rfl; all_goals first | exact (List.mem_of_getElem? (i := 2) rfl)) rfl (Nat.le_of_eq rfl) (Nat.le_of_ble_eq_true rfl) (Nat.le_of_ble_eq_true rfl) ⟨rfl, Nat.le_of_ble_eq_true rfl⟩ ⟨rfl, Nat.le_of_ble_eq_true rfl⟩ rfl (fun _ _ _ q => nomatch q.1) fun T h534 so W hQ => ?_
  obtain ⟨-, K534, D534, G534⟩ := hQ
  have ne547 : y531 ≠ a506 := (Ne.symm (Nat.ne_of_lt (Nat.lt_of_lt_of_le (Nat.lt_of_lt_of_le X506.lt (Nat.le_trans (Nat.le_trans (Nat.le_trans (Nat.le_trans E508.1 K509.1) E511.1) K513.1) K528.1)) g531)))
  have ne548 : b531 ≠ a506 := (Ne.symm (Nat.ne_of_lt (Nat.lt_of_lt_of_le (Nat.lt_of_lt_of_le X506.lt (Nat.le_trans (Nat.le_trans (Nat.le_trans (Nat.le_trans E508.1 K509.1) E511.1) K513.1) K528.1)) gb531)))
  have f549 := (S531.keep K534 (ninS ne547 nin0) (ninS ne548 nin0))
  have KK550 : Keep h0 h505 [] := (Keep.refl h0 []).trans K506 all0
  have KK551 : Keep h0 h507 [] := KK550.trans K508 all0
  have KK552 : Keep h0 h509 [] := KK551.trans K509 (allS (Or.inr (Nat.le_trans E506.1 (Nat.le_of_eq g508.symm))) all0)
  have KK553 : Keep h0 h511 [] := KK552.trans K511 all0
  have KK554 : Keep h0 h513 [] := KK553.trans K513 (allS (Or.inr (Nat.le_trans E506.1 (Nat.le_of_eq g508.symm))) (allS (Or.inr (Nat.le_trans (Nat.le_trans E506.1 E508.1) g509)) all0))
  have KK555 : Keep h0 h528 [] := KK554.trans K528 (allS (Or.inr (Nat.le_trans E506.1 (Nat.le_of_eq g508.symm))) (allS (Or.inr (Nat.le_trans (Nat.le_trans E506.1 E508.1) g509)) all0))
  have KK556 : Keep h0 h531 [] := KK555.trans K531 all0
  have KK557 : Keep h0 h534 [] := KK556.trans K534 (allS (Or.inr (Nat.le_of_eq g506.symm)) all0)
  have f558 := (f537.keep K534)
  exact k_areturn W d_prog_1_6_30 rfl rfl rfl [] (fun x hx => nomatch hx) (Nat.le_of_ble_eq_true rfl) (Nat.le_of_ble_eq_true rfl) ⟨_, _, _, rfl, (Nat.le_of_eq g506.symm), (Nat.le_trans (Nat.le_trans (Nat.le_trans (Nat.le_trans (Nat.le_trans (Nat.le_trans E506.1 E508.1) K509.1) E511.1) K513.1) K528.1) g531), KK557, f558, D534, G534, f549⟩
set_option maxRecDepth 65536 in
set_option maxHeartbeats 40000000 in
theorem ct_us1 (l : Launch) (Z : State) (a0 : Array Value) (hw : ∀ d ∈ tables_1, d.before a0 Z = true) (n0 : Nat) (h0 : Heap) (g pr sy b us : Addr) (q0 : Int32) (zc : Int32) (sen : Value) (FY : Fld Z h0 g "com/example/epochmark/epochmark/cli/Arguments" "synopsis" "Ljava/lang/String;" (.ref sy)) (S0 : St Z h0 sy b [q0]) (P0 : Sta Z h0 "java/lang/String" "COMPACT_STRINGS" "Z" (.int zc)) (hzc : zc ≠ 0) (hlst : l.stackTraces = true) (TH0 : ThS Z h0) (UNS : Sta Z h0 "java/lang/Throwable" "UNASSIGNED_STACK" "[Ljava/lang/StackTraceElement;" (.ref us)) (SEN : Sta Z h0 "java/lang/Throwable" "SUPPRESSED_SENTINEL" "Ljava/util/List;" sen) (hsen : sen.isRef = true) : CtX l Z a0 own_EL false (⟨"com/example/epochmark/epochmark/cli/Arguments", "usage", "(Ljava/lang/String;)Lcom/example/epochmark/epochmark/cli/UsageException;"⟩ : MethodName) prog_1_method_6_code 2 (Option.some (Jvm.ClassFile.FieldType.object "com/example/epochmark/epochmark/cli/UsageException")) ({ frames := 6, cells := 8, slots := 2823, locals := 94 } : Room) #[(.ref g), (.ref pr)] h0 [] n0 (fun v h so => ∃ x u bu, v = some (.ref x) ∧ h0.size ≤ x ∧ h0.size ≤ u ∧ Keep h0 h [] ∧ Exa Z h x "com/example/epochmark/epochmark/cli/UsageException" ∧ Fld Z h x "java/lang/Throwable" "detailMessage" "Ljava/lang/String;" (.ref pr) ∧ Fld Z h x "com/example/epochmark/epochmark/cli/UsageException" "usage" "Ljava/lang/String;" (.ref u) ∧ St Z h u bu [(117 : Int32), (115 : Int32), (97 : Int32), (103 : Int32), (101 : Int32), (58 : Int32), (32 : Int32), q0]) := by
  refine CtX.body (plainFor_of_name pn13) ?_
  intro p e s m below meth c T W hs0 hTK hBl
  refine WP.cast (g' := (mkF m 0 #[.val (.ref g), .val (.ref pr)] [])) (by simp [entryFrame, mkF, argsToLocals, cat_i, cat_l, cat_r, cat_n]) ?_
  refine k_newU W 1 7 d_prog_1_6_0 (w143 hw) (w144 hw) (w145 hw) ⟨rfl, Nat.le_of_ble_eq_true rfl⟩ ⟨rfl, Nat.le_of_ble_eq_true rfl⟩ fun T h559 a560 g560 W E560 X560 D560 U560 => ?_
  have K560 : Keep h0 h559 [] := keep_ext E560 []
  refine k_dup W d_prog_1_6_3 rfl ?_
  refine k_aloadN W d_prog_1_6_4 rfl rfl ?_
  refine k_new W 2 11 d_prog_1_6_5 (w146 hw) (w147 hw) (w148 hw) ⟨rfl, Nat.le_of_ble_eq_true rfl⟩ ⟨rfl, Nat.le_of_ble_eq_true rfl⟩ fun T h561 a562 g562 W E562 X562 D562 => ?_
  have K562 : Keep h559 h561 [] := keep_ext E562 []
  refine k_dup W d_prog_1_6_8 rfl ?_
  have f564 := (Sta.keep (Sta.keep P0 K560 ns0) K562 ns0)
  refine k_callIz W 4 3 27 (argsL := []) (rest := [(.ref a562), (.ref pr), (.ref a560), (.ref a560)]) (a := a562) d_prog_1_6_9 rfl rfl (w149 hw) (w150 hw) (by decide) (lenOf pd21 rfl) (ct_sbini l Z a0 hw n0 h561 a562 zc X562 (D562 (Or.inl (w161 hw)) (ty := (.array .byte)) (by decide)) (D562 (Or.inl (w163 hw)) (ty := .byte) (by decide)) (D562 (Or.inl (w186 hw)) (ty := .int) (by decide)) f564 hzc) (w151 hw) (w148 hw) (fun x hx => by simp only [List.mem_cons, List.not_mem_nil, or_false] at hx; rcases hx with rfl; all_goals first | exact (List.mem_of_getElem? (i := 0) rfl)) rfl (Nat.le_of_eq rfl) (Nat.le_of_ble_eq_true rfl) (Nat.le_of_ble_eq_true rfl) ⟨rfl, Nat.le_of_ble_eq_true rfl⟩ ⟨rfl, Nat.le_of_ble_eq_true rfl⟩ rfl (fun _ _ _ q => nomatch q.1) fun T h563 so W hQ => ?_
  obtain ⟨-, z563, g563, K563, V563, C563, N563, A563, rfl⟩ := hQ
  obtain ⟨cs563, ecs563⟩ : ∃ c : List Int32, c = [] := ⟨_, rfl⟩
  have lcs563 : cs563.length = 0 := by rw [ecs563]; rfl
  have A563 : Av Z h563 z563 .byte (List.map Value.int (cs563 ++ List.replicate 16 (0 : Int32))) := by rw [ecs563]; exact A563
  have N563 : Fld Z h563 a562 "java/lang/AbstractStringBuilder" "count" "I" (.int (Int32.ofNat cs563.length)) := by rw [lcs563]; exact N563
  refine k_ldcS W [(117 : Int32), (115 : Int32), (97 : Int32), (103 : Int32), (101 : Int32), (58 : Int32), (32 : Int32)] 28 5 59 rfl d_prog_1_6_12 (w164 hw) (wS hw) (by decide) ⟨by decide, by decide⟩ (by decide) ⟨by decide, by decide⟩ ⟨rfl, Nat.le_of_ble_eq_true rfl⟩ ⟨rfl, Nat.le_of_ble_eq_true rfl⟩ fun T h565 a565 b565 W E565 S565 N565 => ?_
  have K565 : Keep h563 h565 [] := keep_ext E565 []
  have f566 := (V563.keep K565 nin0)
  have f568 := ((X562.keep K563).keep K565)
  have f569 := (C563.keep K565 nin0)
  have f570 := (N563.keep K565 nin0)
  have f571 := (A563.keep K565 nin0)
  have hb567 : [(117 : Int32), (115 : Int32), (97 : Int32), (103 : Int32), (101 : Int32), (58 : Int32), (32 : Int32)].length = 7 := rfl
  have hf567 : [(117 : Int32), (115 : Int32), (97 : Int32), (103 : Int32), (101 : Int32), (58 : Int32), (32 : Int32)].length ≤ (List.replicate 16 (0 : Int32)).length := by rw [List.length_replicate]; exact Nat.le_of_ble_eq_true rfl
  have ne572 : b565 ≠ z563 := (Ne.symm (N565 _ (List.mem_of_getElem? (i := 0) rfl)).2)
  have f573 := (Sta.keep (Sta.keep f564 K563 (nsS (Exa.plain X562) ns0)) K565 ns0)
  refine k_callV W 3 5 59 (argsL := [(.ref a565)]) (rest := [(.ref pr), (.ref a560), (.ref a560)]) (a := a562) (C := "java/lang/StringBuilder") (z0 := (⟨"java/lang/StringBuilder", "append", "(Ljava/lang/String;)Ljava/lang/StringBuilder;"⟩ : MethodName)) (z := (⟨"java/lang/StringBuilder", "append", "(Ljava/lang/String;)Ljava/lang/StringBuilder;"⟩ : MethodName)) d_prog_1_6_14 (w165 hw) (w166 hw) (nfSel (w168 hw)) (w168 hw) (w167 hw) (by decide) (lenOf pd24 rfl) f568 (ct_sapSF l Z a0 hw n0 h565 a562 z563 cs563 (List.replicate 16 (0 : Int32)) a565 b565 [(117 : Int32), (115 : Int32), (97 : Int32), (103 : Int32), (101 : Int32), (58 : Int32), (32 : Int32)] zc hf567 ne572 f568 f566 f569 f570 f571 S565 f573 hzc) (w169 hw) (w148 hw) (fun x hx => by simp only [List.mem_cons, List.not_mem_nil, or_false] at hx; rcases hx with rfl | rfl; all_goals first | exact (List.mem_of_getElem? (i := 1) rfl) | exact (List.mem_of_getElem? (i := 0) rfl)) rfl (Nat.le_of_eq rfl) (Nat.le_of_ble_eq_true rfl) (Nat.le_of_ble_eq_true rfl) ⟨rfl, Nat.le_of_ble_eq_true rfl⟩ ⟨rfl, Nat.le_of_ble_eq_true rfl⟩ rfl (fun _ _ q => nomatch q.1) fun T h567 v so W hQ => ?_
  obtain ⟨hv, K567, V567, C567, N567, A567⟩ := hQ
  obtain rfl := Option.some.inj hv
  obtain ⟨cs567, ecs567⟩ : ∃ c : List Int32, c = cs563 ++ [(117 : Int32), (115 : Int32), (97 : Int32), (103 : Int32), (101 : Int32), (58 : Int32), (32 : Int32)] := ⟨_, rfl⟩
  have lcs567 : cs567.length = 7 := by rw [ecs567, List.length_append, lcs563, hb567]
  have A567 : Av Z h567 z563 .byte (List.map Value.int (cs567 ++ List.replicate 9 (0 : Int32))) := by have q := A567; rw [fitD hb567, ← ecs567] at q; exact q
  have N567 : Fld Z h567 a562 "java/lang/AbstractStringBuilder" "count" "I" (.int (Int32.ofNat cs567.length)) := by rw [lcs567]; have q := N567; rw [lcs563] at q; exact q
  refine k_aloadN W d_prog_1_6_17 rfl rfl ?_
  have ne574 : g ≠ a562 := (Nat.ne_of_lt (Nat.lt_of_lt_of_le (Nat.lt_of_lt_of_le FY.lt E560.1) (Nat.le_of_eq g562.symm)))
  have ne575 : g ≠ z563 := (Nat.ne_of_lt (Nat.lt_of_lt_of_le (Nat.lt_of_lt_of_le FY.lt (Nat.le_trans E560.1 E562.1)) g563))
  have f576 := (((((FY.keep K560 nin0).keep K562 nin0).keep K563 (ninS ne574 nin0)).keep K565 nin0).keep K567 (ninS ne574 (ninS ne575 nin0)))
  refine k_getF W d_prog_1_6_18 (host := "") (Or.inl (w98 hw)) Via.refl f576 fun T W => ?_
  have ne577 : sy ≠ a562 := (Nat.ne_of_lt (Nat.lt_of_lt_of_le (Nat.lt_of_lt_of_le S0.1.lt E560.1) (Nat.le_of_eq g562.symm)))
  have ne578 : b ≠ a562 := (Nat.ne_of_lt (Nat.lt_of_lt_of_le (Nat.lt_of_lt_of_le S0.2.2.2.lt E560.1) (Nat.le_of_eq g562.symm)))
  have ne579 : sy ≠ z563 := (Nat.ne_of_lt (Nat.lt_of_lt_of_le (Nat.lt_of_lt_of_le S0.1.lt (Nat.le_trans E560.1 E562.1)) g563))
  have ne580 : b ≠ z563 := (Nat.ne_of_lt (Nat.lt_of_lt_of_le (Nat.lt_of_lt_of_le S0.2.2.2.lt (Nat.le_trans E560.1 E562.1)) g563))
  have f581 := (((((S0.keep K560 nin0 nin0).keep K562 nin0 nin0).keep K563 (ninS ne577 nin0) (ninS ne578 nin0)).keep K565 nin0 nin0).keep K567 (ninS ne577 (ninS ne579 nin0)) (ninS ne578 (ninS ne580 nin0)))
  have f583 := (f568.keep K567)
  have hb582 : [q0].length = 1 := rfl
  have hf582 : [q0].length ≤ (List.replicate 9 (0 : Int32)).length := by rw [List.length_replicate]; exact Nat.le_of_ble_eq_true rfl
  have f584 := (Sta.keep f573 K567 (nsS (Exa.plain f568) (nsS (Av.plain f571) ns0)))
  refine k_callV W 3 5 59 (argsL := [(.ref sy)]) (rest := [(.ref pr), (.ref a560), (.ref a560)]) (a := a562) (C := "java/lang/StringBuilder") (z0 := (⟨"java/lang/StringBuilder", "append", "(Ljava/lang/String;)Ljava/lang/StringBuilder;"⟩ : MethodName)) (z := (⟨"java/lang/StringBuilder", "append", "(Ljava/lang/String;)Ljava/lang/StringBuilder;"⟩ : MethodName)) d_prog_1_6_21 (w165 hw) (w166 hw) (nfSel (w168 hw)) (w168 hw) (w167 hw) (by decide) (lenOf pd24 rfl) f583 (ct_sapSF l Z a0 hw n0 h567 a562 z563 cs567 (List.replicate 9 (0 : Int32)) sy b [q0] zc hf582 ne580 f583 V567 C567 N567 A567 f581 f584 hzc) (w169 hw) (w148 hw) (fun x hx => by simp only [List.mem_cons, List.not_mem_nil, or_false] at hx; rcases hx with rfl | rfl; all_goals first | exact (List.mem_of_getElem? (i := 1) rfl) | exact (List.mem_of_getElem? (i := 0) rfl)) rfl (Nat.le_of_eq rfl) (Nat.le_of_ble_eq_true rfl) (Nat.le_of_ble_eq_true rfl) ⟨rfl, Nat.le_of_ble_eq_true rfl⟩ ⟨rfl, Nat.le_of_ble_eq_true rfl⟩ rfl (fun _ _ q => nomatch q.1) fun T h582 v so W hQ => ?_
  obtain ⟨hv, K582, V582, C582, N582, A582⟩ := hQ
  obtain rfl := Option.some.inj hv
  obtain ⟨cs582, ecs582⟩ : ∃ c : List Int32, c = cs567 ++ [q0] := ⟨_, rfl⟩
  have lcs582 : cs582.length = 8 := by rw [ecs582, List.length_append, lcs567, hb582]
  have A582 : Av Z h582 z563 .byte (List.map Value.int (cs582 ++ List.replicate 8 (0 : Int32))) := by have q := A582; rw [fitD hb582, ← ecs582] at q; exact q
  have N582 : Fld Z h582 a562 "java/lang/AbstractStringBuilder" "count" "I" (.int (Int32.ofNat cs582.length)) := by rw [lcs582]; have q := N582; rw [lcs567] at q; exact q
  have hr585 : 0 < (List.replicate 8 (0 : Int32)).length := by rw [List.length_replicate]; decide
  have hN585 : cs582.length ≤ 8 := by rw [lcs582]; decide
  have f586 := (f583.keep K582)
  have f587 := (Sta.keep f584 K582 (nsS (Exa.plain f583) (nsS (Av.plain A567) ns0)))
  refine k_callV W 3 7 71 (argsL := []) (rest := [(.ref pr), (.ref a560), (.ref a560)]) (a := a562) (C := "java/lang/StringBuilder") (z0 := (⟨"java/lang/StringBuilder", "toString", "()Ljava/lang/String;"⟩ : MethodName)) (z := (⟨"java/lang/StringBuilder", "toString", "()Ljava/lang/String;"⟩ : MethodName)) d_prog_1_6_24 (w212 hw) (w213 hw) (nfSel (w215 hw)) (w215 hw) (w214 hw) (by decide) (lenOf pd25 rfl) f586 (ct_sbts l Z a0 hw n0 h582 a562 z563 cs582 (List.replicate 8 (0 : Int32)) 8 zc hr585 hN585 (by decide) f586 V582 C582 N582 A582 f587 hzc) (w216 hw) (w148 hw) (fun x hx => nomatch hx) rfl (Nat.le_of_eq rfl) (Nat.le_of_ble_eq_true rfl) (Nat.le_of_ble_eq_true rfl) ⟨rfl, Nat.le_of_ble_eq_true rfl⟩ ⟨rfl, Nat.le_of_ble_eq_true rfl⟩ rfl (fun _ _ ⟨_, _, q, _⟩ => nomatch q) fun T h585 v so W hQ => ?_
  obtain ⟨y585, b585, hv, g585, gb585, K585, S585⟩ := hQ
  obtain rfl := Option.some.inj hv
  have S585 : St Z h585 y585 b585 [(117 : Int32), (115 : Int32), (97 : Int32), (103 : Int32), (101 : Int32), (58 : Int32), (32 : Int32), q0] := by have q := S585; rw [ecs582, ecs567, ecs563] at q; simp only [List.nil_append, List.append_assoc, List.cons_append] at q; exact q
  have f589 := (Sta.keep (Sta.keep (Sta.keep (Sta.keep (Sta.keep (Sta.keep (Sta.keep UNS K560 ns0) K562 ns0) K563 (nsS (Exa.plain X562) ns0)) K565 ns0) K567 (nsS (Exa.plain f568) (nsS (Av.plain f571) ns0))) K582 (nsS (Exa.plain f583) (nsS (Av.plain A567) ns0))) K585 ns0)
  have f590 := (Sta.keep (Sta.keep (Sta.keep (Sta.keep (Sta.keep (Sta.keep (Sta.keep SEN K560 ns0) K562 ns0) K563 (nsS (Exa.plain X562) ns0)) K565 ns0) K567 (nsS (Exa.plain f568) (nsS (Av.plain f571) ns0))) K582 (nsS (Exa.plain f583) (nsS (Av.plain A567) ns0))) K585 ns0)
  have f591 := ((((((X560.keep K562).keep K563).keep K565).keep K567).keep K582).keep K585)
  have ne592 : a560 ≠ a562 := (Nat.ne_of_lt (Nat.lt_of_lt_of_le X560.lt (Nat.le_of_eq g562.symm)))
  have ne593 : a560 ≠ z563 := (Nat.ne_of_lt (Nat.lt_of_lt_of_le (Nat.lt_of_lt_of_le X560.lt E562.1) g563))
  have f594 := (Unt.keep K585 nin0 (Unt.keep K582 (ninS ne592 (ninS ne593 nin0)) (Unt.keep K567 (ninS ne592 (ninS ne593 nin0)) (Unt.keep K565 nin0 (Unt.keep K563 (ninS ne592 nin0) (Unt.keep K562 nin0 U560))))))
  have f595 := (((((((D560 (Or.inl (w273 hw)) (ty := (.object "java/lang/Throwable")) (by decide)).keep K562 nin0).keep K563 (ninS ne592 nin0)).keep K565 nin0).keep K567 (ninS ne592 (ninS ne593 nin0))).keep K582 (ninS ne592 (ninS ne593 nin0))).keep K585 nin0)
  have f596 := (((((((D560 (Or.inl (w276 hw)) (ty := (.array (.object "java/lang/StackTraceElement"))) (by decide)).keep K562 nin0).keep K563 (ninS ne592 nin0)).keep K565 nin0).keep K567 (ninS ne592 (ninS ne593 nin0))).keep K582 (ninS ne592 (ninS ne593 nin0))).keep K585 nin0)
  have f597 := (((((((D560 (Or.inl (w279 hw)) (ty := (.object "java/util/List")) (by decide)).keep K562 nin0).keep K563 (ninS ne592 nin0)).keep K565 nin0).keep K567 (ninS ne592 (ninS ne593 nin0))).keep K582 (ninS ne592 (ninS ne593 nin0))).keep K585 nin0)
  have f598 := (((((((D560 (Or.inl (w303 hw)) (ty := (.object "java/lang/String")) (by decide)).keep K562 nin0).keep K563 (ninS ne592 nin0)).keep K565 nin0).keep K567 (ninS ne592 (ninS ne593 nin0))).keep K582 (ninS ne592 (ninS ne593 nin0))).keep K585 nin0)
  have f599 := (((((((D560 (Or.inl (w304 hw)) (ty := (.object "java/lang/Object")) (by decide)).keep K562 nin0).keep K563 (ninS ne592 nin0)).keep K565 nin0).keep K567 (ninS ne592 (ninS ne593 nin0))).keep K582 (ninS ne592 (ninS ne593 nin0))).keep K585 nin0)
  have f600 := (ThS.keep K585 ns0 (ThS.keep K582 (nsS (Exa.plain f583) (nsS (Av.plain A567) ns0)) (ThS.keep K567 (nsS (Exa.plain f568) (nsS (Av.plain f571) ns0)) (ThS.keep K565 ns0 (ThS.keep K563 (nsS (Exa.plain X562) ns0) (ThS.keep K562 ns0 (ThS.keep K560 ns0 TH0)))))))
  refine k_callIX0 W 1 8 2823 (argsL := [(.ref pr), (.ref y585)]) (rest := [(.ref a560)]) (a := a560) d_prog_1_6_27 rfl rfl (w257 hw) (w258 hw) (by decide) (lenOf pd26 rfl) hTK hBl (ct_uex l Z a0 hw n0 h585 y585 a560 pr us sen f591 f594 f595 f596 f597 f598 f599 hlst f600 f589 f590 hsen) (w259 hw) (w145 hw) (fun x hx => by simp only [List.mem_cons, List.not_mem_nil, or_false] at hx; rcases hx with rfl; all_goals first | exact (List.mem_of_getElem? (i := 2) rfl)) rfl (Nat.le_of_eq rfl) (Nat.le_of_ble_eq_true rfl) (Nat.le_of_ble_eq_true rfl) ⟨rfl, Nat.le_of_ble_eq_true rfl⟩ ⟨rfl, Nat.le_of_ble_eq_true rfl⟩ rfl (fun _ _ _ q => nomatch q.1) fun T h588 so W hQ => ?_
  obtain ⟨-, K588, D588, G588⟩ := hQ
  have ne601 : y585 ≠ a560 := (Ne.symm (Nat.ne_of_lt (Nat.lt_of_lt_of_le (Nat.lt_of_lt_of_le X560.lt (Nat.le_trans (Nat.le_trans (Nat.le_trans (Nat.le_trans E562.1 K563.1) E565.1) K567.1) K582.1)) g585)))
  have ne602 : b585 ≠ a560 := (Ne.symm (Nat.ne_of_lt (Nat.lt_of_lt_of_le (Nat.lt_of_lt_of_le X560.lt (Nat.le_trans (Nat.le_trans (Nat.le_trans (Nat.le_trans E562.1 K563.1) E565.1) K567.1) K582.1)) gb585)))
  have f603 := (S585.keep K588 (ninS ne601 nin0) (ninS ne602 nin0))
  have KK604 : Keep h0 h559 [] := (Keep.refl h0 []).trans K560 all0
  have KK605 : Keep h0 h561 [] := KK604.trans K562 all0
  have KK606 : Keep h0 h563 [] := KK605.trans K563 (allS (Or.inr (Nat.le_trans E560.1 (Nat.le_of_eq g562.symm))) all0)
  have KK607 : Keep h0 h565 [] := KK606.trans K565 all0
  have KK608 : Keep h0 h567 [] := KK607.trans K567 (allS (Or.inr (Nat.le_trans E560.1 (Nat.le_of_eq g562.symm))) (allS (Or.inr (Nat.le_trans (Nat.le_trans E560.1 E562.1) g563)) all0))
  have KK609 : Keep h0 h582 [] := KK608.trans K582 (allS (Or.inr (Nat.le_trans E560.1 (Nat.le_of_eq g562.symm))) (allS (Or.inr (Nat.le_trans (Nat.le_trans E560.1 E562.1) g563)) all0))
  have KK610 : Keep h0 h585 [] := KK609.trans K585 all0
  have KK611 : Keep h0 h588 [] := KK610.trans K588 (allS (Or.inr (Nat.le_of_eq g560.symm)) all0)
  have f612 := (f591.keep K588)
  exact k_areturn W d_prog_1_6_30 rfl rfl rfl [] (fun x hx => nomatch hx) (Nat.le_of_ble_eq_true rfl) (Nat.le_of_ble_eq_true rfl) ⟨_, _, _, rfl, (Nat.le_of_eq g560.symm), (Nat.le_trans (Nat.le_trans (Nat.le_trans (Nat.le_trans (Nat.le_trans (Nat.le_trans E560.1 E562.1) K563.1) E565.1) K567.1) K582.1) g585), KK611, f612, D588, G588, f603⟩
set_option maxRecDepth 65536 in
set_option maxHeartbeats 40000000 in
theorem ct_us2 (l : Launch) (Z : State) (a0 : Array Value) (hw : ∀ d ∈ tables_1, d.before a0 Z = true) (n0 : Nat) (h0 : Heap) (g pr sy b us : Addr) (q0 q1 : Int32) (zc : Int32) (sen : Value) (FY : Fld Z h0 g "com/example/epochmark/epochmark/cli/Arguments" "synopsis" "Ljava/lang/String;" (.ref sy)) (S0 : St Z h0 sy b [q0, q1]) (P0 : Sta Z h0 "java/lang/String" "COMPACT_STRINGS" "Z" (.int zc)) (hzc : zc ≠ 0) (hlst : l.stackTraces = true) (TH0 : ThS Z h0) (UNS : Sta Z h0 "java/lang/Throwable" "UNASSIGNED_STACK" "[Ljava/lang/StackTraceElement;" (.ref us)) (SEN : Sta Z h0 "java/lang/Throwable" "SUPPRESSED_SENTINEL" "Ljava/util/List;" sen) (hsen : sen.isRef = true) : CtX l Z a0 own_EL false (⟨"com/example/epochmark/epochmark/cli/Arguments", "usage", "(Ljava/lang/String;)Lcom/example/epochmark/epochmark/cli/UsageException;"⟩ : MethodName) prog_1_method_6_code 2 (Option.some (Jvm.ClassFile.FieldType.object "com/example/epochmark/epochmark/cli/UsageException")) ({ frames := 6, cells := 8, slots := 2824, locals := 94 } : Room) #[(.ref g), (.ref pr)] h0 [] n0 (fun v h so => ∃ x u bu, v = some (.ref x) ∧ h0.size ≤ x ∧ h0.size ≤ u ∧ Keep h0 h [] ∧ Exa Z h x "com/example/epochmark/epochmark/cli/UsageException" ∧ Fld Z h x "java/lang/Throwable" "detailMessage" "Ljava/lang/String;" (.ref pr) ∧ Fld Z h x "com/example/epochmark/epochmark/cli/UsageException" "usage" "Ljava/lang/String;" (.ref u) ∧ St Z h u bu [(117 : Int32), (115 : Int32), (97 : Int32), (103 : Int32), (101 : Int32), (58 : Int32), (32 : Int32), q0, q1]) := by
  refine CtX.body (plainFor_of_name pn13) ?_
  intro p e s m below meth c T W hs0 hTK hBl
  refine WP.cast (g' := (mkF m 0 #[.val (.ref g), .val (.ref pr)] [])) (by simp [entryFrame, mkF, argsToLocals, cat_i, cat_l, cat_r, cat_n]) ?_
  refine k_newU W 1 7 d_prog_1_6_0 (w143 hw) (w144 hw) (w145 hw) ⟨rfl, Nat.le_of_ble_eq_true rfl⟩ ⟨rfl, Nat.le_of_ble_eq_true rfl⟩ fun T h613 a614 g614 W E614 X614 D614 U614 => ?_
  have K614 : Keep h0 h613 [] := keep_ext E614 []
  refine k_dup W d_prog_1_6_3 rfl ?_
  refine k_aloadN W d_prog_1_6_4 rfl rfl ?_
  refine k_new W 2 11 d_prog_1_6_5 (w146 hw) (w147 hw) (w148 hw) ⟨rfl, Nat.le_of_ble_eq_true rfl⟩ ⟨rfl, Nat.le_of_ble_eq_true rfl⟩ fun T h615 a616 g616 W E616 X616 D616 => ?_
  have K616 : Keep h613 h615 [] := keep_ext E616 []
  refine k_dup W d_prog_1_6_8 rfl ?_
  have f618 := (Sta.keep (Sta.keep P0 K614 ns0) K616 ns0)
  refine k_callIz W 4 3 27 (argsL := []) (rest := [(.ref a616), (.ref pr), (.ref a614), (.ref a614)]) (a := a616) d_prog_1_6_9 rfl rfl (w149 hw) (w150 hw) (by decide) (lenOf pd21 rfl) (ct_sbini l Z a0 hw n0 h615 a616 zc X616 (D616 (Or.inl (w161 hw)) (ty := (.array .byte)) (by decide)) (D616 (Or.inl (w163 hw)) (ty := .byte) (by decide)) (D616 (Or.inl (w186 hw)) (ty := .int) (by decide)) f618 hzc) (w151 hw) (w148 hw) (fun x hx => by simp only [List.mem_cons, List.not_mem_nil, or_false] at hx; rcases hx with rfl; all_goals first | exact (List.mem_of_getElem? (i := 0) rfl)) rfl (Nat.le_of_eq rfl) (Nat.le_of_ble_eq_true rfl) (Nat.le_of_ble_eq_true rfl) ⟨rfl, Nat.le_of_ble_eq_true rfl⟩ ⟨rfl, Nat.le_of_ble_eq_true rfl⟩ rfl (fun _ _ _ q => nomatch q.1) fun T h617 so W hQ => ?_
  obtain ⟨-, z617, g617, K617, V617, C617, N617, A617, rfl⟩ := hQ
  obtain ⟨cs617, ecs617⟩ : ∃ c : List Int32, c = [] := ⟨_, rfl⟩
  have lcs617 : cs617.length = 0 := by rw [ecs617]; rfl
  have A617 : Av Z h617 z617 .byte (List.map Value.int (cs617 ++ List.replicate 16 (0 : Int32))) := by rw [ecs617]; exact A617
  have N617 : Fld Z h617 a616 "java/lang/AbstractStringBuilder" "count" "I" (.int (Int32.ofNat cs617.length)) := by rw [lcs617]; exact N617
  refine k_ldcS W [(117 : Int32), (115 : Int32), (97 : Int32), (103 : Int32), (101 : Int32), (58 : Int32), (32 : Int32)] 28 5 59 rfl d_prog_1_6_12 (w164 hw) (wS hw) (by decide) ⟨by decide, by decide⟩ (by decide) ⟨by decide, by decide⟩ ⟨rfl, Nat.le_of_ble_eq_true rfl⟩ ⟨rfl, Nat.le_of_ble_eq_true rfl⟩ fun T h619 a619 b619 W E619 S619 N619 => ?_
  have K619 : Keep h617 h619 [] := keep_ext E619 []
  have f620 := (V617.keep K619 nin0)
  have f622 := ((X616.keep K617).keep K619)
  have f623 := (C617.keep K619 nin0)
  have f624 := (N617.keep K619 nin0)
  have f625 := (A617.keep K619 nin0)
  have hb621 : [(117 : Int32), (115 : Int32), (97 : Int32), (103 : Int32), (101 : Int32), (58 : Int32), (32 : Int32)].length = 7 := rfl
  have hf621 : [(117 : Int32), (115 : Int32), (97 : Int32), (103 : Int32), (101 : Int32), (58 : Int32), (32 : Int32)].length ≤ (List.replicate 16 (0 : Int32)).length := by rw [List.length_replicate]; exact Nat.le_of_ble_eq_true rfl
  have ne626 : b619 ≠ z617 := (Ne.symm (N619 _ (List.mem_of_getElem? (i := 0) rfl)).2)
  have f627 := (Sta.keep (Sta.keep f618 K617 (nsS (Exa.plain X616) ns0)) K619 ns0)
  refine k_callV W 3 5 59 (argsL := [(.ref a619)]) (rest := [(.ref pr), (.ref a614), (.ref a614)]) (a := a616) (C := "java/lang/StringBuilder") (z0 := (⟨"java/lang/StringBuilder", "append", "(Ljava/lang/String;)Ljava/lang/StringBuilder;"⟩ : MethodName)) (z := (⟨"java/lang/StringBuilder", "append", "(Ljava/lang/String;)Ljava/lang/StringBuilder;"⟩ : MethodName)) d_prog_1_6_14 (w165 hw) (w166 hw) (nfSel (w168 hw)) (w168 hw) (w167 hw) (by decide) (lenOf pd24 rfl) f622 (ct_sapSF l Z a0 hw n0 h619 a616 z617 cs617 (List.replicate 16 (0 : Int32)) a619 b619 [(117 : Int32), (115 : Int32), (97 : Int32), (103 : Int32), (101 : Int32), (58 : Int32), (32 : Int32)] zc hf621 ne626 f622 f620 f623 f624 f625 S619 f627 hzc) (w169 hw) (w148 hw) (fun x hx => by simp only [List.mem_cons, List.not_mem_nil, or_false] at hx; rcases hx with rfl | rfl; all_goals first | exact (List.mem_of_getElem? (i := 1) rfl) | exact (List.mem_of_getElem? (i := 0) rfl)) rfl (Nat.le_of_eq rfl) (Nat.le_of_ble_eq_true rfl) (Nat.le_of_ble_eq_true rfl) ⟨rfl, Nat.le_of_ble_eq_true rfl⟩ ⟨rfl, Nat.le_of_ble_eq_true rfl⟩ rfl (fun _ _ q => nomatch q.1) fun T h621 v so W hQ => ?_
  obtain ⟨hv, K621, V621, C621, N621, A621⟩ := hQ
  obtain rfl := Option.some.inj hv
  obtain ⟨cs621, ecs621⟩ : ∃ c : List Int32, c = cs617 ++ [(117 : Int32), (115 : Int32), (97 : Int32), (103 : Int32), (101 : Int32), (58 : Int32), (32 : Int32)] := ⟨_, rfl⟩
  have lcs621 : cs621.length = 7 := by rw [ecs621, List.length_append, lcs617, hb621]
  have A621 : Av Z h621 z617 .byte (List.map Value.int (cs621 ++ List.replicate 9 (0 : Int32))) := by have q := A621; rw [fitD hb621, ← ecs621] at q; exact q
  have N621 : Fld Z h621 a616 "java/lang/AbstractStringBuilder" "count" "I" (.int (Int32.ofNat cs621.length)) := by rw [lcs621]; have q := N621; rw [lcs617] at q; exact q
  refine k_aloadN W d_prog_1_6_17 rfl rfl ?_
  have ne628 : g ≠ a616 := (Nat.ne_of_lt (Nat.lt_of_lt_of_le (Nat.lt_of_lt_of_le FY.lt E614.1) (Nat.le_of_eq g616.symm)))
  have ne629 : g ≠ z617 := (Nat.ne_of_lt (Nat.lt_of_lt_of_le (Nat.lt_of_lt_of_le FY.lt (Nat.le_trans E614.1 E616.1)) g617))
  have f630 := (((((FY.keep K614 nin0).keep K616 nin0).keep K617 (ninS ne628 nin0)).keep K619 nin0).keep K621 (ninS ne628 (ninS ne629 nin0)))
  refine k_getF W d_prog_1_6_18 (host := "") (Or.inl (w98 hw)) Via.refl f630 fun T W => ?_
  have ne631 : sy ≠ a616 := (Nat.ne_of_lt (Nat.lt_of_lt_of_le (Nat.lt_of_lt_of_le S0.1.lt E614.1) (Nat.le_of_eq g616.symm)))
  have ne632 : b ≠ a616 := (Nat.ne_of_lt (Nat.lt_of_lt_of_le (Nat.lt_of_lt_of_le S0.2.2.2.lt E614.1) (Nat.le_of_eq g616.symm)))
  have ne633 : sy ≠ z617 := (Nat.ne_of_lt (Nat.lt_of_lt_of_le (Nat.lt_of_lt_of_le S0.1.lt (Nat.le_trans E614.1 E616.1)) g617))
  have ne634 : b ≠ z617 := (Nat.ne_of_lt (Nat.lt_of_lt_of_le (Nat.lt_of_lt_of_le S0.2.2.2.lt (Nat.le_trans E614.1 E616.1)) g617))
  have f635 := (((((S0.keep K614 nin0 nin0).keep K616 nin0 nin0).keep K617 (ninS ne631 nin0) (ninS ne632 nin0)).keep K619 nin0 nin0).keep K621 (ninS ne631 (ninS ne633 nin0)) (ninS ne632 (ninS ne634 nin0)))
  have f637 := (f622.keep K621)
  have hb636 : [q0, q1].length = 2 := rfl
  have hf636 : [q0, q1].length ≤ (List.replicate 9 (0 : Int32)).length := by rw [List.length_replicate]; exact Nat.le_of_ble_eq_true rfl
  have f638 := (Sta.keep f627 K621 (nsS (Exa.plain f622) (nsS (Av.plain f625) ns0)))
  refine k_callV W 3 5 59 (argsL := [(.ref sy)]) (rest := [(.ref pr), (.ref a614), (.ref a614)]) (a := a616) (C := "java/lang/StringBuilder") (z0 := (⟨"java/lang/StringBuilder", "append", "(Ljava/lang/String;)Ljava/lang/StringBuilder;"⟩ : MethodName)) (z := (⟨"java/lang/StringBuilder", "append", "(Ljava/lang/String;)Ljava/lang/StringBuilder;"⟩ : MethodName)) d_prog_1_6_21 (w165 hw) (w166 hw) (nfSel (w168 hw)) (w168 hw) (w167 hw) (by decide) (lenOf pd24 rfl) f637 (ct_sapSF l Z a0 hw n0 h621 a616 z617 cs621 (List.replicate 9 (0 : Int32)) sy b [q0, q1] zc hf636 ne634 f637 V621 C621 N621 A621 f635 f638 hzc) (w169 hw) (w148 hw) (fun x hx => by simp only [List.mem_cons, List.not_mem_nil, or_false] at hx; rcases hx with rfl | rfl; all_goals first | exact (List.mem_of_getElem? (i := 1) rfl) | exact (List.mem_of_getElem? (i := 0) rfl)) rfl (Nat.le_of_eq rfl) (Nat.le_of_ble_eq_true rfl) (Nat.le_of_ble_eq_true rfl) ⟨rfl, Nat.le_of_ble_eq_true rfl⟩ ⟨rfl, Nat.le_of_ble_eq_true rfl⟩ rfl (fun _ _ q => nomatch q.1) fun T h636 v so W hQ => ?_
  obtain ⟨hv, K636, V636, C636, N636, A636⟩ := hQ
  obtain rfl := Option.some.inj hv
  obtain ⟨cs636, ecs636⟩ : ∃ c : List Int32, c = cs621 ++ [q0, q1] := ⟨_, rfl⟩
  have lcs636 : cs636.length = 9 := by rw [ecs636, List.length_append, lcs621, hb636]
  have A636 : Av Z h636 z617 .byte (List.map Value.int (cs636 ++ List.replicate 7 (0 : Int32))) := by have q := A636; rw [fitD hb636, ← ecs636] at q; exact q
  have N636 : Fld Z h636 a616 "java/lang/AbstractStringBuilder" "count" "I" (.int (Int32.ofNat cs636.length)) := by rw [lcs636]; have q := N636; rw [lcs621] at q; exact q
  have hr639 : 0 < (List.replicate 7 (0 : Int32)).length := by rw [List.length_replicate]; decide
  have hN639 : cs636.length ≤ 9 := by rw [lcs636]; decide
  have f640 := (f637.keep K636)
  have f641 := (Sta.keep f638 K636 (nsS (Exa.plain f637) (nsS (Av.plain A621) ns0)))
  refine k_callV W 3 7 72 (argsL := []) (rest := [(.ref pr), (.ref a614), (.ref a614)]) (a := a616) (C := "java/lang/StringBuilder") (z0 := (⟨"java/lang/StringBuilder", "toString", "()Ljava/lang/String;"⟩ : MethodName)) (z := (⟨"java/lang/StringBuilder", "toString", "()Ljava/lang/String;"⟩ : MethodName)) d_prog_1_6_24 (w212 hw) (w213 hw) (nfSel (w215 hw)) (w215 hw) (w214 hw) (by decide) (lenOf pd25 rfl) f640 (ct_sbts l Z a0 hw n0 h636 a616 z617 cs636 (List.replicate 7 (0 : Int32)) 9 zc hr639 hN639 (by decide) f640 V636 C636 N636 A636 f641 hzc) (w216 hw) (w148 hw) (fun x hx => nomatch hx) rfl (Nat.le_of_eq rfl) (Nat.le_of_ble_eq_true rfl) (Nat.le_of_ble_eq_true rfl) ⟨rfl, Nat.le_of_ble_eq_true rfl⟩ ⟨rfl, Nat.le_of_ble_eq_true rfl⟩ rfl (fun _ _ ⟨_, _, q, _⟩ => nomatch q) fun T h639 v so W hQ => ?_
  obtain ⟨y639, b639, hv, g639, gb639, K639, S639⟩ := hQ
  obtain rfl := Option.some.inj hv
  have S639 : St Z h639 y639 b639 [(117 : Int32), (115 : Int32), (97 : Int32), (103 : Int32), (101 : Int32), (58 : Int32), (32 : Int32), q0, q1] := by have q := S639; rw [ecs636, ecs621, ecs617] at q; simp only [List.nil_append, List.append_assoc, List.cons_append] at q; exact q
  have f643 := (Sta.keep (Sta.keep (Sta.keep (Sta.keep (Sta.keep (Sta.keep (Sta.keep UNS K614 ns0) K616 ns0) K617 (nsS (Exa.plain X616) ns0)) K619 ns0) K621 (nsS (Exa.plain f622) (nsS (Av.plain f625) ns0))) K636 (nsS (Exa.plain f637) (nsS (Av.plain A621) ns0))) K639 ns0)
  have f644 := (Sta.keep (Sta.keep (Sta.keep (Sta.keep (Sta.keep (Sta.keep (Sta.keep SEN K614 ns0) K616 ns0) K617 (nsS (Exa.plain X616) ns0)) K619 ns0) K621 (nsS (Exa.plain f622) (nsS (Av.plain f625) ns0))) K636 (nsS (Exa.plain f637) (nsS (Av.plain A621) ns0))) K639 ns0)
  have f645 := ((((((X614.keep K616).keep K617).keep K619).keep K621).keep K636).keep K639)
  have ne646 : a614 ≠ a616 := (Nat.ne_of_lt (Nat.lt_of_lt_of_le X614.lt (Nat.le_of_eq g616.symm)))
  have ne647 : a614 ≠ z617 := (Nat.ne_of_lt (Nat.lt_of_lt_of_le (Nat.lt_of_lt_of_le X614.lt E616.1) g617))
  have f648 := (Unt.keep K639 nin0 (Unt.keep K636 (ninS ne646 (ninS ne647 nin0)) (Unt.keep K621 (ninS ne646 (ninS ne647 nin0)) (Unt.keep K619 nin0 (Unt.keep K617 (ninS ne646 nin0) (Unt.keep K616 nin0 U614))))))
  have f649 := (((((((D614 (Or.inl (w273 hw)) (ty := (.object "java/lang/Throwable")) (by decide)).keep K616 nin0).keep K617 (ninS ne646 nin0)).keep K619 nin0).keep K621 (ninS ne646 (ninS ne647 nin0))).keep K636 (ninS ne646 (ninS ne647 nin0))).keep K639 nin0)
  have f650 := (((((((D614 (Or.inl (w276 hw)) (ty := (.array (.object "java/lang/StackTraceElement"))) (by decide)).keep K616 nin0).keep K617 (ninS ne646 nin0)).keep K619 nin0).keep K621 (ninS ne646 (ninS ne647 nin0))).keep K636 (ninS ne646 (ninS ne647 nin0))).keep K639 nin0)
  have f651 := (((((((D614 (Or.inl (w279 hw)) (ty := (.object "java/util/List")) (by decide)).keep K616 nin0).keep K617 (ninS ne646 nin0)).keep K619 nin0).keep K621 (ninS ne646 (ninS ne647 nin0))).keep K636 (ninS ne646 (ninS ne647 nin0))).keep K639 nin0)
  have f652 := (((((((D614 (Or.inl (w303 hw)) (ty := (.object "java/lang/String")) (by decide)).keep K616 nin0).keep K617 (ninS ne646 nin0)).keep K619 nin0).keep K621 (ninS ne646 (ninS ne647 nin0))).keep K636 (ninS ne646 (ninS ne647 nin0))).keep K639 nin0)
  have f653 := (((((((D614 (Or.inl (w304 hw)) (ty := (.object "java/lang/Object")) (by decide)).keep K616 nin0).keep K617 (ninS ne646 nin0)).keep K619 nin0).keep K621 (ninS ne646 (ninS ne647 nin0))).keep K636 (ninS ne646 (ninS ne647 nin0))).keep K639 nin0)
  have f654 := (ThS.keep K639 ns0 (ThS.keep K636 (nsS (Exa.plain f637) (nsS (Av.plain A621) ns0)) (ThS.keep K621 (nsS (Exa.plain f622) (nsS (Av.plain f625) ns0)) (ThS.keep K619 ns0 (ThS.keep K617 (nsS (Exa.plain X616) ns0) (ThS.keep K616 ns0 (ThS.keep K614 ns0 TH0)))))))
  refine k_callIX0 W 1 8 2824 (argsL := [(.ref pr), (.ref y639)]) (rest := [(.ref a614)]) (a := a614) d_prog_1_6_27 rfl rfl (w257 hw) (w258 hw) (by decide) (lenOf pd26 rfl) hTK hBl (ct_uex l Z a0 hw n0 h639 y639 a614 pr us sen f645 f648 f649 f650 f651 f652 f653 hlst f654 f643 f644 hsen) (w259 hw) (w145 hw) (fun x hx => by simp only [List.mem_cons, List.not_mem_nil, or_false] at hx; rcases hx with rfl; all_goals first | exact (List.mem_of_getElem? (i := 2) rfl)) rfl (Nat.le_of_eq rfl) (Nat.le_of_ble_eq_true rfl) (Nat.le_of_ble_eq_true rfl) ⟨rfl, Nat.le_of_ble_eq_true rfl⟩ ⟨rfl, Nat.le_of_ble_eq_true rfl⟩ rfl (fun _ _ _ q => nomatch q.1) fun T h642 so W hQ => ?_
  obtain ⟨-, K642, D642, G642⟩ := hQ
  have ne655 : y639 ≠ a614 := (Ne.symm (Nat.ne_of_lt (Nat.lt_of_lt_of_le (Nat.lt_of_lt_of_le X614.lt (Nat.le_trans (Nat.le_trans (Nat.le_trans (Nat.le_trans E616.1 K617.1) E619.1) K621.1) K636.1)) g639)))
  have ne656 : b639 ≠ a614 := (Ne.symm (Nat.ne_of_lt (Nat.lt_of_lt_of_le (Nat.lt_of_lt_of_le X614.lt (Nat.le_trans (Nat.le_trans (Nat.le_trans (Nat.le_trans E616.1 K617.1) E619.1) K621.1) K636.1)) gb639)))
  have f657 := (S639.keep K642 (ninS ne655 nin0) (ninS ne656 nin0))
  have KK658 : Keep h0 h613 [] := (Keep.refl h0 []).trans K614 all0
  have KK659 : Keep h0 h615 [] := KK658.trans K616 all0
  have KK660 : Keep h0 h617 [] := KK659.trans K617 (allS (Or.inr (Nat.le_trans E614.1 (Nat.le_of_eq g616.symm))) all0)
  have KK661 : Keep h0 h619 [] := KK660.trans K619 all0
  have KK662 : Keep h0 h621 [] := KK661.trans K621 (allS (Or.inr (Nat.le_trans E614.1 (Nat.le_of_eq g616.symm))) (allS (Or.inr (Nat.le_trans (Nat.le_trans E614.1 E616.1) g617)) all0))
  have KK663 : Keep h0 h636 [] := KK662.trans K636 (allS (Or.inr (Nat.le_trans E614.1 (Nat.le_of_eq g616.symm))) (allS (Or.inr (Nat.le_trans (Nat.le_trans E614.1 E616.1) g617)) all0))
  have KK664 : Keep h0 h639 [] := KK663.trans K639 all0
  have KK665 : Keep h0 h642 [] := KK664.trans K642 (allS (Or.inr (Nat.le_of_eq g614.symm)) all0)
  have f666 := (f645.keep K642)
  exact k_areturn W d_prog_1_6_30 rfl rfl rfl [] (fun x hx => nomatch hx) (Nat.le_of_ble_eq_true rfl) (Nat.le_of_ble_eq_true rfl) ⟨_, _, _, rfl, (Nat.le_of_eq g614.symm), (Nat.le_trans (Nat.le_trans (Nat.le_trans (Nat.le_trans (Nat.le_trans (Nat.le_trans E614.1 E616.1) K617.1) E619.1) K621.1) K636.1) g639), KK665, f666, D642, G642, f657⟩
set_option maxRecDepth 65536 in
set_option maxHeartbeats 40000000 in
theorem ct_us3 (l : Launch) (Z : State) (a0 : Array Value) (hw : ∀ d ∈ tables_1, d.before a0 Z = true) (n0 : Nat) (h0 : Heap) (g pr sy b us : Addr) (q0 q1 q2 : Int32) (zc : Int32) (sen : Value) (FY : Fld Z h0 g "com/example/epochmark/epochmark/cli/Arguments" "synopsis" "Ljava/lang/String;" (.ref sy)) (S0 : St Z h0 sy b [q0, q1, q2]) (P0 : Sta Z h0 "java/lang/String" "COMPACT_STRINGS" "Z" (.int zc)) (hzc : zc ≠ 0) (hlst : l.stackTraces = true) (TH0 : ThS Z h0) (UNS : Sta Z h0 "java/lang/Throwable" "UNASSIGNED_STACK" "[Ljava/lang/StackTraceElement;" (.ref us)) (SEN : Sta Z h0 "java/lang/Throwable" "SUPPRESSED_SENTINEL" "Ljava/util/List;" sen) (hsen : sen.isRef = true) : CtX l Z a0 own_EL false (⟨"com/example/epochmark/epochmark/cli/Arguments", "usage", "(Ljava/lang/String;)Lcom/example/epochmark/epochmark/cli/UsageException;"⟩ : MethodName) prog_1_method_6_code 2 (Option.some (Jvm.ClassFile.FieldType.object "com/example/epochmark/epochmark/cli/UsageException")) ({ frames := 6, cells := 8, slots := 2825, locals := 94 } : Room) #[(.ref g), (.ref pr)] h0 [] n0 (fun v h so => ∃ x u bu, v = some (.ref x) ∧ h0.size ≤ x ∧ h0.size ≤ u ∧ Keep h0 h [] ∧ Exa Z h x "com/example/epochmark/epochmark/cli/UsageException" ∧ Fld Z h x "java/lang/Throwable" "detailMessage" "Ljava/lang/String;" (.ref pr) ∧ Fld Z h x "com/example/epochmark/epochmark/cli/UsageException" "usage" "Ljava/lang/String;" (.ref u) ∧ St Z h u bu [(117 : Int32), (115 : Int32), (97 : Int32), (103 : Int32), (101 : Int32), (58 : Int32), (32 : Int32), q0, q1, q2]) := by
  refine CtX.body (plainFor_of_name pn13) ?_
  intro p e s m below meth c T W hs0 hTK hBl
  refine WP.cast (g' := (mkF m 0 #[.val (.ref g), .val (.ref pr)] [])) (by simp [entryFrame, mkF, argsToLocals, cat_i, cat_l, cat_r, cat_n]) ?_
  refine k_newU W 1 7 d_prog_1_6_0 (w143 hw) (w144 hw) (w145 hw) ⟨rfl, Nat.le_of_ble_eq_true rfl⟩ ⟨rfl, Nat.le_of_ble_eq_true rfl⟩ fun T h667 a668 g668 W E668 X668 D668 U668 => ?_
  have K668 : Keep h0 h667 [] := keep_ext E668 []
  refine k_dup W d_prog_1_6_3 rfl ?_
  refine k_aloadN W d_prog_1_6_4 rfl rfl ?_
  refine k_new W 2 11 d_prog_1_6_5 (w146 hw) (w147 hw) (w148 hw) ⟨rfl, Nat.le_of_ble_eq_true rfl⟩ ⟨rfl, Nat.le_of_ble_eq_true rfl⟩ fun T h669 a670 g670 W E670 X670 D670 => ?_
  have K670 : Keep h667 h669 [] := keep_ext E670 []
  refine k_dup W d_prog_1_6_8 rfl ?_
  have f672 := (Sta.keep (Sta.keep P0 K668 ns0) K670 ns0)
  refine k_callIz W 4 3 27 (argsL := []) (rest := [(.ref a670), (.ref pr), (.ref a668), (.ref a668)]) (a := a670) d_prog_1_6_9 rfl rfl (w149 hw) (w150 hw) (by decide) (lenOf pd21 rfl) (ct_sbini l Z a0 hw n0 h669 a670 zc X670 (D670 (Or.inl (w161 hw)) (ty := (.array .byte)) (by decide)) (D670 (Or.inl (w163 hw)) (ty := .byte) (by decide)) (D670 (Or.inl (w186 hw)) (ty := .int) (by decide)) f672 hzc) (w151 hw) (w148 hw) (fun x hx => by simp only [List.mem_cons, List.not_mem_nil, or_false] at hx; rcases hx with rfl; all_goals first | exact (List.mem_of_getElem? (i := 0) rfl)) rfl (Nat.le_of_eq rfl) (Nat.le_of_ble_eq_true rfl) (Nat.le_of_ble_eq_true rfl) ⟨rfl, Nat.le_of_ble_eq_true rfl⟩ ⟨rfl, Nat.le_of_ble_eq_true rfl⟩ rfl (fun _ _ _ q => nomatch q.1) fun T h671 so W hQ => ?_
  obtain ⟨-, z671, g671, K671, V671, C671, N671, A671, rfl⟩ := hQ
  obtain ⟨cs671, ecs671⟩ : ∃ c : List Int32, c = [] := ⟨_, rfl⟩
  have lcs671 : cs671.length = 0 := by rw [ecs671]; rfl
  have A671 : Av Z h671 z671 .byte (List.map Value.int (cs671 ++ List.replicate 16 (0 : Int32))) := by rw [ecs671]; exact A671
  have N671 : Fld Z h671 a670 "java/lang/AbstractStringBuilder" "count" "I" (.int (Int32.ofNat cs671.length)) := by rw [lcs671]; exact N671
  refine k_ldcS W [(117 : Int32), (115 : Int32), (97 : Int32), (103 : Int32), (101 : Int32), (58 : Int32), (32 : Int32)] 28 5 59 rfl d_prog_1_6_12 (w164 hw) (wS hw) (by decide) ⟨by decide, by decide⟩ (by decide) ⟨by decide, by decide⟩ ⟨rfl, Nat.le_of_ble_eq_true rfl⟩ ⟨rfl, Nat.le_of_ble_eq_true rfl⟩ fun T h673 a673 b673 W E673 S673 N673 => ?_
  have K673 : Keep h671 h673 [] := keep_ext E673 []
  have f674 := (V671.keep K673 nin0)
  have f676 := ((X670.keep K671).keep K673)
  have f677 := (C671.keep K673 nin0)
  have f678 := (N671.keep K673 nin0)
  have f679 := (A671.keep K673 nin0)
  have hb675 : [(117 : Int32), (115 : Int32), (97 : Int32), (103 : Int32), (101 : Int32), (58 : Int32), (32 : Int32)].length = 7 := rfl
  have hf675 : [(117 : Int32), (115 : Int32), (97 : Int32), (103 : Int32), (101 : Int32), (58 : Int32), (32 : Int32)].length ≤ (List.replicate 16 (0 : Int32)).length := by rw [List.length_replicate]; exact Nat.le_of_ble_eq_true rfl
  have ne680 : b673 ≠ z671 := (Ne.symm (N673 _ (List.mem_of_getElem? (i := 0) rfl)).2)
  have f681 := (Sta.keep (Sta.keep f672 K671 (nsS (Exa.plain X670) ns0)) K673 ns0)
  refine k_callV W 3 5 59 (argsL := [(.ref a673)]) (rest := [(.ref pr), (.ref a668), (.ref a668)]) (a := a670) (C := "java/lang/StringBuilder") (z0 := (⟨"java/lang/StringBuilder", "append", "(Ljava/lang/String;)Ljava/lang/StringBuilder;"⟩ : MethodName)) (z := (⟨"java/lang/StringBuilder", "append", "(Ljava/lang/String;)Ljava/lang/StringBuilder;"⟩ : MethodName)) d_prog_1_6_14 (w165 hw) (w166 hw) (nfSel (w168 hw)) (w168 hw) (w167 hw) (by decide) (lenOf pd24 rfl) f676 (ct_sapSF l Z a0 hw n0 h673 a670 z671 cs671 (List.replicate 16 (0 : Int32)) a673 b673 [(117 : Int32), (115 : Int32), (97 : Int32), (103 : Int32), (101 : Int32), (58 : Int32), (32 : Int32)] zc hf675 ne680 f676 f674 f677 f678 f679 S673 f681 hzc) (w169 hw) (w148 hw) (fun x hx => by simp only [List.mem_cons, List.not_mem_nil, or_false] at hx; rcases hx with rfl | rfl; all_goals first | exact (List.mem_of_getElem? (i := 1) rfl) | exact (List.mem_of_getElem? (i := 0) rfl)) rfl (Nat.le_of_eq rfl) (Nat.le_of_ble_eq_true rfl) (Nat.le_of_ble_eq_true rfl) ⟨rfl, Nat.le_of_ble_eq_true rfl⟩ ⟨rfl, Nat.le_of_ble_eq_true rfl⟩ rfl (fun _ _ q => nomatch q.1) fun T h675 v so W hQ => ?_
  obtain ⟨hv, K675, V675, C675, N675, A675⟩ := hQ
  obtain rfl := Option.some.inj hv
  obtain ⟨cs675, ecs675⟩ : ∃ c : List Int32, c = cs671 ++ [(117 : Int32), (115 : Int32), (97 : Int32), (103 : Int32), (101 : Int32), (58 : Int32), (32 : Int32)] := ⟨_, rfl⟩
  have lcs675 : cs675.length = 7 := by rw [ecs675, List.length_append, lcs671, hb675]
  have A675 : Av Z h675 z671 .byte (List.map Value.int (cs675 ++ List.replicate 9 (0 : Int32))) := by have q := A675; rw [fitD hb675, ← ecs675] at q; exact q
  have N675 : Fld Z h675 a670 "java/lang/AbstractStringBuilder" "count" "I" (.int (Int32.ofNat cs675.length)) := by rw [lcs675]; have q := N675; rw [lcs671] at q; exact q
  refine k_aloadN W d_prog_1_6_17 rfl rfl ?_
  have ne682 : g ≠ a670 := (Nat.ne_of_lt (Nat.lt_of_lt_of_le (Nat.lt_of_lt_of_le FY.lt E668.1) (Nat.le_of_eq g670.symm)))
  have ne683 : g ≠ z671 := (Nat.ne_of_lt (Nat.lt_of_lt_of_le (Nat.lt_of_lt_of_le FY.lt (Nat.le_trans E668.1 E670.1)) g671))
  have f684 := (((((FY.keep K668 nin0).keep K670 nin0).keep K671 (ninS ne682 nin0)).keep K673 nin0).keep K675 (ninS ne682 (ninS ne683 nin0)))
  refine k_getF W d_prog_1_6_18 (host := "") (Or.inl (w98 hw)) Via.refl f684 fun T W => ?_
  have ne685 : sy ≠ a670 := (Nat.ne_of_lt (Nat.lt_of_lt_of_le (Nat.lt_of_lt_of_le S0.1.lt E668.1) (Nat.le_of_eq g670.symm)))
  have ne686 : b ≠ a670 := (Nat.ne_of_lt (Nat.lt_of_lt_of_le (Nat.lt_of_lt_of_le S0.2.2.2.lt E668.1) (Nat.le_of_eq g670.symm)))
  have ne687 : sy ≠ z671 := (Nat.ne_of_lt (Nat.lt_of_lt_of_le (Nat.lt_of_lt_of_le S0.1.lt (Nat.le_trans E668.1 E670.1)) g671))
  have ne688 : b ≠ z671 := (Nat.ne_of_lt (Nat.lt_of_lt_of_le (Nat.lt_of_lt_of_le S0.2.2.2.lt (Nat.le_trans E668.1 E670.1)) g671))
  have f689 := (((((S0.keep K668 nin0 nin0).keep K670 nin0 nin0).keep K671 (ninS ne685 nin0) (ninS ne686 nin0)).keep K673 nin0 nin0).keep K675 (ninS ne685 (ninS ne687 nin0)) (ninS ne686 (ninS ne688 nin0)))
  have f691 := (f676.keep K675)
  have hb690 : [q0, q1, q2].length = 3 := rfl
  have hf690 : [q0, q1, q2].length ≤ (List.replicate 9 (0 : Int32)).length := by rw [List.length_replicate]; exact Nat.le_of_ble_eq_true rfl
  have f692 := (Sta.keep f681 K675 (nsS (Exa.plain f676) (nsS (Av.plain f679) ns0)))
  refine k_callV W 3 5 59 (argsL := [(.ref sy)]) (rest := [(.ref pr), (.ref a668), (.ref a668)]) (a := a670) (C := "java/lang/StringBuilder") (z0 := (⟨"java/lang/StringBuilder", "append", "(Ljava/lang/String;)Ljava/lang/StringBuilder;"⟩ : MethodName)) (z := (⟨"java/lang/StringBuilder", "append", "(Ljava/lang/String;)Ljava/lang/StringBuilder;"⟩ : MethodName)) d_prog_1_6_21 (w165 hw) (w166 hw) (nfSel (w168 hw)) (w168 hw) (w167 hw) (by decide) (lenOf pd24 rfl) f691 (ct_sapSF l Z a0 hw n0 h675 a670 z671 cs675 (List.replicate 9 (0 : Int32)) sy b [q0, q1, q2] zc hf690 ne688 f691 V675 C675 N675 A675 f689 f692 hzc) (w169 hw) (w148 hw) (fun x hx => by simp only [List.mem_cons, List.not_mem_nil, or_false] at hx; rcases hx with rfl | rfl; all_goals first | exact (List.mem_of_getElem? (i := 1) rfl) | exact (List.mem_of_getElem? (i := 0) rfl)) rfl (Nat.le_of_eq rfl) (Nat.le_of_ble_eq_true rfl) (Nat.le_of_ble_eq_true rfl) ⟨rfl, Nat.le_of_ble_eq_true rfl⟩ ⟨rfl, Nat.le_of_ble_eq_true rfl⟩ rfl (fun _ _ q => nomatch q.1) fun T h690 v so W hQ => ?_
  obtain ⟨hv, K690, V690, C690, N690, A690⟩ := hQ
  obtain rfl := Option.some.inj hv
  obtain ⟨cs690, ecs690⟩ : ∃ c : List Int32, c = cs675 ++ [q0, q1, q2] := ⟨_, rfl⟩
  have lcs690 : cs690.length = 10 := by rw [ecs690, List.length_append, lcs675, hb690]
  have A690 : Av Z h690 z671 .byte (List.map Value.int (cs690 ++ List.replicate 6 (0 : Int32))) := by have q := A690; rw [fitD hb690, ← ecs690] at q; exact q
  have N690 : Fld Z h690 a670 "java/lang/AbstractStringBuilder" "count" "I" (.int (Int32.ofNat cs690.length)) := by rw [lcs690]; have q := N690; rw [lcs675] at q; exact q
  have hr693 : 0 < (List.replicate 6 (0 : Int32)).length := by rw [List.length_replicate]; decide
  have hN693 : cs690.length ≤ 10 := by rw [lcs690]; decide
  have f694 := (f691.keep K690)
  have f695 := (Sta.keep f692 K690 (nsS (Exa.plain f691) (nsS (Av.plain A675) ns0)))
  refine k_callV W 3 7 73 (argsL := []) (rest := [(.ref pr), (.ref a668), (.ref a668)]) (a := a670) (C := "java/lang/StringBuilder") (z0 := (⟨"java/lang/StringBuilder", "toString", "()Ljava/lang/String;"⟩ : MethodName)) (z := (⟨"java/lang/StringBuilder", "toString", "()Ljava/lang/String;"⟩ : MethodName)) d_prog_1_6_24 (w212 hw) (w213 hw) (nfSel (w215 hw)) (w215 hw) (w214 hw) (by decide) (lenOf pd25 rfl) f694 (ct_sbts l Z a0 hw n0 h690 a670 z671 cs690 (List.replicate 6 (0 : Int32)) 10 zc hr693 hN693 (by decide) f694 V690 C690 N690 A690 f695 hzc) (w216 hw) (w148 hw) (fun x hx => nomatch hx) rfl (Nat.le_of_eq rfl) (Nat.le_of_ble_eq_true rfl) (Nat.le_of_ble_eq_true rfl) ⟨rfl, Nat.le_of_ble_eq_true rfl⟩ ⟨rfl, Nat.le_of_ble_eq_true rfl⟩ rfl (fun _ _ ⟨_, _, q, _⟩ => nomatch q) fun T h693 v so W hQ => ?_
  obtain ⟨y693, b693, hv, g693, gb693, K693, S693⟩ := hQ
  obtain rfl := Option.some.inj hv
  have S693 : St Z h693 y693 b693 [(117 : Int32), (115 : Int32), (97 : Int32), (103 : Int32), (101 : Int32), (58 : Int32), (32 : Int32), q0, q1, q2] := by have q := S693; rw [ecs690, ecs675, ecs671] at q; simp only [List.nil_append, List.append_assoc, List.cons_append] at q; exact q
  have f697 := (Sta.keep (Sta.keep (Sta.keep (Sta.keep (Sta.keep (Sta.keep (Sta.keep UNS K668 ns0) K670 ns0) K671 (nsS (Exa.plain X670) ns0)) K673 ns0) K675 (nsS (Exa.plain f676) (nsS (Av.plain f679) ns0))) K690 (nsS (Exa.plain f691) (nsS (Av.plain A675) ns0))) K693 ns0)
  have f698 := (Sta.keep (Sta.keep (Sta.keep (Sta.keep (Sta.keep (Sta.keep (Sta.keep SEN K668 ns0) K670 ns0) K671 (nsS (Exa.plain X670) ns0)) K673 ns0) K675 (nsS (Exa.plain f676) (nsS (Av.plain f679) ns0))) K690 (nsS (Exa.plain f691) (nsS (Av.plain A675) ns0))) K693 ns0)
  have f699 := ((((((X668.keep K670).keep K671).keep K673).keep K675).keep K690).keep K693)
  have ne700 : a668 ≠ a670 := (Nat.ne_of_lt (Nat.lt_of_lt_of_le X668.lt (Nat.le_of_eq g670.symm)))
  have ne701 : a668 ≠ z671 := (Nat.ne_of_lt (Nat.lt_of_lt_of_le (Nat.lt_of_lt_of_le X668.lt E670.1) g671))
  have f702 := (Unt.keep K693 nin0 (Unt.keep K690 (ninS ne700 (ninS ne701 nin0)) (Unt.keep K675 (ninS ne700 (ninS ne701 nin0)) (Unt.keep K673 nin0 (Unt.keep K671 (ninS ne700 nin0) (Unt.keep K670 nin0 U668))))))
  have f703 := (((((((D668 (Or.inl (w273 hw)) (ty := (.object "java/lang/Throwable")) (by decide)).keep K670 nin0).keep K671 (ninS ne700 nin0)).keep K673 nin0).keep K675 (ninS ne700 (ninS ne701 nin0))).keep K690 (ninS ne700 (ninS ne701 nin0))).keep K693 nin0)
  have f704 := (((((((D668 (Or.inl (w276 hw)) (ty := (.array (.object "java/lang/StackTraceElement"))) (by decide)).keep K670 nin0).keep K671 (ninS ne700 nin0)).keep K673 nin0).keep K675 (ninS ne700 (ninS ne701 nin0))).keep K690 (ninS ne700 (ninS ne701 nin0))).keep K693 nin0)
  have f705 := (((((((D668 (Or.inl (w279 hw)) (ty := (.object "java/util/List")) (by decide)).keep K670 nin0).keep K671 (ninS ne700 nin0)).keep K673 nin0).keep K675 (ninS ne700 (ninS ne701 nin0))).keep K690 (ninS ne700 (ninS ne701 nin0))).keep K693 nin0)
  have f706 := (((((((D668 (Or.inl (w303 hw)) (ty := (.object "java/lang/String")) (by decide)).keep K670 nin0).keep K671 (ninS ne700 nin0)).keep K673 nin0).keep K675 (ninS ne700 (ninS ne701 nin0))).keep K690 (ninS ne700 (ninS ne701 nin0))).keep K693 nin0)
  have f707 := (((((((D668 (Or.inl (w304 hw)) (ty := (.object "java/lang/Object")) (by decide)).keep K670 nin0).keep K671 (ninS ne700 nin0)).keep K673 nin0).keep K675 (ninS ne700 (ninS ne701 nin0))).keep K690 (ninS ne700 (ninS ne701 nin0))).keep K693 nin0)
  have f708 := (ThS.keep K693 ns0 (ThS.keep K690 (nsS (Exa.plain f691) (nsS (Av.plain A675) ns0)) (ThS.keep K675 (nsS (Exa.plain f676) (nsS (Av.plain f679) ns0)) (ThS.keep K673 ns0 (ThS.keep K671 (nsS (Exa.plain X670) ns0) (ThS.keep K670 ns0 (ThS.keep K668 ns0 TH0)))))))
  refine k_callIX0 W 1 8 2825 (argsL := [(.ref pr), (.ref y693)]) (rest := [(.ref a668)]) (a := a668) d_prog_1_6_27 rfl rfl (w257 hw) (w258 hw) (by decide) (lenOf pd26 rfl) hTK hBl (ct_uex l Z a0 hw n0 h693 y693 a668 pr us sen f699 f702 f703 f704 f705 f706 f707 hlst f708 f697 f698 hsen) (w259 hw) (w145 hw) (fun x hx => by simp only [List.mem_cons, List.not_mem_nil, or_false] at hx; rcases hx with rfl; all_goals first | exact (List.mem_of_getElem? (i := 2) rfl)) rfl (Nat.le_of_eq rfl) (Nat.le_of_ble_eq_true rfl) (Nat.le_of_ble_eq_true rfl) ⟨rfl, Nat.le_of_ble_eq_true rfl⟩ ⟨rfl, Nat.le_of_ble_eq_true rfl⟩ rfl (fun _ _ _ q => nomatch q.1) fun T h696 so W hQ => ?_
  obtain ⟨-, K696, D696, G696⟩ := hQ
  have ne709 : y693 ≠ a668 := (Ne.symm (Nat.ne_of_lt (Nat.lt_of_lt_of_le (Nat.lt_of_lt_of_le X668.lt (Nat.le_trans (Nat.le_trans (Nat.le_trans (Nat.le_trans E670.1 K671.1) E673.1) K675.1) K690.1)) g693)))
  have ne710 : b693 ≠ a668 := (Ne.symm (Nat.ne_of_lt (Nat.lt_of_lt_of_le (Nat.lt_of_lt_of_le X668.lt (Nat.le_trans (Nat.le_trans (Nat.le_trans (Nat.le_trans E670.1 K671.1) E673.1) K675.1) K690.1)) gb693)))
  have f711 := (S693.keep K696 (ninS ne709 nin0) (ninS ne710 nin0))
  have KK712 : Keep h0 h667 [] := (Keep.refl h0 []).trans K668 all0
  have KK713 : Keep h0 h669 [] := KK712.trans K670 all0
  have KK714 : Keep h0 h671 [] := KK713.trans K671 (allS (Or.inr (Nat.le_trans E668.1 (Nat.le_of_eq g670.symm))) all0)
  have KK715 : Keep h0 h673 [] := KK714.trans K673 all0
  have KK716 : Keep h0 h675 [] := KK715.trans K675 (allS (Or.inr (Nat.le_trans E668.1 (Nat.le_of_eq g670.symm))) (allS (Or.inr (Nat.le_trans (Nat.le_trans E668.1 E670.1) g671)) all0))
  have KK717 : Keep h0 h690 [] := KK716.trans K690 (allS (Or.inr (Nat.le_trans E668.1 (Nat.le_of_eq g670.symm))) (allS (Or.inr (Nat.le_trans (Nat.le_trans E668.1 E670.1) g671)) all0))
  have KK718 : Keep h0 h693 [] := KK717.trans K693 all0
  have KK719 : Keep h0 h696 [] := KK718.trans K696 (allS (Or.inr (Nat.le_of_eq g668.symm)) all0)
  have f720 := (f699.keep K696)
  exact k_areturn W d_prog_1_6_30 rfl rfl rfl [] (fun x hx => nomatch hx) (Nat.le_of_ble_eq_true rfl) (Nat.le_of_ble_eq_true rfl) ⟨_, _, _, rfl, (Nat.le_of_eq g668.symm), (Nat.le_trans (Nat.le_trans (Nat.le_trans (Nat.le_trans (Nat.le_trans (Nat.le_trans E668.1 E670.1) K671.1) E673.1) K675.1) K690.1) g693), KK719, f720, D696, G696, f711⟩
set_option maxRecDepth 65536 in
set_option maxHeartbeats 40000000 in
theorem ct_gmsg (l : Launch) (Z : State) (a0 : Array Value) (hw : ∀ d ∈ tables_1, d.before a0 Z = true) (n0 : Nat) (h0 : Heap) (x q : Addr) (F0 : Fld Z h0 x "java/lang/Throwable" "detailMessage" "Ljava/lang/String;" (.ref q)) : Ct l Z a0 own_EL false (⟨"java/lang/Throwable", "getMessage", "()Ljava/lang/String;"⟩ : MethodName) jdk_78_method_6_code 1 (Option.some (Jvm.ClassFile.FieldType.object "java/lang/String")) ({ frames := 0, cells := 0, slots := 0, locals := 0 } : Room) #[(.ref x)] h0 [] n0 (fun v h so => v = some (.ref q) ∧ h0 = h ∧ so = []) := by
  refine Ct.body (plainFor_of_name pn14) ?_
  intro p e s m below meth c T W
  refine WP.cast (g' := (mkF m 0 #[.val (.ref x)] [])) (by simp [entryFrame, mkF, argsToLocals, cat_i, cat_l, cat_r, cat_n]) ?_
  refine k_aloadN W d_jdk_78_6_0 rfl rfl ?_
  refine k_getF W d_jdk_78_6_1 (host := "") (Or.inl (w307 hw)) Via.refl F0 fun T W => ?_
  exact k_areturn W d_jdk_78_6_4 rfl rfl rfl [] (fun x hx => nomatch hx) (Nat.le_of_ble_eq_true rfl) (Nat.le_of_ble_eq_true rfl) ⟨rfl, rfl, rfl⟩
set_option maxRecDepth 65536 in
set_option maxHeartbeats 40000000 in
theorem ct_gus (l : Launch) (Z : State) (a0 : Array Value) (hw : ∀ d ∈ tables_1, d.before a0 Z = true) (n0 : Nat) (h0 : Heap) (x q : Addr) (F0 : Fld Z h0 x "com/example/epochmark/epochmark/cli/UsageException" "usage" "Ljava/lang/String;" (.ref q)) : Ct l Z a0 own_EL false (⟨"com/example/epochmark/epochmark/cli/UsageException", "usage", "()Ljava/lang/String;"⟩ : MethodName) prog_3_method_2_code 1 (Option.some (Jvm.ClassFile.FieldType.object "java/lang/String")) ({ frames := 0, cells := 0, slots := 0, locals := 0 } : Room) #[(.ref x)] h0 [] n0 (fun v h so => v = some (.ref q) ∧ h0 = h ∧ so = []) := by
  refine Ct.body (plainFor_of_name pn16) ?_
  intro p e s m below meth c T W
  refine WP.cast (g' := (mkF m 0 #[.val (.ref x)] [])) (by simp [entryFrame, mkF, argsToLocals, cat_i, cat_l, cat_r, cat_n]) ?_
  refine k_aloadN W d_prog_3_2_0 rfl rfl ?_
  refine k_getF W d_prog_3_2_1 (host := "") (Or.inl (w308 hw)) Via.refl F0 fun T W => ?_
  exact k_areturn W d_prog_3_2_4 rfl rfl rfl [] (fun x hx => nomatch hx) (Nat.le_of_ble_eq_true rfl) (Nat.le_of_ble_eq_true rfl) ⟨rfl, rfl, rfl⟩
set_option maxRecDepth 65536 in
set_option maxHeartbeats 40000000 in
theorem rm0 (l : Launch) (Z : State) (a0 : Array Value) (hw : ∀ d ∈ tables_1, d.before a0 Z = true) (n0 : Nat) (h0 : Heap) (p0 p1 p2 : Int32) (us : Addr) (zc : Int32) (sen dc : Value) (P0 : Sta Z h0 "java/lang/String" "COMPACT_STRINGS" "Z" (.int zc)) (hzc : zc ≠ 0) (hlst : l.stackTraces = true) (TH0 : ThS Z h0) (UNS : Sta Z h0 "java/lang/Throwable" "UNASSIGNED_STACK" "[Ljava/lang/StackTraceElement;" (.ref us)) (SEN : Sta Z h0 "java/lang/Throwable" "SUPPRESSED_SENTINEL" "Ljava/util/List;" sen) (hsen : sen.isRef = true) (DC : Sta Z h0 "java/util/ArrayList" "DEFAULTCAPACITY_EMPTY_ELEMENTDATA" "[Ljava/lang/Object;" dc) (hdc : dc.isRef = true) : CtX l Z a0 own_EL false x code maxLocals ret room_1 #[(.int p0), (.int p1), (.int p2)] h0 [] n0 (fun v h so => v = some (.int 1)) := by
  refine CtX.body (plainFor_of_name pn6) ?_
  intro p e s m below meth c T W hs0 hTK hBl
  refine WP.cast (g' := (mkF m 0 #[.val (.int p0), .val (.int p1), .val (.int p2), .unset, .unset, .unset, .unset, .unset, .unset, .unset] [])) (by simp [entryFrame, mkF, argsToLocals, cat_i, cat_l, cat_r, cat_n, maxLocals]) ?_
  refine k_iloadN W d_code_0 rfl ?_
  refine k_iconst W d_code_1 (z := (3 : Int32)) rfl ?_
  refine k_iand W d_code_2 (z := (p2 &&& (3 : Int32))) rfl ?_
  refine k_istoreN W d_code_3 (L' := #[.val (.int p0), .val (.int p1), .val (.int p2), .val (.int (p2 &&& (3 : Int32))), .unset, .unset, .unset, .unset, .unset, .unset]) rfl ?_
  refine k_iloadN W d_code_4 rfl ?_
  refine k_iconst W d_code_5 (z := (2 : Int32)) rfl ?_
  refine k_iushr W d_code_6 (z := (XT.ushr p2 (2 : Int32))) rfl ?_
  refine k_iconst W d_code_7 (z := (3 : Int32)) rfl ?_
  refine k_iand W d_code_8 (z := ((XT.ushr p2 (2 : Int32)) &&& (3 : Int32))) rfl ?_
  refine k_istore W d_code_9 (L' := #[.val (.int p0), .val (.int p1), .val (.int p2), .val (.int (p2 &&& (3 : Int32))), .val (.int ((XT.ushr p2 (2 : Int32)) &&& (3 : Int32))), .unset, .unset, .unset, .unset, .unset]) rfl ?_
  rcases and3 (XT.ushr p2 (2 : Int32)) with e3 | e3 | e3 | e3
  · --
    rw [e3]
    refine k_iloadN W d_code_11 rfl ?_
    refine k_iloadN W d_code_12 rfl ?_
    refine k_callS W 0 6 12 (argsL := [(.int (p2 &&& (3 : Int32))), (.int p0)]) (rest := []) d_code_13 (w0 hw) (w1 hw) (by decide) (lenOf pd27 rfl) (ct_txA l Z a0 hw n0 h0 (p2 &&& (3 : Int32)) p0 zc P0 hzc) (w3 hw) (w2 hw) (fun x hx => hx) rfl (Nat.le_of_eq rfl) (Nat.le_of_ble_eq_true rfl) (Nat.le_of_ble_eq_true rfl) ⟨rfl, Nat.le_of_ble_eq_true rfl⟩ ⟨rfl, Nat.le_of_ble_eq_true rfl⟩ rfl (fun _ _ ⟨_, _, _, q, _⟩ => nomatch q) fun T h721 v so W hQ => ?_
    obtain ⟨x721, b721, bs721, hv, g721, K721, S721⟩ := hQ
    obtain rfl := Option.some.inj hv
    refine k_astore W d_code_16 rfl (L' := #[.val (.int p0), .val (.int p1), .val (.int p2), .val (.int (p2 &&& (3 : Int32))), .val (.int (0 : Int32)), .val (.ref x721), .unset, .unset, .unset, .unset]) rfl ?_
    refine k_iload W d_code_18 rfl ?_
    refine k_iloadN W d_code_20 rfl ?_
    have f723 := (Sta.keep P0 K721 ns0)
    refine k_callS W 0 12 24 (argsL := [(.int (0 : Int32)), (.int p1)]) (rest := []) d_code_21 (w0 hw) (w1 hw) (by decide) (lenOf pd27 rfl) (ct_tx0 l Z a0 hw n0 h721 p1 zc f723 hzc) (w3 hw) (w2 hw) (fun x hx => hx) rfl (Nat.le_of_eq rfl) (Nat.le_of_ble_eq_true rfl) (Nat.le_of_ble_eq_true rfl) ⟨rfl, Nat.le_of_ble_eq_true rfl⟩ ⟨rfl, Nat.le_of_ble_eq_true rfl⟩ rfl (fun _ _ ⟨_, _, q, _⟩ => nomatch q) fun T h722 v so W hQ => ?_
    obtain ⟨x722, b722, hv, g722, K722, S722⟩ := hQ
    obtain rfl := Option.some.inj hv
    refine k_astore W d_code_24 rfl (L' := #[.val (.int p0), .val (.int p1), .val (.int p2), .val (.int (p2 &&& (3 : Int32))), .val (.int (0 : Int32)), .val (.ref x721), .val (.ref x722), .unset, .unset, .unset]) rfl ?_
    refine k_iload W d_code_26 rfl ?_
    refine k_iloadN W d_code_28 rfl ?_
    have f725 := (Sta.keep f723 K722 ns0)
    refine k_callS W 0 15 42 (argsL := [(.int (0 : Int32)), (.int p1)]) (rest := []) d_code_29 (w40 hw) (w41 hw) (by decide) (lenOf pd27 rfl) (ct_pf0 l Z a0 hw n0 h722 p1 zc f725 hzc) (w42 hw) (w2 hw) (fun x hx => hx) rfl (Nat.le_of_eq rfl) (Nat.le_of_ble_eq_true rfl) (Nat.le_of_ble_eq_true rfl) ⟨rfl, Nat.le_of_ble_eq_true rfl⟩ ⟨rfl, Nat.le_of_ble_eq_true rfl⟩ rfl (fun _ _ ⟨_, _, q, _⟩ => nomatch q) fun T h724 v so W hQ => ?_
    obtain ⟨x724, b724, hv, g724, K724, S724⟩ := hQ
    obtain rfl := Option.some.inj hv
    refine k_astore W d_code_32 rfl (L' := #[.val (.int p0), .val (.int p1), .val (.int p2), .val (.int (p2 &&& (3 : Int32))), .val (.int (0 : Int32)), .val (.ref x721), .val (.ref x722), .val (.ref x724), .unset, .unset]) rfl ?_
    refine k_new W 16 46 d_code_34 (w43 hw) (w44 hw) (w45 hw) ⟨rfl, Nat.le_of_ble_eq_true rfl⟩ ⟨rfl, Nat.le_of_ble_eq_true rfl⟩ fun T h726 a727 g727 W E727 X727 D727 => ?_
    have K727 : Keep h724 h726 [] := keep_ext E727 []
    refine k_dup W d_code_37 rfl ?_
    refine k_new W 17 49 d_code_38 (w46 hw) (w47 hw) (w48 hw) ⟨rfl, Nat.le_of_ble_eq_true rfl⟩ ⟨rfl, Nat.le_of_ble_eq_true rfl⟩ fun T h728 a729 g729 W E729 X729 D729 => ?_
    have K729 : Keep h726 h728 [] := keep_ext E729 []
    refine k_dup W d_code_41 rfl ?_
    have f731 := (Sta.keep (Sta.keep (Sta.keep (Sta.keep (Sta.keep DC K721 ns0) K722 ns0) K724 ns0) K727 ns0) K729 ns0)
    refine k_callI0 W 3 17 49 (argsL := []) (rest := [(.ref a729), (.ref a727), (.ref a727)]) (a := a729) d_code_42 rfl rfl (w49 hw) (w50 hw) (by decide) (lenOf pd21 rfl) (ct_arl l Z a0 hw n0 h728 a729 dc X729 (D729 (Or.inl (w137 hw)) (ty := .int) (by decide)) (D729 (Or.inl (w66 hw)) (ty := .int) (by decide)) (D729 (Or.inl (w69 hw)) (ty := (.array (.object "java/lang/Object"))) (by decide)) f731 hdc) (w51 hw) (w48 hw) (fun x hx => by simp only [List.mem_cons, List.not_mem_nil, or_false] at hx; rcases hx with rfl; all_goals first | exact (List.mem_of_getElem? (i := 0) rfl)) rfl (Nat.le_of_eq rfl) (Nat.le_of_ble_eq_true rfl) (Nat.le_of_ble_eq_true rfl) ⟨rfl, Nat.le_of_ble_eq_true rfl⟩ ⟨rfl, Nat.le_of_ble_eq_true rfl⟩ rfl (fun _ _ _ q => nomatch q.1) fun T h730 so W hQ => ?_
    obtain ⟨-, K730, S730, M730⟩ := hQ
    refine k_aconst W d_code_45 ?_
    refine k_aconst W d_code_46 ?_
    refine k_aload W d_code_47 rfl rfl ?_
    have f733 := (Sta.keep f731 K730 (nsS (Exa.plain X729) ns0))
    have f734 := ((X727.keep K729).keep K730)
    have f735 := (X729.keep K730)
    have ne736 : a727 ≠ a729 := (Nat.ne_of_lt (Nat.lt_of_lt_of_le X727.lt (Nat.le_of_eq g729.symm)))
    have f737 := (((D727 (Or.inr (w91 hw)) (ty := (.object "java/util/Map")) (by decide)).keep K729 nin0).keep K730 (ninS ne736 nin0))
    have f738 := (((D727 (Or.inr (w95 hw)) (ty := (.object "java/util/List")) (by decide)).keep K729 nin0).keep K730 (ninS ne736 nin0))
    have f739 := (((D727 (Or.inr (w97 hw)) (ty := (.object "java/util/Map")) (by decide)).keep K729 nin0).keep K730 (ninS ne736 nin0))
    have f740 := (((D727 (Or.inr (w99 hw)) (ty := (.object "java/lang/String")) (by decide)).keep K729 nin0).keep K730 (ninS ne736 nin0))
    refine k_callI0 W 1 20 64 (argsL := [(.ref a729), .null, .null, (.ref x722)]) (rest := [(.ref a727)]) (a := a727) d_code_49 rfl rfl (w70 hw) (w71 hw) (by decide) (lenOf pd28 rfl) (ct_args l Z a0 hw n0 h730 a727 a729 x722 dc f734 f735 M730 S730 f737 f738 f739 f740 f733 hdc) (w72 hw) (w45 hw) (fun x hx => by simp only [List.mem_cons, List.not_mem_nil, or_false] at hx; rcases hx with rfl; all_goals first | exact (List.mem_of_getElem? (i := 1) rfl)) rfl (Nat.le_of_eq rfl) (Nat.le_of_ble_eq_true rfl) (Nat.le_of_ble_eq_true rfl) ⟨rfl, Nat.le_of_ble_eq_true rfl⟩ ⟨rfl, Nat.le_of_ble_eq_true rfl⟩ rfl (fun _ _ _ q => nomatch q.1) fun T h732 so W hQ => ?_
    obtain ⟨-, K732, Y732⟩ := hQ
    refine k_astore W d_code_52 rfl (L' := #[.val (.int p0), .val (.int p1), .val (.int p2), .val (.int (p2 &&& (3 : Int32))), .val (.int (0 : Int32)), .val (.ref x721), .val (.ref x722), .val (.ref x724), .val (.ref a727), .unset]) rfl ?_
    refine k_aload W d_code_54 rfl rfl ?_
    refine k_aload W d_code_56 rfl rfl ?_
    have ne741 : x722 ≠ a729 := (Nat.ne_of_lt (Nat.lt_of_lt_of_le (Nat.lt_of_lt_of_le S722.1.lt (Nat.le_trans K724.1 E727.1)) (Nat.le_of_eq g729.symm)))
    have ne742 : b722 ≠ a729 := (Nat.ne_of_lt (Nat.lt_of_lt_of_le (Nat.lt_of_lt_of_le S722.2.2.2.lt (Nat.le_trans K724.1 E727.1)) (Nat.le_of_eq g729.symm)))
    have ne743 : x722 ≠ a727 := (Nat.ne_of_lt (Nat.lt_of_lt_of_le (Nat.lt_of_lt_of_le S722.1.lt K724.1) (Nat.le_of_eq g727.symm)))
    have ne744 : b722 ≠ a727 := (Nat.ne_of_lt (Nat.lt_of_lt_of_le (Nat.lt_of_lt_of_le S722.2.2.2.lt K724.1) (Nat.le_of_eq g727.symm)))
    have f745 := (((((S722.keep K724 nin0 nin0).keep K727 nin0 nin0).keep K729 nin0 nin0).keep K730 (ninS ne741 nin0) (ninS ne742 nin0)).keep K732 (ninS ne743 nin0) (ninS ne744 nin0))
    have f747 := (Sta.keep (Sta.keep (Sta.keep (Sta.keep (Sta.keep (Sta.keep (Sta.keep UNS K721 ns0) K722 ns0) K724 ns0) K727 ns0) K729 ns0) K730 (nsS (Exa.plain X729) ns0)) K732 (nsS (Exa.plain f734) ns0))
    have f748 := (Sta.keep (Sta.keep (Sta.keep (Sta.keep (Sta.keep (Sta.keep (Sta.keep SEN K721 ns0) K722 ns0) K724 ns0) K727 ns0) K729 ns0) K730 (nsS (Exa.plain X729) ns0)) K732 (nsS (Exa.plain f734) ns0))
    have f749 := (Sta.keep (Sta.keep (Sta.keep (Sta.keep (Sta.keep f725 K724 ns0) K727 ns0) K729 ns0) K730 (nsS (Exa.plain X729) ns0)) K732 (nsS (Exa.plain f734) ns0))
    have f750 := (ThS.keep K732 (nsS (Exa.plain f734) ns0) (ThS.keep K730 (nsS (Exa.plain X729) ns0) (ThS.keep K729 ns0 (ThS.keep K727 ns0 (ThS.keep K724 ns0 (ThS.keep K722 ns0 (ThS.keep K721 ns0 TH0)))))))
    have f751 := (f734.keep K732)
    refine k_callVX W 0 28 2886 (argsL := [(.ref x721)]) (rest := []) (a := a727) (C := "com/example/epochmark/epochmark/cli/Arguments") (z0 := (⟨"com/example/epochmark/epochmark/cli/Arguments", "usage", "(Ljava/lang/String;)Lcom/example/epochmark/epochmark/cli/UsageException;"⟩ : MethodName)) (z := (⟨"com/example/epochmark/epochmark/cli/Arguments", "usage", "(Ljava/lang/String;)Lcom/example/epochmark/epochmark/cli/UsageException;"⟩ : MethodName)) d_code_58 (w138 hw) (w139 hw) (nfSel (w141 hw)) (w141 hw) (w140 hw) (by decide) (lenOf pd29 rfl) f751 hTK hBl (ct_us0 l Z a0 hw n0 h732 a727 x721 x722 b722 us  zc sen Y732 f745 f749 hzc hlst f750 f747 f748 hsen) (w142 hw) (w45 hw) (fun x hx => nomatch hx) rfl (Nat.le_of_eq rfl) (Nat.le_of_ble_eq_true rfl) (Nat.le_of_ble_eq_true rfl) ⟨rfl, Nat.le_of_ble_eq_true rfl⟩ ⟨rfl, Nat.le_of_ble_eq_true rfl⟩ rfl (fun _ _ ⟨_, _, _, q, _⟩ => nomatch q) fun T h746 v so W hQ => ?_
    obtain ⟨x746, u746, bu746, hv, g746, gu746, K746, E746, D746, G746, S746⟩ := hQ
    obtain rfl := Option.some.inj hv
    refine k_astore W d_code_61 rfl (L' := #[.val (.int p0), .val (.int p1), .val (.int p2), .val (.int (p2 &&& (3 : Int32))), .val (.int (0 : Int32)), .val (.ref x721), .val (.ref x722), .val (.ref x724), .val (.ref a727), .val (.ref x746)]) rfl ?_
    refine k_aload W d_code_63 rfl rfl ?_
    refine k_nnY W 70 d_code_65 (by decide) ?_
    refine k_aload W d_code_70 rfl rfl ?_
    refine k_aload W d_code_72 rfl rfl ?_
    refine k_callW W 1 28 2886 (argsL := []) (rest := [(.ref x721)]) (a := x746) (C := "com/example/epochmark/epochmark/cli/UsageException") (owner := "java/lang/Throwable") (z0 := (⟨"com/example/epochmark/epochmark/cli/UsageException", "getMessage", "()Ljava/lang/String;"⟩ : MethodName)) (z := (⟨"java/lang/Throwable", "getMessage", "()Ljava/lang/String;"⟩ : MethodName)) d_code_74 (w310 hw) (w311 hw) (w312 hw) (w314 hw) (w313 hw) (by decide) (by decide) (lenOf pd25 rfl) E746 (ct_gmsg l Z a0 hw n0 h746 x746 x721 D746) (w315 hw) (w269 hw) (fun x hx => nomatch hx) rfl (Nat.le_of_eq rfl) (Nat.le_of_ble_eq_true rfl) (Nat.le_of_ble_eq_true rfl) ⟨rfl, Nat.le_of_ble_eq_true rfl⟩ ⟨rfl, Nat.le_of_ble_eq_true rfl⟩ rfl (fun _ _ q => nomatch q.1) fun T h752 v so W hQ => ?_
    obtain ⟨hv, rfl, -⟩ := hQ
    obtain rfl := Option.some.inj hv
    have ne754 : x721 ≠ a729 := (Nat.ne_of_lt (Nat.lt_of_lt_of_le (Nat.lt_of_lt_of_le S721.1.lt (Nat.le_trans (Nat.le_trans K722.1 K724.1) E727.1)) (Nat.le_of_eq g729.symm)))
    have ne755 : b721 ≠ a729 := (Nat.ne_of_lt (Nat.lt_of_lt_of_le (Nat.lt_of_lt_of_le S721.2.2.2.lt (Nat.le_trans (Nat.le_trans K722.1 K724.1) E727.1)) (Nat.le_of_eq g729.symm)))
    have ne756 : x721 ≠ a727 := (Nat.ne_of_lt (Nat.lt_of_lt_of_le (Nat.lt_of_lt_of_le S721.1.lt (Nat.le_trans K722.1 K724.1)) (Nat.le_of_eq g727.symm)))
    have ne757 : b721 ≠ a727 := (Nat.ne_of_lt (Nat.lt_of_lt_of_le (Nat.lt_of_lt_of_le S721.2.2.2.lt (Nat.le_trans K722.1 K724.1)) (Nat.le_of_eq g727.symm)))
    have f758 := (((((((S721.keep K722 nin0 nin0).keep K724 nin0 nin0).keep K727 nin0 nin0).keep K729 nin0 nin0).keep K730 (ninS ne754 nin0) (ninS ne755 nin0)).keep K732 (ninS ne756 nin0) (ninS ne757 nin0)).keep K746 nin0 nin0)
    refine k_callV W 0 28 2886 (argsL := [(.ref x721)]) (rest := []) (a := x721) (C := "java/lang/String") (z0 := (⟨"java/lang/String", "equals", "(Ljava/lang/Object;)Z"⟩ : MethodName)) (z := (⟨"java/lang/String", "equals", "(Ljava/lang/Object;)Z"⟩ : MethodName)) d_code_77 (w316 hw) (w317 hw) (nfSel (w319 hw)) (w319 hw) (w318 hw) (by decide) (lenOf pd30 rfl) f758.1 (ct_seqI l Z a0 hw n0 h746 x721) (w320 hw) (w6 hw) (fun x hx => nomatch hx) rfl (Nat.le_of_eq rfl) (Nat.le_of_ble_eq_true rfl) (Nat.le_of_ble_eq_true rfl) ⟨rfl, Nat.le_of_ble_eq_true rfl⟩ ⟨rfl, Nat.le_of_ble_eq_true rfl⟩ rfl (fun _ _ q => nomatch q.1) fun T h753 v so W hQ => ?_
    obtain ⟨hv, rfl, -⟩ := hQ
    obtain rfl := Option.some.inj hv
    refine k_ifN W d_code_80 (show ¬ ((1 : Int32) = 0) by decide) ?_
    refine k_aload W d_code_83 rfl rfl ?_
    refine k_aload W d_code_85 rfl rfl ?_
    refine k_callV W 1 28 2886 (argsL := []) (rest := [(.ref x724)]) (a := x746) (C := "com/example/epochmark/epochmark/cli/UsageException") (z0 := (⟨"com/example/epochmark/epochmark/cli/UsageException", "usage", "()Ljava/lang/String;"⟩ : MethodName)) (z := (⟨"com/example/epochmark/epochmark/cli/UsageException", "usage", "()Ljava/lang/String;"⟩ : MethodName)) d_code_87 (w321 hw) (w322 hw) (nfSel (w324 hw)) (w324 hw) (w323 hw) (by decide) (lenOf pd25 rfl) E746 (ct_gus l Z a0 hw n0 h746 x746 u746 G746) (w325 hw) (w145 hw) (fun x hx => nomatch hx) rfl (Nat.le_of_eq rfl) (Nat.le_of_ble_eq_true rfl) (Nat.le_of_ble_eq_true rfl) ⟨rfl, Nat.le_of_ble_eq_true rfl⟩ ⟨rfl, Nat.le_of_ble_eq_true rfl⟩ rfl (fun _ _ q => nomatch q.1) fun T h759 v so W hQ => ?_
    obtain ⟨hv, rfl, -⟩ := hQ
    obtain rfl := Option.some.inj hv
    have ne760 : x724 ≠ a729 := (Nat.ne_of_lt (Nat.lt_of_lt_of_le (Nat.lt_of_lt_of_le S724.1.lt E727.1) (Nat.le_of_eq g729.symm)))
    have ne761 : b724 ≠ a729 := (Nat.ne_of_lt (Nat.lt_of_lt_of_le (Nat.lt_of_lt_of_le S724.2.2.2.lt E727.1) (Nat.le_of_eq g729.symm)))
    have ne762 : x724 ≠ a727 := (Nat.ne_of_lt (Nat.lt_of_lt_of_le S724.1.lt (Nat.le_of_eq g727.symm)))
    have ne763 : b724 ≠ a727 := (Nat.ne_of_lt (Nat.lt_of_lt_of_le S724.2.2.2.lt (Nat.le_of_eq g727.symm)))
    have f764 := (((((S724.keep K727 nin0 nin0).keep K729 nin0 nin0).keep K730 (ninS ne760 nin0) (ninS ne761 nin0)).keep K732 (ninS ne762 nin0) (ninS ne763 nin0)).keep K746 nin0 nin0)
    have f765 := (Sta.keep f749 K746 ns0)
    have ne767 : x724 ≠ u746 := (Nat.ne_of_lt (Nat.lt_of_lt_of_le (Nat.lt_of_lt_of_le S724.1.lt (Nat.le_trans (Nat.le_trans (Nat.le_trans E727.1 E729.1) K730.1) K732.1)) gu746))
    refine k_callV W 0 28 2886 (argsL := [(.ref u746)]) (rest := []) (a := x724) (C := "java/lang/String") (z0 := (⟨"java/lang/String", "equals", "(Ljava/lang/Object;)Z"⟩ : MethodName)) (z := (⟨"java/lang/String", "equals", "(Ljava/lang/Object;)Z"⟩ : MethodName)) d_code_90 (w316 hw) (w317 hw) (nfSel (w319 hw)) (w319 hw) (w318 hw) (by decide) (lenOf pd30 rfl) f764.1 (ct_seq l Z a0 hw n0 h746 x724 b724 u746 bu746 [(117 : Int32), (115 : Int32), (97 : Int32), (103 : Int32), (101 : Int32), (58 : Int32), (32 : Int32)] [(117 : Int32), (115 : Int32), (97 : Int32), (103 : Int32), (101 : Int32), (58 : Int32), (32 : Int32)] zc ne767 f764 S746 f765 hzc) (w320 hw) (w6 hw) (fun x hx => nomatch hx) rfl (Nat.le_of_eq rfl) (Nat.le_of_ble_eq_true rfl) (Nat.le_of_ble_eq_true rfl) ⟨rfl, Nat.le_of_ble_eq_true rfl⟩ ⟨rfl, Nat.le_of_ble_eq_true rfl⟩ rfl (fun _ _ q => by rcases q.1 with ⟨_, u⟩ | ⟨_, u⟩ <;> cases u) fun T h768 v so W hQ => ?_
    obtain ⟨hQ, rfl⟩ := hQ
    rcases hQ with ⟨heq766, hv⟩ | ⟨heq766, hv⟩
    · --
      obtain rfl := Option.some.inj hv
      refine k_ifN W d_code_93 (show ¬ ((1 : Int32) = 0) by decide) ?_
      refine k_iconst W d_code_96 (z := (1 : Int32)) rfl ?_
      refine k_goto W 101 d_code_97 (by decide) ?_
      exact k_retN W (t := .boolean) (z' := (1 : Int32)) d_code_101 rfl (by simp) (by decide) [] (fun x hx => nomatch hx) (Nat.le_of_ble_eq_true rfl) (Nat.le_of_ble_eq_true rfl) rfl
    · --
      exact absurd heq766 (by decide)
  · --
    rw [e3]
    refine k_iloadN W d_code_11 rfl ?_
    refine k_iloadN W d_code_12 rfl ?_
    refine k_callS W 0 6 12 (argsL := [(.int (p2 &&& (3 : Int32))), (.int p0)]) (rest := []) d_code_13 (w0 hw) (w1 hw) (by decide) (lenOf pd27 rfl) (ct_txA l Z a0 hw n0 h0 (p2 &&& (3 : Int32)) p0 zc P0 hzc) (w3 hw) (w2 hw) (fun x hx => hx) rfl (Nat.le_of_eq rfl) (Nat.le_of_ble_eq_true rfl) (Nat.le_of_ble_eq_true rfl) ⟨rfl, Nat.le_of_ble_eq_true rfl⟩ ⟨rfl, Nat.le_of_ble_eq_true rfl⟩ rfl (fun _ _ ⟨_, _, _, q, _⟩ => nomatch q) fun T h769 v so W hQ => ?_
    obtain ⟨x769, b769, bs769, hv, g769, K769, S769⟩ := hQ
    obtain rfl := Option.some.inj hv
    refine k_astore W d_code_16 rfl (L' := #[.val (.int p0), .val (.int p1), .val (.int p2), .val (.int (p2 &&& (3 : Int32))), .val (.int (1 : Int32)), .val (.ref x769), .unset, .unset, .unset, .unset]) rfl ?_
    refine k_iload W d_code_18 rfl ?_
    refine k_iloadN W d_code_20 rfl ?_
    have f771 := (Sta.keep P0 K769 ns0)
    refine k_callS W 0 9 18 (argsL := [(.int (1 : Int32)), (.int p1)]) (rest := []) d_code_21 (w0 hw) (w1 hw) (by decide) (lenOf pd27 rfl) (ct_tx1 l Z a0 hw n0 h769 p1 zc f771 hzc) (w3 hw) (w2 hw) (fun x hx => hx) rfl (Nat.le_of_eq rfl) (Nat.le_of_ble_eq_true rfl) (Nat.le_of_ble_eq_true rfl) ⟨rfl, Nat.le_of_ble_eq_true rfl⟩ ⟨rfl, Nat.le_of_ble_eq_true rfl⟩ rfl (fun _ _ ⟨_, _, q, _⟩ => nomatch q) fun T h770 v so W hQ => ?_
    obtain ⟨x770, b770, hv, g770, K770, S770⟩ := hQ
    obtain rfl := Option.some.inj hv
    refine k_astore W d_code_24 rfl (L' := #[.val (.int p0), .val (.int p1), .val (.int p2), .val (.int (p2 &&& (3 : Int32))), .val (.int (1 : Int32)), .val (.ref x769), .val (.ref x770), .unset, .unset, .unset]) rfl ?_
    refine k_iload W d_code_26 rfl ?_
    refine k_iloadN W d_code_28 rfl ?_
    have f773 := (Sta.keep f771 K770 ns0)
    refine k_callS W 0 12 38 (argsL := [(.int (1 : Int32)), (.int p1)]) (rest := []) d_code_29 (w40 hw) (w41 hw) (by decide) (lenOf pd27 rfl) (ct_pf1 l Z a0 hw n0 h770 p1 zc f773 hzc) (w42 hw) (w2 hw) (fun x hx => hx) rfl (Nat.le_of_eq rfl) (Nat.le_of_ble_eq_true rfl) (Nat.le_of_ble_eq_true rfl) ⟨rfl, Nat.le_of_ble_eq_true rfl⟩ ⟨rfl, Nat.le_of_ble_eq_true rfl⟩ rfl (fun _ _ ⟨_, _, q, _⟩ => nomatch q) fun T h772 v so W hQ => ?_
    obtain ⟨x772, b772, hv, g772, K772, S772⟩ := hQ
    obtain rfl := Option.some.inj hv
    refine k_astore W d_code_32 rfl (L' := #[.val (.int p0), .val (.int p1), .val (.int p2), .val (.int (p2 &&& (3 : Int32))), .val (.int (1 : Int32)), .val (.ref x769), .val (.ref x770), .val (.ref x772), .unset, .unset]) rfl ?_
    refine k_new W 13 42 d_code_34 (w43 hw) (w44 hw) (w45 hw) ⟨rfl, Nat.le_of_ble_eq_true rfl⟩ ⟨rfl, Nat.le_of_ble_eq_true rfl⟩ fun T h774 a775 g775 W E775 X775 D775 => ?_
    have K775 : Keep h772 h774 [] := keep_ext E775 []
    refine k_dup W d_code_37 rfl ?_
    refine k_new W 14 45 d_code_38 (w46 hw) (w47 hw) (w48 hw) ⟨rfl, Nat.le_of_ble_eq_true rfl⟩ ⟨rfl, Nat.le_of_ble_eq_true rfl⟩ fun T h776 a777 g777 W E777 X777 D777 => ?_
    have K777 : Keep h774 h776 [] := keep_ext E777 []
    refine k_dup W d_code_41 rfl ?_
    have f779 := (Sta.keep (Sta.keep (Sta.keep (Sta.keep (Sta.keep DC K769 ns0) K770 ns0) K772 ns0) K775 ns0) K777 ns0)
    refine k_callI0 W 3 14 45 (argsL := []) (rest := [(.ref a777), (.ref a775), (.ref a775)]) (a := a777) d_code_42 rfl rfl (w49 hw) (w50 hw) (by decide) (lenOf pd21 rfl) (ct_arl l Z a0 hw n0 h776 a777 dc X777 (D777 (Or.inl (w137 hw)) (ty := .int) (by decide)) (D777 (Or.inl (w66 hw)) (ty := .int) (by decide)) (D777 (Or.inl (w69 hw)) (ty := (.array (.object "java/lang/Object"))) (by decide)) f779 hdc) (w51 hw) (w48 hw) (fun x hx => by simp only [List.mem_cons, List.not_mem_nil, or_false] at hx; rcases hx with rfl; all_goals first | exact (List.mem_of_getElem? (i := 0) rfl)) rfl (Nat.le_of_eq rfl) (Nat.le_of_ble_eq_true rfl) (Nat.le_of_ble_eq_true rfl) ⟨rfl, Nat.le_of_ble_eq_true rfl⟩ ⟨rfl, Nat.le_of_ble_eq_true rfl⟩ rfl (fun _ _ _ q => nomatch q.1) fun T h778 so W hQ => ?_
    obtain ⟨-, K778, S778, M778⟩ := hQ
    refine k_aconst W d_code_45 ?_
    refine k_aconst W d_code_46 ?_
    refine k_aload W d_code_47 rfl rfl ?_
    have f781 := (Sta.keep f779 K778 (nsS (Exa.plain X777) ns0))
    have f782 := ((X775.keep K777).keep K778)
    have f783 := (X777.keep K778)
    have ne784 : a775 ≠ a777 := (Nat.ne_of_lt (Nat.lt_of_lt_of_le X775.lt (Nat.le_of_eq g777.symm)))
    have f785 := (((D775 (Or.inr (w91 hw)) (ty := (.object "java/util/Map")) (by decide)).keep K777 nin0).keep K778 (ninS ne784 nin0))
    have f786 := (((D775 (Or.inr (w95 hw)) (ty := (.object "java/util/List")) (by decide)).keep K777 nin0).keep K778 (ninS ne784 nin0))
    have f787 := (((D775 (Or.inr (w97 hw)) (ty := (.object "java/util/Map")) (by decide)).keep K777 nin0).keep K778 (ninS ne784 nin0))
    have f788 := (((D775 (Or.inr (w99 hw)) (ty := (.object "java/lang/String")) (by decide)).keep K777 nin0).keep K778 (ninS ne784 nin0))
    refine k_callI0 W 1 17 60 (argsL := [(.ref a777), .null, .null, (.ref x770)]) (rest := [(.ref a775)]) (a := a775) d_code_49 rfl rfl (w70 hw) (w71 hw) (by decide) (lenOf pd28 rfl) (ct_args l Z a0 hw n0 h778 a775 a777 x770 dc f782 f783 M778 S778 f785 f786 f787 f788 f781 hdc) (w72 hw) (w45 hw) (fun x hx => by simp only [List.mem_cons, List.not_mem_nil, or_false] at hx; rcases hx with rfl; all_goals first | exact (List.mem_of_getElem? (i := 1) rfl)) rfl (Nat.le_of_eq rfl) (Nat.le_of_ble_eq_true rfl) (Nat.le_of_ble_eq_true rfl) ⟨rfl, Nat.le_of_ble_eq_true rfl⟩ ⟨rfl, Nat.le_of_ble_eq_true rfl⟩ rfl (fun _ _ _ q => nomatch q.1) fun T h780 so W hQ => ?_
    obtain ⟨-, K780, Y780⟩ := hQ
    refine k_astore W d_code_52 rfl (L' := #[.val (.int p0), .val (.int p1), .val (.int p2), .val (.int (p2 &&& (3 : Int32))), .val (.int (1 : Int32)), .val (.ref x769), .val (.ref x770), .val (.ref x772), .val (.ref a775), .unset]) rfl ?_
    refine k_aload W d_code_54 rfl rfl ?_
    refine k_aload W d_code_56 rfl rfl ?_
    have ne789 : x770 ≠ a777 := (Nat.ne_of_lt (Nat.lt_of_lt_of_le (Nat.lt_of_lt_of_le S770.1.lt (Nat.le_trans K772.1 E775.1)) (Nat.le_of_eq g777.symm)))
    have ne790 : b770 ≠ a777 := (Nat.ne_of_lt (Nat.lt_of_lt_of_le (Nat.lt_of_lt_of_le S770.2.2.2.lt (Nat.le_trans K772.1 E775.1)) (Nat.le_of_eq g777.symm)))
    have ne791 : x770 ≠ a775 := (Nat.ne_of_lt (Nat.lt_of_lt_of_le (Nat.lt_of_lt_of_le S770.1.lt K772.1) (Nat.le_of_eq g775.symm)))
    have ne792 : b770 ≠ a775 := (Nat.ne_of_lt (Nat.lt_of_lt_of_le (Nat.lt_of_lt_of_le S770.2.2.2.lt K772.1) (Nat.le_of_eq g775.symm)))
    have f793 := (((((S770.keep K772 nin0 nin0).keep K775 nin0 nin0).keep K777 nin0 nin0).keep K778 (ninS ne789 nin0) (ninS ne790 nin0)).keep K780 (ninS ne791 nin0) (ninS ne792 nin0))
    have f795 := (Sta.keep (Sta.keep (Sta.keep (Sta.keep (Sta.keep (Sta.keep (Sta.keep UNS K769 ns0) K770 ns0) K772 ns0) K775 ns0) K777 ns0) K778 (nsS (Exa.plain X777) ns0)) K780 (nsS (Exa.plain f782) ns0))
    have f796 := (Sta.keep (Sta.keep (Sta.keep (Sta.keep (Sta.keep (Sta.keep (Sta.keep SEN K769 ns0) K770 ns0) K772 ns0) K775 ns0) K777 ns0) K778 (nsS (Exa.plain X777) ns0)) K780 (nsS (Exa.plain f782) ns0))
    have f797 := (Sta.keep (Sta.keep (Sta.keep (Sta.keep (Sta.keep f773 K772 ns0) K775 ns0) K777 ns0) K778 (nsS (Exa.plain X777) ns0)) K780 (nsS (Exa.plain f782) ns0))
    have f798 := (ThS.keep K780 (nsS (Exa.plain f782) ns0) (ThS.keep K778 (nsS (Exa.plain X777) ns0) (ThS.keep K777 ns0 (ThS.keep K775 ns0 (ThS.keep K772 ns0 (ThS.keep K770 ns0 (ThS.keep K769 ns0 TH0)))))))
    have f799 := (f782.keep K780)
    refine k_callVX W 0 25 2883 (argsL := [(.ref x769)]) (rest := []) (a := a775) (C := "com/example/epochmark/epochmark/cli/Arguments") (z0 := (⟨"com/example/epochmark/epochmark/cli/Arguments", "usage", "(Ljava/lang/String;)Lcom/example/epochmark/epochmark/cli/UsageException;"⟩ : MethodName)) (z := (⟨"com/example/epochmark/epochmark/cli/Arguments", "usage", "(Ljava/lang/String;)Lcom/example/epochmark/epochmark/cli/UsageException;"⟩ : MethodName)) d_code_58 (w138 hw) (w139 hw) (nfSel (w141 hw)) (w141 hw) (w140 hw) (by decide) (lenOf pd29 rfl) f799 hTK hBl (ct_us1 l Z a0 hw n0 h780 a775 x769 x770 b770 us (i2b ((XT.ushr p1 (0 : Int32)) &&& (255 : Int32))) zc sen Y780 f793 f797 hzc hlst f798 f795 f796 hsen) (w142 hw) (w45 hw) (fun x hx => nomatch hx) rfl (Nat.le_of_eq rfl) (Nat.le_of_ble_eq_true rfl) (Nat.le_of_ble_eq_true rfl) ⟨rfl, Nat.le_of_ble_eq_true rfl⟩ ⟨rfl, Nat.le_of_ble_eq_true rfl⟩ rfl (fun _ _ ⟨_, _, _, q, _⟩ => nomatch q) fun T h794 v so W hQ => ?_
    obtain ⟨x794, u794, bu794, hv, g794, gu794, K794, E794, D794, G794, S794⟩ := hQ
    obtain rfl := Option.some.inj hv
    refine k_astore W d_code_61 rfl (L' := #[.val (.int p0), .val (.int p1), .val (.int p2), .val (.int (p2 &&& (3 : Int32))), .val (.int (1 : Int32)), .val (.ref x769), .val (.ref x770), .val (.ref x772), .val (.ref a775), .val (.ref x794)]) rfl ?_
    refine k_aload W d_code_63 rfl rfl ?_
    refine k_nnY W 70 d_code_65 (by decide) ?_
    refine k_aload W d_code_70 rfl rfl ?_
    refine k_aload W d_code_72 rfl rfl ?_
    refine k_callW W 1 25 2883 (argsL := []) (rest := [(.ref x769)]) (a := x794) (C := "com/example/epochmark/epochmark/cli/UsageException") (owner := "java/lang/Throwable") (z0 := (⟨"com/example/epochmark/epochmark/cli/UsageException", "getMessage", "()Ljava/lang/String;"⟩ : MethodName)) (z := (⟨"java/lang/Throwable", "getMessage", "()Ljava/lang/String;"⟩ : MethodName)) d_code_74 (w310 hw) (w311 hw) (w312 hw) (w314 hw) (w313 hw) (by decide) (by decide) (lenOf pd25 rfl) E794 (ct_gmsg l Z a0 hw n0 h794 x794 x769 D794) (w315 hw) (w269 hw) (fun x hx => nomatch hx) rfl (Nat.le_of_eq rfl) (Nat.le_of_ble_eq_true rfl) (Nat.le_of_ble_eq_true rfl) ⟨rfl, Nat.le_of_ble_eq_true rfl⟩ ⟨rfl, Nat.le_of_ble_eq_true rfl⟩ rfl (fun _ _ q => nomatch q.1) fun T h800 v so W hQ => ?_
    obtain ⟨hv, rfl, -⟩ := hQ
    obtain rfl := Option.some.inj hv
    have ne802 : x769 ≠ a777 := (Nat.ne_of_lt (Nat.lt_of_lt_of_le (Nat.lt_of_lt_of_le S769.1.lt (Nat.le_trans (Nat.le_trans K770.1 K772.1) E775.1)) (Nat.le_of_eq g777.symm)))
    have ne803 : b769 ≠ a777 := (Nat.ne_of_lt (Nat.lt_of_lt_of_le (Nat.lt_of_lt_of_le S769.2.2.2.lt (Nat.le_trans (Nat.le_trans K770.1 K772.1) E775.1)) (Nat.le_of_eq g777.symm)))
    have ne804 : x769 ≠ a775 := (Nat.ne_of_lt (Nat.lt_of_lt_of_le (Nat.lt_of_lt_of_le S769.1.lt (Nat.le_trans K770.1 K772.1)) (Nat.le_of_eq g775.symm)))
    have ne805 : b769 ≠ a775 := (Nat.ne_of_lt (Nat.lt_of_lt_of_le (Nat.lt_of_lt_of_le S769.2.2.2.lt (Nat.le_trans K770.1 K772.1)) (Nat.le_of_eq g775.symm)))
    have f806 := (((((((S769.keep K770 nin0 nin0).keep K772 nin0 nin0).keep K775 nin0 nin0).keep K777 nin0 nin0).keep K778 (ninS ne802 nin0) (ninS ne803 nin0)).keep K780 (ninS ne804 nin0) (ninS ne805 nin0)).keep K794 nin0 nin0)
    refine k_callV W 0 25 2883 (argsL := [(.ref x769)]) (rest := []) (a := x769) (C := "java/lang/String") (z0 := (⟨"java/lang/String", "equals", "(Ljava/lang/Object;)Z"⟩ : MethodName)) (z := (⟨"java/lang/String", "equals", "(Ljava/lang/Object;)Z"⟩ : MethodName)) d_code_77 (w316 hw) (w317 hw) (nfSel (w319 hw)) (w319 hw) (w318 hw) (by decide) (lenOf pd30 rfl) f806.1 (ct_seqI l Z a0 hw n0 h794 x769) (w320 hw) (w6 hw) (fun x hx => nomatch hx) rfl (Nat.le_of_eq rfl) (Nat.le_of_ble_eq_true rfl) (Nat.le_of_ble_eq_true rfl) ⟨rfl, Nat.le_of_ble_eq_true rfl⟩ ⟨rfl, Nat.le_of_ble_eq_true rfl⟩ rfl (fun _ _ q => nomatch q.1) fun T h801 v so W hQ => ?_
    obtain ⟨hv, rfl, -⟩ := hQ
    obtain rfl := Option.some.inj hv
    refine k_ifN W d_code_80 (show ¬ ((1 : Int32) = 0) by decide) ?_
    refine k_aload W d_code_83 rfl rfl ?_
    refine k_aload W d_code_85 rfl rfl ?_
    refine k_callV W 1 25 2883 (argsL := []) (rest := [(.ref x772)]) (a := x794) (C := "com/example/epochmark/epochmark/cli/UsageException") (z0 := (⟨"com/example/epochmark/epochmark/cli/UsageException", "usage", "()Ljava/lang/String;"⟩ : MethodName)) (z := (⟨"com/example/epochmark/epochmark/cli/UsageException", "usage", "()Ljava/lang/String;"⟩ : MethodName)) d_code_87 (w321 hw) (w322 hw) (nfSel (w324 hw)) (w324 hw) (w323 hw) (by decide) (lenOf pd25 rfl) E794 (ct_gus l Z a0 hw n0 h794 x794 u794 G794) (w325 hw) (w145 hw) (fun x hx => nomatch hx) rfl (Nat.le_of_eq rfl) (Nat.le_of_ble_eq_true rfl) (Nat.le_of_ble_eq_true rfl) ⟨rfl, Nat.le_of_ble_eq_true rfl⟩ ⟨rfl, Nat.le_of_ble_eq_true rfl⟩ rfl (fun _ _ q => nomatch q.1) fun T h807 v so W hQ => ?_
    obtain ⟨hv, rfl, -⟩ := hQ
    obtain rfl := Option.some.inj hv
    have ne808 : x772 ≠ a777 := (Nat.ne_of_lt (Nat.lt_of_lt_of_le (Nat.lt_of_lt_of_le S772.1.lt E775.1) (Nat.le_of_eq g777.symm)))
    have ne809 : b772 ≠ a777 := (Nat.ne_of_lt (Nat.lt_of_lt_of_le (Nat.lt_of_lt_of_le S772.2.2.2.lt E775.1) (Nat.le_of_eq g777.symm)))
    have ne810 : x772 ≠ a775 := (Nat.ne_of_lt (Nat.lt_of_lt_of_le S772.1.lt (Nat.le_of_eq g775.symm)))
    have ne811 : b772 ≠ a775 := (Nat.ne_of_lt (Nat.lt_of_lt_of_le S772.2.2.2.lt (Nat.le_of_eq g775.symm)))
    have f812 := (((((S772.keep K775 nin0 nin0).keep K777 nin0 nin0).keep K778 (ninS ne808 nin0) (ninS ne809 nin0)).keep K780 (ninS ne810 nin0) (ninS ne811 nin0)).keep K794 nin0 nin0)
    have f813 := (Sta.keep f797 K794 ns0)
    have ne815 : x772 ≠ u794 := (Nat.ne_of_lt (Nat.lt_of_lt_of_le (Nat.lt_of_lt_of_le S772.1.lt (Nat.le_trans (Nat.le_trans (Nat.le_trans E775.1 E777.1) K778.1) K780.1)) gu794))
    refine k_callV W 0 25 2883 (argsL := [(.ref u794)]) (rest := []) (a := x772) (C := "java/lang/String") (z0 := (⟨"java/lang/String", "equals", "(Ljava/lang/Object;)Z"⟩ : MethodName)) (z := (⟨"java/lang/String", "equals", "(Ljava/lang/Object;)Z"⟩ : MethodName)) d_code_90 (w316 hw) (w317 hw) (nfSel (w319 hw)) (w319 hw) (w318 hw) (by decide) (lenOf pd30 rfl) f812.1 (ct_seq l Z a0 hw n0 h794 x772 b772 u794 bu794 [(117 : Int32), (115 : Int32), (97 : Int32), (103 : Int32), (101 : Int32), (58 : Int32), (32 : Int32), (i2b ((XT.ushr p1 (0 : Int32)) &&& (255 : Int32)))] [(117 : Int32), (115 : Int32), (97 : Int32), (103 : Int32), (101 : Int32), (58 : Int32), (32 : Int32), (i2b ((XT.ushr p1 (0 : Int32)) &&& (255 : Int32)))] zc ne815 f812 S794 f813 hzc) (w320 hw) (w6 hw) (fun x hx => nomatch hx) rfl (Nat.le_of_eq rfl) (Nat.le_of_ble_eq_true rfl) (Nat.le_of_ble_eq_true rfl) ⟨rfl, Nat.le_of_ble_eq_true rfl⟩ ⟨rfl, Nat.le_of_ble_eq_true rfl⟩ rfl (fun _ _ q => by rcases q.1 with ⟨_, u⟩ | ⟨_, u⟩ <;> cases u) fun T h816 v so W hQ => ?_
    obtain ⟨hQ, rfl⟩ := hQ
    rcases hQ with ⟨heq814, hv⟩ | ⟨heq814, hv⟩
    · --
      obtain rfl := Option.some.inj hv
      refine k_ifN W d_code_93 (show ¬ ((1 : Int32) = 0) by decide) ?_
      refine k_iconst W d_code_96 (z := (1 : Int32)) rfl ?_
      refine k_goto W 101 d_code_97 (by decide) ?_
      exact k_retN W (t := .boolean) (z' := (1 : Int32)) d_code_101 rfl (by simp) (by decide) [] (fun x hx => nomatch hx) (Nat.le_of_ble_eq_true rfl) (Nat.le_of_ble_eq_true rfl) rfl
    · --
      exact absurd rfl heq814
  · --
    rw [e3]
    refine k_iloadN W d_code_11 rfl ?_
    refine k_iloadN W d_code_12 rfl ?_
    refine k_callS W 0 6 12 (argsL := [(.int (p2 &&& (3 : Int32))), (.int p0)]) (rest := []) d_code_13 (w0 hw) (w1 hw) (by decide) (lenOf pd27 rfl) (ct_txA l Z a0 hw n0 h0 (p2 &&& (3 : Int32)) p0 zc P0 hzc) (w3 hw) (w2 hw) (fun x hx => hx) rfl (Nat.le_of_eq rfl) (Nat.le_of_ble_eq_true rfl) (Nat.le_of_ble_eq_true rfl) ⟨rfl, Nat.le_of_ble_eq_true rfl⟩ ⟨rfl, Nat.le_of_ble_eq_true rfl⟩ rfl (fun _ _ ⟨_, _, _, q, _⟩ => nomatch q) fun T h817 v so W hQ => ?_
    obtain ⟨x817, b817, bs817, hv, g817, K817, S817⟩ := hQ
    obtain rfl := Option.some.inj hv
    refine k_astore W d_code_16 rfl (L' := #[.val (.int p0), .val (.int p1), .val (.int p2), .val (.int (p2 &&& (3 : Int32))), .val (.int (2 : Int32)), .val (.ref x817), .unset, .unset, .unset, .unset]) rfl ?_
    refine k_iload W d_code_18 rfl ?_
    refine k_iloadN W d_code_20 rfl ?_
    have f819 := (Sta.keep P0 K817 ns0)
    refine k_callS W 0 9 20 (argsL := [(.int (2 : Int32)), (.int p1)]) (rest := []) d_code_21 (w0 hw) (w1 hw) (by decide) (lenOf pd27 rfl) (ct_tx2 l Z a0 hw n0 h817 p1 zc f819 hzc) (w3 hw) (w2 hw) (fun x hx => hx) rfl (Nat.le_of_eq rfl) (Nat.le_of_ble_eq_true rfl) (Nat.le_of_ble_eq_true rfl) ⟨rfl, Nat.le_of_ble_eq_true rfl⟩ ⟨rfl, Nat.le_of_ble_eq_true rfl⟩ rfl (fun _ _ ⟨_, _, q, _⟩ => nomatch q) fun T h818 v so W hQ => ?_
    obtain ⟨x818, b818, hv, g818, K818, S818⟩ := hQ
    obtain rfl := Option.some.inj hv
    refine k_astore W d_code_24 rfl (L' := #[.val (.int p0), .val (.int p1), .val (.int p2), .val (.int (p2 &&& (3 : Int32))), .val (.int (2 : Int32)), .val (.ref x817), .val (.ref x818), .unset, .unset, .unset]) rfl ?_
    refine k_iload W d_code_26 rfl ?_
    refine k_iloadN W d_code_28 rfl ?_
    have f821 := (Sta.keep f819 K818 ns0)
    refine k_callS W 0 12 42 (argsL := [(.int (2 : Int32)), (.int p1)]) (rest := []) d_code_29 (w40 hw) (w41 hw) (by decide) (lenOf pd27 rfl) (ct_pf2 l Z a0 hw n0 h818 p1 zc f821 hzc) (w42 hw) (w2 hw) (fun x hx => hx) rfl (Nat.le_of_eq rfl) (Nat.le_of_ble_eq_true rfl) (Nat.le_of_ble_eq_true rfl) ⟨rfl, Nat.le_of_ble_eq_true rfl⟩ ⟨rfl, Nat.le_of_ble_eq_true rfl⟩ rfl (fun _ _ ⟨_, _, q, _⟩ => nomatch q) fun T h820 v so W hQ => ?_
    obtain ⟨x820, b820, hv, g820, K820, S820⟩ := hQ
    obtain rfl := Option.some.inj hv
    refine k_astore W d_code_32 rfl (L' := #[.val (.int p0), .val (.int p1), .val (.int p2), .val (.int (p2 &&& (3 : Int32))), .val (.int (2 : Int32)), .val (.ref x817), .val (.ref x818), .val (.ref x820), .unset, .unset]) rfl ?_
    refine k_new W 13 46 d_code_34 (w43 hw) (w44 hw) (w45 hw) ⟨rfl, Nat.le_of_ble_eq_true rfl⟩ ⟨rfl, Nat.le_of_ble_eq_true rfl⟩ fun T h822 a823 g823 W E823 X823 D823 => ?_
    have K823 : Keep h820 h822 [] := keep_ext E823 []
    refine k_dup W d_code_37 rfl ?_
    refine k_new W 14 49 d_code_38 (w46 hw) (w47 hw) (w48 hw) ⟨rfl, Nat.le_of_ble_eq_true rfl⟩ ⟨rfl, Nat.le_of_ble_eq_true rfl⟩ fun T h824 a825 g825 W E825 X825 D825 => ?_
    have K825 : Keep h822 h824 [] := keep_ext E825 []
    refine k_dup W d_code_41 rfl ?_
    have f827 := (Sta.keep (Sta.keep (Sta.keep (Sta.keep (Sta.keep DC K817 ns0) K818 ns0) K820 ns0) K823 ns0) K825 ns0)
    refine k_callI0 W 3 14 49 (argsL := []) (rest := [(.ref a825), (.ref a823), (.ref a823)]) (a := a825) d_code_42 rfl rfl (w49 hw) (w50 hw) (by decide) (lenOf pd21 rfl) (ct_arl l Z a0 hw n0 h824 a825 dc X825 (D825 (Or.inl (w137 hw)) (ty := .int) (by decide)) (D825 (Or.inl (w66 hw)) (ty := .int) (by decide)) (D825 (Or.inl (w69 hw)) (ty := (.array (.object "java/lang/Object"))) (by decide)) f827 hdc) (w51 hw) (w48 hw) (fun x hx => by simp only [List.mem_cons, List.not_mem_nil, or_false] at hx; rcases hx with rfl; all_goals first | exact (List.mem_of_getElem? (i := 0) rfl)) rfl (Nat.le_of_eq rfl) (Nat.le_of_ble_eq_true rfl) (Nat.le_of_ble_eq_true rfl) ⟨rfl, Nat.le_of_ble_eq_true rfl⟩ ⟨rfl, Nat.le_of_ble_eq_true rfl⟩ rfl (fun _ _ _ q => nomatch q.1) fun T h826 so W hQ => ?_
    obtain ⟨-, K826, S826, M826⟩ := hQ
    refine k_aconst W d_code_45 ?_
    refine k_aconst W d_code_46 ?_
    refine k_aload W d_code_47 rfl rfl ?_
    have f829 := (Sta.keep f827 K826 (nsS (Exa.plain X825) ns0))
    have f830 := ((X823.keep K825).keep K826)
    have f831 := (X825.keep K826)
    have ne832 : a823 ≠ a825 := (Nat.ne_of_lt (Nat.lt_of_lt_of_le X823.lt (Nat.le_of_eq g825.symm)))
    have f833 := (((D823 (Or.inr (w91 hw)) (ty := (.object "java/util/Map")) (by decide)).keep K825 nin0).keep K826 (ninS ne832 nin0))
    have f834 := (((D823 (Or.inr (w95 hw)) (ty := (.object "java/util/List")) (by decide)).keep K825 nin0).keep K826 (ninS ne832 nin0))
    have f835 := (((D823 (Or.inr (w97 hw)) (ty := (.object "java/util/Map")) (by decide)).keep K825 nin0).keep K826 (ninS ne832 nin0))
    have f836 := (((D823 (Or.inr (w99 hw)) (ty := (.object "java/lang/String")) (by decide)).keep K825 nin0).keep K826 (ninS ne832 nin0))
    refine k_callI0 W 1 17 64 (argsL := [(.ref a825), .null, .null, (.ref x818)]) (rest := [(.ref a823)]) (a := a823) d_code_49 rfl rfl (w70 hw) (w71 hw) (by decide) (lenOf pd28 rfl) (ct_args l Z a0 hw n0 h826 a823 a825 x818 dc f830 f831 M826 S826 f833 f834 f835 f836 f829 hdc) (w72 hw) (w45 hw) (fun x hx => by simp only [List.mem_cons, List.not_mem_nil, or_false] at hx; rcases hx with rfl; all_goals first | exact (List.mem_of_getElem? (i := 1) rfl)) rfl (Nat.le_of_eq rfl) (Nat.le_of_ble_eq_true rfl) (Nat.le_of_ble_eq_true rfl) ⟨rfl, Nat.le_of_ble_eq_true rfl⟩ ⟨rfl, Nat.le_of_ble_eq_true rfl⟩ rfl (fun _ _ _ q => nomatch q.1) fun T h828 so W hQ => ?_
    obtain ⟨-, K828, Y828⟩ := hQ
    refine k_astore W d_code_52 rfl (L' := #[.val (.int p0), .val (.int p1), .val (.int p2), .val (.int (p2 &&& (3 : Int32))), .val (.int (2 : Int32)), .val (.ref x817), .val (.ref x818), .val (.ref x820), .val (.ref a823), .unset]) rfl ?_
    refine k_aload W d_code_54 rfl rfl ?_
    refine k_aload W d_code_56 rfl rfl ?_
    have ne837 : x818 ≠ a825 := (Nat.ne_of_lt (Nat.lt_of_lt_of_le (Nat.lt_of_lt_of_le S818.1.lt (Nat.le_trans K820.1 E823.1)) (Nat.le_of_eq g825.symm)))
    have ne838 : b818 ≠ a825 := (Nat.ne_of_lt (Nat.lt_of_lt_of_le (Nat.lt_of_lt_of_le S818.2.2.2.lt (Nat.le_trans K820.1 E823.1)) (Nat.le_of_eq g825.symm)))
    have ne839 : x818 ≠ a823 := (Nat.ne_of_lt (Nat.lt_of_lt_of_le (Nat.lt_of_lt_of_le S818.1.lt K820.1) (Nat.le_of_eq g823.symm)))
    have ne840 : b818 ≠ a823 := (Nat.ne_of_lt (Nat.lt_of_lt_of_le (Nat.lt_of_lt_of_le S818.2.2.2.lt K820.1) (Nat.le_of_eq g823.symm)))
    have f841 := (((((S818.keep K820 nin0 nin0).keep K823 nin0 nin0).keep K825 nin0 nin0).keep K826 (ninS ne837 nin0) (ninS ne838 nin0)).keep K828 (ninS ne839 nin0) (ninS ne840 nin0))
    have f843 := (Sta.keep (Sta.keep (Sta.keep (Sta.keep (Sta.keep (Sta.keep (Sta.keep UNS K817 ns0) K818 ns0) K820 ns0) K823 ns0) K825 ns0) K826 (nsS (Exa.plain X825) ns0)) K828 (nsS (Exa.plain f830) ns0))
    have f844 := (Sta.keep (Sta.keep (Sta.keep (Sta.keep (Sta.keep (Sta.keep (Sta.keep SEN K817 ns0) K818 ns0) K820 ns0) K823 ns0) K825 ns0) K826 (nsS (Exa.plain X825) ns0)) K828 (nsS (Exa.plain f830) ns0))
    have f845 := (Sta.keep (Sta.keep (Sta.keep (Sta.keep (Sta.keep f821 K820 ns0) K823 ns0) K825 ns0) K826 (nsS (Exa.plain X825) ns0)) K828 (nsS (Exa.plain f830) ns0))
    have f846 := (ThS.keep K828 (nsS (Exa.plain f830) ns0) (ThS.keep K826 (nsS (Exa.plain X825) ns0) (ThS.keep K825 ns0 (ThS.keep K823 ns0 (ThS.keep K820 ns0 (ThS.keep K818 ns0 (ThS.keep K817 ns0 TH0)))))))
    have f847 := (f830.keep K828)
    refine k_callVX W 0 25 2888 (argsL := [(.ref x817)]) (rest := []) (a := a823) (C := "com/example/epochmark/epochmark/cli/Arguments") (z0 := (⟨"com/example/epochmark/epochmark/cli/Arguments", "usage", "(Ljava/lang/String;)Lcom/example/epochmark/epochmark/cli/UsageException;"⟩ : MethodName)) (z := (⟨"com/example/epochmark/epochmark/cli/Arguments", "usage", "(Ljava/lang/String;)Lcom/example/epochmark/epochmark/cli/UsageException;"⟩ : MethodName)) d_code_58 (w138 hw) (w139 hw) (nfSel (w141 hw)) (w141 hw) (w140 hw) (by decide) (lenOf pd29 rfl) f847 hTK hBl (ct_us2 l Z a0 hw n0 h828 a823 x817 x818 b818 us (i2b ((XT.ushr p1 (0 : Int32)) &&& (255 : Int32))) (i2b ((XT.ushr p1 (8 : Int32)) &&& (255 : Int32))) zc sen Y828 f841 f845 hzc hlst f846 f843 f844 hsen) (w142 hw) (w45 hw) (fun x hx => nomatch hx) rfl (Nat.le_of_eq rfl) (Nat.le_of_ble_eq_true rfl) (Nat.le_of_ble_eq_true rfl) ⟨rfl, Nat.le_of_ble_eq_true rfl⟩ ⟨rfl, Nat.le_of_ble_eq_true rfl⟩ rfl (fun _ _ ⟨_, _, _, q, _⟩ => nomatch q) fun T h842 v so W hQ => ?_
    obtain ⟨x842, u842, bu842, hv, g842, gu842, K842, E842, D842, G842, S842⟩ := hQ
    obtain rfl := Option.some.inj hv
    refine k_astore W d_code_61 rfl (L' := #[.val (.int p0), .val (.int p1), .val (.int p2), .val (.int (p2 &&& (3 : Int32))), .val (.int (2 : Int32)), .val (.ref x817), .val (.ref x818), .val (.ref x820), .val (.ref a823), .val (.ref x842)]) rfl ?_
    refine k_aload W d_code_63 rfl rfl ?_
    refine k_nnY W 70 d_code_65 (by decide) ?_
    refine k_aload W d_code_70 rfl rfl ?_
    refine k_aload W d_code_72 rfl rfl ?_
    refine k_callW W 1 25 2888 (argsL := []) (rest := [(.ref x817)]) (a := x842) (C := "com/example/epochmark/epochmark/cli/UsageException") (owner := "java/lang/Throwable") (z0 := (⟨"com/example/epochmark/epochmark/cli/UsageException", "getMessage", "()Ljava/lang/String;"⟩ : MethodName)) (z := (⟨"java/lang/Throwable", "getMessage", "()Ljava/lang/String;"⟩ : MethodName)) d_code_74 (w310 hw) (w311 hw) (w312 hw) (w314 hw) (w313 hw) (by decide) (by decide) (lenOf pd25 rfl) E842 (ct_gmsg l Z a0 hw n0 h842 x842 x817 D842) (w315 hw) (w269 hw) (fun x hx => nomatch hx) rfl (Nat.le_of_eq rfl) (Nat.le_of_ble_eq_true rfl) (Nat.le_of_ble_eq_true rfl) ⟨rfl, Nat.le_of_ble_eq_true rfl⟩ ⟨rfl, Nat.le_of_ble_eq_true rfl⟩ rfl (fun _ _ q => nomatch q.1) fun T h848 v so W hQ => ?_
    obtain ⟨hv, rfl, -⟩ := hQ
    obtain rfl := Option.some.inj hv
    have ne850 : x817 ≠ a825 := (Nat.ne_of_lt (Nat.lt_of_lt_of_le (Nat.lt_of_lt_of_le S817.1.lt (Nat.le_trans (Nat.le_trans K818.1 K820.1) E823.1)) (Nat.le_of_eq g825.symm)))
    have ne851 : b817 ≠ a825 := (Nat.ne_of_lt (Nat.lt_of_lt_of_le (Nat.lt_of_lt_of_le S817.2.2.2.lt (Nat.le_trans (Nat.le_trans K818.1 K820.1) E823.1)) (Nat.le_of_eq g825.symm)))
    have ne852 : x817 ≠ a823 := (Nat.ne_of_lt (Nat.lt_of_lt_of_le (Nat.lt_of_lt_of_le S817.1.lt (Nat.le_trans K818.1 K820.1)) (Nat.le_of_eq g823.symm)))
    have ne853 : b817 ≠ a823 := (Nat.ne_of_lt (Nat.lt_of_lt_of_le (Nat.lt_of_lt_of_le S817.2.2.2.lt (Nat.le_trans K818.1 K820.1)) (Nat.le_of_eq g823.symm)))
    have f854 := (((((((S817.keep K818 nin0 nin0).keep K820 nin0 nin0).keep K823 nin0 nin0).keep K825 nin0 nin0).keep K826 (ninS ne850 nin0) (ninS ne851 nin0)).keep K828 (ninS ne852 nin0) (ninS ne853 nin0)).keep K842 nin0 nin0)
    refine k_callV W 0 25 2888 (argsL := [(.ref x817)]) (rest := []) (a := x817) (C := "java/lang/String") (z0 := (⟨"java/lang/String", "equals", "(Ljava/lang/Object;)Z"⟩ : MethodName)) (z := (⟨"java/lang/String", "equals", "(Ljava/lang/Object;)Z"⟩ : MethodName)) d_code_77 (w316 hw) (w317 hw) (nfSel (w319 hw)) (w319 hw) (w318 hw) (by decide) (lenOf pd30 rfl) f854.1 (ct_seqI l Z a0 hw n0 h842 x817) (w320 hw) (w6 hw) (fun x hx => nomatch hx) rfl (Nat.le_of_eq rfl) (Nat.le_of_ble_eq_true rfl) (Nat.le_of_ble_eq_true rfl) ⟨rfl, Nat.le_of_ble_eq_true rfl⟩ ⟨rfl, Nat.le_of_ble_eq_true rfl⟩ rfl (fun _ _ q => nomatch q.1) fun T h849 v so W hQ => ?_
    obtain ⟨hv, rfl, -⟩ := hQ
    obtain rfl := Option.some.inj hv
    refine k_ifN W d_code_80 (show ¬ ((1 : Int32) = 0) by decide) ?_
    refine k_aload W d_code_83 rfl rfl ?_
    refine k_aload W d_code_85 rfl rfl ?_
    refine k_callV W 1 25 2888 (argsL := []) (rest := [(.ref x820)]) (a := x842) (C := "com/example/epochmark/epochmark/cli/UsageException") (z0 := (⟨"com/example/epochmark/epochmark/cli/UsageException", "usage", "()Ljava/lang/String;"⟩ : MethodName)) (z := (⟨"com/example/epochmark/epochmark/cli/UsageException", "usage", "()Ljava/lang/String;"⟩ : MethodName)) d_code_87 (w321 hw) (w322 hw) (nfSel (w324 hw)) (w324 hw) (w323 hw) (by decide) (lenOf pd25 rfl) E842 (ct_gus l Z a0 hw n0 h842 x842 u842 G842) (w325 hw) (w145 hw) (fun x hx => nomatch hx) rfl (Nat.le_of_eq rfl) (Nat.le_of_ble_eq_true rfl) (Nat.le_of_ble_eq_true rfl) ⟨rfl, Nat.le_of_ble_eq_true rfl⟩ ⟨rfl, Nat.le_of_ble_eq_true rfl⟩ rfl (fun _ _ q => nomatch q.1) fun T h855 v so W hQ => ?_
    obtain ⟨hv, rfl, -⟩ := hQ
    obtain rfl := Option.some.inj hv
    have ne856 : x820 ≠ a825 := (Nat.ne_of_lt (Nat.lt_of_lt_of_le (Nat.lt_of_lt_of_le S820.1.lt E823.1) (Nat.le_of_eq g825.symm)))
    have ne857 : b820 ≠ a825 := (Nat.ne_of_lt (Nat.lt_of_lt_of_le (Nat.lt_of_lt_of_le S820.2.2.2.lt E823.1) (Nat.le_of_eq g825.symm)))
    have ne858 : x820 ≠ a823 := (Nat.ne_of_lt (Nat.lt_of_lt_of_le S820.1.lt (Nat.le_of_eq g823.symm)))
    have ne859 : b820 ≠ a823 := (Nat.ne_of_lt (Nat.lt_of_lt_of_le S820.2.2.2.lt (Nat.le_of_eq g823.symm)))
    have f860 := (((((S820.keep K823 nin0 nin0).keep K825 nin0 nin0).keep K826 (ninS ne856 nin0) (ninS ne857 nin0)).keep K828 (ninS ne858 nin0) (ninS ne859 nin0)).keep K842 nin0 nin0)
    have f861 := (Sta.keep f845 K842 ns0)
    have ne863 : x820 ≠ u842 := (Nat.ne_of_lt (Nat.lt_of_lt_of_le (Nat.lt_of_lt_of_le S820.1.lt (Nat.le_trans (Nat.le_trans (Nat.le_trans E823.1 E825.1) K826.1) K828.1)) gu842))
    refine k_callV W 0 25 2888 (argsL := [(.ref u842)]) (rest := []) (a := x820) (C := "java/lang/String") (z0 := (⟨"java/lang/String", "equals", "(Ljava/lang/Object;)Z"⟩ : MethodName)) (z := (⟨"java/lang/String", "equals", "(Ljava/lang/Object;)Z"⟩ : MethodName)) d_code_90 (w316 hw) (w317 hw) (nfSel (w319 hw)) (w319 hw) (w318 hw) (by decide) (lenOf pd30 rfl) f860.1 (ct_seq l Z a0 hw n0 h842 x820 b820 u842 bu842 [(117 : Int32), (115 : Int32), (97 : Int32), (103 : Int32), (101 : Int32), (58 : Int32), (32 : Int32), (i2b ((XT.ushr p1 (0 : Int32)) &&& (255 : Int32))), (i2b ((XT.ushr p1 (8 : Int32)) &&& (255 : Int32)))] [(117 : Int32), (115 : Int32), (97 : Int32), (103 : Int32), (101 : Int32), (58 : Int32), (32 : Int32), (i2b ((XT.ushr p1 (0 : Int32)) &&& (255 : Int32))), (i2b ((XT.ushr p1 (8 : Int32)) &&& (255 : Int32)))] zc ne863 f860 S842 f861 hzc) (w320 hw) (w6 hw) (fun x hx => nomatch hx) rfl (Nat.le_of_eq rfl) (Nat.le_of_ble_eq_true rfl) (Nat.le_of_ble_eq_true rfl) ⟨rfl, Nat.le_of_ble_eq_true rfl⟩ ⟨rfl, Nat.le_of_ble_eq_true rfl⟩ rfl (fun _ _ q => by rcases q.1 with ⟨_, u⟩ | ⟨_, u⟩ <;> cases u) fun T h864 v so W hQ => ?_
    obtain ⟨hQ, rfl⟩ := hQ
    rcases hQ with ⟨heq862, hv⟩ | ⟨heq862, hv⟩
    · --
      obtain rfl := Option.some.inj hv
      refine k_ifN W d_code_93 (show ¬ ((1 : Int32) = 0) by decide) ?_
      refine k_iconst W d_code_96 (z := (1 : Int32)) rfl ?_
      refine k_goto W 101 d_code_97 (by decide) ?_
      exact k_retN W (t := .boolean) (z' := (1 : Int32)) d_code_101 rfl (by simp) (by decide) [] (fun x hx => nomatch hx) (Nat.le_of_ble_eq_true rfl) (Nat.le_of_ble_eq_true rfl) rfl
    · --
      exact absurd rfl heq862
  · --
    rw [e3]
    refine k_iloadN W d_code_11 rfl ?_
    refine k_iloadN W d_code_12 rfl ?_
    refine k_callS W 0 6 12 (argsL := [(.int (p2 &&& (3 : Int32))), (.int p0)]) (rest := []) d_code_13 (w0 hw) (w1 hw) (by decide) (lenOf pd27 rfl) (ct_txA l Z a0 hw n0 h0 (p2 &&& (3 : Int32)) p0 zc P0 hzc) (w3 hw) (w2 hw) (fun x hx => hx) rfl (Nat.le_of_eq rfl) (Nat.le_of_ble_eq_true rfl) (Nat.le_of_ble_eq_true rfl) ⟨rfl, Nat.le_of_ble_eq_true rfl⟩ ⟨rfl, Nat.le_of_ble_eq_true rfl⟩ rfl (fun _ _ ⟨_, _, _, q, _⟩ => nomatch q) fun T h865 v so W hQ => ?_
    obtain ⟨x865, b865, bs865, hv, g865, K865, S865⟩ := hQ
    obtain rfl := Option.some.inj hv
    refine k_astore W d_code_16 rfl (L' := #[.val (.int p0), .val (.int p1), .val (.int p2), .val (.int (p2 &&& (3 : Int32))), .val (.int (3 : Int32)), .val (.ref x865), .unset, .unset, .unset, .unset]) rfl ?_
    refine k_iload W d_code_18 rfl ?_
    refine k_iloadN W d_code_20 rfl ?_
    have f867 := (Sta.keep P0 K865 ns0)
    refine k_callS W 0 9 22 (argsL := [(.int (3 : Int32)), (.int p1)]) (rest := []) d_code_21 (w0 hw) (w1 hw) (by decide) (lenOf pd27 rfl) (ct_tx3 l Z a0 hw n0 h865 p1 zc f867 hzc) (w3 hw) (w2 hw) (fun x hx => hx) rfl (Nat.le_of_eq rfl) (Nat.le_of_ble_eq_true rfl) (Nat.le_of_ble_eq_true rfl) ⟨rfl, Nat.le_of_ble_eq_true rfl⟩ ⟨rfl, Nat.le_of_ble_eq_true rfl⟩ rfl (fun _ _ ⟨_, _, q, _⟩ => nomatch q) fun T h866 v so W hQ => ?_
    obtain ⟨x866, b866, hv, g866, K866, S866⟩ := hQ
    obtain rfl := Option.some.inj hv
    refine k_astore W d_code_24 rfl (L' := #[.val (.int p0), .val (.int p1), .val (.int p2), .val (.int (p2 &&& (3 : Int32))), .val (.int (3 : Int32)), .val (.ref x865), .val (.ref x866), .unset, .unset, .unset]) rfl ?_
    refine k_iload W d_code_26 rfl ?_
    refine k_iloadN W d_code_28 rfl ?_
    have f869 := (Sta.keep f867 K866 ns0)
    refine k_callS W 0 12 46 (argsL := [(.int (3 : Int32)), (.int p1)]) (rest := []) d_code_29 (w40 hw) (w41 hw) (by decide) (lenOf pd27 rfl) (ct_pf3 l Z a0 hw n0 h866 p1 zc f869 hzc) (w42 hw) (w2 hw) (fun x hx => hx) rfl (Nat.le_of_eq rfl) (Nat.le_of_ble_eq_true rfl) (Nat.le_of_ble_eq_true rfl) ⟨rfl, Nat.le_of_ble_eq_true rfl⟩ ⟨rfl, Nat.le_of_ble_eq_true rfl⟩ rfl (fun _ _ ⟨_, _, q, _⟩ => nomatch q) fun T h868 v so W hQ => ?_
    obtain ⟨x868, b868, hv, g868, K868, S868⟩ := hQ
    obtain rfl := Option.some.inj hv
    refine k_astore W d_code_32 rfl (L' := #[.val (.int p0), .val (.int p1), .val (.int p2), .val (.int (p2 &&& (3 : Int32))), .val (.int (3 : Int32)), .val (.ref x865), .val (.ref x866), .val (.ref x868), .unset, .unset]) rfl ?_
    refine k_new W 13 50 d_code_34 (w43 hw) (w44 hw) (w45 hw) ⟨rfl, Nat.le_of_ble_eq_true rfl⟩ ⟨rfl, Nat.le_of_ble_eq_true rfl⟩ fun T h870 a871 g871 W E871 X871 D871 => ?_
    have K871 : Keep h868 h870 [] := keep_ext E871 []
    refine k_dup W d_code_37 rfl ?_
    refine k_new W 14 53 d_code_38 (w46 hw) (w47 hw) (w48 hw) ⟨rfl, Nat.le_of_ble_eq_true rfl⟩ ⟨rfl, Nat.le_of_ble_eq_true rfl⟩ fun T h872 a873 g873 W E873 X873 D873 => ?_
    have K873 : Keep h870 h872 [] := keep_ext E873 []
    refine k_dup W d_code_41 rfl ?_
    have f875 := (Sta.keep (Sta.keep (Sta.keep (Sta.keep (Sta.keep DC K865 ns0) K866 ns0) K868 ns0) K871 ns0) K873 ns0)
    refine k_callI0 W 3 14 53 (argsL := []) (rest := [(.ref a873), (.ref a871), (.ref a871)]) (a := a873) d_code_42 rfl rfl (w49 hw) (w50 hw) (by decide) (lenOf pd21 rfl) (ct_arl l Z a0 hw n0 h872 a873 dc X873 (D873 (Or.inl (w137 hw)) (ty := .int) (by decide)) (D873 (Or.inl (w66 hw)) (ty := .int) (by decide)) (D873 (Or.inl (w69 hw)) (ty := (.array (.object "java/lang/Object"))) (by decide)) f875 hdc) (w51 hw) (w48 hw) (fun x hx => by simp only [List.mem_cons, List.not_mem_nil, or_false] at hx; rcases hx with rfl; all_goals first | exact (List.mem_of_getElem? (i := 0) rfl)) rfl (Nat.le_of_eq rfl) (Nat.le_of_ble_eq_true rfl) (Nat.le_of_ble_eq_true rfl) ⟨rfl, Nat.le_of_ble_eq_true rfl⟩ ⟨rfl, Nat.le_of_ble_eq_true rfl⟩ rfl (fun _ _ _ q => nomatch q.1) fun T h874 so W hQ => ?_
    obtain ⟨-, K874, S874, M874⟩ := hQ
    refine k_aconst W d_code_45 ?_
    refine k_aconst W d_code_46 ?_
    refine k_aload W d_code_47 rfl rfl ?_
    have f877 := (Sta.keep f875 K874 (nsS (Exa.plain X873) ns0))
    have f878 := ((X871.keep K873).keep K874)
    have f879 := (X873.keep K874)
    have ne880 : a871 ≠ a873 := (Nat.ne_of_lt (Nat.lt_of_lt_of_le X871.lt (Nat.le_of_eq g873.symm)))
    have f881 := (((D871 (Or.inr (w91 hw)) (ty := (.object "java/util/Map")) (by decide)).keep K873 nin0).keep K874 (ninS ne880 nin0))
    have f882 := (((D871 (Or.inr (w95 hw)) (ty := (.object "java/util/List")) (by decide)).keep K873 nin0).keep K874 (ninS ne880 nin0))
    have f883 := (((D871 (Or.inr (w97 hw)) (ty := (.object "java/util/Map")) (by decide)).keep K873 nin0).keep K874 (ninS ne880 nin0))
    have f884 := (((D871 (Or.inr (w99 hw)) (ty := (.object "java/lang/String")) (by decide)).keep K873 nin0).keep K874 (ninS ne880 nin0))
    refine k_callI0 W 1 17 68 (argsL := [(.ref a873), .null, .null, (.ref x866)]) (rest := [(.ref a871)]) (a := a871) d_code_49 rfl rfl (w70 hw) (w71 hw) (by decide) (lenOf pd28 rfl) (ct_args l Z a0 hw n0 h874 a871 a873 x866 dc f878 f879 M874 S874 f881 f882 f883 f884 f877 hdc) (w72 hw) (w45 hw) (fun x hx => by simp only [List.mem_cons, List.not_mem_nil, or_false] at hx; rcases hx with rfl; all_goals first | exact (List.mem_of_getElem? (i := 1) rfl)) rfl (Nat.le_of_eq rfl) (Nat.le_of_ble_eq_true rfl) (Nat.le_of_ble_eq_true rfl) ⟨rfl, Nat.le_of_ble_eq_true rfl⟩ ⟨rfl, Nat.le_of_ble_eq_true rfl⟩ rfl (fun _ _ _ q => nomatch q.1) fun T h876 so W hQ => ?_
    obtain ⟨-, K876, Y876⟩ := hQ
    refine k_astore W d_code_52 rfl (L' := #[.val (.int p0), .val (.int p1), .val (.int p2), .val (.int (p2 &&& (3 : Int32))), .val (.int (3 : Int32)), .val (.ref x865), .val (.ref x866), .val (.ref x868), .val (.ref a871), .unset]) rfl ?_
    refine k_aload W d_code_54 rfl rfl ?_
    refine k_aload W d_code_56 rfl rfl ?_
    have ne885 : x866 ≠ a873 := (Nat.ne_of_lt (Nat.lt_of_lt_of_le (Nat.lt_of_lt_of_le S866.1.lt (Nat.le_trans K868.1 E871.1)) (Nat.le_of_eq g873.symm)))
    have ne886 : b866 ≠ a873 := (Nat.ne_of_lt (Nat.lt_of_lt_of_le (Nat.lt_of_lt_of_le S866.2.2.2.lt (Nat.le_trans K868.1 E871.1)) (Nat.le_of_eq g873.symm)))
    have ne887 : x866 ≠ a871 := (Nat.ne_of_lt (Nat.lt_of_lt_of_le (Nat.lt_of_lt_of_le S866.1.lt K868.1) (Nat.le_of_eq g871.symm)))
    have ne888 : b866 ≠ a871 := (Nat.ne_of_lt (Nat.lt_of_lt_of_le (Nat.lt_of_lt_of_le S866.2.2.2.lt K868.1) (Nat.le_of_eq g871.symm)))
    have f889 := (((((S866.keep K868 nin0 nin0).keep K871 nin0 nin0).keep K873 nin0 nin0).keep K874 (ninS ne885 nin0) (ninS ne886 nin0)).keep K876 (ninS ne887 nin0) (ninS ne888 nin0))
    have f891 := (Sta.keep (Sta.keep (Sta.keep (Sta.keep (Sta.keep (Sta.keep (Sta.keep UNS K865 ns0) K866 ns0) K868 ns0) K871 ns0) K873 ns0) K874 (nsS (Exa.plain X873) ns0)) K876 (nsS (Exa.plain f878) ns0))
    have f892 := (Sta.keep (Sta.keep (Sta.keep (Sta.keep (Sta.keep (Sta.keep (Sta.keep SEN K865 ns0) K866 ns0) K868 ns0) K871 ns0) K873 ns0) K874 (nsS (Exa.plain X873) ns0)) K876 (nsS (Exa.plain f878) ns0))
    have f893 := (Sta.keep (Sta.keep (Sta.keep (Sta.keep (Sta.keep f869 K868 ns0) K871 ns0) K873 ns0) K874 (nsS (Exa.plain X873) ns0)) K876 (nsS (Exa.plain f878) ns0))
    have f894 := (ThS.keep K876 (nsS (Exa.plain f878) ns0) (ThS.keep K874 (nsS (Exa.plain X873) ns0) (ThS.keep K873 ns0 (ThS.keep K871 ns0 (ThS.keep K868 ns0 (ThS.keep K866 ns0 (ThS.keep K865 ns0 TH0)))))))
    have f895 := (f878.keep K876)
    refine k_callVX W 0 25 2893 (argsL := [(.ref x865)]) (rest := []) (a := a871) (C := "com/example/epochmark/epochmark/cli/Arguments") (z0 := (⟨"com/example/epochmark/epochmark/cli/Arguments", "usage", "(Ljava/lang/String;)Lcom/example/epochmark/epochmark/cli/UsageException;"⟩ : MethodName)) (z := (⟨"com/example/epochmark/epochmark/cli/Arguments", "usage", "(Ljava/lang/String;)Lcom/example/epochmark/epochmark/cli/UsageException;"⟩ : MethodName)) d_code_58 (w138 hw) (w139 hw) (nfSel (w141 hw)) (w141 hw) (w140 hw) (by decide) (lenOf pd29 rfl) f895 hTK hBl (ct_us3 l Z a0 hw n0 h876 a871 x865 x866 b866 us (i2b ((XT.ushr p1 (0 : Int32)) &&& (255 : Int32))) (i2b ((XT.ushr p1 (8 : Int32)) &&& (255 : Int32))) (i2b ((XT.ushr p1 (16 : Int32)) &&& (255 : Int32))) zc sen Y876 f889 f893 hzc hlst f894 f891 f892 hsen) (w142 hw) (w45 hw) (fun x hx => nomatch hx) rfl (Nat.le_of_eq rfl) (Nat.le_of_ble_eq_true rfl) (Nat.le_of_ble_eq_true rfl) ⟨rfl, Nat.le_of_ble_eq_true rfl⟩ ⟨rfl, Nat.le_of_ble_eq_true rfl⟩ rfl (fun _ _ ⟨_, _, _, q, _⟩ => nomatch q) fun T h890 v so W hQ => ?_
    obtain ⟨x890, u890, bu890, hv, g890, gu890, K890, E890, D890, G890, S890⟩ := hQ
    obtain rfl := Option.some.inj hv
    refine k_astore W d_code_61 rfl (L' := #[.val (.int p0), .val (.int p1), .val (.int p2), .val (.int (p2 &&& (3 : Int32))), .val (.int (3 : Int32)), .val (.ref x865), .val (.ref x866), .val (.ref x868), .val (.ref a871), .val (.ref x890)]) rfl ?_
    refine k_aload W d_code_63 rfl rfl ?_
    refine k_nnY W 70 d_code_65 (by decide) ?_
    refine k_aload W d_code_70 rfl rfl ?_
    refine k_aload W d_code_72 rfl rfl ?_
    refine k_callW W 1 25 2893 (argsL := []) (rest := [(.ref x865)]) (a := x890) (C := "com/example/epochmark/epochmark/cli/UsageException") (owner := "java/lang/Throwable") (z0 := (⟨"com/example/epochmark/epochmark/cli/UsageException", "getMessage", "()Ljava/lang/String;"⟩ : MethodName)) (z := (⟨"java/lang/Throwable", "getMessage", "()Ljava/lang/String;"⟩ : MethodName)) d_code_74 (w310 hw) (w311 hw) (w312 hw) (w314 hw) (w313 hw) (by decide) (by decide) (lenOf pd25 rfl) E890 (ct_gmsg l Z a0 hw n0 h890 x890 x865 D890) (w315 hw) (w269 hw) (fun x hx => nomatch hx) rfl (Nat.le_of_eq rfl) (Nat.le_of_ble_eq_true rfl) (Nat.le_of_ble_eq_true rfl) ⟨rfl, Nat.le_of_ble_eq_true rfl⟩ ⟨rfl, Nat.le_of_ble_eq_true rfl⟩ rfl (fun _ _ q => nomatch q.1) fun T h896 v so W hQ => ?_
    obtain ⟨hv, rfl, -⟩ := hQ
    obtain rfl := Option.some.inj hv
    have ne898 : x865 ≠ a873 := (Nat.ne_of_lt (Nat.lt_of_lt_of_le (Nat.lt_of_lt_of_le S865.1.lt (Nat.le_trans (Nat.le_trans K866.1 K868.1) E871.1)) (Nat.le_of_eq g873.symm)))
    have ne899 : b865 ≠ a873 := (Nat.ne_of_lt (Nat.lt_of_lt_of_le (Nat.lt_of_lt_of_le S865.2.2.2.lt (Nat.le_trans (Nat.le_trans K866.1 K868.1) E871.1)) (Nat.le_of_eq g873.symm)))
    have ne900 : x865 ≠ a871 := (Nat.ne_of_lt (Nat.lt_of_lt_of_le (Nat.lt_of_lt_of_le S865.1.lt (Nat.le_trans K866.1 K868.1)) (Nat.le_of_eq g871.symm)))
    have ne901 : b865 ≠ a871 := (Nat.ne_of_lt (Nat.lt_of_lt_of_le (Nat.lt_of_lt_of_le S865.2.2.2.lt (Nat.le_trans K866.1 K868.1)) (Nat.le_of_eq g871.symm)))
    have f902 := (((((((S865.keep K866 nin0 nin0).keep K868 nin0 nin0).keep K871 nin0 nin0).keep K873 nin0 nin0).keep K874 (ninS ne898 nin0) (ninS ne899 nin0)).keep K876 (ninS ne900 nin0) (ninS ne901 nin0)).keep K890 nin0 nin0)
    refine k_callV W 0 25 2893 (argsL := [(.ref x865)]) (rest := []) (a := x865) (C := "java/lang/String") (z0 := (⟨"java/lang/String", "equals", "(Ljava/lang/Object;)Z"⟩ : MethodName)) (z := (⟨"java/lang/String", "equals", "(Ljava/lang/Object;)Z"⟩ : MethodName)) d_code_77 (w316 hw) (w317 hw) (nfSel (w319 hw)) (w319 hw) (w318 hw) (by decide) (lenOf pd30 rfl) f902.1 (ct_seqI l Z a0 hw n0 h890 x865) (w320 hw) (w6 hw) (fun x hx => nomatch hx) rfl (Nat.le_of_eq rfl) (Nat.le_of_ble_eq_true rfl) (Nat.le_of_ble_eq_true rfl) ⟨rfl, Nat.le_of_ble_eq_true rfl⟩ ⟨rfl, Nat.le_of_ble_eq_true rfl⟩ rfl (fun _ _ q => nomatch q.1) fun T h897 v so W hQ => ?_
    obtain ⟨hv, rfl, -⟩ := hQ
    obtain rfl := Option.some.inj hv
    refine k_ifN W d_code_80 (show ¬ ((1 : Int32) = 0) by decide) ?_
    refine k_aload W d_code_83 rfl rfl ?_
    refine k_aload W d_code_85 rfl rfl ?_
    refine k_callV W 1 25 2893 (argsL := []) (rest := [(.ref x868)]) (a := x890) (C := "com/example/epochmark/epochmark/cli/UsageException") (z0 := (⟨"com/example/epochmark/epochmark/cli/UsageException", "usage", "()Ljava/lang/String;"⟩ : MethodName)) (z := (⟨"com/example/epochmark/epochmark/cli/UsageException", "usage", "()Ljava/lang/String;"⟩ : MethodName)) d_code_87 (w321 hw) (w322 hw) (nfSel (w324 hw)) (w324 hw) (w323 hw) (by decide) (lenOf pd25 rfl) E890 (ct_gus l Z a0 hw n0 h890 x890 u890 G890) (w325 hw) (w145 hw) (fun x hx => nomatch hx) rfl (Nat.le_of_eq rfl) (Nat.le_of_ble_eq_true rfl) (Nat.le_of_ble_eq_true rfl) ⟨rfl, Nat.le_of_ble_eq_true rfl⟩ ⟨rfl, Nat.le_of_ble_eq_true rfl⟩ rfl (fun _ _ q => nomatch q.1) fun T h903 v so W hQ => ?_
    obtain ⟨hv, rfl, -⟩ := hQ
    obtain rfl := Option.some.inj hv
    have ne904 : x868 ≠ a873 := (Nat.ne_of_lt (Nat.lt_of_lt_of_le (Nat.lt_of_lt_of_le S868.1.lt E871.1) (Nat.le_of_eq g873.symm)))
    have ne905 : b868 ≠ a873 := (Nat.ne_of_lt (Nat.lt_of_lt_of_le (Nat.lt_of_lt_of_le S868.2.2.2.lt E871.1) (Nat.le_of_eq g873.symm)))
    have ne906 : x868 ≠ a871 := (Nat.ne_of_lt (Nat.lt_of_lt_of_le S868.1.lt (Nat.le_of_eq g871.symm)))
    have ne907 : b868 ≠ a871 := (Nat.ne_of_lt (Nat.lt_of_lt_of_le S868.2.2.2.lt (Nat.le_of_eq g871.symm)))
    have f908 := (((((S868.keep K871 nin0 nin0).keep K873 nin0 nin0).keep K874 (ninS ne904 nin0) (ninS ne905 nin0)).keep K876 (ninS ne906 nin0) (ninS ne907 nin0)).keep K890 nin0 nin0)
    have f909 := (Sta.keep f893 K890 ns0)
    have ne911 : x868 ≠ u890 := (Nat.ne_of_lt (Nat.lt_of_lt_of_le (Nat.lt_of_lt_of_le S868.1.lt (Nat.le_trans (Nat.le_trans (Nat.le_trans E871.1 E873.1) K874.1) K876.1)) gu890))
    refine k_callV W 0 25 2893 (argsL := [(.ref u890)]) (rest := []) (a := x868) (C := "java/lang/String") (z0 := (⟨"java/lang/String", "equals", "(Ljava/lang/Object;)Z"⟩ : MethodName)) (z := (⟨"java/lang/String", "equals", "(Ljava/lang/Object;)Z"⟩ : MethodName)) d_code_90 (w316 hw) (w317 hw) (nfSel (w319 hw)) (w319 hw) (w318 hw) (by decide) (lenOf pd30 rfl) f908.1 (ct_seq l Z a0 hw n0 h890 x868 b868 u890 bu890 [(117 : Int32), (115 : Int32), (97 : Int32), (103 : Int32), (101 : Int32), (58 : Int32), (32 : Int32), (i2b ((XT.ushr p1 (0 : Int32)) &&& (255 : Int32))), (i2b ((XT.ushr p1 (8 : Int32)) &&& (255 : Int32))), (i2b ((XT.ushr p1 (16 : Int32)) &&& (255 : Int32)))] [(117 : Int32), (115 : Int32), (97 : Int32), (103 : Int32), (101 : Int32), (58 : Int32), (32 : Int32), (i2b ((XT.ushr p1 (0 : Int32)) &&& (255 : Int32))), (i2b ((XT.ushr p1 (8 : Int32)) &&& (255 : Int32))), (i2b ((XT.ushr p1 (16 : Int32)) &&& (255 : Int32)))] zc ne911 f908 S890 f909 hzc) (w320 hw) (w6 hw) (fun x hx => nomatch hx) rfl (Nat.le_of_eq rfl) (Nat.le_of_ble_eq_true rfl) (Nat.le_of_ble_eq_true rfl) ⟨rfl, Nat.le_of_ble_eq_true rfl⟩ ⟨rfl, Nat.le_of_ble_eq_true rfl⟩ rfl (fun _ _ q => by rcases q.1 with ⟨_, u⟩ | ⟨_, u⟩ <;> cases u) fun T h912 v so W hQ => ?_
    obtain ⟨hQ, rfl⟩ := hQ
    rcases hQ with ⟨heq910, hv⟩ | ⟨heq910, hv⟩
    · --
      obtain rfl := Option.some.inj hv
      refine k_ifN W d_code_93 (show ¬ ((1 : Int32) = 0) by decide) ?_
      refine k_iconst W d_code_96 (z := (1 : Int32)) rfl ?_
      refine k_goto W 101 d_code_97 (by decide) ?_
      exact k_retN W (t := .boolean) (z' := (1 : Int32)) d_code_101 rfl (by simp) (by decide) [] (fun x hx => nomatch hx) (Nat.le_of_ble_eq_true rfl) (Nat.le_of_ble_eq_true rfl) rfl
    · --
      exact absurd rfl heq910
set_option maxRecDepth 65536 in
set_option maxHeartbeats 40000000 in
theorem comes_1 {Post : Tables → Env → Array Value → State → Outcome → State → Prop} (hpost : ∀ tb e args s v u, (limb_1_1.after args s (.returned v) u = true ∧ limb_1_2.after args s (.returned v) u = true ∧ True) → FramedW s (.returned v) u (Jvm.fieldLocs frame_1_writes args s ++ Jvm.arrayLocs frame_1_arrays args s ++ Jvm.staticLocs frame_1_statics s) 56 7872 → Post tb e args s (.returned v) u) :
    ArmFor flags0 classFile x code maxLocals ret World_1 tables_1 room_1 Calls_1 rest_1 Pre_1 Post := by
  intro l hfl _ _ p e ha hc hk s m args below hf hA hF happ hP
  obtain ⟨hcalls, hrest, hpre⟩ := hP
  obtain ⟨-, -, -, hnamed, -, -, -, hat⟩ := (Spec.applies_iff hf).mp happ
  obtain ⟨hg, hnarrow⟩ := and_e (Cond.before_iff.mp (show (Jvm.Cond.and given_1 narrow_1).before args s = true from hpre))
  obtain ⟨h1, h2⟩ := and_e hg
  obtain ⟨ga0, h2⟩ := and_e h2
  obtain ⟨ga1, h2⟩ := and_e h2
  have ga2 := h2
  obtain ⟨w0, w1, w2, rfl⟩ : ∃ w0 w1 w2 : Value, args = #[w0, w1, w2] := by
    have hs : args.size = 3 := by simpa [Cond.value, given_1] using h1
    obtain ⟨L⟩ := args
    match L, hs with
    | [w0, w1, w2], _ => exact ⟨w0, w1, w2, rfl⟩
  have hw := fun d (hd : d ∈ tables_1) => atoms_spec (ws := Jvm.Cond.code x code maxLocals ret :: tables_1) hat d (List.mem_cons_of_mem _ hd)
  obtain ⟨hsets, hown0⟩ := atoms_of _ (rest_1_c_eq ▸ (show rest_1_c.before _ s = true from hrest))
  have hfit : Fit s := fun {y c} hc i hi => by
    obtain ⟨ha, rfl⟩ := Array.getElem?_eq_some_iff.mp hc
    have q := List.all_eq_true.mp ((Array.all_eq_true_iff_forall_mem.mp hF) _ (Array.getElem_mem ha)) i (List.mem_range.mpr hi)
    simpa [Array.getElem?_eq_getElem hi] using q
  obtain ⟨i0, ei0⟩ := is_v ga0
  obtain rfl : w0 = (.int i0) := Option.some.inj ei0
  obtain ⟨i1, ei1⟩ := is_v ga1
  obtain rfl : w1 = (.int i1) := Option.some.inj ei1
  obtain ⟨i2, ei2⟩ := is_v ga2
  obtain rfl : w2 = (.int i2) := Option.some.inj ei2
  have n5 := not_v (Cond.before_iff.mp (hsets _ (List.mem_of_getElem? (i := 2) rfl)))
  obtain ⟨zc, ezc⟩ := is_v (Cond.before_iff.mp (hsets _ (List.mem_of_getElem? (i := 1) rfl)))
  have Szc : Sta s s.heap "java/lang/String" "COMPACT_STRINGS" "Z" (.int zc) := Sta.start ezc (Or.inl (hsets _ (List.mem_of_getElem? (i := 0) rfl)))
  have hzc : ¬ (zc = (0 : Int32)) := gotF (Cond.eq_ints ezc (Term.int_eval (0))) n5
  obtain ⟨dc, edc, hdc⟩ : ∃ v, (Jvm.Term.static "java/util/ArrayList" "DEFAULTCAPACITY_EMPTY_ELEMENTDATA" "[Ljava/lang/Object;").eval _ s none [] s = some v ∧ v.isRef = true := by
    obtain ⟨r, er⟩ := ref_of_arr (Cond.before_iff.mp (hsets _ (List.mem_of_getElem? (i := 15) rfl)))
    exact ⟨_, er, rfl⟩
  have DC : Sta s s.heap "java/util/ArrayList" "DEFAULTCAPACITY_EMPTY_ELEMENTDATA" "[Ljava/lang/Object;" dc := Sta.start edc (Or.inr ⟨(w48 hw), (hsets _ (List.mem_of_getElem? (i := 11) rfl))⟩)
  obtain ⟨us, eus⟩ := ref_of_arr (Cond.before_iff.mp (hsets _ (List.mem_of_getElem? (i := 26) rfl)))
  have UNS : Sta s s.heap "java/lang/Throwable" "UNASSIGNED_STACK" "[Ljava/lang/StackTraceElement;" (.ref us) := Sta.start eus (Or.inl (hsets _ (List.mem_of_getElem? (i := 24) rfl)))
  obtain ⟨sen, esen, hsen⟩ := isR_v (Cond.before_iff.mp (hsets _ (List.mem_of_getElem? (i := 30) rfl)))
  have SEN : Sta s s.heap "java/lang/Throwable" "SUPPRESSED_SENTINEL" "Ljava/util/List;" sen := Sta.start esen (Or.inl (hsets _ (List.mem_of_getElem? (i := 29) rfl)))
  have hlst : l.stackTraces = true := by unfold Launch.stackTraces; rw [hfl]; decide
  obtain ⟨n, o, k1, k2, k3, v, L, so, rfl, hQ, N, -, -, hnw, hq⟩ := rm0 l s _ hw s.heap.size s.heap i0 i1 i2 us zc sen dc Szc hzc hlst ThS.start UNS SEN hsen DC hdc tables_1 p e ha hc hk s m _ below hf ((Spec.applies_iff_loose hf).mp happ).1 ⟨rfl, State.Warmed39.refl s, rfl, (CHv.start (own_EW hw) (fun p hp => hcalls.2.2.1 p hp) (hsets _ (List.mem_of_getElem? (i := 2) rfl)) (w26 hw) (w5 hw)), Nat.le_refl _, own_EW hw, fun x hx => nomatch hx⟩ ⟨own_mk hcalls.2.1, own_fk hcalls.1 hf⟩
  subst hQ
  refine ⟨n, _, k1, k2, k3, hpost _ _ _ _ _ _ ⟨Cond.after_iff.mpr rfl, Cond.after_iff.mpr (eq_i res_at (Term.int_eval (1)) rfl), trivial⟩ ⟨hq.1, hq.2.1, hq.2.2.1, (hq.2.2.2.sift fun y hy => Or.inr (N y hy)).mono (by decide) (by decide)⟩⟩
theorem main_1_1 : Claimed_1_1 := comes_1 fun _ _ _ _ _ _ h hF => ⟨h.1, hF⟩
theorem main_1_2 : Claimed_1_2 := comes_1 fun _ _ _ _ _ _ h hF => ⟨h.2.1, hF⟩
end Jvm.Pilot.@@N@@
namespace Jvm.Pilot.@@N@@
open Jvm Jvm.ClassFile Sem Op Lib Jvm.Free Jvm.Stand Jvm.Pilot.@@N@@.Jvm.D
/-! MADE BY PROGRAM (witnessworld.py) out of the Statement's table words and the real class files: 48 classes; the members and pool entries that the words name. The judged class is class 1, her method 4. -/
namespace start1
open Jvm.ClassFile
def u (s : String) : CpInfo := .utf8 (stringToUtf16 s)
/-- a pool by its gaps: so many unusable entries, then the entry; so many at the end -/
def gap : Nat → List CpInfo → List CpInfo
  | 0, r => r
  | n + 1, r => .unusable :: gap n r
def poolList (es : List (Nat × CpInfo)) (last : Nat) : List CpInfo := es.foldr (fun e r => gap e.1 (e.2 :: r)) (gap last [])
def pool (es : List (Nat × CpInfo)) (last : Nat) : Array CpInfo := ⟨poolList es last⟩
def fileOf (pool : Array CpInfo) (this : Nat) (attrs : Array Attribute := #[]) (ms : Array MethodInfo := #[]) (fl : Nat := 33) (sup : Nat := 0) (ifs : Array Nat := #[]) (fds : Array FieldInfo := #[]) : ClassFile where
  minorVersion := 0
  majorVersion := 65
  constantPool := pool
  accessFlags := fl
  thisClass := this
  superClass := sup
  interfaces := ifs
  fields := fds
  methods := ms
  attributes := attrs
def plain (name : String) (sup : Option ClassId) : Class where
  name := name
  kind := .ordinary
  loader := none
  accessFlags := 33
  super := sup
  interfaces := #[]
  cf := none
  fields := #[]
  methods := #[]
  instanceTypes := #[]
  staticTypes := #[]
  resolved := #[]
  callSites := []
  init := .initialized
  statics := none
  mirror := none

def pool0 : Array CpInfo := pool [(5, u "<init>"), (0, u "()V"), (1, .class_ 10), (1, u "java/lang/Object")] 113

def k0c0 : Code := { maxStack := 0, maxLocals := 1, code := object_method_1_code, exceptionTable := #[], attributes := #[] }
def k0m0 : Method := { name := "<init>", desc := "()V", sig := { parameters := [], returnType := none }, accessFlags := 1, code := some k0c0 }
/-- java/lang/Object -/
def k0 : Class := { plain "java/lang/Object" none with
  accessFlags := 33
  interfaces := #[]
  cf := some (fileOf pool0 8 #[] #[{ accessFlags := 1, nameIndex := 5, descriptorIndex := 6, attributes := #[] }] 33 0 #[] #[])
  fields := #[]
  methods := #[k0m0]
  instanceTypes := #[]
  staticTypes := #[]
  resolved := Array.replicate 124 none
  statics := none }

def pool1 : Array CpInfo := pool [(2, .class_ 4), (0, .nameAndType 5 6), (0, u "java/lang/Object"), (0, u "<init>"), (0, u "()V"), (0, .class_ 8), (0, u "java/lang/String"), (0, .methodref 7 10), (0, .nameAndType 5 11), (0, u "([C)V"), (0, .methodref 13 14), (0, .class_ 15), (0, .nameAndType 16 17), (0, u "com/example/epochmark/epochmark/cli/ArgumentsUsagePinLaw"), (0, u "ch"), (0, u "(II)C"), (0, .methodref 13 19), (0, .nameAndType 20 21), (0, u "text"), (0, u "(II)Ljava/lang/String;"), (0, .methodref 13 23), (0, .nameAndType 24 21), (0, u "prefixed"), (0, .class_ 26), (0, u "com/example/epochmark/epochmark/cli/Arguments"), (0, .class_ 28), (0, u "java/util/ArrayList"), (0, .methodref 27 3), (0, .methodref 25 31), (0, .nameAndType 5 32), (0, u "(Ljava/util/List;Ljava/util/Map;Ljava/util/Set;Ljava/lang/String;)V"), (0, .methodref 25 34), (0, .nameAndType 35 36), (0, u "usage"), (0, u "(Ljava/lang/String;)Lcom/example/epochmark/epochmark/cli/UsageException;"), (0, .methodref 38 39), (0, .class_ 40), (0, .nameAndType 41 42), (0, u "com/example/epochmark/epochmark/cli/UsageException"), (0, u "getMessage"), (0, u "()Ljava/lang/String;"), (0, .methodref 7 44), (0, .nameAndType 45 46), (0, u "equals"), (0, u "(Ljava/lang/Object;)Z"), (0, .methodref 38 48), (0, .nameAndType 35 42), (3, u "law"), (0, u "(III)Z")] 5

def k1m0 : Method := { name := "<init>", desc := "()V", sig := { parameters := [], returnType := none }, accessFlags := 1, code := none }
def k1c1 : Code := { maxStack := 3, maxLocals := 2, code := method_2_code, exceptionTable := #[], attributes := #[] }
def k1m1 : Method := { name := "ch", desc := "(II)C", sig := { parameters := [.int, .int], returnType := some .char }, accessFlags := 10, code := some k1c1 }
def k1c2 : Code := { maxStack := 7, maxLocals := 2, code := method_3_code, exceptionTable := #[], attributes := #[] }
def k1m2 : Method := { name := "text", desc := "(II)Ljava/lang/String;", sig := { parameters := [.int, .int], returnType := some (.object "java/lang/String") }, accessFlags := 10, code := some k1c2 }
def k1c3 : Code := { maxStack := 7, maxLocals := 2, code := method_4_code, exceptionTable := #[], attributes := #[] }
def k1m3 : Method := { name := "prefixed", desc := "(II)Ljava/lang/String;", sig := { parameters := [.int, .int], returnType := some (.object "java/lang/String") }, accessFlags := 10, code := some k1c3 }
def k1c4 : Code := { maxStack := 6, maxLocals := 10, code := code, exceptionTable := #[], attributes := #[] }
def k1m4 : Method := { name := "law", desc := "(III)Z", sig := { parameters := [.int, .int, .int], returnType := some .boolean }, accessFlags := 9, code := some k1c4 }
/-- com/example/epochmark/epochmark/cli/ArgumentsUsagePinLaw -/
def k1 : Class := { plain "com/example/epochmark/epochmark/cli/ArgumentsUsagePinLaw" (some 0) with
  accessFlags := 49
  interfaces := #[]
  cf := some (fileOf pool1 13 #[] #[{ accessFlags := 1, nameIndex := 5, descriptorIndex := 6, attributes := #[] }, { accessFlags := 10, nameIndex := 16, descriptorIndex := 17, attributes := #[] }, { accessFlags := 10, nameIndex := 20, descriptorIndex := 21, attributes := #[] }, { accessFlags := 10, nameIndex := 24, descriptorIndex := 21, attributes := #[] }, { accessFlags := 9, nameIndex := 52, descriptorIndex := 53, attributes := #[] }] 49 2 #[] #[])
  fields := #[]
  methods := #[k1m0, k1m1, k1m2, k1m3, k1m4]
  instanceTypes := #[]
  staticTypes := #[]
  resolved := Array.replicate 59 none
  statics := none }

def pool2 : Array CpInfo := pool [(1, .class_ 2), (0, u "java/io/Serializable"), (0, .class_ 4), (0, u "java/lang/Object")] 2

/-- java/io/Serializable -/
def k2 : Class := { plain "java/io/Serializable" (some 0) with
  accessFlags := 1537
  interfaces := #[]
  cf := some (fileOf pool2 1 #[] #[] 1537 3 #[] #[])
  fields := #[]
  methods := #[]
  instanceTypes := #[]
  staticTypes := #[]
  resolved := Array.replicate 7 none
  statics := none }

def pool3 : Array CpInfo := pool [(1, .class_ 2), (0, u "java/lang/Comparable"), (0, .class_ 4), (0, u "java/lang/Object")] 7

/-- java/lang/Comparable -/
def k3 : Class := { plain "java/lang/Comparable" (some 0) with
  accessFlags := 1537
  interfaces := #[]
  cf := some (fileOf pool3 1 #[] #[] 1537 3 #[] #[])
  fields := #[]
  methods := #[]
  instanceTypes := #[]
  staticTypes := #[]
  resolved := Array.replicate 12 none
  statics := none }

def pool4 : Array CpInfo := pool [(2, .class_ 4), (1, u "java/lang/CharSequence"), (42, .class_ 48), (0, u "java/lang/CharSequence$1CodePointIterator"), (10, .class_ 60), (0, u "java/lang/CharSequence$1CharIterator"), (5, .class_ 67), (0, u "java/lang/Object")] 63

/-- java/lang/CharSequence -/
def k4 : Class := { plain "java/lang/CharSequence" (some 0) with
  accessFlags := 1537
  interfaces := #[]
  cf := some (fileOf pool4 2 #[.nestMembers #[47, 59]] #[] 1537 66 #[] #[])
  fields := #[]
  methods := #[]
  instanceTypes := #[]
  staticTypes := #[]
  resolved := Array.replicate 131 none
  statics := none }

def pool5 : Array CpInfo := pool [(1, .class_ 2), (0, u "java/lang/constant/Constable"), (0, .class_ 4), (0, u "java/lang/Object")] 6

/-- java/lang/constant/Constable -/
def k5 : Class := { plain "java/lang/constant/Constable" (some 0) with
  accessFlags := 1537
  interfaces := #[]
  cf := some (fileOf pool5 1 #[] #[] 1537 3 #[] #[])
  fields := #[]
  methods := #[]
  instanceTypes := #[]
  staticTypes := #[]
  resolved := Array.replicate 11 none
  statics := none }

def pool6 : Array CpInfo := pool [(1, .class_ 2), (0, u "java/lang/constant/ConstantDesc"), (0, .class_ 4), (0, u "java/lang/Object")] 32

/-- java/lang/constant/ConstantDesc -/
def k6 : Class := { plain "java/lang/constant/ConstantDesc" (some 0) with
  accessFlags := 1537
  interfaces := #[]
  cf := some (fileOf pool6 1 #[] #[] 1537 3 #[] #[])
  fields := #[]
  methods := #[]
  instanceTypes := #[]
  staticTypes := #[]
  resolved := Array.replicate 37 none
  statics := none }

def pool7 : Array CpInfo := pool [(1, .methodref 2 3), (0, .class_ 4), (0, .nameAndType 5 6), (0, u "java/lang/Object"), (0, u "<init>"), (0, u "()V"), (0, .string 8), (0, u ""), (0, .fieldref 10 11), (0, .class_ 12), (0, .nameAndType 13 14), (0, u "java/lang/String"), (0, u "value"), (0, u "[B"), (0, .fieldref 10 16), (0, .nameAndType 17 18), (0, u "coder"), (0, u "B"), (2, u "hash"), (0, u "I"), (2, u "hashIsZero"), (0, u "Z"), (0, .methodref 10 28), (0, .nameAndType 5 29), (0, u "([CIILjava/lang/Void;)V"), (8, .fieldref 10 39), (0, .nameAndType 40 26), (0, u "COMPACT_STRINGS"), (1, .class_ 44), (1, u "java/lang/StringUTF16"), (0, u "compress"), (1, .methodref 42 48), (0, .nameAndType 49 50), (0, u "coderFromArrayLen"), (0, u "([BI)B"), (3, .methodref 55 56), (0, .class_ 57), (0, .nameAndType 58 59), (0, u "java/util/Arrays"), (0, u "copyOfRange"), (0, u "([BII)[B"), (47, .class_ 109), (1, u "java/lang/StringLatin1"), (32, u "()Z"), (34, .methodref 42 178), (0, .nameAndType 45 179), (0, u "([CII)[B"), (13, .class_ 195), (1, u "java/lang/System"), (16, .methodref 193 213), (0, .nameAndType 214 215), (0, u "arraycopy"), (0, u "(Ljava/lang/Object;ILjava/lang/Object;II)V"), (118, u "()I"), (0, .methodref 10 336), (0, .nameAndType 17 337), (0, u "()B"), (2, u "()[B"), (148, .methodref 10 490), (0, .nameAndType 5 491), (0, u "(Ljava/lang/AbstractStringBuilder;Ljava/lang/Void;)V"), (1, .nameAndType 494 142), (0, u "isLatin1"), (11, .nameAndType 507 334), (0, u "length"), (24, u "getBytes"), (8, .methodref 107 542), (0, .nameAndType 543 544), (0, u "equals"), (0, u "([B[B)Z"), (4, .methodref 550 506), (0, .class_ 551), (0, u "java/lang/AbstractStringBuilder"), (0, .methodref 550 553), (0, .nameAndType 554 340), (0, u "getValue"), (18, u "(Ljava/lang/Object;)Z"), (1, .class_ 576), (0, u "java/lang/CharSequence"), (22, u "CASE_INSENSITIVE_ORDER"), (0, u "Ljava/util/Comparator;"), (220, u "([BIB)V"), (188, u "([C)V"), (36, .methodref 550 493), (53, u "serialPersistentFields"), (0, u "[Ljava/io/ObjectStreamField;"), (0, .class_ 1104), (0, u "java/lang/String$CaseInsensitiveComparator"), (1, .class_ 1107), (0, u "java/io/Serializable"), (0, .class_ 1109), (0, u "java/lang/Comparable"), (0, .class_ 1111), (0, u "java/lang/constant/Constable"), (0, .class_ 1113), (0, u "java/lang/constant/ConstantDesc"), (2, u "serialVersionUID"), (0, u "J"), (3, u "REPL"), (0, u "C"), (2, u "LATIN1"), (1, u "UTF16"), (105, u "(Ljava/lang/StringBuilder;)V")] 217

def k7m0 : Method := { name := "<init>", desc := "()V", sig := { parameters := [], returnType := none }, accessFlags := 1, code := none }
def k7c1 : Code := { maxStack := 5, maxLocals := 2, code := jdk_42_method_3_code, exceptionTable := #[], attributes := #[] }
def k7m1 : Method := { name := "<init>", desc := "([C)V", sig := { parameters := [(.array .char)], returnType := none }, accessFlags := 1, code := some k7c1 }
def k7c2 : Code := { maxStack := 3, maxLocals := 2, code := jdk_42_method_53_code, exceptionTable := #[], attributes := #[] }
def k7m2 : Method := { name := "<init>", desc := "(Ljava/lang/StringBuilder;)V", sig := { parameters := [(.object "java/lang/StringBuilder")], returnType := none }, accessFlags := 1, code := some k7c2 }
def k7c3 : Code := { maxStack := 2, maxLocals := 1, code := jdk_42_method_54_code, exceptionTable := #[], attributes := #[] }
def k7m3 : Method := { name := "length", desc := "()I", sig := { parameters := [], returnType := some .int }, accessFlags := 1, code := some k7c3 }
def k7c4 : Code := { maxStack := 2, maxLocals := 3, code := jdk_42_method_66_code, exceptionTable := #[], attributes := #[] }
def k7m4 : Method := { name := "equals", desc := "(Ljava/lang/Object;)Z", sig := { parameters := [(.object "java/lang/Object")], returnType := some .boolean }, accessFlags := 1, code := some k7c4 }
def k7c5 : Code := { maxStack := 5, maxLocals := 4, code := jdk_42_method_147_code, exceptionTable := #[], attributes := #[] }
def k7m5 : Method := { name := "getBytes", desc := "([BIB)V", sig := { parameters := [(.array .byte), .int, .byte], returnType := none }, accessFlags := 0, code := some k7c5 }
def k7c6 : Code := { maxStack := 4, maxLocals := 6, code := jdk_42_method_149_code, exceptionTable := #[], attributes := #[] }
def k7m6 : Method := { name := "<init>", desc := "([CIILjava/lang/Void;)V", sig := { parameters := [(.array .char), .int, .int, (.object "java/lang/Void")], returnType := none }, accessFlags := 2, code := some k7c6 }
def k7c7 : Code := { maxStack := 5, maxLocals := 5, code := jdk_42_method_150_code, exceptionTable := #[], attributes := #[] }
def k7m7 : Method := { name := "<init>", desc := "(Ljava/lang/AbstractStringBuilder;Ljava/lang/Void;)V", sig := { parameters := [(.object "java/lang/AbstractStringBuilder"), (.object "java/lang/Void")], returnType := none }, accessFlags := 0, code := some k7c7 }
def k7c8 : Code := { maxStack := 1, maxLocals := 1, code := jdk_42_method_152_code, exceptionTable := #[], attributes := #[] }
def k7m8 : Method := { name := "coder", desc := "()B", sig := { parameters := [], returnType := some .byte }, accessFlags := 0, code := some k7c8 }
/-- java/lang/String -/
def k7 : Class := { plain "java/lang/String" (some 0) with
  accessFlags := 49
  interfaces := #[2, 3, 4, 5, 6]
  cf := some (fileOf pool7 10 #[.nestMembers #[1103]] #[{ accessFlags := 1, nameIndex := 5, descriptorIndex := 6, attributes := #[] }, { accessFlags := 1, nameIndex := 5, descriptorIndex := 1010, attributes := #[] }, { accessFlags := 1, nameIndex := 5, descriptorIndex := 1233, attributes := #[] }, { accessFlags := 1, nameIndex := 507, descriptorIndex := 334, attributes := #[] }, { accessFlags := 1, nameIndex := 543, descriptorIndex := 573, attributes := #[] }, { accessFlags := 0, nameIndex := 532, descriptorIndex := 821, attributes := #[] }, { accessFlags := 2, nameIndex := 5, descriptorIndex := 29, attributes := #[] }, { accessFlags := 0, nameIndex := 5, descriptorIndex := 491, attributes := #[] }, { accessFlags := 0, nameIndex := 17, descriptorIndex := 337, attributes := #[] }] 49 2 #[1106, 1108, 575, 1110, 1112] #[{ accessFlags := 18, nameIndex := 13, descriptorIndex := 14, attributes := #[] }, { accessFlags := 18, nameIndex := 17, descriptorIndex := 18, attributes := #[] }, { accessFlags := 2, nameIndex := 21, descriptorIndex := 22, attributes := #[] }, { accessFlags := 2, nameIndex := 25, descriptorIndex := 26, attributes := #[] }, { accessFlags := 26, nameIndex := 1116, descriptorIndex := 1117, attributes := #[] }, { accessFlags := 24, nameIndex := 40, descriptorIndex := 26, attributes := #[] }, { accessFlags := 26, nameIndex := 1101, descriptorIndex := 1102, attributes := #[] }, { accessFlags := 26, nameIndex := 1121, descriptorIndex := 1122, attributes := #[] }, { accessFlags := 25, nameIndex := 599, descriptorIndex := 600, attributes := #[] }, { accessFlags := 24, nameIndex := 1125, descriptorIndex := 18, attributes := #[] }, { accessFlags := 24, nameIndex := 1127, descriptorIndex := 18, attributes := #[] }])
  fields := #[{ name := "value", type := (.array .byte), accessFlags := 18, slot := 0, constantValue := 0 }, { name := "coder", type := .byte, accessFlags := 18, slot := 1, constantValue := 0 }, { name := "hash", type := .int, accessFlags := 2, slot := 2, constantValue := 0 }, { name := "hashIsZero", type := .boolean, accessFlags := 2, slot := 3, constantValue := 0 }, { name := "serialVersionUID", type := .long, accessFlags := 26, slot := 0, constantValue := 0 }, { name := "COMPACT_STRINGS", type := .boolean, accessFlags := 24, slot := 1, constantValue := 0 }, { name := "serialPersistentFields", type := (.array (.object "java/io/ObjectStreamField")), accessFlags := 26, slot := 2, constantValue := 0 }, { name := "REPL", type := .char, accessFlags := 26, slot := 3, constantValue := 0 }, { name := "CASE_INSENSITIVE_ORDER", type := (.object "java/util/Comparator"), accessFlags := 25, slot := 4, constantValue := 0 }, { name := "LATIN1", type := .byte, accessFlags := 24, slot := 5, constantValue := 0 }, { name := "UTF16", type := .byte, accessFlags := 24, slot := 6, constantValue := 0 }]
  methods := #[k7m0, k7m1, k7m2, k7m3, k7m4, k7m5, k7m6, k7m7, k7m8]
  instanceTypes := #[(.array .byte), .byte, .int, .boolean]
  staticTypes := #[.long, .boolean, (.array (.object "java/io/ObjectStreamField")), .char, (.object "java/util/Comparator"), .byte, .byte]
  resolved := Array.replicate 1451 none
  statics := some 0 }

def pool8 : Array CpInfo := pool [(6, .class_ 8), (1, u "java/lang/Object"), (0, u "<init>"), (0, u "()V"), (1, .class_ 14), (1, u "java/lang/StringUTF16"), (31, u "$assertionsDisabled"), (0, u "Z"), (13, u "HI_BYTE_SHIFT"), (0, u "I"), (2, u "LO_BYTE_SHIFT"), (49, .methodref 12 116), (0, .nameAndType 117 118), (0, u "compress"), (0, u "([CI[BII)I"), (3, u "([CII)[B"), (138, u "coderFromArrayLen"), (0, u "([BI)B"), (106, .class_ 371), (1, u "java/lang/StringUTF16$LinesSpliterator"), (58, u "MAX_LENGTH"), (196, .class_ 628), (0, u "java/lang/StringUTF16$CodePointsSpliterator"), (0, .class_ 630), (0, u "java/lang/StringUTF16$CharsSpliterator")] 4

def k8m0 : Method := { name := "<init>", desc := "()V", sig := { parameters := [], returnType := none }, accessFlags := 0, code := none }
def k8c1 : Code := { maxStack := 2, maxLocals := 2, code := jdk_52_method_15_code, exceptionTable := #[], attributes := #[] }
def k8m1 : Method := { name := "coderFromArrayLen", desc := "([BI)B", sig := { parameters := [(.array .byte), .int], returnType := some .byte }, accessFlags := 8, code := some k8c1 }
def k8c2 : Code := { maxStack := 5, maxLocals := 6, code := jdk_52_method_16_code, exceptionTable := #[], attributes := #[] }
def k8m2 : Method := { name := "compress", desc := "([CII)[B", sig := { parameters := [(.array .char), .int, .int], returnType := some (.array .byte) }, accessFlags := 9, code := some k8c2 }
def k8c3 : Code := { maxStack := 3, maxLocals := 7, code := jdk_52_method_21_code, exceptionTable := #[], attributes := #[] }
def k8m3 : Method := { name := "compress", desc := "([CI[BII)I", sig := { parameters := [(.array .char), .int, (.array .byte), .int, .int], returnType := some .int }, accessFlags := 9, code := some k8c3 }
/-- java/lang/StringUTF16 -/
def k8 : Class := { plain "java/lang/StringUTF16" (some 0) with
  accessFlags := 48
  interfaces := #[]
  cf := some (fileOf pool8 12 #[.nestMembers #[627, 629, 369]] #[{ accessFlags := 0, nameIndex := 9, descriptorIndex := 10, attributes := #[] }, { accessFlags := 8, nameIndex := 261, descriptorIndex := 262, attributes := #[] }, { accessFlags := 9, nameIndex := 117, descriptorIndex := 122, attributes := #[] }, { accessFlags := 9, nameIndex := 117, descriptorIndex := 118, attributes := #[] }] 48 6 #[] #[{ accessFlags := 26, nameIndex := 61, descriptorIndex := 62, attributes := #[] }, { accessFlags := 26, nameIndex := 65, descriptorIndex := 62, attributes := #[] }, { accessFlags := 24, nameIndex := 430, descriptorIndex := 62, attributes := #[] }, { accessFlags := 4120, nameIndex := 46, descriptorIndex := 47, attributes := #[] }])
  fields := #[{ name := "HI_BYTE_SHIFT", type := .int, accessFlags := 26, slot := 0, constantValue := 0 }, { name := "LO_BYTE_SHIFT", type := .int, accessFlags := 26, slot := 1, constantValue := 0 }, { name := "MAX_LENGTH", type := .int, accessFlags := 24, slot := 2, constantValue := 0 }, { name := "$assertionsDisabled", type := .boolean, accessFlags := 4120, slot := 3, constantValue := 0 }]
  methods := #[k8m0, k8m1, k8m2, k8m3]
  instanceTypes := #[]
  staticTypes := #[.int, .int, .int, .boolean]
  resolved := Array.replicate 635 none
  statics := none }

def pool9 : Array CpInfo := pool [(1, .methodref 2 3), (0, .class_ 4), (0, .nameAndType 5 6), (0, u "java/lang/Object"), (0, u "<init>"), (0, u "()V"), (0, .class_ 8), (0, u "java/util/HashMap"), (0, .methodref 7 3), (0, .fieldref 11 12), (0, .class_ 13), (0, .nameAndType 14 15), (0, u "com/example/epochmark/epochmark/cli/Arguments"), (0, u "values"), (0, u "Ljava/util/Map;"), (0, .class_ 17), (0, u "java/util/ArrayList"), (0, .methodref 16 3), (0, .fieldref 11 20), (0, .nameAndType 21 22), (0, u "operands"), (0, u "Ljava/util/List;"), (0, .fieldref 11 24), (0, .nameAndType 25 15), (0, u "takes"), (0, .fieldref 11 27), (0, .nameAndType 28 29), (0, u "synopsis"), (0, u "Ljava/lang/String;"), (0, .interfaceMethodref 31 32), (0, .class_ 33), (0, .nameAndType 34 35), (0, u "java/util/List"), (0, u "iterator"), (0, u "()Ljava/util/Iterator;"), (0, .interfaceMethodref 37 38), (0, .class_ 39), (0, .nameAndType 40 41), (0, u "java/util/Iterator"), (0, u "hasNext"), (0, u "()Z"), (12, .class_ 55), (0, u "java/lang/StringBuilder"), (0, .methodref 54 3), (0, .methodref 54 58), (0, .nameAndType 59 60), (0, u "append"), (0, u "(Ljava/lang/String;)Ljava/lang/StringBuilder;"), (6, .methodref 54 68), (0, .nameAndType 69 70), (0, u "toString"), (0, u "()Ljava/lang/String;"), (2, u "usage"), (0, u "(Ljava/lang/String;)Lcom/example/epochmark/epochmark/cli/UsageException;"), (62, .class_ 138), (0, u "com/example/epochmark/epochmark/cli/UsageException"), (0, .string 140), (0, u "usage: "), (0, .methodref 137 142), (0, .nameAndType 5 143), (0, u "(Ljava/lang/String;Ljava/lang/String;)V"), (0, u "OPTION"), (4, u "(Ljava/util/List;Ljava/util/Map;Ljava/util/Set;Ljava/lang/String;)V")] 14

def k9c0 : Code := { maxStack := 4, maxLocals := 8, code := prog_1_method_1_code, exceptionTable := #[], attributes := #[] }
def k9m0 : Method := { name := "<init>", desc := "(Ljava/util/List;Ljava/util/Map;Ljava/util/Set;Ljava/lang/String;)V", sig := { parameters := [(.object "java/util/List"), (.object "java/util/Map"), (.object "java/util/Set"), (.object "java/lang/String")], returnType := none }, accessFlags := 0, code := some k9c0 }
def k9c1 : Code := { maxStack := 5, maxLocals := 2, code := prog_1_method_6_code, exceptionTable := #[], attributes := #[] }
def k9m1 : Method := { name := "usage", desc := "(Ljava/lang/String;)Lcom/example/epochmark/epochmark/cli/UsageException;", sig := { parameters := [(.object "java/lang/String")], returnType := some (.object "com/example/epochmark/epochmark/cli/UsageException") }, accessFlags := 0, code := some k9c1 }
/-- com/example/epochmark/epochmark/cli/Arguments -/
def k9 : Class := { plain "com/example/epochmark/epochmark/cli/Arguments" (some 0) with
  accessFlags := 48
  interfaces := #[]
  cf := some (fileOf pool9 11 #[] #[{ accessFlags := 0, nameIndex := 5, descriptorIndex := 149, attributes := #[] }, { accessFlags := 0, nameIndex := 73, descriptorIndex := 74, attributes := #[] }] 48 2 #[] #[{ accessFlags := 26, nameIndex := 144, descriptorIndex := 29, attributes := #[] }, { accessFlags := 18, nameIndex := 25, descriptorIndex := 15, attributes := #[] }, { accessFlags := 18, nameIndex := 28, descriptorIndex := 29, attributes := #[] }, { accessFlags := 18, nameIndex := 14, descriptorIndex := 15, attributes := #[] }, { accessFlags := 18, nameIndex := 21, descriptorIndex := 22, attributes := #[] }])
  fields := #[{ name := "OPTION", type := (.object "java/lang/String"), accessFlags := 26, slot := 0, constantValue := 0 }, { name := "takes", type := (.object "java/util/Map"), accessFlags := 18, slot := 0, constantValue := 0 }, { name := "synopsis", type := (.object "java/lang/String"), accessFlags := 18, slot := 1, constantValue := 0 }, { name := "values", type := (.object "java/util/Map"), accessFlags := 18, slot := 2, constantValue := 0 }, { name := "operands", type := (.object "java/util/List"), accessFlags := 18, slot := 3, constantValue := 0 }]
  methods := #[k9m0, k9m1]
  instanceTypes := #[(.object "java/util/Map"), (.object "java/lang/String"), (.object "java/util/Map"), (.object "java/util/List")]
  staticTypes := #[(.object "java/lang/String")]
  resolved := Array.replicate 164 none
  statics := none }

def pool10 : Array CpInfo := pool [(8, .class_ 10), (1, u "java/lang/Iterable"), (24, .class_ 36), (0, u "java/lang/Object")] 25

/-- java/lang/Iterable -/
def k10 : Class := { plain "java/lang/Iterable" (some 0) with
  accessFlags := 1537
  interfaces := #[]
  cf := some (fileOf pool10 8 #[] #[] 1537 35 #[] #[])
  fields := #[]
  methods := #[]
  instanceTypes := #[]
  staticTypes := #[]
  resolved := Array.replicate 62 none
  statics := none }

def pool11 : Array CpInfo := pool [(10, .class_ 12), (1, u "java/util/Collection"), (47, .class_ 61), (0, u "java/lang/Object"), (0, .class_ 63), (0, u "java/lang/Iterable")] 51

/-- java/util/Collection -/
def k11 : Class := { plain "java/util/Collection" (some 0) with
  accessFlags := 1537
  interfaces := #[10]
  cf := some (fileOf pool11 10 #[] #[] 1537 60 #[62] #[])
  fields := #[]
  methods := #[]
  instanceTypes := #[]
  staticTypes := #[]
  resolved := Array.replicate 115 none
  statics := none }

def pool12 : Array CpInfo := pool [(1, .methodref 2 3), (0, .class_ 4), (0, .nameAndType 5 6), (0, u "java/lang/Object"), (0, u "<init>"), (0, u "()V"), (1, .class_ 10), (1, u "java/util/AbstractCollection"), (66, .class_ 78), (0, u "java/util/Collection")] 81

def k12c0 : Code := { maxStack := 1, maxLocals := 1, code := jdk_22_method_1_code, exceptionTable := #[], attributes := #[] }
def k12m0 : Method := { name := "<init>", desc := "()V", sig := { parameters := [], returnType := none }, accessFlags := 4, code := some k12c0 }
/-- java/util/AbstractCollection -/
def k12 : Class := { plain "java/util/AbstractCollection" (some 0) with
  accessFlags := 1057
  interfaces := #[11]
  cf := some (fileOf pool12 8 #[] #[{ accessFlags := 4, nameIndex := 5, descriptorIndex := 6, attributes := #[] }] 1057 2 #[77] #[])
  fields := #[]
  methods := #[k12m0]
  instanceTypes := #[]
  staticTypes := #[]
  resolved := Array.replicate 160 none
  statics := none }

def pool13 : Array CpInfo := pool [(8, .class_ 10), (1, u "java/util/SequencedCollection"), (15, .class_ 27), (0, u "java/lang/Object"), (0, .class_ 29), (0, u "java/util/Collection")] 27

/-- java/util/SequencedCollection -/
def k13 : Class := { plain "java/util/SequencedCollection" (some 0) with
  accessFlags := 1537
  interfaces := #[11]
  cf := some (fileOf pool13 8 #[] #[] 1537 26 #[28] #[])
  fields := #[]
  methods := #[]
  instanceTypes := #[]
  staticTypes := #[]
  resolved := Array.replicate 57 none
  statics := none }

def pool14 : Array CpInfo := pool [(8, .class_ 10), (1, u "java/util/List"), (92, .class_ 104), (0, u "java/lang/Object"), (15, .class_ 121), (0, u "java/util/SequencedCollection"), (1, u "iterator"), (0, u "()Ljava/util/Iterator;")] 126

def k14m0 : Method := { name := "iterator", desc := "()Ljava/util/Iterator;", sig := { parameters := [], returnType := some (.object "java/util/Iterator") }, accessFlags := 1025, code := none }
/-- java/util/List -/
def k14 : Class := { plain "java/util/List" (some 0) with
  accessFlags := 1537
  interfaces := #[13]
  cf := some (fileOf pool14 8 #[] #[{ accessFlags := 1025, nameIndex := 123, descriptorIndex := 124, attributes := #[] }] 1537 103 #[120] #[])
  fields := #[]
  methods := #[k14m0]
  instanceTypes := #[]
  staticTypes := #[]
  resolved := Array.replicate 251 none
  statics := none }

def pool15 : Array CpInfo := pool [(1, .methodref 2 3), (0, .class_ 4), (0, .nameAndType 5 6), (0, u "java/util/AbstractCollection"), (0, u "<init>"), (0, u "()V"), (0, .fieldref 8 9), (0, .class_ 10), (0, .nameAndType 11 12), (0, u "java/util/AbstractList"), (0, u "modCount"), (0, u "I"), (64, .class_ 78), (0, u "java/util/AbstractList$Itr"), (3, .class_ 83), (0, u "java/util/AbstractList$ListItr"), (9, .class_ 94), (0, u "java/util/AbstractList$RandomAccessSubList"), (3, .class_ 99), (0, u "java/util/AbstractList$SubList"), (33, .class_ 134), (0, u "java/util/List"), (73, .class_ 209), (0, u "java/util/AbstractList$SubList$1"), (0, .class_ 211), (0, u "java/util/AbstractList$RandomAccessSpliterator")] 6

def k15c0 : Code := { maxStack := 2, maxLocals := 1, code := jdk_39_method_1_code, exceptionTable := #[], attributes := #[] }
def k15m0 : Method := { name := "<init>", desc := "()V", sig := { parameters := [], returnType := none }, accessFlags := 4, code := some k15c0 }
/-- java/util/AbstractList -/
def k15 : Class := { plain "java/util/AbstractList" (some 12) with
  accessFlags := 1057
  interfaces := #[14]
  cf := some (fileOf pool15 8 #[.nestMembers #[93, 98, 208, 210, 82, 77]] #[{ accessFlags := 4, nameIndex := 5, descriptorIndex := 6, attributes := #[] }] 1057 2 #[133] #[{ accessFlags := 132, nameIndex := 11, descriptorIndex := 12, attributes := #[] }])
  fields := #[{ name := "modCount", type := .int, accessFlags := 132, slot := 0, constantValue := 0 }]
  methods := #[k15m0]
  instanceTypes := #[.int]
  staticTypes := #[]
  resolved := Array.replicate 218 none
  statics := none }

def pool16 : Array CpInfo := pool [(1, .class_ 2), (0, u "java/util/RandomAccess"), (0, .class_ 4), (0, u "java/lang/Object")] 2

/-- java/util/RandomAccess -/
def k16 : Class := { plain "java/util/RandomAccess" (some 0) with
  accessFlags := 1537
  interfaces := #[]
  cf := some (fileOf pool16 1 #[] #[] 1537 3 #[] #[])
  fields := #[]
  methods := #[]
  instanceTypes := #[]
  staticTypes := #[]
  resolved := Array.replicate 7 none
  statics := none }

def pool17 : Array CpInfo := pool [(1, .class_ 2), (0, u "java/lang/Cloneable"), (0, .class_ 4), (0, u "java/lang/Object")] 2

/-- java/lang/Cloneable -/
def k17 : Class := { plain "java/lang/Cloneable" (some 0) with
  accessFlags := 1537
  interfaces := #[]
  cf := some (fileOf pool17 1 #[] #[] 1537 3 #[] #[])
  fields := #[]
  methods := #[]
  instanceTypes := #[]
  staticTypes := #[]
  resolved := Array.replicate 7 none
  statics := none }

def pool18 : Array CpInfo := pool [(1, .methodref 2 3), (0, .class_ 4), (0, .nameAndType 5 6), (0, u "java/util/AbstractList"), (0, u "<init>"), (0, u "()V"), (2, .fieldref 10 11), (0, .class_ 12), (0, .nameAndType 13 14), (0, u "java/util/ArrayList"), (0, u "elementData"), (0, u "[Ljava/lang/Object;"), (2, u "EMPTY_ELEMENTDATA"), (21, .fieldref 10 40), (0, .nameAndType 41 14), (0, u "DEFAULTCAPACITY_EMPTY_ELEMENTDATA"), (8, u "size"), (0, u "I"), (96, .class_ 149), (0, u "java/util/List"), (16, u "iterator"), (0, u "()Ljava/util/Iterator;"), (94, .class_ 263), (0, u "java/util/ArrayList$ListItr"), (3, .class_ 268), (0, u "java/util/ArrayList$Itr"), (0, .methodref 267 270), (0, .nameAndType 5 271), (0, u "(Ljava/util/ArrayList;)V"), (4, .class_ 277), (0, u "java/util/ArrayList$SubList"), (12, .class_ 291), (0, u "java/util/ArrayList$ArrayListSpliterator"), (37, .class_ 330), (0, u "java/util/RandomAccess"), (0, .class_ 332), (0, u "java/lang/Cloneable"), (0, .class_ 334), (0, u "java/io/Serializable"), (0, u "serialVersionUID"), (0, u "J"), (3, u "DEFAULT_CAPACITY"), (159, .class_ 501), (0, u "java/util/ArrayList$SubList$2"), (0, .class_ 503), (0, u "java/util/ArrayList$SubList$1")] 5

def k18c0 : Code := { maxStack := 2, maxLocals := 1, code := jdk_38_method_2_code, exceptionTable := #[], attributes := #[] }
def k18m0 : Method := { name := "<init>", desc := "()V", sig := { parameters := [], returnType := none }, accessFlags := 1, code := some k18c0 }
def k18c1 : Code := { maxStack := 3, maxLocals := 1, code := jdk_38_method_55_code, exceptionTable := #[], attributes := #[] }
def k18m1 : Method := { name := "iterator", desc := "()Ljava/util/Iterator;", sig := { parameters := [], returnType := some (.object "java/util/Iterator") }, accessFlags := 1, code := some k18c1 }
/-- java/util/ArrayList -/
def k18 : Class := { plain "java/util/ArrayList" (some 15) with
  accessFlags := 33
  interfaces := #[14, 16, 17, 2]
  cf := some (fileOf pool18 10 #[.nestMembers #[290, 276, 500, 502, 262, 267]] #[{ accessFlags := 1, nameIndex := 5, descriptorIndex := 6, attributes := #[] }, { accessFlags := 1, nameIndex := 166, descriptorIndex := 167, attributes := #[] }] 33 2 #[148, 329, 331, 333] #[{ accessFlags := 26, nameIndex := 335, descriptorIndex := 336, attributes := #[] }, { accessFlags := 26, nameIndex := 340, descriptorIndex := 51, attributes := #[] }, { accessFlags := 26, nameIndex := 17, descriptorIndex := 14, attributes := #[] }, { accessFlags := 26, nameIndex := 41, descriptorIndex := 14, attributes := #[] }, { accessFlags := 128, nameIndex := 13, descriptorIndex := 14, attributes := #[] }, { accessFlags := 2, nameIndex := 50, descriptorIndex := 51, attributes := #[] }])
  fields := #[{ name := "serialVersionUID", type := .long, accessFlags := 26, slot := 0, constantValue := 0 }, { name := "DEFAULT_CAPACITY", type := .int, accessFlags := 26, slot := 1, constantValue := 0 }, { name := "EMPTY_ELEMENTDATA", type := (.array (.object "java/lang/Object")), accessFlags := 26, slot := 2, constantValue := 0 }, { name := "DEFAULTCAPACITY_EMPTY_ELEMENTDATA", type := (.array (.object "java/lang/Object")), accessFlags := 26, slot := 3, constantValue := 0 }, { name := "elementData", type := (.array (.object "java/lang/Object")), accessFlags := 128, slot := 1, constantValue := 0 }, { name := "size", type := .int, accessFlags := 2, slot := 2, constantValue := 0 }]
  methods := #[k18m0, k18m1]
  instanceTypes := #[.int, (.array (.object "java/lang/Object")), .int]
  staticTypes := #[.long, .int, (.array (.object "java/lang/Object")), (.array (.object "java/lang/Object"))]
  resolved := Array.replicate 509 none
  statics := some 1 }

def pool19 : Array CpInfo := pool [(2, .class_ 4), (1, u "java/util/Map"), (31, .class_ 37), (0, u "java/util/Map$Entry"), (55, .class_ 94), (0, u "java/lang/Object")] 168

/-- java/util/Map -/
def k19 : Class := { plain "java/util/Map" (some 0) with
  accessFlags := 1537
  interfaces := #[]
  cf := some (fileOf pool19 2 #[.nestMembers #[36]] #[] 1537 93 #[] #[])
  fields := #[]
  methods := #[]
  instanceTypes := #[]
  staticTypes := #[]
  resolved := Array.replicate 263 none
  statics := none }

def pool20 : Array CpInfo := pool [(1, .methodref 2 3), (0, .class_ 4), (0, .nameAndType 5 6), (0, u "java/lang/Object"), (0, u "<init>"), (0, u "()V"), (1, .class_ 10), (1, u "java/util/AbstractMap"), (42, .class_ 54), (0, u "java/util/Map"), (9, u "keySet"), (0, u "Ljava/util/Set;"), (0, .class_ 67), (0, u "java/util/AbstractMap$1"), (5, u "values"), (0, u "Ljava/util/Collection;"), (0, .class_ 76), (0, u "java/util/AbstractMap$2"), (104, .class_ 182), (0, u "java/util/AbstractMap$ViewCollection"), (0, .class_ 184), (0, u "java/util/AbstractMap$SimpleImmutableEntry"), (0, .class_ 186), (0, u "java/util/AbstractMap$SimpleEntry"), (0, .class_ 188), (0, u "java/util/AbstractMap$2$1"), (0, .class_ 190), (0, u "java/util/AbstractMap$1$1")] 5

def k20c0 : Code := { maxStack := 1, maxLocals := 1, code := jdk_71_method_1_code, exceptionTable := #[], attributes := #[] }
def k20m0 : Method := { name := "<init>", desc := "()V", sig := { parameters := [], returnType := none }, accessFlags := 4, code := some k20c0 }
/-- java/util/AbstractMap -/
def k20 : Class := { plain "java/util/AbstractMap" (some 0) with
  accessFlags := 1057
  interfaces := #[19]
  cf := some (fileOf pool20 8 #[.nestMembers #[181, 183, 185, 75, 187, 66, 189]] #[{ accessFlags := 4, nameIndex := 5, descriptorIndex := 6, attributes := #[] }] 1057 2 #[53] #[{ accessFlags := 128, nameIndex := 64, descriptorIndex := 65, attributes := #[] }, { accessFlags := 128, nameIndex := 73, descriptorIndex := 74, attributes := #[] }])
  fields := #[{ name := "keySet", type := (.object "java/util/Set"), accessFlags := 128, slot := 0, constantValue := 0 }, { name := "values", type := (.object "java/util/Collection"), accessFlags := 128, slot := 1, constantValue := 0 }]
  methods := #[k20m0]
  instanceTypes := #[(.object "java/util/Set"), (.object "java/util/Collection")]
  staticTypes := #[]
  resolved := Array.replicate 196 none
  statics := none }

def pool21 : Array CpInfo := pool [(40, .class_ 41), (0, u "java/util/HashMap"), (1, .methodref 44 45), (0, .class_ 46), (0, .nameAndType 47 48), (0, u "java/util/AbstractMap"), (0, u "<init>"), (0, u "()V"), (32, .fieldref 40 82), (0, .nameAndType 83 84), (0, u "loadFactor"), (0, u "F"), (5, u "threshold"), (0, u "I"), (0, .float 1061158912), (8, .class_ 103), (1, u "java/util/Map"), (0, u "size"), (2, u "table"), (0, u "[Ljava/util/HashMap$Node;"), (14, u "entrySet"), (39, .class_ 165), (1, u "java/util/HashMap$Node"), (14, .class_ 181), (0, u "java/util/HashMap$TreeNode"), (22, u "modCount"), (37, u "Ljava/util/Set;"), (0, .class_ 244), (0, u "java/util/HashMap$KeySet"), (18, .class_ 264), (0, u "java/util/HashMap$Values"), (3, .class_ 269), (0, u "java/util/HashMap$EntrySet"), (76, .class_ 348), (1, u "java/util/HashMap$UnsafeHolder"), (43, .class_ 393), (0, u "java/lang/Cloneable"), (0, .class_ 395), (0, u "java/io/Serializable"), (0, u "serialVersionUID"), (0, u "J"), (3, u "DEFAULT_INITIAL_CAPACITY"), (1, u "MAXIMUM_CAPACITY"), (0, u "DEFAULT_LOAD_FACTOR"), (0, u "TREEIFY_THRESHOLD"), (1, u "UNTREEIFY_THRESHOLD"), (1, u "MIN_TREEIFY_CAPACITY"), (186, .class_ 597), (0, u "java/util/HashMap$EntrySpliterator"), (0, .class_ 599), (0, u "java/util/HashMap$ValueSpliterator"), (0, .class_ 601), (0, u "java/util/HashMap$KeySpliterator"), (0, .class_ 603), (0, u "java/util/HashMap$HashMapSpliterator"), (0, .class_ 605), (0, u "java/util/HashMap$EntryIterator"), (0, .class_ 607), (0, u "java/util/HashMap$ValueIterator"), (0, .class_ 609), (0, u "java/util/HashMap$KeyIterator"), (0, .class_ 611), (0, u "java/util/HashMap$HashIterator")] 17

def k21c0 : Code := { maxStack := 2, maxLocals := 1, code := jdk_69_method_7_code, exceptionTable := #[], attributes := #[] }
def k21m0 : Method := { name := "<init>", desc := "()V", sig := { parameters := [], returnType := none }, accessFlags := 1, code := some k21c0 }
/-- java/util/HashMap -/
def k21 : Class := { plain "java/util/HashMap" (some 20) with
  accessFlags := 33
  interfaces := #[19, 17, 2]
  cf := some (fileOf pool21 40 #[.nestMembers #[180, 596, 598, 600, 602, 604, 606, 608, 610, 346, 268, 263, 243, 163]] #[{ accessFlags := 1, nameIndex := 47, descriptorIndex := 48, attributes := #[] }] 33 44 #[101, 392, 394] #[{ accessFlags := 26, nameIndex := 396, descriptorIndex := 397, attributes := #[] }, { accessFlags := 24, nameIndex := 401, descriptorIndex := 91, attributes := #[] }, { accessFlags := 24, nameIndex := 403, descriptorIndex := 91, attributes := #[] }, { accessFlags := 24, nameIndex := 404, descriptorIndex := 84, attributes := #[] }, { accessFlags := 24, nameIndex := 405, descriptorIndex := 91, attributes := #[] }, { accessFlags := 24, nameIndex := 407, descriptorIndex := 91, attributes := #[] }, { accessFlags := 24, nameIndex := 409, descriptorIndex := 91, attributes := #[] }, { accessFlags := 128, nameIndex := 107, descriptorIndex := 108, attributes := #[] }, { accessFlags := 128, nameIndex := 123, descriptorIndex := 242, attributes := #[] }, { accessFlags := 128, nameIndex := 104, descriptorIndex := 91, attributes := #[] }, { accessFlags := 128, nameIndex := 204, descriptorIndex := 91, attributes := #[] }, { accessFlags := 0, nameIndex := 90, descriptorIndex := 91, attributes := #[] }, { accessFlags := 16, nameIndex := 83, descriptorIndex := 84, attributes := #[] }])
  fields := #[{ name := "serialVersionUID", type := .long, accessFlags := 26, slot := 0, constantValue := 0 }, { name := "DEFAULT_INITIAL_CAPACITY", type := .int, accessFlags := 24, slot := 1, constantValue := 0 }, { name := "MAXIMUM_CAPACITY", type := .int, accessFlags := 24, slot := 2, constantValue := 0 }, { name := "DEFAULT_LOAD_FACTOR", type := .float, accessFlags := 24, slot := 3, constantValue := 0 }, { name := "TREEIFY_THRESHOLD", type := .int, accessFlags := 24, slot := 4, constantValue := 0 }, { name := "UNTREEIFY_THRESHOLD", type := .int, accessFlags := 24, slot := 5, constantValue := 0 }, { name := "MIN_TREEIFY_CAPACITY", type := .int, accessFlags := 24, slot := 6, constantValue := 0 }, { name := "table", type := (.array (.object "java/util/HashMap$Node")), accessFlags := 128, slot := 2, constantValue := 0 }, { name := "entrySet", type := (.object "java/util/Set"), accessFlags := 128, slot := 3, constantValue := 0 }, { name := "size", type := .int, accessFlags := 128, slot := 4, constantValue := 0 }, { name := "modCount", type := .int, accessFlags := 128, slot := 5, constantValue := 0 }, { name := "threshold", type := .int, accessFlags := 0, slot := 6, constantValue := 0 }, { name := "loadFactor", type := .float, accessFlags := 16, slot := 7, constantValue := 0 }]
  methods := #[k21m0]
  instanceTypes := #[(.object "java/util/Set"), (.object "java/util/Collection"), (.array (.object "java/util/HashMap$Node")), (.object "java/util/Set"), .int, .int, .int, .float]
  staticTypes := #[.long, .int, .int, .float, .int, .int, .int]
  resolved := Array.replicate 629 none
  statics := none }

def pool22 : Array CpInfo := pool [(16, .class_ 18), (1, u "java/util/Iterator"), (0, u "hasNext"), (0, u "()Z"), (10, .class_ 32), (0, u "java/lang/Object")] 20

def k22m0 : Method := { name := "hasNext", desc := "()Z", sig := { parameters := [], returnType := some .boolean }, accessFlags := 1025, code := none }
/-- java/util/Iterator -/
def k22 : Class := { plain "java/util/Iterator" (some 0) with
  accessFlags := 1537
  interfaces := #[]
  cf := some (fileOf pool22 16 #[] #[{ accessFlags := 1025, nameIndex := 19, descriptorIndex := 20, attributes := #[] }] 1537 31 #[] #[])
  fields := #[]
  methods := #[k22m0]
  instanceTypes := #[]
  staticTypes := #[]
  resolved := Array.replicate 53 none
  statics := none }

def pool23 : Array CpInfo := pool [(1, .fieldref 2 3), (0, .class_ 4), (0, .nameAndType 5 6), (0, u "java/util/ArrayList$Itr"), (0, u "this$0"), (0, u "Ljava/util/ArrayList;"), (0, .methodref 8 9), (0, .class_ 10), (0, .nameAndType 11 12), (0, u "java/lang/Object"), (0, u "<init>"), (0, u "()V"), (0, .fieldref 2 14), (0, .nameAndType 15 16), (0, u "lastRet"), (0, u "I"), (0, .fieldref 18 19), (0, .class_ 20), (0, .nameAndType 21 16), (0, u "java/util/ArrayList"), (0, u "modCount"), (0, .fieldref 2 23), (0, .nameAndType 24 16), (0, u "expectedModCount"), (0, .fieldref 2 26), (0, .nameAndType 27 16), (0, u "cursor"), (0, .fieldref 18 29), (0, .nameAndType 30 16), (0, u "size"), (38, .class_ 70), (0, u "java/util/Iterator"), (0, u "(Ljava/util/ArrayList;)V"), (8, u "hasNext"), (0, u "()Z")] 22

def k23c0 : Code := { maxStack := 2, maxLocals := 2, code := jdk_49_method_1_code, exceptionTable := #[], attributes := #[] }
def k23m0 : Method := { name := "<init>", desc := "(Ljava/util/ArrayList;)V", sig := { parameters := [(.object "java/util/ArrayList")], returnType := none }, accessFlags := 0, code := some k23c0 }
def k23c1 : Code := { maxStack := 2, maxLocals := 1, code := jdk_49_method_2_code, exceptionTable := #[], attributes := #[] }
def k23m1 : Method := { name := "hasNext", desc := "()Z", sig := { parameters := [], returnType := some .boolean }, accessFlags := 1, code := some k23c1 }
/-- java/util/ArrayList$Itr -/
def k23 : Class := { plain "java/util/ArrayList$Itr" (some 0) with
  accessFlags := 32
  interfaces := #[22]
  cf := some (fileOf pool23 2 #[.nestHost 18] #[{ accessFlags := 0, nameIndex := 11, descriptorIndex := 71, attributes := #[] }, { accessFlags := 1, nameIndex := 80, descriptorIndex := 81, attributes := #[] }] 32 8 #[69] #[{ accessFlags := 0, nameIndex := 27, descriptorIndex := 16, attributes := #[] }, { accessFlags := 0, nameIndex := 15, descriptorIndex := 16, attributes := #[] }, { accessFlags := 0, nameIndex := 24, descriptorIndex := 16, attributes := #[] }, { accessFlags := 4112, nameIndex := 5, descriptorIndex := 6, attributes := #[] }])
  fields := #[{ name := "cursor", type := .int, accessFlags := 0, slot := 0, constantValue := 0 }, { name := "lastRet", type := .int, accessFlags := 0, slot := 1, constantValue := 0 }, { name := "expectedModCount", type := .int, accessFlags := 0, slot := 2, constantValue := 0 }, { name := "this$0", type := (.object "java/util/ArrayList"), accessFlags := 4112, slot := 3, constantValue := 0 }]
  methods := #[k23m0, k23m1]
  instanceTypes := #[.int, .int, .int, (.object "java/util/ArrayList")]
  staticTypes := #[]
  resolved := Array.replicate 104 none
  statics := none }

def pool24 : Array CpInfo := pool [(1, .methodref 2 3), (0, .class_ 4), (0, .nameAndType 5 6), (0, u "java/lang/Object"), (0, u "<init>"), (0, u "()V"), (0, .fieldref 8 9), (0, .class_ 10), (0, .nameAndType 11 12), (0, u "java/lang/Throwable"), (0, u "cause"), (0, u "Ljava/lang/Throwable;"), (0, .fieldref 8 14), (0, .nameAndType 15 16), (0, u "UNASSIGNED_STACK"), (0, u "[Ljava/lang/StackTraceElement;"), (0, .fieldref 8 18), (0, .nameAndType 19 16), (0, u "stackTrace"), (0, .fieldref 8 21), (0, .nameAndType 22 23), (0, u "SUPPRESSED_SENTINEL"), (0, u "Ljava/util/List;"), (0, .fieldref 8 25), (0, .nameAndType 26 23), (0, u "suppressedExceptions"), (0, .methodref 8 28), (0, .nameAndType 29 30), (0, u "fillInStackTrace"), (0, u "()Ljava/lang/Throwable;"), (0, .fieldref 8 32), (0, .nameAndType 33 34), (0, u "detailMessage"), (0, u "Ljava/lang/String;"), (3, u "()Ljava/lang/String;"), (2, u "getMessage"), (51, .class_ 94), (0, u "java/lang/Throwable$WrappedPrintStream"), (6, .class_ 103), (1, u "java/lang/Throwable$PrintStreamOrWriter"), (61, u "$assertionsDisabled"), (0, u "Z"), (26, .class_ 194), (0, u "java/lang/Throwable$WrappedPrintWriter"), (3, .fieldref 8 199), (0, .nameAndType 200 201), (0, u "backtrace"), (0, u "Ljava/lang/Object;"), (0, .methodref 8 203), (0, .nameAndType 29 204), (0, u "(I)Ljava/lang/Throwable;"), (6, u "depth"), (0, u "I"), (10, u "(Ljava/lang/String;)V"), (45, .class_ 271), (1, u "java/lang/Throwable$SentinelHolder"), (32, u "EMPTY_THROWABLE_ARRAY"), (0, u "[Ljava/lang/Throwable;"), (12, .class_ 319), (0, u "java/io/Serializable"), (0, u "serialVersionUID"), (0, u "J"), (5, u "NULL_CAUSE_MESSAGE"), (0, u "SELF_SUPPRESSION_MESSAGE"), (0, u "CAUSE_CAPTION"), (0, u "SUPPRESSED_CAPTION")] 73

def k24c0 : Code := { maxStack := 2, maxLocals := 1, code := jdk_78_method_1_code, exceptionTable := #[], attributes := #[] }
def k24m0 : Method := { name := "<init>", desc := "()V", sig := { parameters := [], returnType := none }, accessFlags := 1, code := some k24c0 }
def k24c1 : Code := { maxStack := 2, maxLocals := 2, code := jdk_78_method_2_code, exceptionTable := #[], attributes := #[] }
def k24m1 : Method := { name := "<init>", desc := "(Ljava/lang/String;)V", sig := { parameters := [(.object "java/lang/String")], returnType := none }, accessFlags := 1, code := some k24c1 }
def k24c2 : Code := { maxStack := 1, maxLocals := 1, code := jdk_78_method_6_code, exceptionTable := #[], attributes := #[] }
def k24m2 : Method := { name := "getMessage", desc := "()Ljava/lang/String;", sig := { parameters := [], returnType := some (.object "java/lang/String") }, accessFlags := 1, code := some k24c2 }
def k24c3 : Code := { maxStack := 2, maxLocals := 1, code := ⟨#[0x2a, 0xb4, 0x00, 0x11, 0xc7, 0x00, 0x0a, 0x2a, 0xb4, 0x00, 0xc6, 0xc6, 0x00, 0x10, 0x2a, 0x03, 0xb6, 0x00, 0xca, 0x57, 0x2a, 0xb2, 0x00, 0x0d, 0xb5, 0x00, 0x11, 0x2a, 0xb0]⟩, exceptionTable := #[], attributes := #[] }
def k24m3 : Method := { name := "fillInStackTrace", desc := "()Ljava/lang/Throwable;", sig := { parameters := [], returnType := some (.object "java/lang/Throwable") }, accessFlags := 33, code := some k24c3 }
def k24m4 : Method := { name := "fillInStackTrace", desc := "(I)Ljava/lang/Throwable;", sig := { parameters := [.int], returnType := some (.object "java/lang/Throwable") }, accessFlags := 258, code := none }
/-- java/lang/Throwable -/
def k24 : Class := { plain "java/lang/Throwable" (some 0) with
  accessFlags := 33
  interfaces := #[2]
  cf := some (fileOf pool24 8 #[.nestMembers #[193, 93, 101, 269]] #[{ accessFlags := 1, nameIndex := 5, descriptorIndex := 6, attributes := #[] }, { accessFlags := 1, nameIndex := 5, descriptorIndex := 223, attributes := #[] }, { accessFlags := 1, nameIndex := 41, descriptorIndex := 38, attributes := #[] }, { accessFlags := 33, nameIndex := 29, descriptorIndex := 30, attributes := #[] }, { accessFlags := 258, nameIndex := 29, descriptorIndex := 204, attributes := #[] }] 33 2 #[318] #[{ accessFlags := 26, nameIndex := 320, descriptorIndex := 321, attributes := #[] }, { accessFlags := 130, nameIndex := 200, descriptorIndex := 201, attributes := #[] }, { accessFlags := 2, nameIndex := 33, descriptorIndex := 34, attributes := #[] }, { accessFlags := 26, nameIndex := 15, descriptorIndex := 16, attributes := #[] }, { accessFlags := 2, nameIndex := 11, descriptorIndex := 12, attributes := #[] }, { accessFlags := 2, nameIndex := 19, descriptorIndex := 16, attributes := #[] }, { accessFlags := 130, nameIndex := 211, descriptorIndex := 212, attributes := #[] }, { accessFlags := 26, nameIndex := 22, descriptorIndex := 23, attributes := #[] }, { accessFlags := 2, nameIndex := 26, descriptorIndex := 23, attributes := #[] }, { accessFlags := 26, nameIndex := 327, descriptorIndex := 34, attributes := #[] }, { accessFlags := 26, nameIndex := 328, descriptorIndex := 34, attributes := #[] }, { accessFlags := 26, nameIndex := 329, descriptorIndex := 34, attributes := #[] }, { accessFlags := 26, nameIndex := 330, descriptorIndex := 34, attributes := #[] }, { accessFlags := 26, nameIndex := 304, descriptorIndex := 305, attributes := #[] }, { accessFlags := 4120, nameIndex := 165, descriptorIndex := 166, attributes := #[] }])
  fields := #[{ name := "serialVersionUID", type := .long, accessFlags := 26, slot := 0, constantValue := 0 }, { name := "backtrace", type := (.object "java/lang/Object"), accessFlags := 130, slot := 0, constantValue := 0 }, { name := "detailMessage", type := (.object "java/lang/String"), accessFlags := 2, slot := 1, constantValue := 0 }, { name := "UNASSIGNED_STACK", type := (.array (.object "java/lang/StackTraceElement")), accessFlags := 26, slot := 1, constantValue := 0 }, { name := "cause", type := (.object "java/lang/Throwable"), accessFlags := 2, slot := 2, constantValue := 0 }, { name := "stackTrace", type := (.array (.object "java/lang/StackTraceElement")), accessFlags := 2, slot := 3, constantValue := 0 }, { name := "depth", type := .int, accessFlags := 130, slot := 4, constantValue := 0 }, { name := "SUPPRESSED_SENTINEL", type := (.object "java/util/List"), accessFlags := 26, slot := 2, constantValue := 0 }, { name := "suppressedExceptions", type := (.object "java/util/List"), accessFlags := 2, slot := 5, constantValue := 0 }, { name := "NULL_CAUSE_MESSAGE", type := (.object "java/lang/String"), accessFlags := 26, slot := 3, constantValue := 0 }, { name := "SELF_SUPPRESSION_MESSAGE", type := (.object "java/lang/String"), accessFlags := 26, slot := 4, constantValue := 0 }, { name := "CAUSE_CAPTION", type := (.object "java/lang/String"), accessFlags := 26, slot := 5, constantValue := 0 }, { name := "SUPPRESSED_CAPTION", type := (.object "java/lang/String"), accessFlags := 26, slot := 6, constantValue := 0 }, { name := "EMPTY_THROWABLE_ARRAY", type := (.array (.object "java/lang/Throwable")), accessFlags := 26, slot := 7, constantValue := 0 }, { name := "$assertionsDisabled", type := .boolean, accessFlags := 4120, slot := 8, constantValue := 0 }]
  methods := #[k24m0, k24m1, k24m2, k24m3, k24m4]
  instanceTypes := #[(.object "java/lang/Object"), (.object "java/lang/String"), (.object "java/lang/Throwable"), (.array (.object "java/lang/StackTraceElement")), .int, (.object "java/util/List")]
  staticTypes := #[.long, (.array (.object "java/lang/StackTraceElement")), (.object "java/util/List"), (.object "java/lang/String"), (.object "java/lang/String"), (.object "java/lang/String"), (.object "java/lang/String"), (.array (.object "java/lang/Throwable")), .boolean]
  resolved := Array.replicate 404 none
  statics := some 2 }

def pool25 : Array CpInfo := pool [(2, .class_ 4), (1, u "java/lang/Throwable"), (0, u "<init>"), (0, u "()V"), (0, .methodref 2 8), (0, .nameAndType 5 9), (0, u "(Ljava/lang/String;)V"), (9, .class_ 20), (0, u "java/lang/Exception"), (0, u "serialVersionUID"), (0, u "J")] 17

def k25m0 : Method := { name := "<init>", desc := "()V", sig := { parameters := [], returnType := none }, accessFlags := 1, code := none }
def k25c1 : Code := { maxStack := 2, maxLocals := 2, code := jdk_59_method_2_code, exceptionTable := #[], attributes := #[] }
def k25m1 : Method := { name := "<init>", desc := "(Ljava/lang/String;)V", sig := { parameters := [(.object "java/lang/String")], returnType := none }, accessFlags := 1, code := some k25c1 }
/-- java/lang/Exception -/
def k25 : Class := { plain "java/lang/Exception" (some 24) with
  accessFlags := 33
  interfaces := #[]
  cf := some (fileOf pool25 19 #[] #[{ accessFlags := 1, nameIndex := 5, descriptorIndex := 6, attributes := #[] }, { accessFlags := 1, nameIndex := 5, descriptorIndex := 9, attributes := #[] }] 33 2 #[] #[{ accessFlags := 24, nameIndex := 21, descriptorIndex := 22, attributes := #[] }])
  fields := #[{ name := "serialVersionUID", type := .long, accessFlags := 24, slot := 0, constantValue := 0 }]
  methods := #[k25m0, k25m1]
  instanceTypes := #[(.object "java/lang/Object"), (.object "java/lang/String"), (.object "java/lang/Throwable"), (.array (.object "java/lang/StackTraceElement")), .int, (.object "java/util/List")]
  staticTypes := #[.long]
  resolved := Array.replicate 40 none
  statics := none }

def pool26 : Array CpInfo := pool [(1, .methodref 2 3), (0, .class_ 4), (0, .nameAndType 5 6), (0, u "java/lang/Exception"), (0, u "<init>"), (0, u "(Ljava/lang/String;)V"), (0, .fieldref 8 9), (0, .class_ 10), (0, .nameAndType 11 12), (0, u "com/example/epochmark/epochmark/cli/UsageException"), (0, u "usage"), (0, u "Ljava/lang/String;"), (0, u "serialVersionUID"), (0, u "J"), (3, u "(Ljava/lang/String;Ljava/lang/String;)V"), (2, u "()Ljava/lang/String;")] 2

def k26c0 : Code := { maxStack := 2, maxLocals := 3, code := prog_3_method_1_code, exceptionTable := #[], attributes := #[] }
def k26m0 : Method := { name := "<init>", desc := "(Ljava/lang/String;Ljava/lang/String;)V", sig := { parameters := [(.object "java/lang/String"), (.object "java/lang/String")], returnType := none }, accessFlags := 0, code := some k26c0 }
def k26c1 : Code := { maxStack := 1, maxLocals := 1, code := prog_3_method_2_code, exceptionTable := #[], attributes := #[] }
def k26m1 : Method := { name := "usage", desc := "()Ljava/lang/String;", sig := { parameters := [], returnType := some (.object "java/lang/String") }, accessFlags := 0, code := some k26c1 }
/-- com/example/epochmark/epochmark/cli/UsageException -/
def k26 : Class := { plain "com/example/epochmark/epochmark/cli/UsageException" (some 25) with
  accessFlags := 48
  interfaces := #[]
  cf := some (fileOf pool26 8 #[] #[{ accessFlags := 0, nameIndex := 5, descriptorIndex := 18, attributes := #[] }, { accessFlags := 0, nameIndex := 11, descriptorIndex := 21, attributes := #[] }] 48 2 #[] #[{ accessFlags := 26, nameIndex := 13, descriptorIndex := 14, attributes := #[] }, { accessFlags := 18, nameIndex := 11, descriptorIndex := 12, attributes := #[] }])
  fields := #[{ name := "serialVersionUID", type := .long, accessFlags := 26, slot := 0, constantValue := 0 }, { name := "usage", type := (.object "java/lang/String"), accessFlags := 18, slot := 6, constantValue := 0 }]
  methods := #[k26m0, k26m1]
  instanceTypes := #[(.object "java/lang/Object"), (.object "java/lang/String"), (.object "java/lang/Throwable"), (.array (.object "java/lang/StackTraceElement")), .int, (.object "java/util/List"), (.object "java/lang/String")]
  staticTypes := #[.long]
  resolved := Array.replicate 24 none
  statics := none }

def pool27 : Array CpInfo := pool [(1, .class_ 2), (0, u "java/lang/Appendable"), (0, .class_ 4), (0, u "java/lang/Object")] 9

/-- java/lang/Appendable -/
def k27 : Class := { plain "java/lang/Appendable" (some 0) with
  accessFlags := 1537
  interfaces := #[]
  cf := some (fileOf pool27 1 #[] #[] 1537 3 #[] #[])
  fields := #[]
  methods := #[]
  instanceTypes := #[]
  staticTypes := #[]
  resolved := Array.replicate 14 none
  statics := none }

def pool28 : Array CpInfo := pool [(1, .class_ 2), (0, u "java/lang/String"), (0, .methodref 4 5), (0, .class_ 6), (0, .nameAndType 7 8), (0, u "java/lang/Object"), (0, u "<init>"), (0, u "()V"), (1, .class_ 12), (1, u "java/lang/AbstractStringBuilder"), (0, u "EMPTYVALUE"), (0, u "[B"), (0, .fieldref 10 16), (0, .nameAndType 17 14), (0, u "value"), (0, .fieldref 1 19), (0, .nameAndType 20 21), (0, u "COMPACT_STRINGS"), (0, u "Z"), (0, .fieldref 10 23), (0, .nameAndType 24 25), (0, u "coder"), (0, u "B"), (6, .methodref 1 33), (0, .nameAndType 34 35), (0, u "length"), (0, u "()I"), (4, .methodref 1 41), (0, .nameAndType 24 42), (0, u "()B"), (2, u "append"), (0, u "(Ljava/lang/String;)Ljava/lang/AbstractStringBuilder;"), (1, .class_ 49), (0, u "java/lang/CharSequence"), (19, u "(Ljava/lang/String;)V"), (5, u "maybeLatin1"), (3, .fieldref 10 80), (0, .nameAndType 81 82), (0, u "count"), (0, u "I"), (2, u "isLatin1"), (0, u "()Z"), (13, .methodref 10 101), (0, .nameAndType 102 103), (0, u "ensureCapacityInternal"), (0, u "(I)V"), (104, .methodref 10 209), (0, .nameAndType 210 211), (0, u "putStringAt"), (0, u "(ILjava/lang/String;)V"), (5, u "inflateIfNeededFor"), (2, .nameAndType 221 222), (0, u "getBytes"), (0, u "([BIB)V"), (174, .methodref 10 398), (0, .nameAndType 217 69), (0, .methodref 1 220), (3, u "()[B"), (40, .class_ 445), (0, u "java/lang/Appendable"), (106, u "getValue")] 56

def k28m0 : Method := { name := "<init>", desc := "()V", sig := { parameters := [], returnType := none }, accessFlags := 0, code := none }
def k28c1 : Code := { maxStack := 2, maxLocals := 2, code := jdk_68_method_2_code, exceptionTable := #[], attributes := #[] }
def k28m1 : Method := { name := "<init>", desc := "(I)V", sig := { parameters := [.int], returnType := none }, accessFlags := 0, code := some k28c1 }
def k28c2 : Code := { maxStack := 1, maxLocals := 1, code := jdk_68_method_6_code, exceptionTable := #[], attributes := #[] }
def k28m2 : Method := { name := "length", desc := "()I", sig := { parameters := [], returnType := some .int }, accessFlags := 1, code := some k28c2 }
def k28c3 : Code := { maxStack := 4, maxLocals := 3, code := jdk_68_method_9_code, exceptionTable := #[], attributes := #[] }
def k28m3 : Method := { name := "ensureCapacityInternal", desc := "(I)V", sig := { parameters := [.int], returnType := none }, accessFlags := 2, code := some k28c3 }
def k28c4 : Code := { maxStack := 3, maxLocals := 3, code := jdk_68_method_22_code, exceptionTable := #[], attributes := #[] }
def k28m4 : Method := { name := "append", desc := "(Ljava/lang/String;)Ljava/lang/AbstractStringBuilder;", sig := { parameters := [(.object "java/lang/String")], returnType := some (.object "java/lang/AbstractStringBuilder") }, accessFlags := 1, code := some k28c4 }
def k28c5 : Code := { maxStack := 1, maxLocals := 1, code := jdk_68_method_64_code, exceptionTable := #[], attributes := #[] }
def k28m5 : Method := { name := "getValue", desc := "()[B", sig := { parameters := [], returnType := some (.array .byte) }, accessFlags := 16, code := some k28c5 }
def k28c6 : Code := { maxStack := 1, maxLocals := 1, code := jdk_68_method_68_code, exceptionTable := #[], attributes := #[] }
def k28m6 : Method := { name := "isLatin1", desc := "()Z", sig := { parameters := [], returnType := some .boolean }, accessFlags := 16, code := some k28c6 }
def k28c7 : Code := { maxStack := 2, maxLocals := 2, code := jdk_68_method_71_code, exceptionTable := #[], attributes := #[] }
def k28m7 : Method := { name := "inflateIfNeededFor", desc := "(Ljava/lang/String;)V", sig := { parameters := [(.object "java/lang/String")], returnType := none }, accessFlags := 2, code := some k28c7 }
def k28c8 : Code := { maxStack := 4, maxLocals := 3, code := jdk_68_method_73_code, exceptionTable := #[], attributes := #[] }
def k28m8 : Method := { name := "putStringAt", desc := "(ILjava/lang/String;)V", sig := { parameters := [.int, (.object "java/lang/String")], returnType := none }, accessFlags := 2, code := some k28c8 }
/-- java/lang/AbstractStringBuilder -/
def k28 : Class := { plain "java/lang/AbstractStringBuilder" (some 0) with
  accessFlags := 1056
  interfaces := #[27, 4]
  cf := some (fileOf pool28 10 #[] #[{ accessFlags := 0, nameIndex := 7, descriptorIndex := 8, attributes := #[] }, { accessFlags := 0, nameIndex := 7, descriptorIndex := 103, attributes := #[] }, { accessFlags := 1, nameIndex := 34, descriptorIndex := 35, attributes := #[] }, { accessFlags := 2, nameIndex := 102, descriptorIndex := 103, attributes := #[] }, { accessFlags := 1, nameIndex := 45, descriptorIndex := 46, attributes := #[] }, { accessFlags := 16, nameIndex := 552, descriptorIndex := 403, attributes := #[] }, { accessFlags := 16, nameIndex := 85, descriptorIndex := 86, attributes := #[] }, { accessFlags := 2, nameIndex := 217, descriptorIndex := 69, attributes := #[] }, { accessFlags := 2, nameIndex := 210, descriptorIndex := 211, attributes := #[] }] 1056 4 #[444, 48] #[{ accessFlags := 0, nameIndex := 17, descriptorIndex := 14, attributes := #[] }, { accessFlags := 0, nameIndex := 24, descriptorIndex := 25, attributes := #[] }, { accessFlags := 0, nameIndex := 75, descriptorIndex := 21, attributes := #[] }, { accessFlags := 0, nameIndex := 81, descriptorIndex := 82, attributes := #[] }, { accessFlags := 26, nameIndex := 13, descriptorIndex := 14, attributes := #[] }])
  fields := #[{ name := "value", type := (.array .byte), accessFlags := 0, slot := 0, constantValue := 0 }, { name := "coder", type := .byte, accessFlags := 0, slot := 1, constantValue := 0 }, { name := "maybeLatin1", type := .boolean, accessFlags := 0, slot := 2, constantValue := 0 }, { name := "count", type := .int, accessFlags := 0, slot := 3, constantValue := 0 }, { name := "EMPTYVALUE", type := (.array .byte), accessFlags := 26, slot := 0, constantValue := 0 }]
  methods := #[k28m0, k28m1, k28m2, k28m3, k28m4, k28m5, k28m6, k28m7, k28m8]
  instanceTypes := #[(.array .byte), .byte, .boolean, .int]
  staticTypes := #[(.array .byte)]
  resolved := Array.replicate 609 none
  statics := none }

def pool29 : Array CpInfo := pool [(1, .methodref 2 3), (0, .class_ 4), (0, .nameAndType 5 6), (0, u "java/lang/AbstractStringBuilder"), (0, u "<init>"), (0, u "(I)V"), (11, .class_ 20), (1, u "java/lang/String"), (3, .class_ 26), (1, u "java/lang/StringBuilder"), (0, u "append"), (0, u "(Ljava/lang/String;)Ljava/lang/StringBuilder;"), (0, .methodref 2 30), (0, .nameAndType 27 31), (0, u "(Ljava/lang/String;)Ljava/lang/AbstractStringBuilder;"), (105, .methodref 18 138), (0, .nameAndType 5 139), (0, u "(Ljava/lang/StringBuilder;)V"), (5, u "()V"), (10, u "()I"), (186, .methodref 2 344), (0, .nameAndType 345 156), (0, u "length"), (3, .class_ 350), (0, u "java/lang/Appendable"), (0, .class_ 352), (0, u "java/io/Serializable"), (0, .class_ 354), (0, u "java/lang/Comparable"), (0, .class_ 356), (0, u "java/lang/CharSequence"), (0, u "serialVersionUID"), (0, u "J"), (40, u "toString"), (0, u "()Ljava/lang/String;")] 21

def k29c0 : Code := { maxStack := 2, maxLocals := 1, code := jdk_67_method_1_code, exceptionTable := #[], attributes := #[] }
def k29m0 : Method := { name := "<init>", desc := "()V", sig := { parameters := [], returnType := none }, accessFlags := 1, code := some k29c0 }
def k29c1 : Code := { maxStack := 2, maxLocals := 2, code := jdk_67_method_7_code, exceptionTable := #[], attributes := #[] }
def k29m1 : Method := { name := "append", desc := "(Ljava/lang/String;)Ljava/lang/StringBuilder;", sig := { parameters := [(.object "java/lang/String")], returnType := some (.object "java/lang/StringBuilder") }, accessFlags := 1, code := some k29c1 }
def k29c2 : Code := { maxStack := 3, maxLocals := 1, code := jdk_67_method_42_code, exceptionTable := #[], attributes := #[] }
def k29m2 : Method := { name := "toString", desc := "()Ljava/lang/String;", sig := { parameters := [], returnType := some (.object "java/lang/String") }, accessFlags := 1, code := some k29c2 }
def k29c3 : Code := { maxStack := 1, maxLocals := 1, code := jdk_67_method_93_code, exceptionTable := #[], attributes := #[] }
def k29m3 : Method := { name := "length", desc := "()I", sig := { parameters := [], returnType := some .int }, accessFlags := 4161, code := some k29c3 }
/-- java/lang/StringBuilder -/
def k29 : Class := { plain "java/lang/StringBuilder" (some 28) with
  accessFlags := 49
  interfaces := #[27, 2, 3, 4]
  cf := some (fileOf pool29 24 #[] #[{ accessFlags := 1, nameIndex := 5, descriptorIndex := 145, attributes := #[] }, { accessFlags := 1, nameIndex := 27, descriptorIndex := 28, attributes := #[] }, { accessFlags := 1, nameIndex := 399, descriptorIndex := 400, attributes := #[] }, { accessFlags := 4161, nameIndex := 345, descriptorIndex := 156, attributes := #[] }] 49 2 #[349, 351, 353, 355] #[{ accessFlags := 24, nameIndex := 357, descriptorIndex := 358, attributes := #[] }])
  fields := #[{ name := "serialVersionUID", type := .long, accessFlags := 24, slot := 0, constantValue := 0 }]
  methods := #[k29m0, k29m1, k29m2, k29m3]
  instanceTypes := #[(.array .byte), .byte, .boolean, .int]
  staticTypes := #[.long]
  resolved := Array.replicate 422 none
  statics := none }

def pool30 : Array CpInfo := pool [(2, .class_ 4), (1, u "java/lang/Object"), (0, u "<init>"), (0, u "()V"), (1, .class_ 10), (1, u "java/lang/System"), (0, u "allowSecurityManager"), (0, u "I"), (16, u "cons"), (0, u "Ljava/io/Console;"), (77, .class_ 110), (1, u "java/lang/System$CallersHolder"), (43, u "initialErrStream"), (0, u "Ljava/io/PrintStream;"), (19, u "security"), (0, u "Ljava/lang/SecurityManager;"), (31, .class_ 209), (0, u "java/lang/System$1"), (7, u "props"), (0, u "Ljava/util/Properties;"), (2, u "lineSeparator"), (0, u "Ljava/lang/String;"), (96, .class_ 321), (1, u "java/lang/System$LoggerFinder"), (5, .class_ 328), (0, u "java/lang/System$Logger"), (67, u "err"), (2, u "out"), (91, u "notSupportedJnuEncoding"), (15, u "in"), (17, u "initialIn"), (0, u "Ljava/io/InputStream;"), (35, u "bootLayer"), (0, u "Ljava/lang/ModuleLayer;"), (99, .class_ 664), (0, u "java/lang/System$2"), (9, u "NEVER"), (2, u "MAYBE"), (49, u "arraycopy"), (0, u "(Ljava/lang/Object;ILjava/lang/Object;II)V"), (72, .class_ 802), (0, u "java/lang/System$Logger$Level")] 31

def k30m0 : Method := { name := "<init>", desc := "()V", sig := { parameters := [], returnType := none }, accessFlags := 2, code := none }
def k30m1 : Method := { name := "arraycopy", desc := "(Ljava/lang/Object;ILjava/lang/Object;II)V", sig := { parameters := [(.object "java/lang/Object"), .int, (.object "java/lang/Object"), .int, .int], returnType := none }, accessFlags := 265, code := none }
/-- java/lang/System -/
def k30 : Class := { plain "java/lang/System" (some 0) with
  accessFlags := 49
  interfaces := #[]
  cf := some (fileOf pool30 8 #[.nestMembers #[319, 327, 801, 108, 663, 208]] #[{ accessFlags := 2, nameIndex := 5, descriptorIndex := 6, attributes := #[] }, { accessFlags := 265, nameIndex := 727, descriptorIndex := 728, attributes := #[] }] 49 2 #[] #[{ accessFlags := 25, nameIndex := 507, descriptorIndex := 526, attributes := #[] }, { accessFlags := 25, nameIndex := 399, descriptorIndex := 155, attributes := #[] }, { accessFlags := 25, nameIndex := 396, descriptorIndex := 155, attributes := #[] }, { accessFlags := 10, nameIndex := 525, descriptorIndex := 526, attributes := #[] }, { accessFlags := 26, nameIndex := 674, descriptorIndex := 12, attributes := #[] }, { accessFlags := 26, nameIndex := 677, descriptorIndex := 12, attributes := #[] }, { accessFlags := 10, nameIndex := 11, descriptorIndex := 12, attributes := #[] }, { accessFlags := 74, nameIndex := 175, descriptorIndex := 176, attributes := #[] }, { accessFlags := 10, nameIndex := 491, descriptorIndex := 222, attributes := #[] }, { accessFlags := 74, nameIndex := 29, descriptorIndex := 30, attributes := #[] }, { accessFlags := 74, nameIndex := 154, descriptorIndex := 155, attributes := #[] }, { accessFlags := 10, nameIndex := 217, descriptorIndex := 218, attributes := #[] }, { accessFlags := 10, nameIndex := 221, descriptorIndex := 222, attributes := #[] }, { accessFlags := 8, nameIndex := 562, descriptorIndex := 563, attributes := #[] }])
  fields := #[{ name := "in", type := (.object "java/io/InputStream"), accessFlags := 25, slot := 0, constantValue := 0 }, { name := "out", type := (.object "java/io/PrintStream"), accessFlags := 25, slot := 1, constantValue := 0 }, { name := "err", type := (.object "java/io/PrintStream"), accessFlags := 25, slot := 2, constantValue := 0 }, { name := "initialIn", type := (.object "java/io/InputStream"), accessFlags := 10, slot := 3, constantValue := 0 }, { name := "NEVER", type := .int, accessFlags := 26, slot := 4, constantValue := 0 }, { name := "MAYBE", type := .int, accessFlags := 26, slot := 5, constantValue := 0 }, { name := "allowSecurityManager", type := .int, accessFlags := 10, slot := 6, constantValue := 0 }, { name := "security", type := (.object "java/lang/SecurityManager"), accessFlags := 74, slot := 7, constantValue := 0 }, { name := "notSupportedJnuEncoding", type := (.object "java/lang/String"), accessFlags := 10, slot := 8, constantValue := 0 }, { name := "cons", type := (.object "java/io/Console"), accessFlags := 74, slot := 9, constantValue := 0 }, { name := "initialErrStream", type := (.object "java/io/PrintStream"), accessFlags := 74, slot := 10, constantValue := 0 }, { name := "props", type := (.object "java/util/Properties"), accessFlags := 10, slot := 11, constantValue := 0 }, { name := "lineSeparator", type := (.object "java/lang/String"), accessFlags := 10, slot := 12, constantValue := 0 }, { name := "bootLayer", type := (.object "java/lang/ModuleLayer"), accessFlags := 8, slot := 13, constantValue := 0 }]
  methods := #[k30m0, k30m1]
  instanceTypes := #[]
  staticTypes := #[(.object "java/io/InputStream"), (.object "java/io/PrintStream"), (.object "java/io/PrintStream"), (.object "java/io/InputStream"), .int, .int, .int, (.object "java/lang/SecurityManager"), (.object "java/lang/String"), (.object "java/io/Console"), (.object "java/io/PrintStream"), (.object "java/util/Properties"), (.object "java/lang/String"), (.object "java/lang/ModuleLayer")]
  resolved := Array.replicate 834 none
  statics := none }

def pool31 : Array CpInfo := pool [(2, .class_ 4), (1, u "java/lang/Object"), (0, u "<init>"), (0, u "()V"), (7, .class_ 16), (1, u "java/util/Arrays"), (57, .class_ 76), (1, u "java/util/Arrays$NaturalOrder"), (36, .class_ 115), (1, u "java/util/Arrays$LegacyMergeSort"), (1, u "Z"), (21, u "copyOfRange"), (10, .methodref 151 152), (0, .class_ 153), (0, .nameAndType 154 155), (0, u "java/lang/System"), (0, u "arraycopy"), (0, u "(Ljava/lang/Object;ILjava/lang/Object;II)V"), (148, .methodref 305 306), (0, .class_ 307), (0, .nameAndType 308 309), (0, u "java/lang/Math"), (0, u "min"), (0, u "(II)I"), (29, .methodref 14 340), (0, .nameAndType 341 342), (0, u "copyOfRangeByte"), (0, u "([BII)[B"), (0, .methodref 14 344), (0, .nameAndType 345 346), (0, u "checkLength"), (0, u "(II)V"), (28, .class_ 376), (0, u "java/util/Arrays$ArrayList"), (68, u "$assertionsDisabled"), (269, u "MIN_ARRAY_SORT_GRAN"), (0, u "I"), (2, u "INSERTIONSORT_THRESHOLD"), (255, .class_ 976), (0, u "java/util/Arrays$ArrayItr")] 52

def k31m0 : Method := { name := "<init>", desc := "()V", sig := { parameters := [], returnType := none }, accessFlags := 2, code := none }
def k31c1 : Code := { maxStack := 4, maxLocals := 2, code := jdk_65_method_131_code, exceptionTable := #[], attributes := #[] }
def k31m1 : Method := { name := "checkLength", desc := "(II)V", sig := { parameters := [.int, .int], returnType := none }, accessFlags := 10, code := some k31c1 }
def k31c2 : Code := { maxStack := 3, maxLocals := 3, code := jdk_65_method_132_code, exceptionTable := #[], attributes := #[] }
def k31m2 : Method := { name := "copyOfRange", desc := "([BII)[B", sig := { parameters := [(.array .byte), .int, .int], returnType := some (.array .byte) }, accessFlags := 9, code := some k31c2 }
def k31c3 : Code := { maxStack := 6, maxLocals := 5, code := jdk_65_method_133_code, exceptionTable := #[], attributes := #[] }
def k31m3 : Method := { name := "copyOfRangeByte", desc := "([BII)[B", sig := { parameters := [(.array .byte), .int, .int], returnType := some (.array .byte) }, accessFlags := 10, code := some k31c3 }
/-- java/util/Arrays -/
def k31 : Class := { plain "java/util/Arrays" (some 0) with
  accessFlags := 49
  interfaces := #[]
  cf := some (fileOf pool31 14 #[.nestMembers #[975, 375, 113, 74]] #[{ accessFlags := 2, nameIndex := 5, descriptorIndex := 6, attributes := #[] }, { accessFlags := 10, nameIndex := 345, descriptorIndex := 346, attributes := #[] }, { accessFlags := 9, nameIndex := 139, descriptorIndex := 342, attributes := #[] }, { accessFlags := 10, nameIndex := 341, descriptorIndex := 342, attributes := #[] }] 49 2 #[] #[{ accessFlags := 26, nameIndex := 715, descriptorIndex := 716, attributes := #[] }, { accessFlags := 26, nameIndex := 719, descriptorIndex := 716, attributes := #[] }, { accessFlags := 4120, nameIndex := 445, descriptorIndex := 117, attributes := #[] }])
  fields := #[{ name := "MIN_ARRAY_SORT_GRAN", type := .int, accessFlags := 26, slot := 0, constantValue := 0 }, { name := "INSERTIONSORT_THRESHOLD", type := .int, accessFlags := 26, slot := 1, constantValue := 0 }, { name := "$assertionsDisabled", type := .boolean, accessFlags := 4120, slot := 2, constantValue := 0 }]
  methods := #[k31m0, k31m1, k31m2, k31m3]
  instanceTypes := #[]
  staticTypes := #[.int, .int, .boolean]
  resolved := Array.replicate 1029 none
  statics := none }

def pool32 : Array CpInfo := pool [(1, .class_ 2), (0, u "java/lang/Math"), (1, .class_ 6), (1, u "java/lang/Object"), (0, u "<init>"), (0, u "()V"), (89, .class_ 100), (1, u "java/lang/Math$RandomNumberGeneratorHolder"), (71, u "negativeZeroFloatBits"), (0, u "J"), (2, u "negativeZeroDoubleBits"), (24, u "min"), (43, u "$assertionsDisabled"), (0, u "Z"), (88, u "(II)I"), (2, u "twoToTheDoubleScaleDown"), (0, u "D"), (4, u "twoToTheDoubleScaleUp"), (9, u "E"), (3, u "PI"), (2, u "TAU"), (2, u "DEGREES_TO_RADIANS"), (0, u "RADIANS_TO_DEGREES")] 94

def k32m0 : Method := { name := "<init>", desc := "()V", sig := { parameters := [], returnType := none }, accessFlags := 2, code := none }
def k32c1 : Code := { maxStack := 2, maxLocals := 2, code := jdk_29_method_69_code, exceptionTable := #[], attributes := #[] }
def k32m1 : Method := { name := "min", desc := "(II)I", sig := { parameters := [.int, .int], returnType := some .int }, accessFlags := 9, code := some k32c1 }
/-- java/lang/Math -/
def k32 : Class := { plain "java/lang/Math" (some 0) with
  accessFlags := 49
  interfaces := #[]
  cf := some (fileOf pool32 1 #[.nestMembers #[98]] #[{ accessFlags := 2, nameIndex := 7, descriptorIndex := 8, attributes := #[] }, { accessFlags := 9, nameIndex := 201, descriptorIndex := 335, attributes := #[] }] 49 4 #[] #[{ accessFlags := 25, nameIndex := 354, descriptorIndex := 339, attributes := #[] }, { accessFlags := 25, nameIndex := 358, descriptorIndex := 339, attributes := #[] }, { accessFlags := 25, nameIndex := 361, descriptorIndex := 339, attributes := #[] }, { accessFlags := 26, nameIndex := 364, descriptorIndex := 339, attributes := #[] }, { accessFlags := 26, nameIndex := 365, descriptorIndex := 339, attributes := #[] }, { accessFlags := 26, nameIndex := 172, descriptorIndex := 173, attributes := #[] }, { accessFlags := 26, nameIndex := 176, descriptorIndex := 173, attributes := #[] }, { accessFlags := 8, nameIndex := 344, descriptorIndex := 339, attributes := #[] }, { accessFlags := 8, nameIndex := 338, descriptorIndex := 339, attributes := #[] }, { accessFlags := 4120, nameIndex := 245, descriptorIndex := 246, attributes := #[] }])
  fields := #[{ name := "E", type := .double, accessFlags := 25, slot := 0, constantValue := 0 }, { name := "PI", type := .double, accessFlags := 25, slot := 1, constantValue := 0 }, { name := "TAU", type := .double, accessFlags := 25, slot := 2, constantValue := 0 }, { name := "DEGREES_TO_RADIANS", type := .double, accessFlags := 26, slot := 3, constantValue := 0 }, { name := "RADIANS_TO_DEGREES", type := .double, accessFlags := 26, slot := 4, constantValue := 0 }, { name := "negativeZeroFloatBits", type := .long, accessFlags := 26, slot := 5, constantValue := 0 }, { name := "negativeZeroDoubleBits", type := .long, accessFlags := 26, slot := 6, constantValue := 0 }, { name := "twoToTheDoubleScaleUp", type := .double, accessFlags := 8, slot := 7, constantValue := 0 }, { name := "twoToTheDoubleScaleDown", type := .double, accessFlags := 8, slot := 8, constantValue := 0 }, { name := "$assertionsDisabled", type := .boolean, accessFlags := 4120, slot := 9, constantValue := 0 }]
  methods := #[k32m0, k32m1]
  instanceTypes := #[]
  staticTypes := #[.double, .double, .double, .double, .double, .long, .long, .double, .double, .boolean]
  resolved := Array.replicate 460 none
  statics := none }

def pool33 : Array CpInfo := pool [(4, .class_ 6), (1, u "java/lang/Object"), (0, u "<init>"), (0, u "()V"), (5, .class_ 16), (1, u "java/lang/StringLatin1"), (104, u "$assertionsDisabled"), (0, u "Z"), (98, .class_ 223), (1, u "java/lang/StringLatin1$LinesSpliterator"), (57, u "equals"), (0, u "([B[B)Z"), (107, .class_ 391), (0, u "java/lang/StringLatin1$CharsSpliterator")] 3

def k33m0 : Method := { name := "<init>", desc := "()V", sig := { parameters := [], returnType := none }, accessFlags := 0, code := none }
def k33c1 : Code := { maxStack := 3, maxLocals := 3, code := jdk_43_method_13_code, exceptionTable := #[], attributes := #[] }
def k33m1 : Method := { name := "equals", desc := "([B[B)Z", sig := { parameters := [(.array .byte), (.array .byte)], returnType := some .boolean }, accessFlags := 9, code := some k33c1 }
/-- java/lang/StringLatin1 -/
def k33 : Class := { plain "java/lang/StringLatin1" (some 0) with
  accessFlags := 48
  interfaces := #[]
  cf := some (fileOf pool33 14 #[.nestMembers #[390, 221]] #[{ accessFlags := 0, nameIndex := 7, descriptorIndex := 8, attributes := #[] }, { accessFlags := 9, nameIndex := 281, descriptorIndex := 282, attributes := #[] }] 48 4 #[] #[{ accessFlags := 4120, nameIndex := 121, descriptorIndex := 122, attributes := #[] }])
  fields := #[{ name := "$assertionsDisabled", type := .boolean, accessFlags := 4120, slot := 0, constantValue := 0 }]
  methods := #[k33m0, k33m1]
  instanceTypes := #[]
  staticTypes := #[.boolean]
  resolved := Array.replicate 395 none
  statics := none }

def pool34 : Array CpInfo := pool [(2, .class_ 4), (1, u "java/lang/Object"), (0, u "<init>"), (0, u "()V"), (17, .class_ 26), (1, u "jdk/internal/util/Preconditions"), (28, .class_ 56), (0, u "jdk/internal/util/Preconditions$4"), (57, .class_ 115), (0, u "jdk/internal/util/Preconditions$1"), (7, u "SIOOBE_FORMATTER"), (0, u "Ljava/util/function/BiFunction;"), (0, .class_ 126), (0, u "jdk/internal/util/Preconditions$2"), (3, u "AIOOBE_FORMATTER"), (0, .class_ 132), (0, u "jdk/internal/util/Preconditions$3"), (3, u "IOOBE_FORMATTER")] 57

def k34m0 : Method := { name := "<init>", desc := "()V", sig := { parameters := [], returnType := none }, accessFlags := 1, code := none }
/-- jdk/internal/util/Preconditions -/
def k34 : Class := { plain "jdk/internal/util/Preconditions" (some 0) with
  accessFlags := 33
  interfaces := #[]
  cf := some (fileOf pool34 24 #[.nestMembers #[55, 131, 125, 114]] #[{ accessFlags := 1, nameIndex := 5, descriptorIndex := 6, attributes := #[] }] 33 2 #[] #[{ accessFlags := 25, nameIndex := 123, descriptorIndex := 124, attributes := #[] }, { accessFlags := 25, nameIndex := 130, descriptorIndex := 124, attributes := #[] }, { accessFlags := 25, nameIndex := 136, descriptorIndex := 124, attributes := #[] }])
  fields := #[{ name := "SIOOBE_FORMATTER", type := (.object "java/util/function/BiFunction"), accessFlags := 25, slot := 0, constantValue := 0 }, { name := "AIOOBE_FORMATTER", type := (.object "java/util/function/BiFunction"), accessFlags := 25, slot := 1, constantValue := 0 }, { name := "IOOBE_FORMATTER", type := (.object "java/util/function/BiFunction"), accessFlags := 25, slot := 2, constantValue := 0 }]
  methods := #[k34m0]
  instanceTypes := #[]
  staticTypes := #[(.object "java/util/function/BiFunction"), (.object "java/util/function/BiFunction"), (.object "java/util/function/BiFunction")]
  resolved := Array.replicate 194 none
  statics := some 3 }

def pool35 : Array CpInfo := pool [(9, u "<init>"), (6, .class_ 18), (1, u "java/lang/Object"), (0, u "()V"), (1, .class_ 23), (1, u "jdk/internal/util/ArraysSupport"), (0, u "LOG2_ARRAY_LONG_INDEX_SCALE"), (0, u "I"), (2, u "U"), (0, u "Ljdk/internal/misc/Unsafe;"), (8, u "BIG_ENDIAN"), (0, u "Z"), (8, u "LOG2_BYTE_BIT_SIZE"), (4, u "LOG2_ARRAY_INT_INDEX_SCALE"), (54, u "JLA"), (0, u "Ljdk/internal/access/JavaLangAccess;"), (11, u "LOG2_ARRAY_BOOLEAN_INDEX_SCALE"), (9, u "LOG2_ARRAY_BYTE_INDEX_SCALE"), (5, u "LOG2_ARRAY_CHAR_INDEX_SCALE"), (5, u "LOG2_ARRAY_SHORT_INDEX_SCALE"), (18, u "LOG2_ARRAY_FLOAT_INDEX_SCALE"), (24, u "LOG2_ARRAY_DOUBLE_INDEX_SCALE"), (89, u "T_BOOLEAN"), (2, u "T_CHAR"), (1, u "T_FLOAT"), (1, u "T_DOUBLE"), (1, u "T_BYTE"), (1, u "T_SHORT"), (1, u "T_INT"), (1, u "T_LONG"), (1, u "SOFT_MAX_ARRAY_LENGTH")] 83

def k35m0 : Method := { name := "<init>", desc := "()V", sig := { parameters := [], returnType := none }, accessFlags := 2, code := none }
/-- jdk/internal/util/ArraysSupport -/
def k35 : Class := { plain "jdk/internal/util/ArraysSupport" (some 0) with
  accessFlags := 33
  interfaces := #[]
  cf := some (fileOf pool35 21 #[] #[{ accessFlags := 2, nameIndex := 9, descriptorIndex := 19, attributes := #[] }] 33 16 #[] #[{ accessFlags := 24, nameIndex := 28, descriptorIndex := 29, attributes := #[] }, { accessFlags := 26, nameIndex := 38, descriptorIndex := 39, attributes := #[] }, { accessFlags := 25, nameIndex := 121, descriptorIndex := 25, attributes := #[] }, { accessFlags := 25, nameIndex := 131, descriptorIndex := 25, attributes := #[] }, { accessFlags := 25, nameIndex := 137, descriptorIndex := 25, attributes := #[] }, { accessFlags := 25, nameIndex := 143, descriptorIndex := 25, attributes := #[] }, { accessFlags := 25, nameIndex := 53, descriptorIndex := 25, attributes := #[] }, { accessFlags := 25, nameIndex := 24, descriptorIndex := 25, attributes := #[] }, { accessFlags := 25, nameIndex := 162, descriptorIndex := 25, attributes := #[] }, { accessFlags := 25, nameIndex := 187, descriptorIndex := 25, attributes := #[] }, { accessFlags := 26, nameIndex := 48, descriptorIndex := 25, attributes := #[] }, { accessFlags := 25, nameIndex := 277, descriptorIndex := 25, attributes := #[] }, { accessFlags := 25, nameIndex := 280, descriptorIndex := 25, attributes := #[] }, { accessFlags := 25, nameIndex := 282, descriptorIndex := 25, attributes := #[] }, { accessFlags := 25, nameIndex := 284, descriptorIndex := 25, attributes := #[] }, { accessFlags := 25, nameIndex := 286, descriptorIndex := 25, attributes := #[] }, { accessFlags := 25, nameIndex := 288, descriptorIndex := 25, attributes := #[] }, { accessFlags := 25, nameIndex := 290, descriptorIndex := 25, attributes := #[] }, { accessFlags := 25, nameIndex := 292, descriptorIndex := 25, attributes := #[] }, { accessFlags := 26, nameIndex := 108, descriptorIndex := 109, attributes := #[] }, { accessFlags := 25, nameIndex := 294, descriptorIndex := 25, attributes := #[] }])
  fields := #[{ name := "U", type := (.object "jdk/internal/misc/Unsafe"), accessFlags := 24, slot := 0, constantValue := 0 }, { name := "BIG_ENDIAN", type := .boolean, accessFlags := 26, slot := 1, constantValue := 0 }, { name := "LOG2_ARRAY_BOOLEAN_INDEX_SCALE", type := .int, accessFlags := 25, slot := 2, constantValue := 0 }, { name := "LOG2_ARRAY_BYTE_INDEX_SCALE", type := .int, accessFlags := 25, slot := 3, constantValue := 0 }, { name := "LOG2_ARRAY_CHAR_INDEX_SCALE", type := .int, accessFlags := 25, slot := 4, constantValue := 0 }, { name := "LOG2_ARRAY_SHORT_INDEX_SCALE", type := .int, accessFlags := 25, slot := 5, constantValue := 0 }, { name := "LOG2_ARRAY_INT_INDEX_SCALE", type := .int, accessFlags := 25, slot := 6, constantValue := 0 }, { name := "LOG2_ARRAY_LONG_INDEX_SCALE", type := .int, accessFlags := 25, slot := 7, constantValue := 0 }, { name := "LOG2_ARRAY_FLOAT_INDEX_SCALE", type := .int, accessFlags := 25, slot := 8, constantValue := 0 }, { name := "LOG2_ARRAY_DOUBLE_INDEX_SCALE", type := .int, accessFlags := 25, slot := 9, constantValue := 0 }, { name := "LOG2_BYTE_BIT_SIZE", type := .int, accessFlags := 26, slot := 10, constantValue := 0 }, { name := "T_BOOLEAN", type := .int, accessFlags := 25, slot := 11, constantValue := 0 }, { name := "T_CHAR", type := .int, accessFlags := 25, slot := 12, constantValue := 0 }, { name := "T_FLOAT", type := .int, accessFlags := 25, slot := 13, constantValue := 0 }, { name := "T_DOUBLE", type := .int, accessFlags := 25, slot := 14, constantValue := 0 }, { name := "T_BYTE", type := .int, accessFlags := 25, slot := 15, constantValue := 0 }, { name := "T_SHORT", type := .int, accessFlags := 25, slot := 16, constantValue := 0 }, { name := "T_INT", type := .int, accessFlags := 25, slot := 17, constantValue := 0 }, { name := "T_LONG", type := .int, accessFlags := 25, slot := 18, constantValue := 0 }, { name := "JLA", type := (.object "jdk/internal/access/JavaLangAccess"), accessFlags := 26, slot := 19, constantValue := 0 }, { name := "SOFT_MAX_ARRAY_LENGTH", type := .int, accessFlags := 25, slot := 20, constantValue := 0 }]
  methods := #[k35m0]
  instanceTypes := #[]
  staticTypes := #[(.object "jdk/internal/misc/Unsafe"), .boolean, .int, .int, .int, .int, .int, .int, .int, .int, .int, .int, .int, .int, .int, .int, .int, .int, .int, (.object "jdk/internal/access/JavaLangAccess"), .int]
  resolved := Array.replicate 378 none
  statics := none }

def pool36 : Array CpInfo := pool [(2, .class_ 4), (1, u "java/lang/Object"), (0, u "<init>"), (0, u "()V"), (12, .class_ 20), (0, u "java/util/Collections"), (63, u "r"), (0, u "Ljava/util/Random;"), (80, .class_ 167), (0, u "java/util/Collections$UnmodifiableCollection"), (6, .class_ 175), (0, u "java/util/Collections$UnmodifiableSequencedCollection"), (6, .class_ 183), (0, u "java/util/Collections$UnmodifiableSet"), (6, .class_ 191), (0, u "java/util/Collections$UnmodifiableSequencedSet"), (6, .class_ 199), (0, u "java/util/Collections$UnmodifiableSortedSet"), (6, .class_ 207), (0, u "java/util/Collections$UnmodifiableNavigableSet"), (4, .class_ 213), (0, u "java/util/Collections$UnmodifiableList"), (1, .class_ 216), (0, u "java/util/Collections$UnmodifiableRandomAccessList"), (6, .class_ 224), (0, u "java/util/Collections$UnmodifiableMap"), (6, .class_ 232), (0, u "java/util/Collections$UnmodifiableSequencedMap"), (4, .class_ 238), (0, u "java/util/Collections$UnmodifiableSortedMap"), (6, .class_ 246), (0, u "java/util/Collections$UnmodifiableNavigableMap"), (3, .class_ 251), (0, u "java/util/Collections$SynchronizedCollection"), (4, .class_ 257), (0, u "java/util/Collections$SynchronizedSet"), (4, .class_ 263), (0, u "java/util/Collections$SynchronizedSortedSet"), (1, .class_ 266), (0, u "java/util/Collections$SynchronizedNavigableSet"), (1, .class_ 269), (0, u "java/util/Collections$SynchronizedRandomAccessList"), (1, .class_ 272), (0, u "java/util/Collections$SynchronizedList"), (5, .class_ 279), (0, u "java/util/Collections$SynchronizedMap"), (1, .class_ 282), (0, u "java/util/Collections$SynchronizedSortedMap"), (1, .class_ 285), (0, u "java/util/Collections$SynchronizedNavigableMap"), (1, .class_ 288), (0, u "java/util/Collections$CheckedCollection"), (11, .class_ 301), (0, u "java/util/Collections$CheckedQueue"), (3, .class_ 306), (0, u "java/util/Collections$CheckedSet"), (3, .class_ 311), (0, u "java/util/Collections$CheckedSortedSet"), (3, .class_ 316), (0, u "java/util/Collections$CheckedNavigableSet"), (3, .class_ 321), (0, u "java/util/Collections$CheckedRandomAccessList"), (3, .class_ 326), (0, u "java/util/Collections$CheckedList"), (1, .class_ 329), (0, u "java/util/Collections$CheckedMap"), (3, .class_ 334), (0, u "java/util/Collections$CheckedSortedMap"), (3, .class_ 339), (0, u "java/util/Collections$CheckedNavigableMap"), (4, .class_ 346), (1, u "java/util/Collections$EmptyIterator"), (3, .class_ 352), (1, u "java/util/Collections$EmptyListIterator"), (2, .class_ 357), (1, u "java/util/Collections$EmptyEnumeration"), (4, u "EMPTY_SET"), (0, u "Ljava/util/Set;"), (6, u "EMPTY_LIST"), (0, u "Ljava/util/List;"), (2, u "EMPTY_MAP"), (0, u "Ljava/util/Map;"), (4, .class_ 381), (0, u "java/util/Collections$SingletonSet"), (2, .class_ 385), (0, u "java/util/Collections$1"), (1, .class_ 388), (0, u "java/util/Collections$2"), (1, .class_ 391), (0, u "java/util/Collections$SingletonList"), (1, .class_ 394), (0, u "java/util/Collections$SingletonMap"), (22, .class_ 418), (0, u "java/util/Collections$CopiesList"), (4, .class_ 425), (1, u "java/util/Collections$ReverseComparator"), (8, .class_ 435), (0, u "java/util/Collections$ReverseComparator2"), (6, .class_ 443), (0, u "java/util/Collections$3"), (25, .class_ 470), (0, u "java/util/Collections$SetFromMap"), (2, .class_ 474), (0, u "java/util/Collections$SequencedSetFromMap"), (3, .class_ 479), (0, u "java/util/Collections$AsLIFOQueue"), (11, .class_ 492), (0, u "java/util/Collections$EmptySet"), (1, .class_ 495), (0, u "java/util/Collections$EmptyList"), (1, .class_ 498), (0, u "java/util/Collections$EmptyMap"), (1, u "BINARYSEARCH_THRESHOLD"), (0, u "I"), (2, u "REVERSE_THRESHOLD"), (1, u "SHUFFLE_THRESHOLD"), (1, u "FILL_THRESHOLD"), (1, u "ROTATE_THRESHOLD"), (1, u "COPY_THRESHOLD"), (1, u "REPLACEALL_THRESHOLD"), (1, u "INDEXOFSUBLIST_THRESHOLD"), (333, .class_ 851), (0, u "java/util/Collections$CheckedMap$CheckedEntrySet"), (0, .class_ 853), (0, u "java/util/Collections$CheckedMap$CheckedEntrySet$CheckedEntry"), (0, .class_ 855), (0, u "java/util/Collections$CheckedMap$CheckedEntrySet$1"), (0, .class_ 857), (0, u "java/util/Collections$CheckedList$1"), (0, .class_ 859), (0, u "java/util/Collections$CheckedCollection$1"), (0, .class_ 861), (0, u "java/util/Collections$UnmodifiableNavigableMap$EmptyNavigableMap"), (0, .class_ 863), (0, u "java/util/Collections$UnmodifiableMap$UnmodifiableEntrySet"), (0, .class_ 865), (0, u "java/util/Collections$UnmodifiableMap$UnmodifiableEntrySet$UnmodifiableEntry"), (0, .class_ 867), (0, u "java/util/Collections$UnmodifiableMap$UnmodifiableEntrySet$UnmodifiableEntrySetSpliterator"), (0, .class_ 869), (0, u "java/util/Collections$UnmodifiableMap$UnmodifiableEntrySet$1"), (0, .class_ 871), (0, u "java/util/Collections$UnmodifiableList$1"), (0, .class_ 873), (0, u "java/util/Collections$UnmodifiableNavigableSet$EmptyNavigableSet"), (0, .class_ 875), (0, u "java/util/Collections$UnmodifiableCollection$1")] 57

def k36m0 : Method := { name := "<init>", desc := "()V", sig := { parameters := [], returnType := none }, accessFlags := 2, code := none }
/-- java/util/Collections -/
def k36 : Class := { plain "java/util/Collections" (some 0) with
  accessFlags := 33
  interfaces := #[]
  cf := some (fileOf pool36 19 #[.nestMembers #[478, 473, 469, 434, 423, 417, 393, 390, 380, 497, 494, 491, 355, 350, 344, 338, 333, 328, 850, 852, 854, 320, 325, 856, 315, 310, 305, 300, 287, 858, 284, 281, 278, 268, 271, 265, 262, 256, 250, 245, 860, 237, 231, 223, 862, 864, 866, 868, 215, 212, 870, 206, 872, 198, 190, 182, 174, 166, 874, 442, 387, 384]] #[{ accessFlags := 2, nameIndex := 5, descriptorIndex := 6, attributes := #[] }] 33 2 #[] #[{ accessFlags := 26, nameIndex := 500, descriptorIndex := 501, attributes := #[] }, { accessFlags := 26, nameIndex := 504, descriptorIndex := 501, attributes := #[] }, { accessFlags := 26, nameIndex := 506, descriptorIndex := 501, attributes := #[] }, { accessFlags := 26, nameIndex := 508, descriptorIndex := 501, attributes := #[] }, { accessFlags := 26, nameIndex := 510, descriptorIndex := 501, attributes := #[] }, { accessFlags := 26, nameIndex := 512, descriptorIndex := 501, attributes := #[] }, { accessFlags := 26, nameIndex := 514, descriptorIndex := 501, attributes := #[] }, { accessFlags := 26, nameIndex := 516, descriptorIndex := 501, attributes := #[] }, { accessFlags := 10, nameIndex := 84, descriptorIndex := 85, attributes := #[] }, { accessFlags := 25, nameIndex := 362, descriptorIndex := 363, attributes := #[] }, { accessFlags := 25, nameIndex := 370, descriptorIndex := 371, attributes := #[] }, { accessFlags := 25, nameIndex := 374, descriptorIndex := 375, attributes := #[] }])
  fields := #[{ name := "BINARYSEARCH_THRESHOLD", type := .int, accessFlags := 26, slot := 0, constantValue := 0 }, { name := "REVERSE_THRESHOLD", type := .int, accessFlags := 26, slot := 1, constantValue := 0 }, { name := "SHUFFLE_THRESHOLD", type := .int, accessFlags := 26, slot := 2, constantValue := 0 }, { name := "FILL_THRESHOLD", type := .int, accessFlags := 26, slot := 3, constantValue := 0 }, { name := "ROTATE_THRESHOLD", type := .int, accessFlags := 26, slot := 4, constantValue := 0 }, { name := "COPY_THRESHOLD", type := .int, accessFlags := 26, slot := 5, constantValue := 0 }, { name := "REPLACEALL_THRESHOLD", type := .int, accessFlags := 26, slot := 6, constantValue := 0 }, { name := "INDEXOFSUBLIST_THRESHOLD", type := .int, accessFlags := 26, slot := 7, constantValue := 0 }, { name := "r", type := (.object "java/util/Random"), accessFlags := 10, slot := 8, constantValue := 0 }, { name := "EMPTY_SET", type := (.object "java/util/Set"), accessFlags := 25, slot := 9, constantValue := 0 }, { name := "EMPTY_LIST", type := (.object "java/util/List"), accessFlags := 25, slot := 10, constantValue := 0 }, { name := "EMPTY_MAP", type := (.object "java/util/Map"), accessFlags := 25, slot := 11, constantValue := 0 }]
  methods := #[k36m0]
  instanceTypes := #[]
  staticTypes := #[.int, .int, .int, .int, .int, .int, .int, .int, (.object "java/util/Random"), (.object "java/util/Set"), (.object "java/util/List"), (.object "java/util/Map")]
  resolved := Array.replicate 933 none
  statics := some 4 }

def pool37 : Array CpInfo := pool [(2, .class_ 4), (1, u "java/util/AbstractList"), (0, u "<init>"), (0, u "()V"), (1, .class_ 10), (1, u "java/util/Collections"), (54, .class_ 66), (0, u "java/util/Collections$EmptyList"), (0, .class_ 68), (0, u "java/util/RandomAccess"), (0, .class_ 70), (0, u "java/io/Serializable"), (0, u "serialVersionUID"), (0, u "J")] 77

def k37m0 : Method := { name := "<init>", desc := "()V", sig := { parameters := [], returnType := none }, accessFlags := 2, code := none }
/-- java/util/Collections$EmptyList -/
def k37 : Class := { plain "java/util/Collections$EmptyList" (some 15) with
  accessFlags := 32
  interfaces := #[16, 2]
  cf := some (fileOf pool37 65 #[.nestHost 8] #[{ accessFlags := 2, nameIndex := 5, descriptorIndex := 6, attributes := #[] }] 32 2 #[67, 69] #[{ accessFlags := 26, nameIndex := 71, descriptorIndex := 72, attributes := #[] }])
  fields := #[{ name := "serialVersionUID", type := .long, accessFlags := 26, slot := 0, constantValue := 0 }]
  methods := #[k37m0]
  instanceTypes := #[.int]
  staticTypes := #[.long]
  resolved := Array.replicate 150 none
  statics := none }

def pool38 : Array CpInfo := pool [(2, .class_ 4), (1, u "java/lang/StackTraceElement"), (0, u "<init>"), (2, .class_ 10), (1, u "java/lang/Object"), (0, u "()V"), (2, u "format"), (0, u "B"), (2, u "classLoaderName"), (0, u "Ljava/lang/String;"), (2, u "moduleName"), (2, u "moduleVersion"), (12, u "declaringClass"), (4, u "methodName"), (2, u "fileName"), (2, u "lineNumber"), (0, u "I"), (65, u "declaringClassObject"), (0, u "Ljava/lang/Class;"), (33, .class_ 153), (1, u "java/lang/StackTraceElement$HashedModules"), (17, .class_ 172), (0, u "java/io/Serializable"), (0, u "NATIVE_METHOD"), (1, u "UNKNOWN_SOURCE"), (2, u "BUILTIN_CLASS_LOADER"), (1, u "JDK_NON_UPGRADEABLE_MODULE"), (1, u "serialVersionUID"), (0, u "J")] 51

def k38m0 : Method := { name := "<init>", desc := "()V", sig := { parameters := [], returnType := none }, accessFlags := 2, code := none }
/-- java/lang/StackTraceElement -/
def k38 : Class := { plain "java/lang/StackTraceElement" (some 0) with
  accessFlags := 49
  interfaces := #[2]
  cf := some (fileOf pool38 2 #[.nestMembers #[151]] #[{ accessFlags := 2, nameIndex := 5, descriptorIndex := 11, attributes := #[] }] 49 8 #[171] #[{ accessFlags := 26, nameIndex := 173, descriptorIndex := 19, attributes := #[] }, { accessFlags := 26, nameIndex := 175, descriptorIndex := 19, attributes := #[] }, { accessFlags := 130, nameIndex := 116, descriptorIndex := 117, attributes := #[] }, { accessFlags := 2, nameIndex := 18, descriptorIndex := 19, attributes := #[] }, { accessFlags := 2, nameIndex := 22, descriptorIndex := 19, attributes := #[] }, { accessFlags := 2, nameIndex := 25, descriptorIndex := 19, attributes := #[] }, { accessFlags := 2, nameIndex := 38, descriptorIndex := 19, attributes := #[] }, { accessFlags := 2, nameIndex := 43, descriptorIndex := 19, attributes := #[] }, { accessFlags := 2, nameIndex := 46, descriptorIndex := 19, attributes := #[] }, { accessFlags := 2, nameIndex := 49, descriptorIndex := 50, attributes := #[] }, { accessFlags := 2, nameIndex := 14, descriptorIndex := 15, attributes := #[] }, { accessFlags := 26, nameIndex := 178, descriptorIndex := 15, attributes := #[] }, { accessFlags := 26, nameIndex := 180, descriptorIndex := 15, attributes := #[] }, { accessFlags := 26, nameIndex := 182, descriptorIndex := 183, attributes := #[] }])
  fields := #[{ name := "NATIVE_METHOD", type := (.object "java/lang/String"), accessFlags := 26, slot := 0, constantValue := 0 }, { name := "UNKNOWN_SOURCE", type := (.object "java/lang/String"), accessFlags := 26, slot := 1, constantValue := 0 }, { name := "declaringClassObject", type := (.object "java/lang/Class"), accessFlags := 130, slot := 0, constantValue := 0 }, { name := "classLoaderName", type := (.object "java/lang/String"), accessFlags := 2, slot := 1, constantValue := 0 }, { name := "moduleName", type := (.object "java/lang/String"), accessFlags := 2, slot := 2, constantValue := 0 }, { name := "moduleVersion", type := (.object "java/lang/String"), accessFlags := 2, slot := 3, constantValue := 0 }, { name := "declaringClass", type := (.object "java/lang/String"), accessFlags := 2, slot := 4, constantValue := 0 }, { name := "methodName", type := (.object "java/lang/String"), accessFlags := 2, slot := 5, constantValue := 0 }, { name := "fileName", type := (.object "java/lang/String"), accessFlags := 2, slot := 6, constantValue := 0 }, { name := "lineNumber", type := .int, accessFlags := 2, slot := 7, constantValue := 0 }, { name := "format", type := .byte, accessFlags := 2, slot := 8, constantValue := 0 }, { name := "BUILTIN_CLASS_LOADER", type := .byte, accessFlags := 26, slot := 2, constantValue := 0 }, { name := "JDK_NON_UPGRADEABLE_MODULE", type := .byte, accessFlags := 26, slot := 3, constantValue := 0 }, { name := "serialVersionUID", type := .long, accessFlags := 26, slot := 4, constantValue := 0 }]
  methods := #[k38m0]
  instanceTypes := #[(.object "java/lang/Class"), (.object "java/lang/String"), (.object "java/lang/String"), (.object "java/lang/String"), (.object "java/lang/String"), (.object "java/lang/String"), (.object "java/lang/String"), .int, .byte]
  staticTypes := #[(.object "java/lang/String"), (.object "java/lang/String"), .byte, .byte, .long]
  resolved := Array.replicate 235 none
  statics := none }

/-- the primitive byte -/
def k39 : Class := { plain "byte" none with kind := .primitive 'B', accessFlags := 0x411 }
/-- [B -/
def k40 : Class := { plain "[B" (some 0) with kind := .array 39 .byte, interfaces := #[17, 2], accessFlags := 1041 }

/-- the primitive char -/
def k41 : Class := { plain "char" none with kind := .primitive 'C', accessFlags := 0x411 }
/-- [C -/
def k42 : Class := { plain "[C" (some 0) with kind := .array 41 .char, interfaces := #[17, 2], accessFlags := 1041 }

/-- the primitive int -/
def k43 : Class := { plain "int" none with kind := .primitive 'I', accessFlags := 0x411 }
/-- [I -/
def k44 : Class := { plain "[I" (some 0) with kind := .array 43 .int, interfaces := #[17, 2], accessFlags := 1041 }

/-- [Ljava/lang/Object; -/
def k45 : Class := { plain "[Ljava/lang/Object;" (some 0) with kind := .array 0 (.object "java/lang/Object"), interfaces := #[17, 2], accessFlags := 1041 }

/-- [Ljava/lang/StackTraceElement; -/
def k46 : Class := { plain "[Ljava/lang/StackTraceElement;" (some 0) with kind := .array 38 (.object "java/lang/StackTraceElement"), interfaces := #[17, 2], accessFlags := 1041 }

/-- [Ljava/lang/Throwable; -/
def k47 : Class := { plain "[Ljava/lang/Throwable;" (some 0) with kind := .array 24 (.object "java/lang/Throwable"), interfaces := #[17, 2], accessFlags := 1041 }

def heap : Heap := #[{ cls := 7, slots := #[.long 0, .int 1, .null, .int 0, .null, .int 0, .int 0], vm := .statics 7 },
  { cls := 18, slots := #[.long 0, .int 0, .ref 5, .ref 6], vm := .statics 18 },
  { cls := 24, slots := #[.long 0, .ref 7, .ref 8, .null, .null, .null, .null, .ref 9, .int 1], vm := .statics 24 },
  { cls := 34, slots := #[.null, .null, .null], vm := .statics 34 },
  { cls := 36, slots := #[.int 0, .int 0, .int 0, .int 0, .int 0, .int 0, .int 0, .int 0, .null, .null, .ref 8, .null], vm := .statics 36 },
  { cls := 45, slots := #[], vm := .none },
  { cls := 45, slots := #[], vm := .none },
  { cls := 46, slots := #[], vm := .none },
  { cls := 37, slots := #[.int 0], vm := .none },
  { cls := 47, slots := #[], vm := .none }]
def classes : Array Class := #[k0, k1, k2, k3, k4, k5, k6, k7, k8, k9, k10, k11, k12, k13, k14, k15, k16, k17, k18, k19, k20, k21, k22, k23, k24, k25, k26, k27, k28, k29, k30, k31, k32, k33, k34, k35, k36, k37, k38, k39, k40, k41, k42, k43, k44, k45, k46, k47]
def interned : List (Array UInt16 × Addr) := []
def slotsUsed : Nat := 36
def theMethod : MethodId := ⟨1, 4⟩
def args0 : Array Value := #[.int 5, .int 6, .int 7]
def aboutOver (below : List Frame) : State where
  vm := { classes := classes, interned := interned.toArray }
  heap := heap
  slotsUsed := slotsUsed
  threads := #[{ frames := .invoking theMethod args0 :: below }]
def below0 : List Frame := [.native { method := ⟨0, 0⟩, args := #[] }]
def about1 : State := aboutOver below0
def p0 : Program := .bare "" "" ""
def e0 : Env := launch0.env 0 0 0
theorem w_frames : about1.frames = Frame.invoking theMethod args0 :: below0 := rfl
set_option maxRecDepth 65536 in
theorem w_args : argsFit about1.vm theMethod args0 = true := by decide +kernel
set_option maxRecDepth 65536 in
theorem w_heap : heapFits about1 = true := by decide +kernel
set_option maxRecDepth 65536 in
theorem w_runnable : about1.curStatus? = some .runnable := by decide +kernel
set_option maxRecDepth 65536 in
theorem w_alone : about1.alone = true := by decide +kernel
set_option maxRecDepth 65536 in
theorem w_named : about1.methodNamed? x = some theMethod := by decide +kernel
set_option maxRecDepth 65536 in
theorem w_hears : about1.hears theMethod below0 = true := by decide +kernel
set_option maxRecDepth 65536 in
theorem w_ripe : about1.ripe theMethod args0 below0 = true := by decide +kernel
theorem w_running : about1.status = .running := rfl
set_option maxRecDepth 65536 in
theorem w_room : about1.hasRoom e0.platform room_1 = true :=
  launch0.hasRoom_least _ room_1 (by decide +kernel) (by decide +kernel) (by decide +kernel) (by decide +kernel) (by decide +kernel) (by decide +kernel)
theorem allAtoms_all (ts : List Jvm.Cond) (a : Array Jvm.Value) (st : Jvm.State) : (allAtoms ts).before a st = ts.all (fun c => c.before a st) := by
  induction ts with
  | nil => rfl
  | cons c t ih =>
    show (Jvm.Cond.and c (allAtoms t)).before a st = _
    rw [Jvm.Cond.before_and, ih, List.all_cons]
def words1 : List Jvm.Cond := Jvm.Cond.code x code maxLocals ret :: tables_1
/-- a 'code' word, met by the world's own term for the bytes: nothing is compared byte by byte -/
theorem code_word {y : MethodName} {bytes : ByteArray} {mx : Nat} {rt : Option FieldType} {a : Array Value} {s : State} {m : MethodId} {meth : Method} {c : Code} (h1 : s.methodNamed? y = some m) (h2 : s.vm.method? m = some meth) (h3 : meth.code = some c) (h4 : c.code = bytes)
    (h5 : (c.maxLocals == mx && c.exceptionTable.isEmpty && decide (c.maxStack ≤ mostOperands) && decide (meth.sig.returnType = rt) && !meth.locks && decide (parseMethodDescriptor y.desc = some meth.sig)) = true) : (Jvm.Cond.code y bytes mx rt).before a s = true := by
  simp only [Bool.and_eq_true, beq_iff_eq, Bool.not_eq_true', decide_eq_true_eq] at h5
  obtain ⟨⟨⟨⟨⟨g1, g2⟩, g3⟩, g4⟩, g5⟩, g6⟩ := h5
  simp [Cond.before, Cond.holds, Cond.value, h1, h2, h3, h4, g1, g2, g3, g4, g5, g6]
def isCode : Jvm.Cond → Bool
  | .code _ _ _ _ => true
  | _ => false
theorem all_split {L : List Jvm.Cond} {P : Jvm.Cond → Bool} (h1 : L.all (fun c => isCode c || P c) = true) (h2 : ∀ c ∈ L.filter isCode, P c = true) : L.all P = true := by
  refine List.all_eq_true.mpr fun c hc => ?_
  have h := List.all_eq_true.mp h1 c hc
  rcases Bool.eq_false_or_eq_true (isCode c) with hi | hi
  · exact h2 c (List.mem_filter.mpr ⟨hc, hi⟩)
  · simpa [hi] using h
set_option maxRecDepth 65536 in
theorem w_c0 : (Jvm.Cond.code x code maxLocals ret).before args0 about1 = true := code_word (m := ⟨1, 4⟩) (meth := k1m4) (c := k1c4) (by decide +kernel) rfl rfl rfl (by decide +kernel)
set_option maxRecDepth 65536 in
theorem w_c1 : (Jvm.Cond.code ({ cls := "com/example/epochmark/epochmark/cli/ArgumentsUsagePinLaw", name := "text", desc := "(II)Ljava/lang/String;" } : Jvm.MethodName) method_3_code (2 : Nat) (Option.some (Jvm.ClassFile.FieldType.object "java/lang/String"))).before args0 about1 = true := code_word (m := ⟨1, 2⟩) (meth := k1m2) (c := k1c2) (by decide +kernel) rfl rfl rfl (by decide +kernel)
set_option maxRecDepth 65536 in
theorem w_c2 : (Jvm.Cond.code ({ cls := "com/example/epochmark/epochmark/cli/ArgumentsUsagePinLaw", name := "ch", desc := "(II)C" } : Jvm.MethodName) method_2_code (2 : Nat) (Option.some Jvm.ClassFile.FieldType.char)).before args0 about1 = true := code_word (m := ⟨1, 1⟩) (meth := k1m1) (c := k1c1) (by decide +kernel) rfl rfl rfl (by decide +kernel)
set_option maxRecDepth 65536 in
theorem w_c3 : (Jvm.Cond.code ({ cls := "java/lang/String", name := "<init>", desc := "([C)V" } : Jvm.MethodName) jdk_42_method_3_code (2 : Nat) (Option.none : Option Jvm.ClassFile.FieldType)).before args0 about1 = true := code_word (m := ⟨7, 1⟩) (meth := k7m1) (c := k7c1) (by decide +kernel) rfl rfl rfl (by decide +kernel)
set_option maxRecDepth 65536 in
theorem w_c4 : (Jvm.Cond.code ({ cls := "java/lang/String", name := "<init>", desc := "([CIILjava/lang/Void;)V" } : Jvm.MethodName) jdk_42_method_149_code (6 : Nat) (Option.none : Option Jvm.ClassFile.FieldType)).before args0 about1 = true := code_word (m := ⟨7, 6⟩) (meth := k7m6) (c := k7c6) (by decide +kernel) rfl rfl rfl (by decide +kernel)
set_option maxRecDepth 65536 in
theorem w_c5 : (Jvm.Cond.code ({ cls := "java/lang/Object", name := "<init>", desc := "()V" } : Jvm.MethodName) object_method_1_code (1 : Nat) (Option.none : Option Jvm.ClassFile.FieldType)).before args0 about1 = true := code_word (m := ⟨0, 0⟩) (meth := k0m0) (c := k0c0) (by decide +kernel) rfl rfl rfl (by decide +kernel)
set_option maxRecDepth 65536 in
theorem w_c6 : (Jvm.Cond.code ({ cls := "java/lang/StringUTF16", name := "compress", desc := "([CII)[B" } : Jvm.MethodName) jdk_52_method_16_code (6 : Nat) (Option.some (Jvm.ClassFile.FieldType.array Jvm.ClassFile.FieldType.byte))).before args0 about1 = true := code_word (m := ⟨8, 2⟩) (meth := k8m2) (c := k8c2) (by decide +kernel) rfl rfl rfl (by decide +kernel)
set_option maxRecDepth 65536 in
theorem w_c7 : (Jvm.Cond.code ({ cls := "java/lang/StringUTF16", name := "compress", desc := "([CI[BII)I" } : Jvm.MethodName) jdk_52_method_21_code (7 : Nat) (Option.some Jvm.ClassFile.FieldType.int)).before args0 about1 = true := code_word (m := ⟨8, 3⟩) (meth := k8m3) (c := k8c3) (by decide +kernel) rfl rfl rfl (by decide +kernel)
set_option maxRecDepth 65536 in
theorem w_c8 : (Jvm.Cond.code ({ cls := "java/lang/StringUTF16", name := "coderFromArrayLen", desc := "([BI)B" } : Jvm.MethodName) jdk_52_method_15_code (2 : Nat) (Option.some Jvm.ClassFile.FieldType.byte)).before args0 about1 = true := code_word (m := ⟨8, 1⟩) (meth := k8m1) (c := k8c1) (by decide +kernel) rfl rfl rfl (by decide +kernel)
set_option maxRecDepth 65536 in
theorem w_c9 : (Jvm.Cond.code ({ cls := "com/example/epochmark/epochmark/cli/ArgumentsUsagePinLaw", name := "prefixed", desc := "(II)Ljava/lang/String;" } : Jvm.MethodName) method_4_code (2 : Nat) (Option.some (Jvm.ClassFile.FieldType.object "java/lang/String"))).before args0 about1 = true := code_word (m := ⟨1, 3⟩) (meth := k1m3) (c := k1c3) (by decide +kernel) rfl rfl rfl (by decide +kernel)
set_option maxRecDepth 65536 in
theorem w_c10 : (Jvm.Cond.code ({ cls := "java/util/ArrayList", name := "<init>", desc := "()V" } : Jvm.MethodName) jdk_38_method_2_code (1 : Nat) (Option.none : Option Jvm.ClassFile.FieldType)).before args0 about1 = true := code_word (m := ⟨18, 0⟩) (meth := k18m0) (c := k18c0) (by decide +kernel) rfl rfl rfl (by decide +kernel)
set_option maxRecDepth 65536 in
theorem w_c11 : (Jvm.Cond.code ({ cls := "java/util/AbstractList", name := "<init>", desc := "()V" } : Jvm.MethodName) jdk_39_method_1_code (1 : Nat) (Option.none : Option Jvm.ClassFile.FieldType)).before args0 about1 = true := code_word (m := ⟨15, 0⟩) (meth := k15m0) (c := k15c0) (by decide +kernel) rfl rfl rfl (by decide +kernel)
set_option maxRecDepth 65536 in
theorem w_c12 : (Jvm.Cond.code ({ cls := "java/util/AbstractCollection", name := "<init>", desc := "()V" } : Jvm.MethodName) jdk_22_method_1_code (1 : Nat) (Option.none : Option Jvm.ClassFile.FieldType)).before args0 about1 = true := code_word (m := ⟨12, 0⟩) (meth := k12m0) (c := k12c0) (by decide +kernel) rfl rfl rfl (by decide +kernel)
set_option maxRecDepth 65536 in
theorem w_c13 : (Jvm.Cond.code ({ cls := "com/example/epochmark/epochmark/cli/Arguments", name := "<init>", desc := "(Ljava/util/List;Ljava/util/Map;Ljava/util/Set;Ljava/lang/String;)V" } : Jvm.MethodName) prog_1_method_1_code (8 : Nat) (Option.none : Option Jvm.ClassFile.FieldType)).before args0 about1 = true := code_word (m := ⟨9, 0⟩) (meth := k9m0) (c := k9c0) (by decide +kernel) rfl rfl rfl (by decide +kernel)
set_option maxRecDepth 65536 in
theorem w_c14 : (Jvm.Cond.code ({ cls := "java/util/HashMap", name := "<init>", desc := "()V" } : Jvm.MethodName) jdk_69_method_7_code (1 : Nat) (Option.none : Option Jvm.ClassFile.FieldType)).before args0 about1 = true := code_word (m := ⟨21, 0⟩) (meth := k21m0) (c := k21c0) (by decide +kernel) rfl rfl rfl (by decide +kernel)
set_option maxRecDepth 65536 in
theorem w_c15 : (Jvm.Cond.code ({ cls := "java/util/AbstractMap", name := "<init>", desc := "()V" } : Jvm.MethodName) jdk_71_method_1_code (1 : Nat) (Option.none : Option Jvm.ClassFile.FieldType)).before args0 about1 = true := code_word (m := ⟨20, 0⟩) (meth := k20m0) (c := k20c0) (by decide +kernel) rfl rfl rfl (by decide +kernel)
set_option maxRecDepth 65536 in
theorem w_c16 : (Jvm.Cond.code ({ cls := "java/util/ArrayList", name := "iterator", desc := "()Ljava/util/Iterator;" } : Jvm.MethodName) jdk_38_method_55_code (1 : Nat) (Option.some (Jvm.ClassFile.FieldType.object "java/util/Iterator"))).before args0 about1 = true := code_word (m := ⟨18, 1⟩) (meth := k18m1) (c := k18c1) (by decide +kernel) rfl rfl rfl (by decide +kernel)
set_option maxRecDepth 65536 in
theorem w_c17 : (Jvm.Cond.code ({ cls := "java/util/ArrayList$Itr", name := "<init>", desc := "(Ljava/util/ArrayList;)V" } : Jvm.MethodName) jdk_49_method_1_code (2 : Nat) (Option.none : Option Jvm.ClassFile.FieldType)).before args0 about1 = true := code_word (m := ⟨23, 0⟩) (meth := k23m0) (c := k23c0) (by decide +kernel) rfl rfl rfl (by decide +kernel)
set_option maxRecDepth 65536 in
theorem w_c18 : (Jvm.Cond.code ({ cls := "java/util/ArrayList$Itr", name := "hasNext", desc := "()Z" } : Jvm.MethodName) jdk_49_method_2_code (1 : Nat) (Option.some Jvm.ClassFile.FieldType.boolean)).before args0 about1 = true := code_word (m := ⟨23, 1⟩) (meth := k23m1) (c := k23c1) (by decide +kernel) rfl rfl rfl (by decide +kernel)
set_option maxRecDepth 65536 in
theorem w_c19 : (Jvm.Cond.code ({ cls := "com/example/epochmark/epochmark/cli/Arguments", name := "usage", desc := "(Ljava/lang/String;)Lcom/example/epochmark/epochmark/cli/UsageException;" } : Jvm.MethodName) prog_1_method_6_code (2 : Nat) (Option.some (Jvm.ClassFile.FieldType.object "com/example/epochmark/epochmark/cli/UsageException"))).before args0 about1 = true := code_word (m := ⟨9, 1⟩) (meth := k9m1) (c := k9c1) (by decide +kernel) rfl rfl rfl (by decide +kernel)
set_option maxRecDepth 65536 in
theorem w_c20 : (Jvm.Cond.code ({ cls := "java/lang/StringBuilder", name := "<init>", desc := "()V" } : Jvm.MethodName) jdk_67_method_1_code (1 : Nat) (Option.none : Option Jvm.ClassFile.FieldType)).before args0 about1 = true := code_word (m := ⟨29, 0⟩) (meth := k29m0) (c := k29c0) (by decide +kernel) rfl rfl rfl (by decide +kernel)
set_option maxRecDepth 65536 in
theorem w_c21 : (Jvm.Cond.code ({ cls := "java/lang/AbstractStringBuilder", name := "<init>", desc := "(I)V" } : Jvm.MethodName) jdk_68_method_2_code (2 : Nat) (Option.none : Option Jvm.ClassFile.FieldType)).before args0 about1 = true := code_word (m := ⟨28, 1⟩) (meth := k28m1) (c := k28c1) (by decide +kernel) rfl rfl rfl (by decide +kernel)
set_option maxRecDepth 65536 in
theorem w_c22 : (Jvm.Cond.code ({ cls := "java/lang/StringBuilder", name := "append", desc := "(Ljava/lang/String;)Ljava/lang/StringBuilder;" } : Jvm.MethodName) jdk_67_method_7_code (2 : Nat) (Option.some (Jvm.ClassFile.FieldType.object "java/lang/StringBuilder"))).before args0 about1 = true := code_word (m := ⟨29, 1⟩) (meth := k29m1) (c := k29c1) (by decide +kernel) rfl rfl rfl (by decide +kernel)
set_option maxRecDepth 65536 in
theorem w_c23 : (Jvm.Cond.code ({ cls := "java/lang/AbstractStringBuilder", name := "append", desc := "(Ljava/lang/String;)Ljava/lang/AbstractStringBuilder;" } : Jvm.MethodName) jdk_68_method_22_code (3 : Nat) (Option.some (Jvm.ClassFile.FieldType.object "java/lang/AbstractStringBuilder"))).before args0 about1 = true := code_word (m := ⟨28, 4⟩) (meth := k28m4) (c := k28c4) (by decide +kernel) rfl rfl rfl (by decide +kernel)
set_option maxRecDepth 65536 in
theorem w_c24 : (Jvm.Cond.code ({ cls := "java/lang/String", name := "length", desc := "()I" } : Jvm.MethodName) jdk_42_method_54_code (1 : Nat) (Option.some Jvm.ClassFile.FieldType.int)).before args0 about1 = true := code_word (m := ⟨7, 3⟩) (meth := k7m3) (c := k7c3) (by decide +kernel) rfl rfl rfl (by decide +kernel)
set_option maxRecDepth 65536 in
theorem w_c25 : (Jvm.Cond.code ({ cls := "java/lang/String", name := "coder", desc := "()B" } : Jvm.MethodName) jdk_42_method_152_code (1 : Nat) (Option.some Jvm.ClassFile.FieldType.byte)).before args0 about1 = true := code_word (m := ⟨7, 8⟩) (meth := k7m8) (c := k7c8) (by decide +kernel) rfl rfl rfl (by decide +kernel)
set_option maxRecDepth 65536 in
theorem w_c26 : (Jvm.Cond.code ({ cls := "java/lang/AbstractStringBuilder", name := "ensureCapacityInternal", desc := "(I)V" } : Jvm.MethodName) jdk_68_method_9_code (3 : Nat) (Option.none : Option Jvm.ClassFile.FieldType)).before args0 about1 = true := code_word (m := ⟨28, 3⟩) (meth := k28m3) (c := k28c3) (by decide +kernel) rfl rfl rfl (by decide +kernel)
set_option maxRecDepth 65536 in
theorem w_c27 : (Jvm.Cond.code ({ cls := "java/lang/AbstractStringBuilder", name := "putStringAt", desc := "(ILjava/lang/String;)V" } : Jvm.MethodName) jdk_68_method_73_code (3 : Nat) (Option.none : Option Jvm.ClassFile.FieldType)).before args0 about1 = true := code_word (m := ⟨28, 8⟩) (meth := k28m8) (c := k28c8) (by decide +kernel) rfl rfl rfl (by decide +kernel)
set_option maxRecDepth 65536 in
theorem w_c28 : (Jvm.Cond.code ({ cls := "java/lang/AbstractStringBuilder", name := "inflateIfNeededFor", desc := "(Ljava/lang/String;)V" } : Jvm.MethodName) jdk_68_method_71_code (2 : Nat) (Option.none : Option Jvm.ClassFile.FieldType)).before args0 about1 = true := code_word (m := ⟨28, 7⟩) (meth := k28m7) (c := k28c7) (by decide +kernel) rfl rfl rfl (by decide +kernel)
set_option maxRecDepth 65536 in
theorem w_c29 : (Jvm.Cond.code ({ cls := "java/lang/String", name := "getBytes", desc := "([BIB)V" } : Jvm.MethodName) jdk_42_method_147_code (4 : Nat) (Option.none : Option Jvm.ClassFile.FieldType)).before args0 about1 = true := code_word (m := ⟨7, 5⟩) (meth := k7m5) (c := k7c5) (by decide +kernel) rfl rfl rfl (by decide +kernel)
set_option maxRecDepth 65536 in
theorem w_c30 : (Jvm.Cond.code ({ cls := "java/lang/StringBuilder", name := "toString", desc := "()Ljava/lang/String;" } : Jvm.MethodName) jdk_67_method_42_code (1 : Nat) (Option.some (Jvm.ClassFile.FieldType.object "java/lang/String"))).before args0 about1 = true := code_word (m := ⟨29, 2⟩) (meth := k29m2) (c := k29c2) (by decide +kernel) rfl rfl rfl (by decide +kernel)
set_option maxRecDepth 65536 in
theorem w_c31 : (Jvm.Cond.code ({ cls := "java/lang/String", name := "<init>", desc := "(Ljava/lang/StringBuilder;)V" } : Jvm.MethodName) jdk_42_method_53_code (2 : Nat) (Option.none : Option Jvm.ClassFile.FieldType)).before args0 about1 = true := code_word (m := ⟨7, 2⟩) (meth := k7m2) (c := k7c2) (by decide +kernel) rfl rfl rfl (by decide +kernel)
set_option maxRecDepth 65536 in
theorem w_c32 : (Jvm.Cond.code ({ cls := "java/lang/String", name := "<init>", desc := "(Ljava/lang/AbstractStringBuilder;Ljava/lang/Void;)V" } : Jvm.MethodName) jdk_42_method_150_code (5 : Nat) (Option.none : Option Jvm.ClassFile.FieldType)).before args0 about1 = true := code_word (m := ⟨7, 7⟩) (meth := k7m7) (c := k7c7) (by decide +kernel) rfl rfl rfl (by decide +kernel)
set_option maxRecDepth 65536 in
theorem w_c33 : (Jvm.Cond.code ({ cls := "java/lang/AbstractStringBuilder", name := "getValue", desc := "()[B" } : Jvm.MethodName) jdk_68_method_64_code (1 : Nat) (Option.some (Jvm.ClassFile.FieldType.array Jvm.ClassFile.FieldType.byte))).before args0 about1 = true := code_word (m := ⟨28, 5⟩) (meth := k28m5) (c := k28c5) (by decide +kernel) rfl rfl rfl (by decide +kernel)
set_option maxRecDepth 65536 in
theorem w_c34 : (Jvm.Cond.code ({ cls := "java/lang/StringBuilder", name := "length", desc := "()I" } : Jvm.MethodName) jdk_67_method_93_code (1 : Nat) (Option.some Jvm.ClassFile.FieldType.int)).before args0 about1 = true := code_word (m := ⟨29, 3⟩) (meth := k29m3) (c := k29c3) (by decide +kernel) rfl rfl rfl (by decide +kernel)
set_option maxRecDepth 65536 in
theorem w_c35 : (Jvm.Cond.code ({ cls := "java/lang/AbstractStringBuilder", name := "length", desc := "()I" } : Jvm.MethodName) jdk_68_method_6_code (1 : Nat) (Option.some Jvm.ClassFile.FieldType.int)).before args0 about1 = true := code_word (m := ⟨28, 2⟩) (meth := k28m2) (c := k28c2) (by decide +kernel) rfl rfl rfl (by decide +kernel)
set_option maxRecDepth 65536 in
theorem w_c36 : (Jvm.Cond.code ({ cls := "java/lang/AbstractStringBuilder", name := "isLatin1", desc := "()Z" } : Jvm.MethodName) jdk_68_method_68_code (1 : Nat) (Option.some Jvm.ClassFile.FieldType.boolean)).before args0 about1 = true := code_word (m := ⟨28, 6⟩) (meth := k28m6) (c := k28c6) (by decide +kernel) rfl rfl rfl (by decide +kernel)
set_option maxRecDepth 65536 in
theorem w_c37 : (Jvm.Cond.code ({ cls := "java/util/Arrays", name := "copyOfRange", desc := "([BII)[B" } : Jvm.MethodName) jdk_65_method_132_code (3 : Nat) (Option.some (Jvm.ClassFile.FieldType.array Jvm.ClassFile.FieldType.byte))).before args0 about1 = true := code_word (m := ⟨31, 2⟩) (meth := k31m2) (c := k31c2) (by decide +kernel) rfl rfl rfl (by decide +kernel)
set_option maxRecDepth 65536 in
theorem w_c38 : (Jvm.Cond.code ({ cls := "java/util/Arrays", name := "copyOfRangeByte", desc := "([BII)[B" } : Jvm.MethodName) jdk_65_method_133_code (5 : Nat) (Option.some (Jvm.ClassFile.FieldType.array Jvm.ClassFile.FieldType.byte))).before args0 about1 = true := code_word (m := ⟨31, 3⟩) (meth := k31m3) (c := k31c3) (by decide +kernel) rfl rfl rfl (by decide +kernel)
set_option maxRecDepth 65536 in
theorem w_c39 : (Jvm.Cond.code ({ cls := "java/util/Arrays", name := "checkLength", desc := "(II)V" } : Jvm.MethodName) jdk_65_method_131_code (2 : Nat) (Option.none : Option Jvm.ClassFile.FieldType)).before args0 about1 = true := code_word (m := ⟨31, 1⟩) (meth := k31m1) (c := k31c1) (by decide +kernel) rfl rfl rfl (by decide +kernel)
set_option maxRecDepth 65536 in
theorem w_c40 : (Jvm.Cond.code ({ cls := "java/lang/Math", name := "min", desc := "(II)I" } : Jvm.MethodName) jdk_29_method_69_code (2 : Nat) (Option.some Jvm.ClassFile.FieldType.int)).before args0 about1 = true := code_word (m := ⟨32, 1⟩) (meth := k32m1) (c := k32c1) (by decide +kernel) rfl rfl rfl (by decide +kernel)
set_option maxRecDepth 65536 in
theorem w_c41 : (Jvm.Cond.code ({ cls := "com/example/epochmark/epochmark/cli/UsageException", name := "<init>", desc := "(Ljava/lang/String;Ljava/lang/String;)V" } : Jvm.MethodName) prog_3_method_1_code (3 : Nat) (Option.none : Option Jvm.ClassFile.FieldType)).before args0 about1 = true := code_word (m := ⟨26, 0⟩) (meth := k26m0) (c := k26c0) (by decide +kernel) rfl rfl rfl (by decide +kernel)
set_option maxRecDepth 65536 in
theorem w_c42 : (Jvm.Cond.code ({ cls := "java/lang/Exception", name := "<init>", desc := "(Ljava/lang/String;)V" } : Jvm.MethodName) jdk_59_method_2_code (2 : Nat) (Option.none : Option Jvm.ClassFile.FieldType)).before args0 about1 = true := code_word (m := ⟨25, 1⟩) (meth := k25m1) (c := k25c1) (by decide +kernel) rfl rfl rfl (by decide +kernel)
set_option maxRecDepth 65536 in
theorem w_c43 : (Jvm.Cond.code ({ cls := "java/lang/Throwable", name := "<init>", desc := "(Ljava/lang/String;)V" } : Jvm.MethodName) jdk_78_method_2_code (2 : Nat) (Option.none : Option Jvm.ClassFile.FieldType)).before args0 about1 = true := code_word (m := ⟨24, 1⟩) (meth := k24m1) (c := k24c1) (by decide +kernel) rfl rfl rfl (by decide +kernel)
set_option maxRecDepth 65536 in
theorem w_c44 : (Jvm.Cond.code ({ cls := "java/lang/Throwable", name := "<init>", desc := "()V" } : Jvm.MethodName) jdk_78_method_1_code (1 : Nat) (Option.none : Option Jvm.ClassFile.FieldType)).before args0 about1 = true := code_word (m := ⟨24, 0⟩) (meth := k24m0) (c := k24c0) (by decide +kernel) rfl rfl rfl (by decide +kernel)
set_option maxRecDepth 65536 in
theorem w_c45 : (Jvm.Cond.code ({ cls := "java/lang/Throwable", name := "getMessage", desc := "()Ljava/lang/String;" } : Jvm.MethodName) jdk_78_method_6_code (1 : Nat) (Option.some (Jvm.ClassFile.FieldType.object "java/lang/String"))).before args0 about1 = true := code_word (m := ⟨24, 2⟩) (meth := k24m2) (c := k24c2) (by decide +kernel) rfl rfl rfl (by decide +kernel)
set_option maxRecDepth 65536 in
theorem w_c46 : (Jvm.Cond.code ({ cls := "java/lang/String", name := "equals", desc := "(Ljava/lang/Object;)Z" } : Jvm.MethodName) jdk_42_method_66_code (3 : Nat) (Option.some Jvm.ClassFile.FieldType.boolean)).before args0 about1 = true := code_word (m := ⟨7, 4⟩) (meth := k7m4) (c := k7c4) (by decide +kernel) rfl rfl rfl (by decide +kernel)
set_option maxRecDepth 65536 in
theorem w_c47 : (Jvm.Cond.code ({ cls := "com/example/epochmark/epochmark/cli/UsageException", name := "usage", desc := "()Ljava/lang/String;" } : Jvm.MethodName) prog_3_method_2_code (1 : Nat) (Option.some (Jvm.ClassFile.FieldType.object "java/lang/String"))).before args0 about1 = true := code_word (m := ⟨26, 1⟩) (meth := k26m1) (c := k26c1) (by decide +kernel) rfl rfl rfl (by decide +kernel)
set_option maxRecDepth 65536 in
theorem w_c48 : (Jvm.Cond.code ({ cls := "java/lang/StringLatin1", name := "equals", desc := "([B[B)Z" } : Jvm.MethodName) jdk_43_method_13_code (3 : Nat) (Option.some Jvm.ClassFile.FieldType.boolean)).before args0 about1 = true := code_word (m := ⟨33, 1⟩) (meth := k33m1) (c := k33c1) (by decide +kernel) rfl rfl rfl (by decide +kernel)
def codes1 : List Jvm.Cond := [Jvm.Cond.code x code maxLocals ret, Jvm.Cond.code ({ cls := "com/example/epochmark/epochmark/cli/ArgumentsUsagePinLaw", name := "text", desc := "(II)Ljava/lang/String;" } : Jvm.MethodName) method_3_code (2 : Nat) (Option.some (Jvm.ClassFile.FieldType.object "java/lang/String")), Jvm.Cond.code ({ cls := "com/example/epochmark/epochmark/cli/ArgumentsUsagePinLaw", name := "ch", desc := "(II)C" } : Jvm.MethodName) method_2_code (2 : Nat) (Option.some Jvm.ClassFile.FieldType.char), Jvm.Cond.code ({ cls := "java/lang/String", name := "<init>", desc := "([C)V" } : Jvm.MethodName) jdk_42_method_3_code (2 : Nat) (Option.none : Option Jvm.ClassFile.FieldType), Jvm.Cond.code ({ cls := "java/lang/String", name := "<init>", desc := "([CIILjava/lang/Void;)V" } : Jvm.MethodName) jdk_42_method_149_code (6 : Nat) (Option.none : Option Jvm.ClassFile.FieldType), Jvm.Cond.code ({ cls := "java/lang/Object", name := "<init>", desc := "()V" } : Jvm.MethodName) object_method_1_code (1 : Nat) (Option.none : Option Jvm.ClassFile.FieldType), Jvm.Cond.code ({ cls := "java/lang/StringUTF16", name := "compress", desc := "([CII)[B" } : Jvm.MethodName) jdk_52_method_16_code (6 : Nat) (Option.some (Jvm.ClassFile.FieldType.array Jvm.ClassFile.FieldType.byte)), Jvm.Cond.code ({ cls := "java/lang/StringUTF16", name := "compress", desc := "([CI[BII)I" } : Jvm.MethodName) jdk_52_method_21_code (7 : Nat) (Option.some Jvm.ClassFile.FieldType.int), Jvm.Cond.code ({ cls := "java/lang/StringUTF16", name := "coderFromArrayLen", desc := "([BI)B" } : Jvm.MethodName) jdk_52_method_15_code (2 : Nat) (Option.some Jvm.ClassFile.FieldType.byte), Jvm.Cond.code ({ cls := "com/example/epochmark/epochmark/cli/ArgumentsUsagePinLaw", name := "prefixed", desc := "(II)Ljava/lang/String;" } : Jvm.MethodName) method_4_code (2 : Nat) (Option.some (Jvm.ClassFile.FieldType.object "java/lang/String")), Jvm.Cond.code ({ cls := "java/util/ArrayList", name := "<init>", desc := "()V" } : Jvm.MethodName) jdk_38_method_2_code (1 : Nat) (Option.none : Option Jvm.ClassFile.FieldType), Jvm.Cond.code ({ cls := "java/util/AbstractList", name := "<init>", desc := "()V" } : Jvm.MethodName) jdk_39_method_1_code (1 : Nat) (Option.none : Option Jvm.ClassFile.FieldType), Jvm.Cond.code ({ cls := "java/util/AbstractCollection", name := "<init>", desc := "()V" } : Jvm.MethodName) jdk_22_method_1_code (1 : Nat) (Option.none : Option Jvm.ClassFile.FieldType), Jvm.Cond.code ({ cls := "com/example/epochmark/epochmark/cli/Arguments", name := "<init>", desc := "(Ljava/util/List;Ljava/util/Map;Ljava/util/Set;Ljava/lang/String;)V" } : Jvm.MethodName) prog_1_method_1_code (8 : Nat) (Option.none : Option Jvm.ClassFile.FieldType), Jvm.Cond.code ({ cls := "java/util/HashMap", name := "<init>", desc := "()V" } : Jvm.MethodName) jdk_69_method_7_code (1 : Nat) (Option.none : Option Jvm.ClassFile.FieldType), Jvm.Cond.code ({ cls := "java/util/AbstractMap", name := "<init>", desc := "()V" } : Jvm.MethodName) jdk_71_method_1_code (1 : Nat) (Option.none : Option Jvm.ClassFile.FieldType), Jvm.Cond.code ({ cls := "java/util/ArrayList", name := "iterator", desc := "()Ljava/util/Iterator;" } : Jvm.MethodName) jdk_38_method_55_code (1 : Nat) (Option.some (Jvm.ClassFile.FieldType.object "java/util/Iterator")), Jvm.Cond.code ({ cls := "java/util/ArrayList$Itr", name := "<init>", desc := "(Ljava/util/ArrayList;)V" } : Jvm.MethodName) jdk_49_method_1_code (2 : Nat) (Option.none : Option Jvm.ClassFile.FieldType), Jvm.Cond.code ({ cls := "java/util/ArrayList$Itr", name := "hasNext", desc := "()Z" } : Jvm.MethodName) jdk_49_method_2_code (1 : Nat) (Option.some Jvm.ClassFile.FieldType.boolean), Jvm.Cond.code ({ cls := "com/example/epochmark/epochmark/cli/Arguments", name := "usage", desc := "(Ljava/lang/String;)Lcom/example/epochmark/epochmark/cli/UsageException;" } : Jvm.MethodName) prog_1_method_6_code (2 : Nat) (Option.some (Jvm.ClassFile.FieldType.object "com/example/epochmark/epochmark/cli/UsageException")), Jvm.Cond.code ({ cls := "java/lang/StringBuilder", name := "<init>", desc := "()V" } : Jvm.MethodName) jdk_67_method_1_code (1 : Nat) (Option.none : Option Jvm.ClassFile.FieldType), Jvm.Cond.code ({ cls := "java/lang/AbstractStringBuilder", name := "<init>", desc := "(I)V" } : Jvm.MethodName) jdk_68_method_2_code (2 : Nat) (Option.none : Option Jvm.ClassFile.FieldType), Jvm.Cond.code ({ cls := "java/lang/StringBuilder", name := "append", desc := "(Ljava/lang/String;)Ljava/lang/StringBuilder;" } : Jvm.MethodName) jdk_67_method_7_code (2 : Nat) (Option.some (Jvm.ClassFile.FieldType.object "java/lang/StringBuilder")), Jvm.Cond.code ({ cls := "java/lang/AbstractStringBuilder", name := "append", desc := "(Ljava/lang/String;)Ljava/lang/AbstractStringBuilder;" } : Jvm.MethodName) jdk_68_method_22_code (3 : Nat) (Option.some (Jvm.ClassFile.FieldType.object "java/lang/AbstractStringBuilder")), Jvm.Cond.code ({ cls := "java/lang/String", name := "length", desc := "()I" } : Jvm.MethodName) jdk_42_method_54_code (1 : Nat) (Option.some Jvm.ClassFile.FieldType.int), Jvm.Cond.code ({ cls := "java/lang/String", name := "coder", desc := "()B" } : Jvm.MethodName) jdk_42_method_152_code (1 : Nat) (Option.some Jvm.ClassFile.FieldType.byte), Jvm.Cond.code ({ cls := "java/lang/AbstractStringBuilder", name := "ensureCapacityInternal", desc := "(I)V" } : Jvm.MethodName) jdk_68_method_9_code (3 : Nat) (Option.none : Option Jvm.ClassFile.FieldType), Jvm.Cond.code ({ cls := "java/lang/AbstractStringBuilder", name := "putStringAt", desc := "(ILjava/lang/String;)V" } : Jvm.MethodName) jdk_68_method_73_code (3 : Nat) (Option.none : Option Jvm.ClassFile.FieldType), Jvm.Cond.code ({ cls := "java/lang/AbstractStringBuilder", name := "inflateIfNeededFor", desc := "(Ljava/lang/String;)V" } : Jvm.MethodName) jdk_68_method_71_code (2 : Nat) (Option.none : Option Jvm.ClassFile.FieldType), Jvm.Cond.code ({ cls := "java/lang/String", name := "getBytes", desc := "([BIB)V" } : Jvm.MethodName) jdk_42_method_147_code (4 : Nat) (Option.none : Option Jvm.ClassFile.FieldType), Jvm.Cond.code ({ cls := "java/lang/StringBuilder", name := "toString", desc := "()Ljava/lang/String;" } : Jvm.MethodName) jdk_67_method_42_code (1 : Nat) (Option.some (Jvm.ClassFile.FieldType.object "java/lang/String")), Jvm.Cond.code ({ cls := "java/lang/String", name := "<init>", desc := "(Ljava/lang/StringBuilder;)V" } : Jvm.MethodName) jdk_42_method_53_code (2 : Nat) (Option.none : Option Jvm.ClassFile.FieldType), Jvm.Cond.code ({ cls := "java/lang/String", name := "<init>", desc := "(Ljava/lang/AbstractStringBuilder;Ljava/lang/Void;)V" } : Jvm.MethodName) jdk_42_method_150_code (5 : Nat) (Option.none : Option Jvm.ClassFile.FieldType), Jvm.Cond.code ({ cls := "java/lang/AbstractStringBuilder", name := "getValue", desc := "()[B" } : Jvm.MethodName) jdk_68_method_64_code (1 : Nat) (Option.some (Jvm.ClassFile.FieldType.array Jvm.ClassFile.FieldType.byte)), Jvm.Cond.code ({ cls := "java/lang/StringBuilder", name := "length", desc := "()I" } : Jvm.MethodName) jdk_67_method_93_code (1 : Nat) (Option.some Jvm.ClassFile.FieldType.int), Jvm.Cond.code ({ cls := "java/lang/AbstractStringBuilder", name := "length", desc := "()I" } : Jvm.MethodName) jdk_68_method_6_code (1 : Nat) (Option.some Jvm.ClassFile.FieldType.int), Jvm.Cond.code ({ cls := "java/lang/AbstractStringBuilder", name := "isLatin1", desc := "()Z" } : Jvm.MethodName) jdk_68_method_68_code (1 : Nat) (Option.some Jvm.ClassFile.FieldType.boolean), Jvm.Cond.code ({ cls := "java/util/Arrays", name := "copyOfRange", desc := "([BII)[B" } : Jvm.MethodName) jdk_65_method_132_code (3 : Nat) (Option.some (Jvm.ClassFile.FieldType.array Jvm.ClassFile.FieldType.byte)), Jvm.Cond.code ({ cls := "java/util/Arrays", name := "copyOfRangeByte", desc := "([BII)[B" } : Jvm.MethodName) jdk_65_method_133_code (5 : Nat) (Option.some (Jvm.ClassFile.FieldType.array Jvm.ClassFile.FieldType.byte)), Jvm.Cond.code ({ cls := "java/util/Arrays", name := "checkLength", desc := "(II)V" } : Jvm.MethodName) jdk_65_method_131_code (2 : Nat) (Option.none : Option Jvm.ClassFile.FieldType), Jvm.Cond.code ({ cls := "java/lang/Math", name := "min", desc := "(II)I" } : Jvm.MethodName) jdk_29_method_69_code (2 : Nat) (Option.some Jvm.ClassFile.FieldType.int), Jvm.Cond.code ({ cls := "com/example/epochmark/epochmark/cli/UsageException", name := "<init>", desc := "(Ljava/lang/String;Ljava/lang/String;)V" } : Jvm.MethodName) prog_3_method_1_code (3 : Nat) (Option.none : Option Jvm.ClassFile.FieldType), Jvm.Cond.code ({ cls := "java/lang/Exception", name := "<init>", desc := "(Ljava/lang/String;)V" } : Jvm.MethodName) jdk_59_method_2_code (2 : Nat) (Option.none : Option Jvm.ClassFile.FieldType), Jvm.Cond.code ({ cls := "java/lang/Throwable", name := "<init>", desc := "(Ljava/lang/String;)V" } : Jvm.MethodName) jdk_78_method_2_code (2 : Nat) (Option.none : Option Jvm.ClassFile.FieldType), Jvm.Cond.code ({ cls := "java/lang/Throwable", name := "<init>", desc := "()V" } : Jvm.MethodName) jdk_78_method_1_code (1 : Nat) (Option.none : Option Jvm.ClassFile.FieldType), Jvm.Cond.code ({ cls := "java/lang/Throwable", name := "getMessage", desc := "()Ljava/lang/String;" } : Jvm.MethodName) jdk_78_method_6_code (1 : Nat) (Option.some (Jvm.ClassFile.FieldType.object "java/lang/String")), Jvm.Cond.code ({ cls := "java/lang/String", name := "equals", desc := "(Ljava/lang/Object;)Z" } : Jvm.MethodName) jdk_42_method_66_code (3 : Nat) (Option.some Jvm.ClassFile.FieldType.boolean), Jvm.Cond.code ({ cls := "com/example/epochmark/epochmark/cli/UsageException", name := "usage", desc := "()Ljava/lang/String;" } : Jvm.MethodName) prog_3_method_2_code (1 : Nat) (Option.some (Jvm.ClassFile.FieldType.object "java/lang/String")), Jvm.Cond.code ({ cls := "java/lang/StringLatin1", name := "equals", desc := "([B[B)Z" } : Jvm.MethodName) jdk_43_method_13_code (3 : Nat) (Option.some Jvm.ClassFile.FieldType.boolean)]
set_option maxRecDepth 65536 in
theorem codes_eq : words1.filter isCode = codes1 := rfl
theorem w_codes : ∀ c ∈ words1.filter isCode, c.before args0 about1 = true := by
  rw [codes_eq]
  intro c hc
  simp only [codes1, List.mem_cons, List.not_mem_nil, or_false] at hc
  rcases hc with rfl | rfl | rfl | rfl | rfl | rfl | rfl | rfl | rfl | rfl | rfl | rfl | rfl | rfl | rfl | rfl | rfl | rfl | rfl | rfl | rfl | rfl | rfl | rfl | rfl | rfl | rfl | rfl | rfl | rfl | rfl | rfl | rfl | rfl | rfl | rfl | rfl | rfl | rfl | rfl | rfl | rfl | rfl | rfl | rfl | rfl | rfl | rfl | rfl
  · exact w_c0
  · exact w_c1
  · exact w_c2
  · exact w_c3
  · exact w_c4
  · exact w_c5
  · exact w_c6
  · exact w_c7
  · exact w_c8
  · exact w_c9
  · exact w_c10
  · exact w_c11
  · exact w_c12
  · exact w_c13
  · exact w_c14
  · exact w_c15
  · exact w_c16
  · exact w_c17
  · exact w_c18
  · exact w_c19
  · exact w_c20
  · exact w_c21
  · exact w_c22
  · exact w_c23
  · exact w_c24
  · exact w_c25
  · exact w_c26
  · exact w_c27
  · exact w_c28
  · exact w_c29
  · exact w_c30
  · exact w_c31
  · exact w_c32
  · exact w_c33
  · exact w_c34
  · exact w_c35
  · exact w_c36
  · exact w_c37
  · exact w_c38
  · exact w_c39
  · exact w_c40
  · exact w_c41
  · exact w_c42
  · exact w_c43
  · exact w_c44
  · exact w_c45
  · exact w_c46
  · exact w_c47
  · exact w_c48
set_option maxRecDepth 65536 in
theorem w_t1 : (words1.take 24).all (fun c => isCode c || c.before args0 about1) = true := by decide +kernel
set_option maxRecDepth 65536 in
theorem w_t2 : ((words1.drop 24).take 24).all (fun c => isCode c || c.before args0 about1) = true := by decide +kernel
set_option maxRecDepth 65536 in
theorem w_t3 : (((words1.drop 24).drop 24).take 24).all (fun c => isCode c || c.before args0 about1) = true := by decide +kernel
set_option maxRecDepth 65536 in
theorem w_t4 : ((((words1.drop 24).drop 24).drop 24).take 24).all (fun c => isCode c || c.before args0 about1) = true := by decide +kernel
set_option maxRecDepth 65536 in
theorem w_t5 : (((((words1.drop 24).drop 24).drop 24).drop 24).take 24).all (fun c => isCode c || c.before args0 about1) = true := by decide +kernel
set_option maxRecDepth 65536 in
theorem w_t6 : ((((((words1.drop 24).drop 24).drop 24).drop 24).drop 24).take 24).all (fun c => isCode c || c.before args0 about1) = true := by decide +kernel
set_option maxRecDepth 65536 in
theorem w_t7 : (((((((words1.drop 24).drop 24).drop 24).drop 24).drop 24).drop 24).take 24).all (fun c => isCode c || c.before args0 about1) = true := by decide +kernel
set_option maxRecDepth 65536 in
theorem w_t8 : ((((((((words1.drop 24).drop 24).drop 24).drop 24).drop 24).drop 24).drop 24).take 24).all (fun c => isCode c || c.before args0 about1) = true := by decide +kernel
set_option maxRecDepth 65536 in
theorem w_t9 : (((((((((words1.drop 24).drop 24).drop 24).drop 24).drop 24).drop 24).drop 24).drop 24).take 24).all (fun c => isCode c || c.before args0 about1) = true := by decide +kernel
set_option maxRecDepth 65536 in
theorem w_t10 : ((((((((((words1.drop 24).drop 24).drop 24).drop 24).drop 24).drop 24).drop 24).drop 24).drop 24).take 24).all (fun c => isCode c || c.before args0 about1) = true := by decide +kernel
set_option maxRecDepth 65536 in
theorem w_t11 : (((((((((((words1.drop 24).drop 24).drop 24).drop 24).drop 24).drop 24).drop 24).drop 24).drop 24).drop 24).take 24).all (fun c => isCode c || c.before args0 about1) = true := by decide +kernel
set_option maxRecDepth 65536 in
theorem w_t12 : ((((((((((((words1.drop 24).drop 24).drop 24).drop 24).drop 24).drop 24).drop 24).drop 24).drop 24).drop 24).drop 24).take 24).all (fun c => isCode c || c.before args0 about1) = true := by decide +kernel
set_option maxRecDepth 65536 in
theorem w_t13 : (((((((((((((words1.drop 24).drop 24).drop 24).drop 24).drop 24).drop 24).drop 24).drop 24).drop 24).drop 24).drop 24).drop 24).take 24).all (fun c => isCode c || c.before args0 about1) = true := by decide +kernel
set_option maxRecDepth 65536 in
theorem w_t14 : (((((((((((((words1.drop 24).drop 24).drop 24).drop 24).drop 24).drop 24).drop 24).drop 24).drop 24).drop 24).drop 24).drop 24).drop 24).all (fun c => isCode c || c.before args0 about1) = true := by decide +kernel
theorem w_tables : (allAtoms (Jvm.Cond.code x code maxLocals ret :: tables_1)).before args0 about1 = true := by
  rw [allAtoms_all]
  show words1.all (fun c => c.before args0 about1) = true
  refine all_split ?_ w_codes
  rw [← List.take_append_drop 24 words1, List.all_append, w_t1, ← List.take_append_drop 24 (words1.drop 24), List.all_append, w_t2, ← List.take_append_drop 24 ((words1.drop 24).drop 24), List.all_append, w_t3, ← List.take_append_drop 24 (((words1.drop 24).drop 24).drop 24), List.all_append, w_t4, ← List.take_append_drop 24 ((((words1.drop 24).drop 24).drop 24).drop 24), List.all_append, w_t5, ← List.take_append_drop 24 (((((words1.drop 24).drop 24).drop 24).drop 24).drop 24), List.all_append, w_t6, ← List.take_append_drop 24 ((((((words1.drop 24).drop 24).drop 24).drop 24).drop 24).drop 24), List.all_append, w_t7, ← List.take_append_drop 24 (((((((words1.drop 24).drop 24).drop 24).drop 24).drop 24).drop 24).drop 24), List.all_append, w_t8, ← List.take_append_drop 24 ((((((((words1.drop 24).drop 24).drop 24).drop 24).drop 24).drop 24).drop 24).drop 24), List.all_append, w_t9, ← List.take_append_drop 24 (((((((((words1.drop 24).drop 24).drop 24).drop 24).drop 24).drop 24).drop 24).drop 24).drop 24), List.all_append, w_t10, ← List.take_append_drop 24 ((((((((((words1.drop 24).drop 24).drop 24).drop 24).drop 24).drop 24).drop 24).drop 24).drop 24).drop 24), List.all_append, w_t11, ← List.take_append_drop 24 (((((((((((words1.drop 24).drop 24).drop 24).drop 24).drop 24).drop 24).drop 24).drop 24).drop 24).drop 24).drop 24), List.all_append, w_t12, ← List.take_append_drop 24 ((((((((((((words1.drop 24).drop 24).drop 24).drop 24).drop 24).drop 24).drop 24).drop 24).drop 24).drop 24).drop 24).drop 24), List.all_append, w_t13, w_t14]
  rfl
set_option maxRecDepth 65536 in
theorem w_rest : rest_1_c.before args0 about1 = true := by decide +kernel
set_option maxRecDepth 65536 in
theorem w_case : (Jvm.Cond.and given_1 narrow_1).before args0 about1 = true := by decide +kernel
set_option maxRecDepth 65536 in
theorem w_consts : constsHeld consts_1 about1 := Jvm.Lit.constsHeldB_iff.mp (by decide +kernel)
theorem w_applies : (headSpec (Jvm.Cond.code x code maxLocals ret :: tables_1) room_1).applies x e0.platform about1 = true :=
  (Spec.applies_iff w_frames).mpr ⟨w_running, w_runnable, w_alone, w_named, w_hears, w_ripe, w_room, w_tables⟩
theorem atStart : AtStart classFile x code maxLocals ret World_1 tables_1 room_1 Calls_1 rest_1 Pre_1 launch0 p0 e0 about1 theMethod args0 below0 :=
  ⟨lists_1, trivial, launch0.admits_env _ _ _, launch0.least_env, fairChoices_fair.cas, fairChoices_fair.clock, w_frames, w_args, w_heap, w_applies, ⟨(by decide +kernel : framesKnown about1 = true), ⟨(by decide +kernel : tablesKnown about1 = true), ⟨w_consts, trivial⟩⟩⟩, w_rest, w_case⟩
end start1
theorem witness_1 : WitnessClaimed_1 := ⟨start1.p0, start1.e0, start1.about1, start1.theMethod, start1.args0, start1.below0, start1.atStart⟩
end Jvm.Pilot.@@N@@
