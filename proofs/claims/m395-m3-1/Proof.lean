import JvmDerived
import JvmDerived.Pilot.@@N@@Statement
import JvmDerived.Pilot.@@N@@Code
set_option linter.unusedVariables false
set_option linter.unusedSimpArgs false
namespace Jvm.OwnK
open Sem ClassFile Op Lib Bundle Jvm.Stand Jvm.Free Jvm.LawKit Jvm.RoadKit
/-! ## the end of a body, the goal, the point -/
def Fne (s : State) (n0 : Nat) (Z : State) (EL : List (String × Nat)) (nw : Bool) (rm : Room) (Q : Option Value → Heap → List Addr → Prop) (o : Outcome) (U : State) : Prop :=
  ∃ v L so, o = .returned v ∧ Q v U.heap so ∧ Fr n0 L ∧ CHr Z EL s.vm s.heap U.vm U.heap ∧ (∀ x ∈ so, n0 ≤ x ∧ x < U.heap.size ∧ Safe Z EL U.vm U.heap x) ∧ (nw = true → s.WarmedH U.vm) ∧ ReturnedEndW s o U L rm.cells rm.slots
def WP (p : Program) (e : Env) (below : List Frame) (Φ : Outcome → State → Prop) (T : State) (g : JFrame) : Prop :=
  ∃ s₂ o, Steps p.tables e below (T.setTop g) s₂ ∧ s₂.status = .running ∧ Ended s₂ below o ∧ Φ o s₂
def WS (p : Program) (l : Launch) (e : Env) (R : Room) (s : State) (m : MethodId) (args : Array Value) (below : List Frame) (meth : Method) (c : Code) (Z : State) (a0 : Array Value) (EL : List (String × Nat)) (nw : Bool) (n0 : Nat) (y : MethodName) (code : ByteArray) (maxL : Nat) (ret : Option FieldType)
    (T : State) (h : Heap) (sf : List Addr) (cells slots : Nat) : Prop :=
  ∃ locs, Stand p l e R (s.setVm T.vm) m args below meth c T locs cells slots ∧ T.heap = h ∧ s.Since T.vm h.size ∧ Z.Warmed39 T.vm ∧ T.vm.findClass y.cls = some m.cls ∧ CHr Z EL s.vm s.heap T.vm h ∧ Fr n0 locs ∧ n0 ≤ h.size ∧
    (∀ x ∈ sf, n0 ≤ x ∧ x < h.size ∧ Safe Z EL T.vm h x) ∧ EW Z a0 EL ∧ (nw = true → s.WarmedH T.vm) ∧ (p.tables.exec = Jvm.exec ∧ c.code = code ∧ meth.sig.returnType = ret ∧ meth.locks = false ∧ c.maxLocals = maxL ∧ meth.name = y.name)
def Ct (l : Launch) (Z : State) (a0 : Array Value) (EL : List (String × Nat)) (nw : Bool) (y : MethodName) (bytes : ByteArray) (maxL : Nat) (ret : Option FieldType) (rm : Room) (as' : Array Value) (h : Heap) (sf : List Addr) (n0 : Nat) (Q : Option Value → Heap → List Addr → Prop) : Prop :=
  ∀ ws, MetFree l y (head1 (Cond.code y bytes maxL ret :: ws) rm) (fun a U => a = as' ∧ Z.Warmed39 U.vm ∧ U.heap = h ∧ CHv Z EL U.vm h ∧ n0 ≤ h.size ∧ EW Z a0 EL ∧ ∀ x ∈ sf, n0 ≤ x ∧ x < h.size ∧ Safe Z EL U.vm h x) (fun _ _ _ _ _ => True)
    (fun _ U o U' => Fne U n0 Z EL nw rm Q o U')
def D (code : ByteArray) (pc : Nat) (i : Instr) (n pc' : Nat) : Prop := decode code pc = .ok (i, n) ∧ pc' = pc + n
section Base
variable {p : Program} {l : Launch} {e : Env} {R : Room} {s : State} {m : MethodId} {args : Array Value} {below : List Frame} {meth : Method} {c : Code} {Z : State} {EL : List (String × Nat)} {nw : Bool} {n0 : Nat} {y : MethodName} {code : ByteArray} {maxL : Nat} {ret : Option FieldType} {T : State} {h : Heap} {sf : List Addr} {cells slots : Nat} {Φ : Outcome → State → Prop} {a0 : Array Value} {pc pc' : Nat} {L : Array Slot} {S : List Value}
theorem WP.st {T' : State} {g g' : JFrame} (k : ∀ t, Steps p.tables e below (T'.setTop g') t → Steps p.tables e below (T.setTop g) t) (w : WP p e below Φ T' g') : WP p e below Φ T g := by
  obtain ⟨s₂, o, h1, h2⟩ := w; exact ⟨s₂, o, k _ h1, h2⟩
theorem WP.cast {g g' : JFrame} (q : g = g') (w : WP p e below Φ T g') : WP p e below Φ T g := q ▸ w
theorem WP.steps {T' : State} {g g' : JFrame} (k : Steps p.tables e below (T.setTop g) (T'.setTop g')) (w : WP p e below Φ T' g') : WP p e below Φ T g := WP.st (fun _ q => k.trans q) w

theorem WS.here (W : WS p l e R s m args below meth c Z a0 EL nw n0 y code maxL ret T h sf cells slots) : At T m c below := by obtain ⟨_, X, -⟩ := W; exact X.here
theorem WS.hx (W : WS p l e R s m args below meth c Z a0 EL nw n0 y code maxL ret T h sf cells slots) : p.tables.exec = Jvm.exec := by obtain ⟨_, _, _, _, _, _, _, _, _, _, _, _, q, -⟩ := W; exact q
theorem WS.hby (W : WS p l e R s m args below meth c Z a0 EL nw n0 y code maxL ret T h sf cells slots) : c.code = code := by obtain ⟨_, _, _, _, _, _, _, _, _, _, _, _, _, q, -⟩ := W; exact q
theorem WS.hn (W : WS p l e R s m args below meth c Z a0 EL nw n0 y code maxL ret T h sf cells slots) : n0 ≤ h.size := by obtain ⟨_, _, _, _, _, _, _, _, q, -⟩ := W; exact q
theorem WS.hT (W : WS p l e R s m args below meth c Z a0 EL nw n0 y code maxL ret T h sf cells slots) : T.heap = h := by obtain ⟨_, _, q, -⟩ := W; exact q
theorem WS.hZ (W : WS p l e R s m args below meth c Z a0 EL nw n0 y code maxL ret T h sf cells slots) : Z.Warmed39 T.vm := by obtain ⟨_, _, _, _, q, -⟩ := W; exact q
theorem WS.lt (W : WS p l e R s m args below meth c Z a0 EL nw n0 y code maxL ret T h sf cells slots) {x : Addr} (q : x ∈ sf) : x < h.size := by obtain ⟨_, _, _, _, _, _, _, _, _, w, -⟩ := W; exact (w x q).2.1
theorem WS.ge (W : WS p l e R s m args below meth c Z a0 EL nw n0 y code maxL ret T h sf cells slots) {x : Addr} (q : x ∈ sf) : n0 ≤ x := by obtain ⟨_, _, _, _, _, _, _, _, _, w, -⟩ := W; exact (w x q).1
theorem WS.hd (W : WS p l e R s m args below meth c Z a0 EL nw n0 y code maxL ret T h sf cells slots) {i : Instr} {n : Nat} (d : D code pc i n pc') : decode c.code pc = .ok (i, n) := hb W.hby d.1
theorem WS.mono (W : WS p l e R s m args below meth c Z a0 EL nw n0 y code maxL ret T h sf cells slots) {cells' slots' : Nat} {sf' : List Addr} (hc : cells ≤ cells') (hs : slots ≤ slots') (hf : ∀ x ∈ sf', x ∈ sf) : WS p l e R s m args below meth c Z a0 EL nw n0 y code maxL ret T h sf' cells' slots' := by
  obtain ⟨locs, X, a1, a2, a3, a4, a5, a6, a7, a8, a9⟩ := W
  exact ⟨locs, X.mono hc hs, a1, a2, a3, a4, a5, a6, a7, fun x hx => a8 x (hf x hx), a9⟩
/-- a step by a law of the library over the point's own start: the point behind it -/
theorem WS.pack {T' : State} {h' : Heap} {sf' : List Addr} {locs' : List Loc} {cells' slots' : Nat} (W : WS p l e R s m args below meth c Z a0 EL nw n0 y code maxL ret T h sf cells slots) (X' : Stand p l e R (s.setVm T.vm) m args below meth c T' locs' cells' slots') (eT : T'.heap = h') (N : Fr n0 locs') (hle : h.size ≤ h'.size) (K : CHv Z EL T.vm h → CHv Z EL T.vm h' ∧ ∀ y, Bk Z EL T.vm h' y → Bk Z EL T.vm h y) (hf : ∀ x ∈ sf', x ∈ sf ∨ (h.size ≤ x ∧ x < h'.size)) :
    WS p l e R s m args below meth c Z a0 EL nw n0 y code maxL ret T' h' sf' cells' slots' := by
  obtain ⟨locs, X, a1, a2, a3, a4, a5, a6, a7, a8, hE, aW, a10⟩ := W
  have C0 := K a5.1
  have C1 : CHr Z EL T.vm h T.vm h' := ⟨C0.1, hle, fun z q => Or.inl (C0.2 z q)⟩
  have C2 := CHv.at X' a3 hE C1.1
  have hS2 : (s.setVm T.vm).Since T'.vm h'.size := X'.warmed.since _
  refine ⟨locs', X'.retabled X'.warmed.wide, eT, a2.trans hS2 hle, wtrans (s := s.setVm T.vm) a3 X'.warmed, by rw [X'.warmed.alike.findClass]; exact a4, (a5.trans C1).trans C2, N, Nat.le_trans a7 hle, fun x hx => ?_, hE, fun u => State.WarmedH.trans (t := s.setVm T.vm) (aW u) X'.warmed, a10⟩
  rcases hf x hx with q | ⟨q1, q2⟩
  · obtain ⟨b1, b2, b3⟩ := a8 x q
    exact ⟨b1, Nat.lt_of_lt_of_le b2 hle, C2.safe (Nat.lt_of_lt_of_le b2 hle) (C1.safe b2 b3)⟩
  · refine ⟨Nat.le_trans a7 q1, q2, C2.safe q2 fun B => ?_⟩
    obtain ⟨cell, z⟩ := (C0.2 x B).there
    have := (Array.getElem?_eq_some_iff.mp z).1; omega
/-- nothing of the heap moved -/
theorem WS.same {T' : State} (W : WS p l e R s m args below meth c Z a0 EL nw n0 y code maxL ret T h sf cells slots) (f : ∀ locs, Stand p l e R (s.setVm T.vm) m args below meth c T locs cells slots → Stand p l e R (s.setVm T.vm) m args below meth c T' locs cells slots) (eT : T'.heap = h) : WS p l e R s m args below meth c Z a0 EL nw n0 y code maxL ret T' h sf cells slots := by
  obtain ⟨locs, X, a1, a2, a3, a4, a5, a6, a7, a8, a9⟩ := id W
  exact W.pack (f _ X) eT a6 (Nat.le_refl _) (fun H => ⟨H, fun _ q => q⟩) (fun x hx => Or.inl hx)

theorem k_aloadN (W : WS p l e R s m args below meth c Z a0 EL nw n0 y code maxL ret T h sf cells slots) {k : Fin 4} {v : Value} (d : D code pc (.aload_n k) 1 pc')   (hl : L[k.val]? = some (.val v)) (hv : v.isRef = true) (w : WP p e below Φ T (mkF m pc' L (v :: S))) : WP p e below Φ T (mkF m pc L (S)) := by
  obtain ⟨hd, rfl⟩ := d
  exact WP.st (fun _ q => XS.aloadN W.here W.hx rfl (hb W.hby hd) hl hv q) w
theorem k_aload (W : WS p l e R s m args below meth c Z a0 EL nw n0 y code maxL ret T h sf cells slots) {k : Nat} {v : Value} (d : D code pc (.aload k) 2 pc')   (hl : L[k]? = some (.val v)) (hv : v.isRef = true) (w : WP p e below Φ T (mkF m pc' L (v :: S))) : WP p e below Φ T (mkF m pc L (S)) := by
  obtain ⟨hd, rfl⟩ := d
  exact WP.st (fun _ q => XS.aload W.here W.hx rfl (hb W.hby hd) hl hv q) w
theorem k_iloadN (W : WS p l e R s m args below meth c Z a0 EL nw n0 y code maxL ret T h sf cells slots) {k : Fin 4} {v : Int32} (d : D code pc (.iload_n k) 1 pc')   (hl : L[k.val]? = some (.val (.int v))) (w : WP p e below Φ T (mkF m pc' L (.int v :: S))) : WP p e below Φ T (mkF m pc L (S)) := by
  obtain ⟨hd, rfl⟩ := d
  exact WP.st (fun _ q => XS.iloadN W.here W.hx rfl (hb W.hby hd) hl q) w
theorem k_iload (W : WS p l e R s m args below meth c Z a0 EL nw n0 y code maxL ret T h sf cells slots) {k : Nat} {v : Int32} (d : D code pc (.iload k) 2 pc')   (hl : L[k]? = some (.val (.int v))) (w : WP p e below Φ T (mkF m pc' L (.int v :: S))) : WP p e below Φ T (mkF m pc L (S)) := by
  obtain ⟨hd, rfl⟩ := d
  exact WP.st (fun _ q => XS.iload W.here W.hx rfl (hb W.hby hd) hl q) w
theorem k_lloadN (W : WS p l e R s m args below meth c Z a0 EL nw n0 y code maxL ret T h sf cells slots) {k : Fin 4} {v : Int64} (d : D code pc (.lload_n k) 1 pc')   (hl : L[k.val]? = some (.val (.long v))) (w : WP p e below Φ T (mkF m pc' L (.long v :: S))) : WP p e below Φ T (mkF m pc L (S)) := by
  obtain ⟨hd, rfl⟩ := d
  exact WP.st (fun _ q => XS.lloadN W.here W.hx rfl (hb W.hby hd) hl q) w
theorem k_lload (W : WS p l e R s m args below meth c Z a0 EL nw n0 y code maxL ret T h sf cells slots) {k : Nat} {v : Int64} (d : D code pc (.lload k) 2 pc')   (hl : L[k]? = some (.val (.long v))) (w : WP p e below Φ T (mkF m pc' L (.long v :: S))) : WP p e below Φ T (mkF m pc L (S)) := by
  obtain ⟨hd, rfl⟩ := d
  exact WP.st (fun _ q => XS.lload W.here W.hx rfl (hb W.hby hd) hl q) w
theorem k_istoreN (W : WS p l e R s m args below meth c Z a0 EL nw n0 y code maxL ret T h sf cells slots) {k : Fin 4} {x : Int32} {L' : Array Slot} (d : D code pc (.istore_n k) 1 pc')    (hl : storeLocals L k.val (.int x) = some L') (w : WP p e below Φ T (mkF m pc' L' (S))) : WP p e below Φ T (mkF m pc L (.int x :: S)) := by
  obtain ⟨hd, rfl⟩ := d
  exact WP.st (fun _ q => XS.istoreN W.here W.hx rfl (hb W.hby hd) rfl hl q) w
theorem k_istore (W : WS p l e R s m args below meth c Z a0 EL nw n0 y code maxL ret T h sf cells slots) {k : Nat} {x : Int32} {L' : Array Slot} (d : D code pc (.istore k) 2 pc')    (hl : storeLocals L k (.int x) = some L') (w : WP p e below Φ T (mkF m pc' L' (S))) : WP p e below Φ T (mkF m pc L (.int x :: S)) := by
  obtain ⟨hd, rfl⟩ := d
  exact WP.st (fun _ q => XS.istore W.here W.hx rfl (hb W.hby hd) rfl hl q) w
theorem k_lstoreN (W : WS p l e R s m args below meth c Z a0 EL nw n0 y code maxL ret T h sf cells slots) {k : Fin 4} {x : Int64} {L' : Array Slot} (d : D code pc (.lstore_n k) 1 pc')    (hl : storeLocals L k.val (.long x) = some L') (w : WP p e below Φ T (mkF m pc' L' (S))) : WP p e below Φ T (mkF m pc L (.long x :: S)) := by
  obtain ⟨hd, rfl⟩ := d
  exact WP.st (fun _ q => XS.lstoreN W.here W.hx rfl (hb W.hby hd) rfl hl q) w
theorem k_lstore (W : WS p l e R s m args below meth c Z a0 EL nw n0 y code maxL ret T h sf cells slots) {k : Nat} {x : Int64} {L' : Array Slot} (d : D code pc (.lstore k) 2 pc')    (hl : storeLocals L k (.long x) = some L') (w : WP p e below Φ T (mkF m pc' L' (S))) : WP p e below Φ T (mkF m pc L (.long x :: S)) := by
  obtain ⟨hd, rfl⟩ := d
  exact WP.st (fun _ q => XS.lstore W.here W.hx rfl (hb W.hby hd) rfl hl q) w
theorem k_astoreN (W : WS p l e R s m args below meth c Z a0 EL nw n0 y code maxL ret T h sf cells slots) {k : Fin 4} {x : Value} {L' : Array Slot} (d : D code pc (.astore_n k) 1 pc')    (hv : x.isRef = true) (hl : storeLocals L k.val x = some L') (w : WP p e below Φ T (mkF m pc' L' (S))) : WP p e below Φ T (mkF m pc L (x :: S)) := by
  obtain ⟨hd, rfl⟩ := d
  exact WP.st (fun _ q => XS.astoreN W.here W.hx rfl (hb W.hby hd) rfl hv hl q) w
theorem k_astore (W : WS p l e R s m args below meth c Z a0 EL nw n0 y code maxL ret T h sf cells slots) {k : Nat} {x : Value} {L' : Array Slot} (d : D code pc (.astore k) 2 pc')    (hv : x.isRef = true) (hl : storeLocals L k x = some L') (w : WP p e below Φ T (mkF m pc' L' (S))) : WP p e below Φ T (mkF m pc L (x :: S)) := by
  obtain ⟨hd, rfl⟩ := d
  exact WP.st (fun _ q => XS.astore W.here W.hx rfl (hb W.hby hd) rfl hv hl q) w
theorem k_iconst (W : WS p l e R s m args below meth c Z a0 EL nw n0 y code maxL ret T h sf cells slots) {i : Int} {z : Int32} (d : D code pc (.iconst i) 1 pc')   (hz : Int32.ofInt i = z) (w : WP p e below Φ T (mkF m pc' L (.int z :: S))) : WP p e below Φ T (mkF m pc L (S)) := by
  obtain ⟨hd, rfl⟩ := d
  exact WP.st (fun _ q => XS.iconst W.here W.hx rfl (hb W.hby hd) (by rw [hz]; exact q)) w
theorem k_bipush (W : WS p l e R s m args below meth c Z a0 EL nw n0 y code maxL ret T h sf cells slots) {i : Int} {z : Int32} (d : D code pc (.bipush i) 2 pc')   (hz : (Int8.ofInt i).toInt32 = z) (w : WP p e below Φ T (mkF m pc' L (.int z :: S))) : WP p e below Φ T (mkF m pc L (S)) := by
  obtain ⟨hd, rfl⟩ := d
  exact WP.st (fun _ q => XS.bipush W.here W.hx rfl (hb W.hby hd) (by rw [hz]; exact q)) w
theorem k_sipush (W : WS p l e R s m args below meth c Z a0 EL nw n0 y code maxL ret T h sf cells slots) {i : Int} {z : Int32} (d : D code pc (.sipush i) 3 pc')   (hz : (Int16.ofInt i).toInt32 = z) (w : WP p e below Φ T (mkF m pc' L (.int z :: S))) : WP p e below Φ T (mkF m pc L (S)) := by
  obtain ⟨hd, rfl⟩ := d
  exact WP.st (fun _ q => XS.sipush W.here W.hx rfl (hb W.hby hd) (by rw [hz]; exact q)) w
theorem k_lconst (W : WS p l e R s m args below meth c Z a0 EL nw n0 y code maxL ret T h sf cells slots) {k : Fin 2} {z : Int64} (d : D code pc (.lconst k) 1 pc')   (hz : Int64.ofNat k = z) (w : WP p e below Φ T (mkF m pc' L (.long z :: S))) : WP p e below Φ T (mkF m pc L (S)) := by
  obtain ⟨hd, rfl⟩ := d
  exact WP.st (fun _ q => XS.lconst W.here W.hx rfl (hb W.hby hd) (by rw [hz]; exact q)) w
theorem k_aconst (W : WS p l e R s m args below meth c Z a0 EL nw n0 y code maxL ret T h sf cells slots)  (d : D code pc (.aconst_null) 1 pc')  (w : WP p e below Φ T (mkF m pc' L (.null :: S))) : WP p e below Φ T (mkF m pc L (S)) := by
  obtain ⟨hd, rfl⟩ := d
  exact WP.st (fun _ q => XS.aconstNull W.here W.hx rfl (hb W.hby hd) q) w
theorem k_iadd (W : WS p l e R s m args below meth c Z a0 EL nw n0 y code maxL ret T h sf cells slots) {x y z : Int32} (d : D code pc (.iadd) 1 pc')  (hz : x + y = z) (w : WP p e below Φ T (mkF m pc' L (.int z :: S))) : WP p e below Φ T (mkF m pc L (.int y :: .int x :: S)) := by
  obtain ⟨hd, rfl⟩ := d
  exact WP.st (fun _ q => XS.iadd W.here W.hx rfl (hb W.hby hd) rfl (by rw [hz]; exact q)) w
theorem k_isub (W : WS p l e R s m args below meth c Z a0 EL nw n0 y code maxL ret T h sf cells slots) {x y z : Int32} (d : D code pc (.isub) 1 pc')  (hz : x - y = z) (w : WP p e below Φ T (mkF m pc' L (.int z :: S))) : WP p e below Φ T (mkF m pc L (.int y :: .int x :: S)) := by
  obtain ⟨hd, rfl⟩ := d
  exact WP.st (fun _ q => XS.isub W.here W.hx rfl (hb W.hby hd) rfl (by rw [hz]; exact q)) w
theorem k_iand (W : WS p l e R s m args below meth c Z a0 EL nw n0 y code maxL ret T h sf cells slots) {x y z : Int32} (d : D code pc (.iand) 1 pc')  (hz : x &&& y = z) (w : WP p e below Φ T (mkF m pc' L (.int z :: S))) : WP p e below Φ T (mkF m pc L (.int y :: .int x :: S)) := by
  obtain ⟨hd, rfl⟩ := d
  exact WP.st (fun _ q => XS.iand W.here W.hx rfl (hb W.hby hd) rfl (by rw [hz]; exact q)) w
theorem k_imul (W : WS p l e R s m args below meth c Z a0 EL nw n0 y code maxL ret T h sf cells slots) {x y z : Int32} (d : D code pc (.imul) 1 pc')  (hz : x * y = z) (w : WP p e below Φ T (mkF m pc' L (.int z :: S))) : WP p e below Φ T (mkF m pc L (.int y :: .int x :: S)) := by
  obtain ⟨hd, rfl⟩ := d
  exact WP.st (fun _ q => XS.imul W.here W.hx rfl (hb W.hby hd) rfl (by rw [hz]; exact q)) w
theorem k_ixor (W : WS p l e R s m args below meth c Z a0 EL nw n0 y code maxL ret T h sf cells slots) {x y z : Int32} (d : D code pc (.ixor) 1 pc')  (hz : x ^^^ y = z) (w : WP p e below Φ T (mkF m pc' L (.int z :: S))) : WP p e below Φ T (mkF m pc L (.int y :: .int x :: S)) := by
  obtain ⟨hd, rfl⟩ := d
  exact WP.st (fun _ q => XS.ixor W.here W.hx rfl (hb W.hby hd) rfl (by rw [hz]; exact q)) w
theorem k_ior (W : WS p l e R s m args below meth c Z a0 EL nw n0 y code maxL ret T h sf cells slots) {x y z : Int32} (d : D code pc (.ior) 1 pc')  (hz : x ||| y = z) (w : WP p e below Φ T (mkF m pc' L (.int z :: S))) : WP p e below Φ T (mkF m pc L (.int y :: .int x :: S)) := by
  obtain ⟨hd, rfl⟩ := d
  exact WP.st (fun _ q => XS.ior W.here W.hx rfl (hb W.hby hd) rfl (by rw [hz]; exact q)) w
theorem k_ishl (W : WS p l e R s m args below meth c Z a0 EL nw n0 y code maxL ret T h sf cells slots) {x y z : Int32} (d : D code pc (.ishl) 1 pc')  (hz : x <<< (y &&& 31) = z) (w : WP p e below Φ T (mkF m pc' L (.int z :: S))) : WP p e below Φ T (mkF m pc L (.int y :: .int x :: S)) := by
  obtain ⟨hd, rfl⟩ := d
  exact WP.st (fun _ q => XS.ishl W.here W.hx rfl (hb W.hby hd) rfl (by rw [hz]; exact q)) w
theorem k_ishr (W : WS p l e R s m args below meth c Z a0 EL nw n0 y code maxL ret T h sf cells slots) {x y z : Int32} (d : D code pc (.ishr) 1 pc')  (hz : x >>> (y &&& 31) = z) (w : WP p e below Φ T (mkF m pc' L (.int z :: S))) : WP p e below Φ T (mkF m pc L (.int y :: .int x :: S)) := by
  obtain ⟨hd, rfl⟩ := d
  exact WP.st (fun _ q => XS.ishr W.here W.hx rfl (hb W.hby hd) rfl (by rw [hz]; exact q)) w
theorem k_iushr (W : WS p l e R s m args below meth c Z a0 EL nw n0 y code maxL ret T h sf cells slots) {x y z : Int32} (d : D code pc (.iushr) 1 pc')  (hz : XT.ushr x y = z) (w : WP p e below Φ T (mkF m pc' L (.int z :: S))) : WP p e below Φ T (mkF m pc L (.int y :: .int x :: S)) := by
  obtain ⟨hd, rfl⟩ := d
  exact WP.st (fun _ q => XT.iushr W.here W.hx rfl (hb W.hby hd) rfl (by rw [hz]; exact q)) w
theorem k_idiv (W : WS p l e R s m args below meth c Z a0 EL nw n0 y code maxL ret T h sf cells slots) {x y z : Int32} (d : D code pc (.idiv) 1 pc')  (hy : y ≠ 0) (hz : x / y = z) (w : WP p e below Φ T (mkF m pc' L (.int z :: S))) : WP p e below Φ T (mkF m pc L (.int y :: .int x :: S)) := by
  obtain ⟨hd, rfl⟩ := d
  exact WP.st (fun _ q => XS.idiv W.here W.hx rfl (hb W.hby hd) rfl hy (by rw [hz]; exact q)) w
theorem k_irem (W : WS p l e R s m args below meth c Z a0 EL nw n0 y code maxL ret T h sf cells slots) {x y z : Int32} (d : D code pc (.irem) 1 pc')  (hy : y ≠ 0) (hz : x % y = z) (w : WP p e below Φ T (mkF m pc' L (.int z :: S))) : WP p e below Φ T (mkF m pc L (.int y :: .int x :: S)) := by
  obtain ⟨hd, rfl⟩ := d
  exact WP.st (fun _ q => XS.irem W.here W.hx rfl (hb W.hby hd) rfl hy (by rw [irem_eq_mod x y, hz]; exact q)) w
theorem k_ineg (W : WS p l e R s m args below meth c Z a0 EL nw n0 y code maxL ret T h sf cells slots) {x z : Int32} (d : D code pc (.ineg) 1 pc')  (hz : -x = z) (w : WP p e below Φ T (mkF m pc' L (.int z :: S))) : WP p e below Φ T (mkF m pc L (.int x :: S)) := by
  obtain ⟨hd, rfl⟩ := d
  exact WP.st (fun _ q => XS.ineg W.here W.hx rfl (hb W.hby hd) rfl (by rw [hz]; exact q)) w
theorem k_ladd (W : WS p l e R s m args below meth c Z a0 EL nw n0 y code maxL ret T h sf cells slots) {x y z : Int64} (d : D code pc (.ladd) 1 pc')  (hz : x + y = z) (w : WP p e below Φ T (mkF m pc' L (.long z :: S))) : WP p e below Φ T (mkF m pc L (.long y :: .long x :: S)) := by
  obtain ⟨hd, rfl⟩ := d
  exact WP.st (fun _ q => XS.ladd W.here W.hx rfl (hb W.hby hd) rfl (by rw [hz]; exact q)) w
theorem k_lsub (W : WS p l e R s m args below meth c Z a0 EL nw n0 y code maxL ret T h sf cells slots) {x y z : Int64} (d : D code pc (.lsub) 1 pc')  (hz : x - y = z) (w : WP p e below Φ T (mkF m pc' L (.long z :: S))) : WP p e below Φ T (mkF m pc L (.long y :: .long x :: S)) := by
  obtain ⟨hd, rfl⟩ := d
  exact WP.st (fun _ q => XS.lsub W.here W.hx rfl (hb W.hby hd) rfl (by rw [hz]; exact q)) w
theorem k_land (W : WS p l e R s m args below meth c Z a0 EL nw n0 y code maxL ret T h sf cells slots) {x y z : Int64} (d : D code pc (.land) 1 pc')  (hz : x &&& y = z) (w : WP p e below Φ T (mkF m pc' L (.long z :: S))) : WP p e below Φ T (mkF m pc L (.long y :: .long x :: S)) := by
  obtain ⟨hd, rfl⟩ := d
  exact WP.st (fun _ q => XS.land W.here W.hx rfl (hb W.hby hd) rfl (by rw [hz]; exact q)) w
theorem k_lmul (W : WS p l e R s m args below meth c Z a0 EL nw n0 y code maxL ret T h sf cells slots) {x y z : Int64} (d : D code pc (.lmul) 1 pc')  (hz : x * y = z) (w : WP p e below Φ T (mkF m pc' L (.long z :: S))) : WP p e below Φ T (mkF m pc L (.long y :: .long x :: S)) := by
  obtain ⟨hd, rfl⟩ := d
  exact WP.st (fun _ q => XS.lmul W.here W.hx rfl (hb W.hby hd) rfl (by rw [hz]; exact q)) w
theorem k_lxor (W : WS p l e R s m args below meth c Z a0 EL nw n0 y code maxL ret T h sf cells slots) {x y z : Int64} (d : D code pc (.lxor) 1 pc')  (hz : x ^^^ y = z) (w : WP p e below Φ T (mkF m pc' L (.long z :: S))) : WP p e below Φ T (mkF m pc L (.long y :: .long x :: S)) := by
  obtain ⟨hd, rfl⟩ := d
  exact WP.st (fun _ q => XS.lxor W.here W.hx rfl (hb W.hby hd) rfl (by rw [hz]; exact q)) w
theorem k_lor (W : WS p l e R s m args below meth c Z a0 EL nw n0 y code maxL ret T h sf cells slots) {x y z : Int64} (d : D code pc (.lor) 1 pc')  (hz : x ||| y = z) (w : WP p e below Φ T (mkF m pc' L (.long z :: S))) : WP p e below Φ T (mkF m pc L (.long y :: .long x :: S)) := by
  obtain ⟨hd, rfl⟩ := d
  exact WP.st (fun _ q => XS.lor W.here W.hx rfl (hb W.hby hd) rfl (by rw [hz]; exact q)) w
theorem k_lshl (W : WS p l e R s m args below meth c Z a0 EL nw n0 y code maxL ret T h sf cells slots) {x z : Int64} {y : Int32} (d : D code pc (.lshl) 1 pc')   (hz : x <<< (y.toInt64 &&& 63) = z) (w : WP p e below Φ T (mkF m pc' L (.long z :: S))) : WP p e below Φ T (mkF m pc L (.int y :: .long x :: S)) := by
  obtain ⟨hd, rfl⟩ := d
  exact WP.st (fun _ q => XT.lshl W.here W.hx rfl (hb W.hby hd) rfl (by rw [hz]; exact q)) w
theorem k_lshr (W : WS p l e R s m args below meth c Z a0 EL nw n0 y code maxL ret T h sf cells slots) {x z : Int64} {y : Int32} (d : D code pc (.lshr) 1 pc')   (hz : x >>> (y.toInt64 &&& 63) = z) (w : WP p e below Φ T (mkF m pc' L (.long z :: S))) : WP p e below Φ T (mkF m pc L (.int y :: .long x :: S)) := by
  obtain ⟨hd, rfl⟩ := d
  exact WP.st (fun _ q => XT.lshr W.here W.hx rfl (hb W.hby hd) rfl (by rw [hz]; exact q)) w
theorem k_lushr (W : WS p l e R s m args below meth c Z a0 EL nw n0 y code maxL ret T h sf cells slots) {x z : Int64} {y : Int32} (d : D code pc (.lushr) 1 pc')   (hz : XT.ushrL x y = z) (w : WP p e below Φ T (mkF m pc' L (.long z :: S))) : WP p e below Φ T (mkF m pc L (.int y :: .long x :: S)) := by
  obtain ⟨hd, rfl⟩ := d
  exact WP.st (fun _ q => XT.lushr W.here W.hx rfl (hb W.hby hd) rfl (by rw [hz]; exact q)) w
theorem k_lrem (W : WS p l e R s m args below meth c Z a0 EL nw n0 y code maxL ret T h sf cells slots) {x y z : Int64} (d : D code pc (.lrem) 1 pc')  (hy : y ≠ 0) (hz : x - (x / y) * y = z) (w : WP p e below Φ T (mkF m pc' L (.long z :: S))) : WP p e below Φ T (mkF m pc L (.long y :: .long x :: S)) := by
  obtain ⟨hd, rfl⟩ := d
  exact WP.st (fun _ q => XS.lrem W.here W.hx rfl (hb W.hby hd) rfl hy (by rw [hz]; exact q)) w
theorem k_ldiv (W : WS p l e R s m args below meth c Z a0 EL nw n0 y code maxL ret T h sf cells slots) {x y z : Int64} (d : D code pc (.ldiv) 1 pc')  (hy : y ≠ 0) (hz : x / y = z) (w : WP p e below Φ T (mkF m pc' L (.long z :: S))) : WP p e below Φ T (mkF m pc L (.long y :: .long x :: S)) := by
  obtain ⟨hd, rfl⟩ := d
  exact WP.st (fun _ q => XS.ldiv W.here W.hx rfl (hb W.hby hd) rfl hy (by rw [hz]; exact q)) w
theorem k_lneg (W : WS p l e R s m args below meth c Z a0 EL nw n0 y code maxL ret T h sf cells slots) {x z : Int64} (d : D code pc (.lneg) 1 pc')  (hz : -x = z) (w : WP p e below Φ T (mkF m pc' L (.long z :: S))) : WP p e below Φ T (mkF m pc L (.long x :: S)) := by
  obtain ⟨hd, rfl⟩ := d
  exact WP.st (fun _ q => XS.lneg W.here W.hx rfl (hb W.hby hd) rfl (by rw [hz]; exact q)) w
theorem k_lcmp (W : WS p l e R s m args below meth c Z a0 EL nw n0 y code maxL ret T h sf cells slots) {x y : Int64} {z : Int32} (d : D code pc (.lcmp) 1 pc')   (hz : XT.cmpL x y = z) (w : WP p e below Φ T (mkF m pc' L (.int z :: S))) : WP p e below Φ T (mkF m pc L (.long y :: .long x :: S)) := by
  obtain ⟨hd, rfl⟩ := d
  exact WP.st (fun _ q => XT.lcmp W.here W.hx rfl (hb W.hby hd) rfl (by rw [hz]; exact q)) w
theorem k_i2b (W : WS p l e R s m args below meth c Z a0 EL nw n0 y code maxL ret T h sf cells slots) {x z : Int32} (d : D code pc (.i2b) 1 pc')  (hz : x.toInt8.toInt32 = z) (w : WP p e below Φ T (mkF m pc' L (.int z :: S))) : WP p e below Φ T (mkF m pc L (.int x :: S)) := by
  obtain ⟨hd, rfl⟩ := d
  exact WP.st (fun _ q => XS.i2b W.here W.hx rfl (hb W.hby hd) rfl (by rw [hz]; exact q)) w
theorem k_i2c (W : WS p l e R s m args below meth c Z a0 EL nw n0 y code maxL ret T h sf cells slots) {x z : Int32} (d : D code pc (.i2c) 1 pc')  (hz : x.toUInt32.toUInt16.toUInt32.toInt32 = z) (w : WP p e below Φ T (mkF m pc' L (.int z :: S))) : WP p e below Φ T (mkF m pc L (.int x :: S)) := by
  obtain ⟨hd, rfl⟩ := d
  exact WP.st (fun _ q => XS.i2c W.here W.hx rfl (hb W.hby hd) rfl (by rw [hz]; exact q)) w
theorem k_i2s (W : WS p l e R s m args below meth c Z a0 EL nw n0 y code maxL ret T h sf cells slots) {x z : Int32} (d : D code pc (.i2s) 1 pc')  (hz : x.toInt16.toInt32 = z) (w : WP p e below Φ T (mkF m pc' L (.int z :: S))) : WP p e below Φ T (mkF m pc L (.int x :: S)) := by
  obtain ⟨hd, rfl⟩ := d
  exact WP.st (fun _ q => XS.i2s W.here W.hx rfl (hb W.hby hd) rfl (by rw [hz]; exact q)) w
theorem k_i2l (W : WS p l e R s m args below meth c Z a0 EL nw n0 y code maxL ret T h sf cells slots) {x : Int32} {z : Int64} (d : D code pc (.i2l) 1 pc')   (hz : x.toInt64 = z) (w : WP p e below Φ T (mkF m pc' L (.long z :: S))) : WP p e below Φ T (mkF m pc L (.int x :: S)) := by
  obtain ⟨hd, rfl⟩ := d
  exact WP.st (fun _ q => XS.i2l W.here W.hx rfl (hb W.hby hd) rfl (by rw [hz]; exact q)) w
theorem k_l2i (W : WS p l e R s m args below meth c Z a0 EL nw n0 y code maxL ret T h sf cells slots) {x : Int64} {z : Int32} (d : D code pc (.l2i) 1 pc')   (hz : x.toInt32 = z) (w : WP p e below Φ T (mkF m pc' L (.int z :: S))) : WP p e below Φ T (mkF m pc L (.long x :: S)) := by
  obtain ⟨hd, rfl⟩ := d
  exact WP.st (fun _ q => XS.l2i W.here W.hx rfl (hb W.hby hd) rfl (by rw [hz]; exact q)) w
theorem k_dup (W : WS p l e R s m args below meth c Z a0 EL nw n0 y code maxL ret T h sf cells slots) {x : Value} (d : D code pc (.dup) 1 pc')  (hc : x.category = 1) (w : WP p e below Φ T (mkF m pc' L (x :: x :: S))) : WP p e below Φ T (mkF m pc L (x :: S)) := by
  obtain ⟨hd, rfl⟩ := d
  exact WP.st (fun _ q => XS.dup W.here W.hx rfl (hb W.hby hd) rfl hc q) w
theorem k_pop (W : WS p l e R s m args below meth c Z a0 EL nw n0 y code maxL ret T h sf cells slots) {x : Value} (d : D code pc (.pop) 1 pc')  (hc : x.category = 1) (w : WP p e below Φ T (mkF m pc' L (S))) : WP p e below Φ T (mkF m pc L (x :: S)) := by
  obtain ⟨hd, rfl⟩ := d
  exact WP.st (fun _ q => XS.pop W.here W.hx rfl (hb W.hby hd) rfl hc q) w
theorem k_dupX1 (W : WS p l e R s m args below meth c Z a0 EL nw n0 y code maxL ret T h sf cells slots) {x z : Value} (d : D code pc (.dup_x1) 1 pc')  (hc : x.category = 1) (hc' : z.category = 1) (w : WP p e below Φ T (mkF m pc' L (x :: z :: x :: S))) : WP p e below Φ T (mkF m pc L (x :: z :: S)) := by
  obtain ⟨hd, rfl⟩ := d
  exact WP.st (fun _ q => XS.dupX1 W.here W.hx rfl (hb W.hby hd) rfl hc hc' q) w
theorem k_dup2 (W : WS p l e R s m args below meth c Z a0 EL nw n0 y code maxL ret T h sf cells slots) {x z : Value} (d : D code pc (.dup2) 1 pc')  (hc : x.category = 1) (hc' : z.category = 1) (w : WP p e below Φ T (mkF m pc' L (x :: z :: x :: z :: S))) : WP p e below Φ T (mkF m pc L (x :: z :: S)) := by
  obtain ⟨hd, rfl⟩ := d
  exact WP.st (fun _ q => XT.dup2 W.here W.hx rfl (hb W.hby hd) rfl hc hc' q) w
theorem k_dup2L (W : WS p l e R s m args below meth c Z a0 EL nw n0 y code maxL ret T h sf cells slots) {x : Int64} (d : D code pc (.dup2) 1 pc')  (w : WP p e below Φ T (mkF m pc' L (.long x :: .long x :: S))) : WP p e below Φ T (mkF m pc L (.long x :: S)) := by
  obtain ⟨hd, rfl⟩ := d
  exact WP.st (fun _ q => XT.dup2L W.here W.hx rfl (hb W.hby hd) rfl q) w
theorem k_iinc (W : WS p l e R s m args below meth c Z a0 EL nw n0 y code maxL ret T h sf cells slots) {k : Nat} {cst : Int} {x z : Int32} {L' : Array Slot} (d : D code pc (.iinc k cst) 3 pc')     (hl : L[k]? = some (.val (.int x))) (hz : x + Int32.ofInt cst = z) (hl' : storeLocals L k (.int z) = some L') (w : WP p e below Φ T (mkF m pc' L' (S))) : WP p e below Φ T (mkF m pc L (S)) := by
  obtain ⟨hd, rfl⟩ := d
  exact WP.st (fun _ q => XS.iinc W.here W.hx rfl (hb W.hby hd) hl (by rw [hz]; exact hl') q) w
theorem k_goto (W : WS p l e R s m args below meth c Z a0 EL nw n0 y code maxL ret T h sf cells slots) {o : Int} (pc1 : Nat) (d : D code pc (.goto o) 3 pc') (ho : 0 ≤ (pc : Int) + o ∧ ((pc : Int) + o).toNat = pc1) (w : WP p e below Φ T (mkF m pc1 L S)) : WP p e below Φ T (mkF m pc L S) := by
  obtain ⟨hd, rfl⟩ := d
  exact WP.st (fun _ q => XS.goto W.here W.hx rfl (pc0 := pc) (pc' := pc1) rfl (hb W.hby hd) ho.1 ho.2 q) w
def icP : ClassFile.Cond → Int32 → Prop
  | .eq, x => x = 0
  | .ne, x => ¬ x = 0
  | .lt, x => x < 0
  | .ge, x => ¬ x < 0
  | .gt, x => 0 < x
  | .le, x => ¬ 0 < x
def ic2 : ClassFile.Cond → Int32 → Int32 → Prop
  | .eq, x, y => x = y
  | .ne, x, y => ¬ x = y
  | .lt, x, y => x < y
  | .ge, x, y => ¬ x < y
  | .gt, x, y => y < x
  | .le, x, y => ¬ y < x
theorem icP_iff (cd : ClassFile.Cond) (x : Int32) : ifCond.holds cd x = true ↔ icP cd x := by
  cases cd <;> simp [ifCond.holds, icP, Int32.not_lt, Int32.not_le]
theorem ic2_iff (cd : ClassFile.Cond) (x y : Int32) : if_icmp.holds cd x y = true ↔ ic2 cd x y := by
  cases cd <;> simp [if_icmp.holds, ic2, Int32.not_lt, Int32.not_le]
theorem k_ifY (W : WS p l e R s m args below meth c Z a0 EL nw n0 y code maxL ret T h sf cells slots) {cd : ClassFile.Cond} {x : Int32} {o : Int} (pc1 : Nat) (d : D code pc (.ifCond cd o) 3 pc') (ho : 0 ≤ (pc : Int) + o ∧ ((pc : Int) + o).toNat = pc1) (hc : icP cd x) (w : WP p e below Φ T (mkF m pc1 L S)) : WP p e below Φ T (mkF m pc L (.int x :: S)) := by
  obtain ⟨hd, rfl⟩ := d
  exact WP.st (fun _ q => XS.ifYes W.here W.hx rfl (pc0 := pc) (pc' := pc1) rfl (hb W.hby hd) rfl ((icP_iff _ _).mpr hc) ho.1 ho.2 q) w
theorem k_ifN (W : WS p l e R s m args below meth c Z a0 EL nw n0 y code maxL ret T h sf cells slots) {cd : ClassFile.Cond} {x : Int32} {o : Int} (d : D code pc (.ifCond cd o) 3 pc') (hc : ¬ icP cd x) (w : WP p e below Φ T (mkF m pc' L S)) : WP p e below Φ T (mkF m pc L (.int x :: S)) := by
  obtain ⟨hd, rfl⟩ := d
  exact WP.st (fun _ q => XS.ifNo W.here W.hx rfl (hb W.hby hd) rfl (by cases hh : ifCond.holds cd x with | false => rfl | true => exact absurd ((icP_iff _ _).mp hh) hc) q) w
theorem k_if (W : WS p l e R s m args below meth c Z a0 EL nw n0 y code maxL ret T h sf cells slots) {cd : ClassFile.Cond} {x : Int32} {o : Int} (pc1 : Nat) (d : D code pc (.ifCond cd o) 3 pc') (ho : 0 ≤ (pc : Int) + o ∧ ((pc : Int) + o).toNat = pc1) (w1 : icP cd x → WP p e below Φ T (mkF m pc1 L S)) (w2 : ¬ icP cd x → WP p e below Φ T (mkF m pc' L S)) : WP p e below Φ T (mkF m pc L (.int x :: S)) := by
  by_cases q : icP cd x
  · exact k_ifY W pc1 d ho q (w1 q)
  · exact k_ifN W d q (w2 q)
theorem k_icY (W : WS p l e R s m args below meth c Z a0 EL nw n0 y code maxL ret T h sf cells slots) {cd : ClassFile.Cond} {x z : Int32} {o : Int} (pc1 : Nat) (d : D code pc (.if_icmp cd o) 3 pc') (ho : 0 ≤ (pc : Int) + o ∧ ((pc : Int) + o).toNat = pc1) (hc : ic2 cd x z) (w : WP p e below Φ T (mkF m pc1 L S)) : WP p e below Φ T (mkF m pc L (.int z :: .int x :: S)) := by
  obtain ⟨hd, rfl⟩ := d
  exact WP.st (fun _ q => XS.icmpYes W.here W.hx rfl (pc0 := pc) (pc' := pc1) rfl (hb W.hby hd) rfl ((ic2_iff _ _ _).mpr hc) ho.1 ho.2 q) w
theorem k_icN (W : WS p l e R s m args below meth c Z a0 EL nw n0 y code maxL ret T h sf cells slots) {cd : ClassFile.Cond} {x z : Int32} {o : Int} (d : D code pc (.if_icmp cd o) 3 pc') (hc : ¬ ic2 cd x z) (w : WP p e below Φ T (mkF m pc' L S)) : WP p e below Φ T (mkF m pc L (.int z :: .int x :: S)) := by
  obtain ⟨hd, rfl⟩ := d
  exact WP.st (fun _ q => XS.icmpNo W.here W.hx rfl (hb W.hby hd) rfl (by cases hh : if_icmp.holds cd x z with | false => rfl | true => exact absurd ((ic2_iff _ _ _).mp hh) hc) q) w
theorem k_ic (W : WS p l e R s m args below meth c Z a0 EL nw n0 y code maxL ret T h sf cells slots) {cd : ClassFile.Cond} {x z : Int32} {o : Int} (pc1 : Nat) (d : D code pc (.if_icmp cd o) 3 pc') (ho : 0 ≤ (pc : Int) + o ∧ ((pc : Int) + o).toNat = pc1) (w1 : ic2 cd x z → WP p e below Φ T (mkF m pc1 L S)) (w2 : ¬ ic2 cd x z → WP p e below Φ T (mkF m pc' L S)) : WP p e below Φ T (mkF m pc L (.int z :: .int x :: S)) := by
  by_cases q : ic2 cd x z
  · exact k_icY W pc1 d ho q (w1 q)
  · exact k_icN W d q (w2 q)
theorem k_nullY (W : WS p l e R s m args below meth c Z a0 EL nw n0 y code maxL ret T h sf cells slots) {o : Int} (pc1 : Nat) (d : D code pc (.ifnull o) 3 pc') (ho : 0 ≤ (pc : Int) + o ∧ ((pc : Int) + o).toNat = pc1) (w : WP p e below Φ T (mkF m pc1 L S)) : WP p e below Φ T (mkF m pc L (.null :: S)) := by
  obtain ⟨hd, rfl⟩ := d
  exact WP.st (fun _ q => XS.ifnullYes W.here W.hx rfl (pc0 := pc) (pc' := pc1) rfl (hb W.hby hd) rfl ho.1 ho.2 q) w
theorem k_nullN (W : WS p l e R s m args below meth c Z a0 EL nw n0 y code maxL ret T h sf cells slots) {o : Int} {b : Addr} (d : D code pc (.ifnull o) 3 pc') (w : WP p e below Φ T (mkF m pc' L S)) : WP p e below Φ T (mkF m pc L (.ref b :: S)) := by
  obtain ⟨hd, rfl⟩ := d
  exact WP.st (fun _ q => XS.ifnullNo W.here W.hx rfl (hb W.hby hd) rfl q) w
theorem k_nnY (W : WS p l e R s m args below meth c Z a0 EL nw n0 y code maxL ret T h sf cells slots) {o : Int} {b : Addr} (pc1 : Nat) (d : D code pc (.ifnonnull o) 3 pc') (ho : 0 ≤ (pc : Int) + o ∧ ((pc : Int) + o).toNat = pc1) (w : WP p e below Φ T (mkF m pc1 L S)) : WP p e below Φ T (mkF m pc L (.ref b :: S)) := by
  obtain ⟨hd, rfl⟩ := d
  exact WP.st (fun _ q => XS.ifnonnullYes W.here W.hx rfl (pc0 := pc) (pc' := pc1) rfl (hb W.hby hd) rfl ho.1 ho.2 q) w
theorem k_nnN (W : WS p l e R s m args below meth c Z a0 EL nw n0 y code maxL ret T h sf cells slots) {o : Int} (d : D code pc (.ifnonnull o) 3 pc') (w : WP p e below Φ T (mkF m pc' L S)) : WP p e below Φ T (mkF m pc L (.null :: S)) := by
  obtain ⟨hd, rfl⟩ := d
  exact WP.st (fun _ q => XS.ifnonnullNo W.here W.hx rfl (hb W.hby hd) rfl q) w
def acP : ACond → Value → Value → Prop
  | .eq, x, y => x = y
  | .ne, x, y => ¬ x = y
theorem k_acY (W : WS p l e R s m args below meth c Z a0 EL nw n0 y code maxL ret T h sf cells slots) {cd : ACond} {x z : Value} {o : Int} (pc1 : Nat) (d : D code pc (.if_acmp cd o) 3 pc') (h1 : x.isRef = true) (h2 : z.isRef = true) (ho : 0 ≤ (pc : Int) + o ∧ ((pc : Int) + o).toNat = pc1) (hc : acP cd x z) (w : WP p e below Φ T (mkF m pc1 L S)) : WP p e below Φ T (mkF m pc L (z :: x :: S)) := by
  obtain ⟨hd, rfl⟩ := d
  obtain ⟨locs, X, -⟩ := id W
  cases cd
  · exact WP.st (fun _ q => Jvm.RoadKit.acmp X W.hx rfl h1 h2 (pc0 := pc) (pc' := pc1) (same := true) rfl (hb W.hby hd) rfl (decide_eq_true hc) ho.1 (by simp [acV, ho.2]) q) w
  · exact WP.st (fun _ q => Jvm.RoadKit.acmp X W.hx rfl h1 h2 (pc0 := pc) (pc' := pc1) (same := false) rfl (hb W.hby hd) rfl (decide_eq_false hc) ho.1 (by simp [acV, ho.2]) q) w
theorem k_acN (W : WS p l e R s m args below meth c Z a0 EL nw n0 y code maxL ret T h sf cells slots) {cd : ACond} {x z : Value} {o : Int} (d : D code pc (.if_acmp cd o) 3 pc') (h1 : x.isRef = true) (h2 : z.isRef = true) (ho : 0 ≤ (pc : Int) + o) (hc : ¬ acP cd x z) (w : WP p e below Φ T (mkF m pc' L S)) : WP p e below Φ T (mkF m pc L (z :: x :: S)) := by
  obtain ⟨hd, rfl⟩ := d
  obtain ⟨locs, X, -⟩ := id W
  cases cd
  · exact WP.st (fun _ q => Jvm.RoadKit.acmp X W.hx rfl h1 h2 (pc0 := pc) (pc' := pc + 3) (same := false) rfl (hb W.hby hd) rfl (decide_eq_false hc) ho (by simp [acV]) q) w
  · exact WP.st (fun _ q => Jvm.RoadKit.acmp X W.hx rfl h1 h2 (pc0 := pc) (pc' := pc + 3) (same := true) rfl (hb W.hby hd) rfl (decide_eq_true (Classical.not_not.mp hc)) ho (by simp [acV]) q) w
end Base

/-! ## small facts on numbers -/
abbrev i2c (x : Int32) : Int32 := x.toUInt32.toUInt16.toUInt32.toInt32
abbrev i2b (x : Int32) : Int32 := x.toInt8.toInt32
abbrev Rg (x : Int32) (n : Int) : Prop := 0 ≤ x.toInt ∧ x.toInt < n
theorem Rg.mono {x : Int32} {n k : Int} (q : Rg x n) (h : n ≤ k) : Rg x k := ⟨q.1, Int.lt_of_lt_of_le q.2 h⟩
theorem toInt_and_nonneg (x m : Int32) (hm : 0 ≤ m.toInt) : 0 ≤ (x &&& m).toInt ∧ (x &&& m).toInt ≤ m.toInt := by
  have e1 : (x &&& m).toBitVec = x.toBitVec &&& m.toBitVec := rfl
  have h1 : m.toInt = m.toBitVec.toNat := by
    have : m.toInt = m.toBitVec.toInt := rfl
    rw [this] at hm ⊢
    rw [BitVec.toInt_eq_toNat_cond] at hm ⊢
    split at hm <;> split <;> omega
  have h2 : (x.toBitVec &&& m.toBitVec).toNat ≤ m.toBitVec.toNat := by rw [BitVec.toNat_and]; exact Nat.and_le_right
  have hm2 : 2 * m.toBitVec.toNat < 2 ^ 32 := by
    have : m.toInt < 2 ^ 31 := Int32.toInt_lt m
    omega
  have h3 : (x &&& m).toInt = (x.toBitVec &&& m.toBitVec).toNat := by
    show (x.toBitVec &&& m.toBitVec).toInt = _
    rw [BitVec.toInt_eq_toNat_cond, if_pos (by omega)]
  rw [h3, h1]; omega
theorem Rg.and (x m : Int32) {n : Int} (hm : 0 ≤ m.toInt ∧ m.toInt < n) : Rg (x &&& m) n := by
  have := toInt_and_nonneg x m hm.1; exact ⟨this.1, by omega⟩
theorem toInt_i2c (x : Int32) : (i2c x).toInt = x.toBitVec.toNat % 65536 := by
  have h : (i2c x).toBitVec = (x.toBitVec.setWidth 16).setWidth 32 := rfl
  show (i2c x).toBitVec.toInt = _
  rw [h, BitVec.toInt_eq_toNat_cond, BitVec.toNat_setWidth, BitVec.toNat_setWidth]
  have : x.toBitVec.toNat % 2 ^ 16 < 2 ^ 16 := Nat.mod_lt _ (by decide)
  rw [Nat.mod_eq_of_lt (a := x.toBitVec.toNat % 2 ^ 16) (by omega), if_pos (by omega)]
  rfl
theorem rg_i2c (x : Int32) : Rg (i2c x) 65536 := by rw [Rg, toInt_i2c]; omega
theorem natOf {x : Int32} (q : 0 ≤ x.toInt) : (x.toBitVec.toNat : Int) = x.toInt := by
  have : x.toInt = x.toBitVec.toInt := rfl
  rw [this] at q ⊢
  rw [BitVec.toInt_eq_toNat_cond] at q ⊢
  split at q <;> split <;> omega
theorem Rg.c {x : Int32} (q : Rg x 65536) : i2c x = x := by
  apply Int32.toInt_inj.mp
  have := natOf q.1; rw [toInt_i2c]; have h2 := q.2; omega
theorem Rg.nar {x : Int32} (q : Rg x 65536) : nar .char x = x := q.c
theorem Rg.fits {x : Int32} (q : Rg x 65536) : fits .char (.int x) = true := by
  have h0 : (0 : Int32) ≤ x := Int32.le_iff_toInt_le.mpr q.1
  have h1 : x ≤ 65535 := Int32.le_iff_toInt_le.mpr (by have := q.2; have e : (65535 : Int32).toInt = 65535 := by decide
                                                       omega)
  simp [Jvm.fits, h0, h1]
theorem Rg.le255 {x : Int32} (q : Rg x 256) : ¬ 255 < x := by rw [Int32.lt_iff_toInt_lt]; have := q.2; have h : (255 : Int32).toInt = 255 := by decide
                                                              omega
theorem nar_i2b (x : Int32) : nar .byte (i2b x) = i2b x := by simp [nar, i2b]
theorem fits_i2b (x : Int32) : Jvm.fits .byte (.int (i2b x)) = true := by
  have e : (i2b x).toInt = x.toInt8.toInt := Int8.toInt_toInt32 _
  have h0 : (-128 : Int32) ≤ i2b x := Int32.le_iff_toInt_le.mpr (by rw [e]; exact Int8.le_toInt _)
  have h1 : i2b x ≤ 127 := Int32.le_iff_toInt_le.mpr (by rw [e]; exact Int8.toInt_le _)
  simp [Jvm.fits, h0, h1]
theorem shr0 (x : Int32) : x >>> ((0 : Int32) &&& 31) = x := by
  have : ((0 : Int32) &&& 31) = 0 := by decide
  rw [this]; simp
theorem Rg.fin {x : Int32} (q : Rg x 256) : ∃ k : Fin 256, x = Int32.ofNat k.val := by
  obtain ⟨h1, h2⟩ := q
  obtain ⟨n, hn⟩ : ∃ n : Nat, x.toInt = n := ⟨x.toInt.toNat, (Int.toNat_of_nonneg h1).symm⟩
  refine ⟨⟨n, by omega⟩, ?_⟩
  apply Int32.toInt_inj.mp
  rw [Int32.toInt_ofNat_of_lt (by simp; omega), hn]
theorem lo_all : ∀ k : Fin 256, (i2b (Int32.ofNat k.val)) &&& 255 = Int32.ofNat k.val := by decide +kernel
theorem lo_i2b {x : Int32} (q : Rg x 256) : (i2b x) &&& 255 = x := by
  obtain ⟨k, rfl⟩ := q.fin; exact lo_all k
theorem i2b_inj {x y : Int32} (q : Rg x 256) (r : Rg y 256) (h : i2b x = i2b y) : x = y := by
  rw [← lo_i2b q, ← lo_i2b r, h]
theorem Rg.mod {x k : Int32} {n : Int} (q : Rg x n) (hk : 0 < k.toInt) : Rg (x % k) k.toInt := by
  have h : (x % k).toInt = x.toInt.tmod k.toInt := Int32.toInt_mod _ _
  rw [Rg, h]
  have h1 := q.1
  rw [Int.tmod_eq_emod_of_nonneg h1]
  exact ⟨Int.emod_nonneg _ (by omega), Int.emod_lt_of_pos _ hk⟩
theorem Rg.add {x y : Int32} {n k : Int} (q : Rg x n) (r : Rg y k) (h : n + k ≤ 2147483648) : Rg (x + y) (n + k - 1) := by
  have e : (x + y).toInt = x.toInt + y.toInt := by
    rw [Int32.toInt_add]
    have h1 := q.1; have h2 := q.2; have h3 := r.1; have h4 := r.2
    rw [Int.bmod_eq_of_le (by omega) (by omega)]
  rw [Rg, e]
  have h1 := q.1; have h2 := q.2; have h3 := r.1; have h4 := r.2
  omega
theorem toInt_of {i : Nat} (h : i < 2147483648) : (Int32.ofNat i).toInt = i := Int32.toInt_ofNat_of_lt (by simpa using h)
theorem ix_of {i : Nat} (h : i < 2147483648) : ¬ Int32.ofNat i < 0 ∧ (Int32.ofNat i).toNatClampNeg = i := by
  refine ⟨?_, ?_⟩
  · rw [Int32.lt_iff_toInt_lt, toInt_of h]; simp
  · unfold Int32.toNatClampNeg; rw [toInt_of h]; rfl
theorem of_lt {i n : Nat} (h : i < n) (hn : n < 2147483648) : Int32.ofNat i < Int32.ofNat n := by
  rw [Int32.lt_iff_toInt_lt, toInt_of hn, toInt_of (by omega)]; omega
theorem of_ge {i n : Nat} (h : n ≤ i) (hn : i < 2147483648) : ¬ Int32.ofNat i < Int32.ofNat n := by
  rw [Int32.lt_iff_toInt_lt, toInt_of hn, toInt_of (by omega)]; omega
theorem of_sub {i n : Nat} (h : n ≤ i) (hi : i < 2147483648) : ¬ Int32.ofNat i - Int32.ofNat n < 0 := by
  have e : Int32.ofNat i - Int32.ofNat n = Int32.ofNat (i - n) := by
    apply Int32.toInt_inj.mp
    rw [Int32.toInt_sub, toInt_of hi, toInt_of (i := n) (by omega), toInt_of (i := i - n) (by omega), Int.bmod_eq_of_le (by omega) (by omega)]; omega
  rw [e]; exact (ix_of (by omega)).1
theorem of_inj {i n : Nat} (hi : i < 2147483648) (hn : n < 2147483648) (h : Int32.ofNat i = Int32.ofNat n) : i = n := by
  have := congrArg Int32.toInt h; rw [toInt_of hi, toInt_of hn] at this; omega
theorem of_ne0 {n : Nat} (h : 0 < n) (hn : n < 2147483648) : ¬ Int32.ofNat n = 0 := fun q => by
  have h1 := congrArg Int32.toInt q; rw [toInt_of hn] at h1
  have h2 : (0 : Int32).toInt = 0 := by decide
  omega
theorem cmp_step {cs : List Int32} {vs : List Value} {i : Nat} {ci : Int32} (hci : cs[i]? = some ci) (hl : vs.length = cs.length) : (((cs.take i).map i2b).map Value.int ++ vs.drop i).set i (.int (i2b ci)) = ((cs.take (i + 1)).map i2b).map Value.int ++ vs.drop (i + 1) := by
  have h0 : i < cs.length := (List.getElem?_eq_some_iff.mp hci).1
  have h1 : (((cs.take i).map i2b).map Value.int).length = i := by simp; omega
  have h2 : i < vs.length := by omega
  rw [List.set_append_right _ _ (by omega), h1, Nat.sub_self, List.drop_eq_getElem_cons h2, List.set_cons_zero, List.take_add_one, hci]
  simp
theorem le7 {n : Nat} (h : n ≤ 7) : ¬ (7 : Int32) < Int32.ofNat n := by
  have h7 : (7 : Int32) = Int32.ofNat 7 := rfl
  rw [h7]; exact of_ge h (by decide)
theorem of_succ (i : Nat) : Int32.ofNat i + Int32.ofInt 1 = Int32.ofNat (i + 1) := by
  rw [Int32.ofNat_add]; rfl
theorem rgS {x : Int32} {L : List Int32} {n : Int} (q : Rg x n) (r : ∀ c ∈ L, Rg c n) : ∀ c ∈ x :: L, Rg c n := fun c hc => (List.mem_cons.mp hc).elim (fun e => e ▸ q) (r c)
theorem cat_ref {v : Value} (h : v.isRef = true) : v.category = 1 := by cases v <;> simp_all [Value.isRef, Value.category]
theorem cat_i (x : Int32) : (Value.int x).category = 1 := rfl
theorem cat_l (x : Int64) : (Value.long x).category = 2 := rfl
theorem cat_r (x : Addr) : (Value.ref x).category = 1 := rfl
theorem cat_n : Value.null.category = 1 := rfl
theorem nar_refv {t : FieldType} {v : Value} (h : v.isRef = true) (ht : t.isReference = true) : narrow t v = v := by cases t <;> simp_all [narrow, FieldType.isReference]
theorem fits_refv {t : FieldType} {v : Value} (h : v.isRef = true) (ht : t.isReference = true) : Jvm.fits t v = true := by cases t <;> cases v <;> simp_all [Jvm.fits, Value.isRef, FieldType.isReference]

/-! ## what is known of a heap -/
section Facts
variable {Z : State} {h h' : Heap} {a b : Addr} {ty : FieldType} {vs : List Value} {ws : List Addr} {C : String}
def Av (Z : State) (h : Heap) (a : Addr) (ty : FieldType) (vs : List Value) : Prop :=
  ∃ c : Cell, Arr Z h a c ty ∧ c.slots.toList = vs ∧ vs.length < 2147483648 ∧ ∀ v ∈ vs, fits ty v = true
theorem Av.lt (F : Av Z h a ty vs) : a < h.size := by obtain ⟨c, A, -⟩ := F; exact A.lt
theorem Av.keep (F : Av Z h a ty vs) (K : Keep h h' ws) (q : a ∉ ws) : Av Z h' a ty vs := by obtain ⟨c, A, r⟩ := F; exact ⟨c, ⟨K.2.1 a c A.1 q, A.2⟩, r⟩
theorem Av.len (F : Av Z h a ty vs) : vs.length < 2147483648 := F.choose_spec.2.2.1
theorem fits_default (ty : FieldType) : fits ty (defaultValue ty) = true := by cases ty <;> simp [fits, defaultValue]
theorem Av.new {k : ClassId} {z : Int32} (A : Arr Z h a (newA k ty z) ty) (n : Nat) (q : z.toNatClampNeg = n) : Av Z h a ty (List.replicate n (defaultValue ty)) := by
  refine ⟨_, A, by simp [newA, q], ?_, fun v hv => ?_⟩
  · rw [List.length_replicate, ← q]; have := Int32.toInt_lt z; unfold Int32.toNatClampNeg; omega
  · rw [List.eq_of_mem_replicate hv]; exact fits_default ty
theorem Av.set {j : Nat} {v : Value} (F : Av Z h a ty vs) (W : Wr h h' a j v) (hv : fits ty v = true) : Av Z h' a ty (vs.set j v) := by
  obtain ⟨c, A, r1, r2, r3⟩ := F
  refine ⟨c.setSlot j v, A.same W, by simp [Cell.setSlot, r1], by simpa using r2, fun u hu => ?_⟩
  rcases List.mem_or_eq_of_mem_set hu with q | q
  · exact r3 u q
  · rw [q]; exact hv
theorem Av.of_arv {k : ClassId} {z : Int32} {d : Value} (F : Arv Z h a k ty z vs d) (q : z.toNatClampNeg = vs.length) : Av Z h a ty vs := by
  obtain ⟨c, A, -, r1, r2, H, G⟩ := F
  have e : c.slots.toList = vs := by
    apply List.ext_getElem?; intro i
    by_cases hi : i < c.slots.size
    · have := H i hi
      rw [Array.getElem?_toList, this, List.getD_eq_getElem?_getD]
      have hv : i < vs.length := by omega
      simp [hv]
    · rw [Array.getElem?_toList, Array.getElem?_eq_none (by omega), List.getElem?_eq_none (by omega)]
  refine ⟨c, A, e, ?_, fun v hv => ?_⟩
  · rw [← q]; have := Int32.toInt_lt z; unfold Int32.toNatClampNeg; omega
  · obtain ⟨i, hi, rfl⟩ := List.mem_iff_getElem.mp hv
    have := G i (by omega)
    rwa [List.getD_eq_getElem?_getD, List.getElem?_eq_getElem hi] at this
theorem keep_ext (E : Ext h h') (ws : List Addr) : Keep h h' ws := (Keep.refl h ws).ext E
theorem nin1 {x y : Addr} (q : x ≠ y) : x ∉ [y] := ninS q nin0
theorem Sta.keep {n d : String} {v : Value} (F : Sta Z h C n d v) (K : Keep h h' ws) (q : ∀ x ∈ ws, ∀ cell : Cell, h[x]? = some cell → cell.vm.isStatics = false) : Sta Z h' C n d v := by
  obtain ⟨cf, i, k, f, st, cell, h1, h2, h3, h4, h5, h6, h7⟩ := F
  exact ⟨cf, i, k, f, st, cell, h1, h2, h3, h4, K.2.1 _ _ h5 (fun hm => by have := q _ hm _ h5; rw [h6] at this; cases this), h6, h7⟩
theorem Av.plain (F : Av Z h a ty vs) : ∀ cell : Cell, h[a]? = some cell → cell.vm.isStatics = false := fun cell q => by
  obtain ⟨c, A, -⟩ := F; cases A.1.symm.trans q; exact Arr.plain A
theorem Exa.plain (F : Exa Z h a C) : ∀ cell : Cell, h[a]? = some cell → cell.vm.isStatics = false := fun cell q => by
  obtain ⟨c, _, h1, _, _, h4, _⟩ := F; cases h1.symm.trans q; exact h4
theorem ne_av {ty' : FieldType} {vs' : List Value} (F : Av Z h a ty vs) (G : Av Z h b ty' vs') (q : ty ≠ ty') : a ≠ b := fun e => by
  subst e
  obtain ⟨c, A, -⟩ := F; obtain ⟨c', A', -⟩ := G
  cases A.1.symm.trans A'.1
  obtain ⟨-, k, hk, comp, hkind⟩ := A.2.1
  obtain ⟨-, k', hk', comp', hkind'⟩ := A'.2.1
  cases hk.symm.trans hk'
  have := hkind.symm.trans hkind'
  injection this with _ e
  exact q e
theorem ne_len {vs' : List Value} (F : Av Z h a ty vs) (G : Av Z h b ty vs') (q : vs ≠ vs') : a ≠ b := fun e => by
  subst e
  obtain ⟨c, A, r, -⟩ := F; obtain ⟨c', A', r', -⟩ := G
  cases A.1.symm.trans A'.1
  exact q (r.symm.trans r')
theorem ne_exav {n : Nat} {a0 : Array Value} (E : Exa Z h a C) (w : (Cond.instantiable C n).before a0 Z = true) (F : Av Z h b ty vs) : a ≠ b := by
  obtain ⟨c, A, -⟩ := F; exact ne_arr E w A
/-- a String of Latin-1 bytes (as signed), its byte[] at b -/
def St (Z : State) (h : Heap) (a b : Addr) (bs : List Int32) : Prop :=
  Exa Z h a "java/lang/String" ∧ Fld Z h a "java/lang/String" "coder" "B" (.int 0) ∧ Fld Z h a "java/lang/String" "value" "[B" (.ref b) ∧ Av Z h b .byte (bs.map Value.int)
theorem St.keep {bs : List Int32} (F : St Z h a b bs) (K : Keep h h' ws) (q : a ∉ ws) (r : b ∉ ws) : St Z h' a b bs := ⟨F.1.keep K, F.2.1.keep K q, F.2.2.1.keep K q, F.2.2.2.keep K r⟩
end Facts

/-! ## a body's entry and its ends -/
section Ends
variable {p : Program} {l : Launch} {e : Env} {R : Room} {s : State} {m : MethodId} {args : Array Value} {below : List Frame} {meth : Method} {c : Code} {Z : State} {EL : List (String × Nat)} {nw : Bool} {n0 : Nat} {y : MethodName} {code : ByteArray} {maxL : Nat} {ret : Option FieldType} {T : State} {h : Heap} {sf : List Addr} {cells slots : Nat} {Φ : Outcome → State → Prop} {a0 : Array Value} {pc pc' : Nat} {L : Array Slot} {S : List Value} {rm : Room} {Q : Option Value → Heap → List Addr → Prop}
theorem Ct.body {as' : Array Value} (hp : plainFor y = true)
    (body : ∀ p e s m below meth c s₁, WS p l e rm s m as' below meth c Z a0 EL nw n0 y code maxL ret s₁ h sf 0 0 → WP p e below (Fne s n0 Z EL nw rm Q) s₁ (entryFrame m as' maxL)) : Ct l Z a0 EL nw y code maxL ret rm as' h sf n0 Q := by
  intro ws
  refine MetFree.of_bodySF hp hisR ?_
  intro p e s m args below meth c s₁ Bd hml hP hK
  obtain ⟨rfl, hZ, hh, hC, hn, hE, hsf⟩ := hP
  have X0 : Stand p l e rm s m args below meth c s₁ [] 0 0 := Stand.of_body Bd
  have e0 : s₁.heap = h := by rw [← hh, Bd.state]; rfl
  have ev : s₁.vm = s.vm := by rw [Bd.state]; rfl
  have hs : s.heap = h := hh
  refine body p e s m below meth c s₁ ⟨[], X0.retabled X0.warmed.wide, e0, X0.warmed.since _, wtrans hZ X0.warmed, ?_, ?_, Fr.nil _, hn, ?_, hE, fun _ => X0.warmed, Bd.exec, Bd.bytes, Bd.returns, Bd.notSynchronized, hml, (name_of_methodNamed Bd.named Bd.method).1⟩
  · rw [ev]; exact findClass_of_methodNamed Bd.named
  · rw [ev, hs]; exact CHr.refl hC
  · rw [ev]; exact hsf
theorem WS.fin (W : WS p l e R s m args below meth c Z a0 EL nw n0 y code maxL ret T h sf cells slots) (so : List Addr) (hso : ∀ x ∈ so, x ∈ sf) {v : Option Value} (hv : meth.sig.returnType = none → v = none) (hc : cells ≤ rm.cells) (hs : slots ≤ rm.slots) (q : Q v h so) :
    ∃ fs, (∀ (f : JFrame) (acts : List Action), f.method = m → f.locked = none → f.entered = [] → (doReturn e (T.setTop f) acts v).1 = T.setFrames fs) ∧ (T.setFrames fs).status = .running ∧ Ended (T.setFrames fs) below (.returned v) ∧ Fne s n0 Z EL nw rm Q (.returned v) (T.setFrames fs) := by
  obtain ⟨locs, X, a1, a2, a3, a4, a5, a6, a7, a8, a9, aW, b1, b2, b3, b4, b5⟩ := W
  obtain ⟨fs, q1, q2, q3, q4⟩ := (X.mono hc hs).leaveW a2 (by rw [a1]; exact Nat.le_refl _) hv b4
  refine ⟨fs, q1, q2, q3, v, locs, so, rfl, ?_, a6, ?_, ?_, aW, q4⟩
  · show Q v T.heap so; rw [a1]; exact q
  · show CHr Z EL s.vm s.heap T.vm T.heap; rw [a1]; exact a5
  · show ∀ x ∈ so, n0 ≤ x ∧ x < T.heap.size ∧ Safe Z EL T.vm T.heap x; rw [a1]; exact fun x hx => a8 x (hso x hx)
theorem k_ret (W : WS p l e R s m args below meth c Z a0 EL nw n0 y code maxL ret T h sf cells slots) (d : D code pc .return_ 1 pc') (hr : ret = none) (so : List Addr) (hso : ∀ x ∈ so, x ∈ sf) (hc : cells ≤ rm.cells) (hs : slots ≤ rm.slots) (q : Q none h so) : WP p e below (Fne s n0 Z EL nw rm Q) T (mkF m pc L []) := by
  have hret : meth.sig.returnType = ret := by obtain ⟨_, _, _, _, _, _, _, _, _, _, _, _, _, _, q, -⟩ := W; exact q
  obtain ⟨fs, q1, q2, q3, q4⟩ := W.fin so hso (v := none) (fun _ => rfl) hc hs q
  obtain ⟨locs, X, -⟩ := id W
  exact ⟨_, _, X.returnOut W.hx (hret.trans hr) (W.hd d) q1, q2, q3, q4⟩
theorem k_ireturn (W : WS p l e R s m args below meth c Z a0 EL nw n0 y code maxL ret T h sf cells slots) {z : Int32} (d : D code pc .ireturn 1 pc') (hr : ret = some .int) (so : List Addr) (hso : ∀ x ∈ so, x ∈ sf) (hc : cells ≤ rm.cells) (hs : slots ≤ rm.slots) (q : Q (some (.int z)) h so) : WP p e below (Fne s n0 Z EL nw rm Q) T (mkF m pc L (.int z :: S)) := by
  have hret : meth.sig.returnType = ret := by obtain ⟨_, _, _, _, _, _, _, _, _, _, _, _, _, _, q, -⟩ := W; exact q
  obtain ⟨fs, q1, q2, q3, q4⟩ := W.fin so hso (v := some (.int z)) (fun u => by rw [hret, hr] at u; cases u) hc hs q
  obtain ⟨locs, X, -⟩ := id W
  exact ⟨_, _, retOut X W.hx (hret.trans hr) rfl (Or.inl ⟨rfl, Or.inl rfl, z, rfl⟩) (W.hd d) q1, q2, q3, q4⟩
theorem k_retN (W : WS p l e R s m args below meth c Z a0 EL nw n0 y code maxL ret T h sf cells slots) {z z' : Int32} {t : FieldType} (d : D code pc .ireturn 1 pc') (hr : ret = some t) (ht : t = .boolean ∨ t = .byte ∨ t = .char ∨ t = .short) (hz : nar t z = z') (so : List Addr) (hso : ∀ x ∈ so, x ∈ sf) (hc : cells ≤ rm.cells) (hs : slots ≤ rm.slots) (q : Q (some (.int z')) h so) : WP p e below (Fne s n0 Z EL nw rm Q) T (mkF m pc L (.int z :: S)) := by
  have hret : meth.sig.returnType = ret := by obtain ⟨_, _, _, _, _, _, _, _, _, _, _, _, _, _, q, -⟩ := W; exact q
  obtain ⟨fs, q1, q2, q3, q4⟩ := W.fin so hso (v := some (.int z')) (fun u => by rw [hret, hr] at u; cases u) hc hs q
  obtain ⟨locs, X, -⟩ := id W
  subst hz
  exact ⟨_, _, retN X W.hx (t := t) (hret.trans hr) ht (W.hd d) q1, q2, q3, q4⟩
theorem k_lreturn (W : WS p l e R s m args below meth c Z a0 EL nw n0 y code maxL ret T h sf cells slots) {z : Int64} (d : D code pc .lreturn 1 pc') (hr : ret = some .long) (so : List Addr) (hso : ∀ x ∈ so, x ∈ sf) (hc : cells ≤ rm.cells) (hs : slots ≤ rm.slots) (q : Q (some (.long z)) h so) : WP p e below (Fne s n0 Z EL nw rm Q) T (mkF m pc L (.long z :: S)) := by
  have hret : meth.sig.returnType = ret := by obtain ⟨_, _, _, _, _, _, _, _, _, _, _, _, _, _, q, -⟩ := W; exact q
  obtain ⟨fs, q1, q2, q3, q4⟩ := W.fin so hso (v := some (.long z)) (fun u => by rw [hret, hr] at u; cases u) hc hs q
  obtain ⟨locs, X, -⟩ := id W
  exact ⟨_, _, retOut X W.hx (hret.trans hr) rfl (Or.inr (Or.inl ⟨rfl, rfl, z, rfl⟩)) (W.hd d) q1, q2, q3, q4⟩
theorem k_areturn (W : WS p l e R s m args below meth c Z a0 EL nw n0 y code maxL ret T h sf cells slots) {v : Value} {t : FieldType} (d : D code pc .areturn 1 pc') (hr : ret = some t) (ht : t.isReference = true) (hv : v.isRef = true) (so : List Addr) (hso : ∀ x ∈ so, x ∈ sf) (hc : cells ≤ rm.cells) (hs : slots ≤ rm.slots) (q : Q (some v) h so) : WP p e below (Fne s n0 Z EL nw rm Q) T (mkF m pc L (v :: S)) := by
  have hret : meth.sig.returnType = ret := by obtain ⟨_, _, _, _, _, _, _, _, _, _, _, _, _, _, q, -⟩ := W; exact q
  obtain ⟨fs, q1, q2, q3, q4⟩ := W.fin so hso (v := some v) (fun u => by rw [hret, hr] at u; cases u) hc hs q
  obtain ⟨locs, X, -⟩ := id W
  have hn : narrow t v = v := by cases t <;> simp_all [narrow, FieldType.isReference]
  exact ⟨_, _, retOut X W.hx (hret.trans hr) hn (Or.inr (Or.inr (Or.inr (Or.inr ⟨rfl, ht, hv⟩)))) (W.hd d) q1, q2, q3, q4⟩
end Ends

/-! ## steps on the heap -/
section Steps
variable {p : Program} {l : Launch} {e : Env} {R : Room} {s : State} {m : MethodId} {args : Array Value} {below : List Frame} {meth : Method} {c : Code} {Z : State} {EL : List (String × Nat)} {nw : Bool} {n0 : Nat} {y : MethodName} {code : ByteArray} {maxL : Nat} {ret : Option FieldType} {T : State} {h : Heap} {sf : List Addr} {cells slots : Nat} {Φ : Outcome → State → Prop} {a0 : Array Value} {pc pc' : Nat} {L : Array Slot} {S : List Value}
abbrev catS (S : List Value) : Nat := (S.map fun v => v.category).sum
abbrev Ix (j : Int32) (i : Nat) : Prop := ¬ j < 0 ∧ j.toNatClampNeg = i
theorem Ix.ok {j : Int32} {i n : Nat} (q : Ix j i) (hi : i < n) : ¬ (j < 0 ∨ n ≤ j.toNatClampNeg) := by
  rintro (u | u)
  · exact q.1 u
  · rw [q.2] at u; omega

theorem k_getF (W : WS p l e R s m args below meth c Z a0 EL nw n0 y code maxL ret T h sf cells slots) {index : Nat} {R0 O n d host : String} (dd : D code pc (.getfield index) 3 pc') (w : (Cond.fieldLink y.cls index R0 n d).before a0 Z = true ∨ (Cond.fieldLinkNest y.cls index R0 n d host).before a0 Z = true) (via : Via Z R0 O n d) {a : Addr} {v : Value} (F : Fld Z h a O n d v)
    (k : ∀ T', WS p l e R s m args below meth c Z a0 EL nw n0 y code maxL ret T' h sf cells slots → WP p e below Φ T' (mkF m pc' L (v :: S))) : WP p e below Φ T (mkF m pc L (.ref a :: S)) := by
  obtain ⟨locs, X, eT, hS, hZ, hown, hC, hN, hn, hsf, hE, hWm, b1, b2, b3, b4, b5, b6⟩ := id W
  obtain ⟨T', X', e', st⟩ := getF X W.hx hZ hown w via eT F (g := mkF m pc L (.ref a :: S)) rfl rfl (W.hd dd)
  obtain ⟨hd, rfl⟩ := dd
  exact WP.st (fun t q => st t q) (k T' (W.pack X' e' hN (Nat.le_refl _) (fun H => ⟨H, fun _ q => q⟩) (fun x hx => Or.inl hx)))

theorem k_getS (W : WS p l e R s m args below meth c Z a0 EL nw n0 y code maxL ret T h sf cells slots) {index : Nat} {R0 O n d : String} (dd : D code pc (.getstatic index) 3 pc') (w : (Cond.fieldLink y.cls index R0 n d).before a0 Z = true) (via : Via Z R0 O n d) {v : Value} (F : Sta Z h O n d v)
    (k : ∀ T', WS p l e R s m args below meth c Z a0 EL nw n0 y code maxL ret T' h sf cells slots → WP p e below Φ T' (mkF m pc' L (v :: S))) : WP p e below Φ T (mkF m pc L (S)) := by
  obtain ⟨locs, X, eT, hS, hZ, hown, hC, hN, hn, hsf, hE, hWm, b1, b2, b3, b4, b5, b6⟩ := id W
  obtain ⟨T', X', e', st⟩ := getS X W.hx hZ (host := "") hown w via eT F (g := mkF m pc L S) rfl (W.hd dd)
  obtain ⟨hd, rfl⟩ := dd
  exact WP.st (fun t q => st t q) (k T' (W.pack X' e' hN (Nat.le_refl _) (fun H => ⟨H, fun _ q => q⟩) (fun x hx => Or.inl hx)))

theorem k_putF (W : WS p l e R s m args below meth c Z a0 EL nw n0 y code maxL ret T h sf cells slots) {index kk : Nat} {R0 O n d C : String} {ty : FieldType} (dd : D code pc (.putfield index) 3 pc') (w : (Cond.fieldLink y.cls index R0 n d).before a0 Z = true) (via : Via Z R0 O n d) {a : Addr} {v v' old : Value} (ha : a ∈ sf) (F : Fld Z h a O n d old) (E : Exa Z h a C)
    (Lw : (Cond.lays C O n d).before a0 Z = true ∨ ((Cond.laysFinal C O n d).before a0 Z = true ∧ y.cls = O ∧ y.name = "<init>")) (wi : (Cond.instantiable C kk).before a0 Z = true) (hty : parseFieldDescriptor d = some ty) (hnr : narrow ty v = v') (hf : fits ty v' = true)
    (k : ∀ T' h', WS p l e R s m args below meth c Z a0 EL nw n0 y code maxL ret T' h' sf cells slots → Wr h h' a (Jvm.RoadKit.slotOf Z O n d) v' → WP p e below Φ T' (mkF m pc' L (S))) : WP p e below Φ T (mkF m pc L (v :: .ref a :: S)) := by
  obtain ⟨locs, X, eT, hS, hZ, hown, hC, hN, hn, hsf, hE, hWm, b1, b2, b3, b4, b5, b6⟩ := id W
  obtain ⟨T', h', X', e', Wh, st⟩ := putFN X W.hx hZ hown w via eT F E (Lw.imp id fun q => ⟨q.1, q.2.1, b6.trans q.2.2⟩) wi hty hnr hf (g := mkF m pc L (v :: .ref a :: S)) rfl rfl (W.hd dd)
  obtain ⟨hd, rfl⟩ := dd
  exact WP.st (fun t q => st t q) (k T' h' (W.pack X' e' (Fr.snoc X' hN (hsf a ha).1) (Nat.le_of_eq Wh.size.symm) (fun H => H.wrStep Wh (hsf a ha).2.2) (fun x hx => Or.inl hx)) Wh)

theorem k_new (W : WS p l e R s m args below meth c Z a0 EL nw n0 y code maxL ret T h sf cells slots) {index n : Nat} {C : String} (c' s' : Nat) (dd : D code pc (.new index) 3 pc') (w : (Cond.classLink y.cls index C).before a0 Z = true) (wi : (Cond.instantiable C n).before a0 Z = true) (wz : (Cond.initialized C).before a0 Z = true) (hc : cells + 1 = c' ∧ c' ≤ R.cells) (hl : slots + n = s' ∧ s' ≤ R.slots)
    (k : ∀ T' h' a, a = h.size → WS p l e R s m args below meth c Z a0 EL nw n0 y code maxL ret T' h' (a :: sf) c' s' → Ext h h' → Exa Z h' a C → (∀ {O nm d : String} {ty : FieldType}, Laid Z a0 C O nm d → parseFieldDescriptor d = some ty → Fld Z h' a O nm d (defaultValue ty)) → WP p e below Φ T' (mkF m pc' L (.ref a :: S))) : WP p e below Φ T (mkF m pc L (S)) := by
  obtain ⟨locs, X, eT, hS, hZ, hown, hC, hN, hn, hsf, hE, hWm, b1, b2, b3, b4, b5, b6⟩ := id W
  obtain ⟨rfl, hc⟩ := hc
  obtain ⟨rfl, hl⟩ := hl
  obtain ⟨T', h', X', e', E, A, Dd, -, st⟩ := newO X W.hx hZ hown w wi wz eT (g := mkF m pc L S) rfl (W.hd dd) hc hl
  obtain ⟨hd, rfl⟩ := dd
  exact WP.st (fun t q => st t q) (k T' h' _ rfl (W.pack X' e' hN E.1 (fun H => H.step fun _ _ _ q => E.2 _ _ q) (fun x hx => (List.mem_cons.mp hx).elim (fun q => Or.inr (by subst q; exact ⟨Nat.le_refl _, A.lt⟩)) Or.inl)) E A Dd)

theorem k_newarr (W : WS p l e R s m args below meth c Z a0 EL nw n0 y code maxL ret T h sf cells slots) {aty : ArrayType} {z : Int32} (n c' s' : Nat) (dd : D code pc (.newarray aty) 2 pc') (w : (Cond.arrayClass (newarray.typeOf aty)).before a0 Z = true) (hz : Ix z n) (hb : n * 8 ≤ 536870912) (hc : cells + 1 = c' ∧ c' ≤ R.cells) (hl : slots + n = s' ∧ s' ≤ R.slots)
    (k : ∀ T' h' a, a = h.size → WS p l e R s m args below meth c Z a0 EL nw n0 y code maxL ret T' h' (a :: sf) c' s' → Ext h h' → Av Z h' a (newarray.typeOf aty) (List.replicate n (defaultValue (newarray.typeOf aty))) → WP p e below Φ T' (mkF m pc' L (.ref a :: S))) : WP p e below Φ T (mkF m pc L (.int z :: S)) := by
  obtain ⟨locs, X, eT, hS, hZ, hown, hC, hN, hn, hsf, hE, hWm, b1, b2, b3, b4, b5, b6⟩ := id W
  obtain ⟨rfl, hc⟩ := hc
  obtain ⟨rfl, hl⟩ := hl
  obtain ⟨T', h', cA, X', e', E, A, st⟩ := newP X W.hx hZ w eT (g := mkF m pc L (.int z :: S)) rfl (W.hd dd) rfl hz.1 (cap := n) (Nat.le_of_eq hz.2) hb hc hl
  obtain ⟨hd, rfl⟩ := dd
  exact WP.st (fun t q => st t q) (k T' h' _ rfl (W.pack X' e' hN E.1 (fun H => H.step fun _ _ _ q => E.2 _ _ q) (fun x hx => (List.mem_cons.mp hx).elim (fun q => Or.inr (by subst q; exact ⟨Nat.le_refl _, A.lt⟩)) Or.inl)) E (Av.new A n hz.2))

theorem k_castore (W : WS p l e R s m args below meth c Z a0 EL nw n0 y code maxL ret T h sf cells slots) {a : Addr} {vs : List Value} {j x z : Int32} (i : Nat) (dd : D code pc (.castore) 1 pc') (ha : a ∈ sf) (F : Av Z h a .char vs) (hj : Ix j i) (hi : i < vs.length) (hz : nar .char x = z) (hf : fits .char (.int z) = true)
    (k : ∀ T' h', WS p l e R s m args below meth c Z a0 EL nw n0 y code maxL ret T' h' sf cells slots → Wr h h' a i (.int z) → Av Z h' a .char (vs.set i (.int z)) → WP p e below Φ T' (mkF m pc' L (S))) : WP p e below Φ T (mkF m pc L (.int x :: .int j :: .ref a :: S)) := by
  obtain ⟨locs, X, eT, hS, hZ, hown, hC, hN, hn, hsf, hE, hWm, b1, b2, b3, b4, b5, b6⟩ := id W
  obtain ⟨cl, A, r1, r2, r3⟩ := id F
  have hsz : cl.slots.size = vs.length := by rw [← r1]; simp
  obtain ⟨T', h', X', e', Wh, st⟩ := stC X W.hx hZ eT A (j := j) (x := x) (hj.ok (by rw [hsz]; exact hi)) (g := mkF m pc L (.int x :: .int j :: .ref a :: S)) rfl rfl (W.hd dd)
  rw [hj.2] at X' Wh
  subst hz
  obtain ⟨hd, rfl⟩ := dd
  exact WP.st (fun t q => st t q) (k T' h' (W.pack X' e' (Fr.snoc X' hN (hsf a ha).1) (Nat.le_of_eq Wh.size.symm) (fun H => H.wrStep Wh (hsf a ha).2.2) (fun x hx => Or.inl hx)) Wh (F.set Wh hf))

theorem k_bastore (W : WS p l e R s m args below meth c Z a0 EL nw n0 y code maxL ret T h sf cells slots) {a : Addr} {vs : List Value} {j x z : Int32} (i : Nat) (dd : D code pc (.bastore) 1 pc') (ha : a ∈ sf) (F : Av Z h a .byte vs) (hj : Ix j i) (hi : i < vs.length) (hz : nar .byte x = z) (hf : fits .byte (.int z) = true)
    (k : ∀ T' h', WS p l e R s m args below meth c Z a0 EL nw n0 y code maxL ret T' h' sf cells slots → Wr h h' a i (.int z) → Av Z h' a .byte (vs.set i (.int z)) → WP p e below Φ T' (mkF m pc' L (S))) : WP p e below Φ T (mkF m pc L (.int x :: .int j :: .ref a :: S)) := by
  obtain ⟨locs, X, eT, hS, hZ, hown, hC, hN, hn, hsf, hE, hWm, b1, b2, b3, b4, b5, b6⟩ := id W
  obtain ⟨cl, A, r1, r2, r3⟩ := id F
  have hsz : cl.slots.size = vs.length := by rw [← r1]; simp
  obtain ⟨T', h', X', e', Wh, st⟩ := stB X W.hx hZ eT A (j := j) (x := x) (hj.ok (by rw [hsz]; exact hi)) (g := mkF m pc L (.int x :: .int j :: .ref a :: S)) rfl rfl (W.hd dd)
  rw [hj.2] at X' Wh
  subst hz
  obtain ⟨hd, rfl⟩ := dd
  exact WP.st (fun t q => st t q) (k T' h' (W.pack X' e' (Fr.snoc X' hN (hsf a ha).1) (Nat.le_of_eq Wh.size.symm) (fun H => H.wrStep Wh (hsf a ha).2.2) (fun x hx => Or.inl hx)) Wh (F.set Wh hf))

theorem k_iastore (W : WS p l e R s m args below meth c Z a0 EL nw n0 y code maxL ret T h sf cells slots) {a : Addr} {vs : List Value} {j x z : Int32} (i : Nat) (dd : D code pc (.iastore) 1 pc') (ha : a ∈ sf) (F : Av Z h a .int vs) (hj : Ix j i) (hi : i < vs.length) (hz : x = z) (hf : fits .int (.int z) = true)
    (k : ∀ T' h', WS p l e R s m args below meth c Z a0 EL nw n0 y code maxL ret T' h' sf cells slots → Wr h h' a i (.int z) → Av Z h' a .int (vs.set i (.int z)) → WP p e below Φ T' (mkF m pc' L (S))) : WP p e below Φ T (mkF m pc L (.int x :: .int j :: .ref a :: S)) := by
  obtain ⟨locs, X, eT, hS, hZ, hown, hC, hN, hn, hsf, hE, hWm, b1, b2, b3, b4, b5, b6⟩ := id W
  obtain ⟨cl, A, r1, r2, r3⟩ := id F
  have hsz : cl.slots.size = vs.length := by rw [← r1]; simp
  obtain ⟨T', h', X', e', Wh, st⟩ := stI X W.hx hZ eT A (j := j) (x := x) (hj.ok (by rw [hsz]; exact hi)) (g := mkF m pc L (.int x :: .int j :: .ref a :: S)) rfl rfl (W.hd dd)
  rw [hj.2] at X' Wh
  subst hz
  obtain ⟨hd, rfl⟩ := dd
  exact WP.st (fun t q => st t q) (k T' h' (W.pack X' e' (Fr.snoc X' hN (hsf a ha).1) (Nat.le_of_eq Wh.size.symm) (fun H => H.wrStep Wh (hsf a ha).2.2) (fun x hx => Or.inl hx)) Wh (F.set Wh hf))

theorem k_sastore (W : WS p l e R s m args below meth c Z a0 EL nw n0 y code maxL ret T h sf cells slots) {a : Addr} {vs : List Value} {j x z : Int32} (i : Nat) (dd : D code pc (.sastore) 1 pc') (ha : a ∈ sf) (F : Av Z h a .short vs) (hj : Ix j i) (hi : i < vs.length) (hz : nar .short x = z) (hf : fits .short (.int z) = true)
    (k : ∀ T' h', WS p l e R s m args below meth c Z a0 EL nw n0 y code maxL ret T' h' sf cells slots → Wr h h' a i (.int z) → Av Z h' a .short (vs.set i (.int z)) → WP p e below Φ T' (mkF m pc' L (S))) : WP p e below Φ T (mkF m pc L (.int x :: .int j :: .ref a :: S)) := by
  obtain ⟨locs, X, eT, hS, hZ, hown, hC, hN, hn, hsf, hE, hWm, b1, b2, b3, b4, b5, b6⟩ := id W
  obtain ⟨cl, A, r1, r2, r3⟩ := id F
  have hsz : cl.slots.size = vs.length := by rw [← r1]; simp
  obtain ⟨T', h', X', e', Wh, st⟩ := stS X W.hx hZ eT A (j := j) (x := x) (hj.ok (by rw [hsz]; exact hi)) (g := mkF m pc L (.int x :: .int j :: .ref a :: S)) rfl rfl (W.hd dd)
  rw [hj.2] at X' Wh
  subst hz
  obtain ⟨hd, rfl⟩ := dd
  exact WP.st (fun t q => st t q) (k T' h' (W.pack X' e' (Fr.snoc X' hN (hsf a ha).1) (Nat.le_of_eq Wh.size.symm) (fun H => H.wrStep Wh (hsf a ha).2.2) (fun x hx => Or.inl hx)) Wh (F.set Wh hf))

theorem k_zastore (W : WS p l e R s m args below meth c Z a0 EL nw n0 y code maxL ret T h sf cells slots) {a : Addr} {vs : List Value} {j x z : Int32} (i : Nat) (dd : D code pc (.bastore) 1 pc') (ha : a ∈ sf) (F : Av Z h a .boolean vs) (hj : Ix j i) (hi : i < vs.length) (hz : nar .boolean x = z) (hf : fits .boolean (.int z) = true)
    (k : ∀ T' h', WS p l e R s m args below meth c Z a0 EL nw n0 y code maxL ret T' h' sf cells slots → Wr h h' a i (.int z) → Av Z h' a .boolean (vs.set i (.int z)) → WP p e below Φ T' (mkF m pc' L (S))) : WP p e below Φ T (mkF m pc L (.int x :: .int j :: .ref a :: S)) := by
  obtain ⟨locs, X, eT, hS, hZ, hown, hC, hN, hn, hsf, hE, hWm, b1, b2, b3, b4, b5, b6⟩ := id W
  obtain ⟨cl, A, r1, r2, r3⟩ := id F
  have hsz : cl.slots.size = vs.length := by rw [← r1]; simp
  obtain ⟨T', h', X', e', Wh, st⟩ := stZ X W.hx hZ eT A (j := j) (x := x) (hj.ok (by rw [hsz]; exact hi)) (g := mkF m pc L (.int x :: .int j :: .ref a :: S)) rfl rfl (W.hd dd)
  rw [hj.2] at X' Wh
  subst hz
  obtain ⟨hd, rfl⟩ := dd
  exact WP.st (fun t q => st t q) (k T' h' (W.pack X' e' (Fr.snoc X' hN (hsf a ha).1) (Nat.le_of_eq Wh.size.symm) (fun H => H.wrStep Wh (hsf a ha).2.2) (fun x hx => Or.inl hx)) Wh (F.set Wh hf))

theorem k_caload (W : WS p l e R s m args below meth c Z a0 EL nw n0 y code maxL ret T h sf cells slots) {a : Addr} {vs : List Value} {j : Int32} {v : Value} (i : Nat) (dd : D code pc (.caload) 1 pc') (F : Av Z h a .char vs) (hj : Ix j i) (hi : vs[i]? = some v)
    (w : WP p e below Φ T (mkF m pc' L (v :: S))) : WP p e below Φ T (mkF m pc L (.int j :: .ref a :: S)) := by
  obtain ⟨locs, X, eT, hS, hZ, hown, hC, hN, hn, hsf, hE, hWm, b1, b2, b3, b4, b5, b6⟩ := id W
  obtain ⟨cl, A, r1, r2, r3⟩ := id F
  have hsz : cl.slots.size = vs.length := by rw [← r1]; simp
  have hlt : i < vs.length := (List.getElem?_eq_some_iff.mp hi).1
  have hv : cl.slots[j.toNatClampNeg]? = some v := by rw [hj.2, ← Array.getElem?_toList, r1]; exact hi
  have hA : (s.setVm T.vm).isArrayOf cl .char := State.isArrayOf_alike hZ.alike A.2.1
  obtain ⟨hd, rfl⟩ := id dd
  exact WP.st (fun t q => X.caload W.hx (by rw [eT]; exact A.1) hA A.2.2 (hj.ok (by rw [hsz]; exact hlt)) hv (g := mkF m pc L (.int j :: .ref a :: S)) rfl rfl (W.hd dd) _ q) w

theorem k_iaload (W : WS p l e R s m args below meth c Z a0 EL nw n0 y code maxL ret T h sf cells slots) {a : Addr} {vs : List Value} {j : Int32} {v : Value} (i : Nat) (dd : D code pc (.iaload) 1 pc') (F : Av Z h a .int vs) (hj : Ix j i) (hi : vs[i]? = some v)
    (w : WP p e below Φ T (mkF m pc' L (v :: S))) : WP p e below Φ T (mkF m pc L (.int j :: .ref a :: S)) := by
  obtain ⟨locs, X, eT, hS, hZ, hown, hC, hN, hn, hsf, hE, hWm, b1, b2, b3, b4, b5, b6⟩ := id W
  obtain ⟨cl, A, r1, r2, r3⟩ := id F
  have hsz : cl.slots.size = vs.length := by rw [← r1]; simp
  have hlt : i < vs.length := (List.getElem?_eq_some_iff.mp hi).1
  have hv : cl.slots[j.toNatClampNeg]? = some v := by rw [hj.2, ← Array.getElem?_toList, r1]; exact hi
  have hA : (s.setVm T.vm).isArrayOf cl .int := State.isArrayOf_alike hZ.alike A.2.1
  obtain ⟨hd, rfl⟩ := id dd
  exact WP.st (fun t q => X.iaload W.hx (by rw [eT]; exact A.1) hA A.2.2 (hj.ok (by rw [hsz]; exact hlt)) hv (g := mkF m pc L (.int j :: .ref a :: S)) rfl rfl (W.hd dd) _ q) w

theorem k_baload (W : WS p l e R s m args below meth c Z a0 EL nw n0 y code maxL ret T h sf cells slots) {a : Addr} {vs : List Value} {j : Int32} {v : Value} (i : Nat) (dd : D code pc (.baload) 1 pc') (F : Av Z h a .byte vs) (hj : Ix j i) (hi : vs[i]? = some v)
    (w : WP p e below Φ T (mkF m pc' L (v :: S))) : WP p e below Φ T (mkF m pc L (.int j :: .ref a :: S)) := by
  obtain ⟨locs, X, eT, hS, hZ, hown, hC, hN, hn, hsf, hE, hWm, b1, b2, b3, b4, b5, b6⟩ := id W
  obtain ⟨cl, A, r1, r2, r3⟩ := id F
  have hsz : cl.slots.size = vs.length := by rw [← r1]; simp
  have hlt : i < vs.length := (List.getElem?_eq_some_iff.mp hi).1
  have hv : cl.slots[j.toNatClampNeg]? = some v := by rw [hj.2, ← Array.getElem?_toList, r1]; exact hi
  have hA : (s.setVm T.vm).isArrayOf cl .byte := State.isArrayOf_alike hZ.alike A.2.1
  obtain ⟨hd, rfl⟩ := id dd
  exact WP.st (fun t q => X.baloadBytes W.hx (by rw [eT]; exact A.1) hA A.2.2 (hj.ok (by rw [hsz]; exact hlt)) hv (g := mkF m pc L (.int j :: .ref a :: S)) rfl rfl (W.hd dd) _ q) w

theorem k_aaload (W : WS p l e R s m args below meth c Z a0 EL nw n0 y code maxL ret T h sf cells slots) {a : Addr} {vs : List Value} {ty : FieldType} {j : Int32} {v : Value} (i : Nat) (dd : D code pc .aaload 1 pc') (F : Av Z h a ty vs) (hty : ty.isReference = true) (hj : Ix j i) (hi : vs[i]? = some v)
    (w : WP p e below Φ T (mkF m pc' L (v :: S))) : WP p e below Φ T (mkF m pc L (.int j :: .ref a :: S)) := by
  obtain ⟨locs, X, eT, hS, hZ, hown, hC, hN, hn, hsf, hE, hWm, b1, b2, b3, b4, b5, b6⟩ := id W
  obtain ⟨cl, A, r1, r2, r3⟩ := id F
  have hsz : cl.slots.size = vs.length := by rw [← r1]; simp
  have hlt : i < vs.length := (List.getElem?_eq_some_iff.mp hi).1
  have hv : cl.slots[j.toNatClampNeg]? = some v := by rw [hj.2, ← Array.getElem?_toList, r1]; exact hi
  have hA : (s.setVm T.vm).isArrayOf cl ty := State.isArrayOf_alike hZ.alike A.2.1
  obtain ⟨hd, rfl⟩ := id dd
  exact WP.st (fun t q => X.aaload W.hx (by rw [eT]; exact A.1) hA hty A.2.2 (hj.ok (by rw [hsz]; exact hlt)) hv (g := mkF m pc L (.int j :: .ref a :: S)) rfl rfl (W.hd dd) _ q) w

theorem k_arraylength (W : WS p l e R s m args below meth c Z a0 EL nw n0 y code maxL ret T h sf cells slots) {a : Addr} {ty : FieldType} {vs : List Value} {z : Int32} (dd : D code pc .arraylength 1 pc') (F : Av Z h a ty vs) (hz : vs.length.toInt32 = z) (w : WP p e below Φ T (mkF m pc' L (.int z :: S))) : WP p e below Φ T (mkF m pc L (.ref a :: S)) := by
  obtain ⟨locs, X, eT, hS, hZ, hown, hC, hN, hn, hsf, hE, hWm, b1, b2, b3, b4, b5, b6⟩ := id W
  obtain ⟨cl, A, r1, r2, r3⟩ := id F
  have hsz : cl.slots.size = vs.length := by rw [← r1]; simp
  have hA : (s.setVm T.vm).isArrayOf cl ty := State.isArrayOf_alike hZ.alike A.2.1
  obtain ⟨hd, rfl⟩ := id dd
  exact WP.st (fun t q => X.arraylength W.hx (by rw [eT]; exact A.1) hA (g := mkF m pc L (.ref a :: S)) rfl rfl (W.hd dd) _ (by rw [hsz, hz]; exact q)) w

theorem k_cast (W : WS p l e R s m args below meth c Z a0 EL nw n0 y code maxL ret T h sf cells slots) {index : Nat} {K : String} {a : Addr} (dd : D code pc (.checkcast index) 3 pc') (w : (Cond.classLink y.cls index K).before a0 Z = true) (F : Ins Z h a K true)
    (k : ∀ T', WS p l e R s m args below meth c Z a0 EL nw n0 y code maxL ret T' h sf cells slots → WP p e below Φ T' (mkF m pc' L (.ref a :: S))) : WP p e below Φ T (mkF m pc L (.ref a :: S)) := by
  obtain ⟨locs, X, eT, hS, hZ, hown, hC, hN, hn, hsf, hE, hWm, b1, b2, b3, b4, b5, b6⟩ := id W
  obtain ⟨T', X', e', st⟩ := castY X W.hx hZ hown w eT F (g := mkF m pc L (.ref a :: S)) rfl rfl (W.hd dd)
  obtain ⟨hd, rfl⟩ := dd
  exact WP.st (fun t q => st t q) (k T' (W.pack X' e' hN (Nat.le_refl _) (fun H => ⟨H, fun _ q => q⟩) (fun x hx => Or.inl hx)))
theorem k_instY (W : WS p l e R s m args below meth c Z a0 EL nw n0 y code maxL ret T h sf cells slots) {index : Nat} {K : String} {a : Addr} (dd : D code pc (.instanceof index) 3 pc') (w : (Cond.classLink y.cls index K).before a0 Z = true) (F : Ins Z h a K true)
    (k : ∀ T', WS p l e R s m args below meth c Z a0 EL nw n0 y code maxL ret T' h sf cells slots → WP p e below Φ T' (mkF m pc' L (.int 1 :: S))) : WP p e below Φ T (mkF m pc L (.ref a :: S)) := by
  obtain ⟨locs, X, eT, hS, hZ, hown, hC, hN, hn, hsf, hE, hWm, b1, b2, b3, b4, b5, b6⟩ := id W
  obtain ⟨T', X', e', st⟩ := instY X W.hx hZ hown w eT F (g := mkF m pc L (.ref a :: S)) rfl rfl (W.hd dd)
  obtain ⟨hd, rfl⟩ := dd
  exact WP.st (fun t q => st t q) (k T' (W.pack X' e' hN (Nat.le_refl _) (fun H => ⟨H, fun _ q => q⟩) (fun x hx => Or.inl hx)))

theorem k_ldcI (W : WS p l e R s m args below meth c Z a0 EL nw n0 y code maxL ret T h sf cells slots) {index : Nat} {v : Int32} (dd : D code pc (.ldc index) 2 pc') (w : (Cond.constant y.cls index v).before a0 Z = true) (k : WP p e below Φ T (mkF m pc' L (.int v :: S))) : WP p e below Φ T (mkF m pc L (S)) := by
  obtain ⟨locs, X, eT, hS, hZ, hown, hC, hN, hn, hsf, hE, hWm, b1, b2, b3, b4, b5, b6⟩ := id W
  obtain ⟨hd, rfl⟩ := id dd
  exact WP.st (fun t q => Jvm.Stand.ldcI X W.hx hown (mv (s := s.setVm T.vm) hZ w) (g := mkF m pc L S) rfl (W.hd dd) q) k
theorem k_ldc2J (W : WS p l e R s m args below meth c Z a0 EL nw n0 y code maxL ret T h sf cells slots) {index : Nat} {v : Int64} (dd : D code pc (.ldc2_w index) 3 pc') (w : (Cond.constantLong y.cls index v).before a0 Z = true) (k : WP p e below Φ T (mkF m pc' L (.long v :: S))) : WP p e below Φ T (mkF m pc L (S)) := by
  obtain ⟨locs, X, eT, hS, hZ, hown, hC, hN, hn, hsf, hE, hWm, b1, b2, b3, b4, b5, b6⟩ := id W
  obtain ⟨hd, rfl⟩ := id dd
  exact WP.st (fun t q => Jvm.Stand.ldc2J X W.hx hown (mv (s := s.setVm T.vm) hZ w) (g := mkF m pc L S) rfl (W.hd dd) q) k

theorem k_initO (W : WS p l e R s m args below meth c Z a0 EL nw n0 y code maxL ret T h sf cells slots) {index : Nat} {a : Addr} (Wd : Nat) (dd : D code pc (.invokespecial index) 3 pc') (w1 : (Cond.methodLink y.cls index Lib.objectInit).before a0 Z = true) (w2 : (Cond.instanceMethod Lib.objectInit).before a0 Z = true) (w3 : (Cond.code Lib.objectInit ⟨#[0xb1]⟩ 1 none).before a0 Z = true)
    (hL : L.size = maxL) (hW : catS S ≤ Wd) (hf : 1 ≤ R.frames) (hl : Wd + 12 ≤ R.locals) (k : ∀ T', WS p l e R s m args below meth c Z a0 EL nw n0 y code maxL ret T' h sf cells slots → WP p e below Φ T' (mkF m pc' L (S))) : WP p e below Φ T (mkF m pc L (.ref a :: S)) := by
  obtain ⟨locs, X, eT, hS, hZ, hown, hC, hN, hn, hsf, hE, hWm, b1, b2, b3, b4, b5, b6⟩ := id W
  obtain ⟨T', X', e', st⟩ := initO X W.hx hZ hown w1 w2 w3 eT (g := mkF m pc L (.ref a :: S)) rfl (hL.trans b5.symm) rfl (W.hd dd) hf (W := Wd) (by show 2 * 0 + _ ≤ _; rw [Nat.mul_zero, Nat.zero_add]; exact hW) hl
  obtain ⟨hd, rfl⟩ := dd
  exact WP.st (fun t q => st t q) (k T' (W.pack X' e' hN (Nat.le_refl _) (fun H => ⟨H, fun _ q => q⟩) (fun x hx => Or.inl hx)))

theorem k_ldcO (W : WS p l e R s m args below meth c Z a0 EL nw n0 y code maxL ret T h sf cells slots) {index : Nat} {text : String} (n c' s' : Nat) (hnw : nw = false) (dd : D code pc (.ldc index) 2 pc') (w : (Cond.stringLink y.cls index text).before a0 Z = true) (wS : ∀ a ∈ Bundle.stringAtoms, a.before a0 Z = true) (hn1 : 4 * text.toList.length ≤ n ∧ n ≤ 536870912) (hc : cells + 2 = c' ∧ c' ≤ R.cells) (hl : slots + (n + 4) = s' ∧ s' ≤ R.slots)
    (k : ∀ T' h' a, WS p l e R s m args below meth c Z a0 EL nw n0 y code maxL ret T' h' sf c' s' → Ext h h' → WP p e below Φ T' (mkF m pc' L (.ref a :: S))) : WP p e below Φ T (mkF m pc L (S)) := by
  obtain ⟨locs, X, eT, hS, hZ, hown, hC, hN, hn, hsf, hE, hWm, b1, b2, b3, b4, b5, b6⟩ := id W
  obtain ⟨rfl, hc⟩ := hc
  obtain ⟨rfl, hl⟩ := hl
  obtain ⟨a, T', h', k1, X', e', E, hS', hk', hW', hown', hC', -, st⟩ := ldcOH (EL := EL) X W.hx hZ hown w wS eT hS (Nat.le_refl _) hE hC.1 (g := mkF m pc L S) rfl (W.hd dd) hn1.1 hn1.2 hc hl
  obtain ⟨hd, rfl⟩ := dd
  refine WP.st (fun t q => st t q) (k T' h' a ⟨locs, X', e', ⟨hS'.1, fun j p u v => ⟨(hS'.2 j p u v).1, Nat.lt_of_lt_of_le (hS'.2 j p u v).2 hk'⟩⟩, hW', hown', hC.trans hC', hN, Nat.le_trans hn E.1, fun x hx => ?_, hE, fun u => by (rw [hnw] at u; cases u), b1, b2, b3, b4, b5, b6⟩ E)
  obtain ⟨g1, g2, g3⟩ := hsf x hx
  exact ⟨g1, Nat.lt_of_lt_of_le g2 E.1, hC'.safe g2 g3⟩
theorem k_ldcS (W : WS p l e R s m args below meth c Z a0 EL nw n0 y code maxL ret T h sf cells slots) {index : Nat} {text : String} (bs : List Int32) (n c' s' : Nat) (hnw : nw = false) (dd : D code pc (.ldc index) 2 pc') (w : (Cond.stringLink y.cls index text).before a0 Z = true) (wS : ∀ a ∈ Bundle.stringAtoms, a.before a0 Z = true) (hmem : (y.cls, index) ∈ EL)
    (ht : (∀ c ∈ text.toList, c.toNat < 256) ∧ text.toList.map (fun c => Value.int (Jvm.Lit.byteI c.toNat.toUInt16)) = bs.map Value.int) (hlen : bs.length < 2147483648) (hn1 : 4 * text.toList.length ≤ n ∧ n ≤ 536870912) (hc : cells + 2 = c' ∧ c' ≤ R.cells) (hl : slots + (n + 4) = s' ∧ s' ≤ R.slots)
    (k : ∀ T' h' a b, WS p l e R s m args below meth c Z a0 EL nw n0 y code maxL ret T' h' sf c' s' → Ext h h' → St Z h' a b bs → (∀ x ∈ sf, x ≠ a ∧ x ≠ b) → WP p e below Φ T' (mkF m pc' L (.ref a :: S))) : WP p e below Φ T (mkF m pc L (S)) := by
  obtain ⟨locs, X, eT, hS, hZ, hown, hC, hN, hn, hsf, hE, hWm, b1, b2, b3, b4, b5, b6⟩ := id W
  obtain ⟨rfl, hc⟩ := hc
  obtain ⟨rfl, hl⟩ := hl
  have hzz : (Int32.ofNat bs.length).toNatClampNeg = (bs.map Value.int).length := by
    rw [List.length_map]; unfold Int32.toNatClampNeg; rw [Int32.toInt_ofNat_of_lt (by simpa using hlen)]; rfl
  have hz0 : ¬ Int32.ofNat bs.length < 0 := by
    rw [Int32.lt_iff_toInt_lt, Int32.toInt_ofNat_of_lt (by simpa using hlen)]; simp
  obtain ⟨a, T', h', k1, b, kk, X', e', E, hS', hk', hW', hown', G1, G2, G3, G4, -, -, hC', -, hne, st⟩ := ldcCH (EL := EL) X W.hx hZ hown w wS eT hS (Nat.le_refl _) hE hmem hC.1 (vs := bs.map Value.int) (z := Int32.ofNat bs.length) ht hz0 hzz (g := mkF m pc L S) rfl (W.hd dd) hn1.1 hn1.2 hc hl
  obtain ⟨hd, rfl⟩ := dd
  have hsf' : ∀ x ∈ sf, n0 ≤ x ∧ x < h'.size ∧ Safe Z EL T'.vm h' x := fun x hx => by
    obtain ⟨g1, g2, g3⟩ := hsf x hx
    exact ⟨g1, Nat.lt_of_lt_of_le g2 E.1, hC'.safe g2 g3⟩
  exact WP.st (fun t q => st t q) (k T' h' a b ⟨locs, X', e', ⟨hS'.1, fun j p u v => ⟨(hS'.2 j p u v).1, Nat.lt_of_lt_of_le (hS'.2 j p u v).2 hk'⟩⟩, hW', hown', hC.trans hC', hN, Nat.le_trans hn E.1, hsf', hE, fun u => by (rw [hnw] at u; cases u), b1, b2, b3, b4, b5, b6⟩ E ⟨G1, G2, G3, Av.of_arv G4 hzz⟩ (fun x hx => hne x (hsf' x hx).2.2))
end Steps

/-! ## calls by contract -/
section Calls
variable {p : Program} {l : Launch} {e : Env} {R : Room} {s : State} {m : MethodId} {args : Array Value} {below : List Frame} {meth : Method} {c : Code} {Z : State} {EL : List (String × Nat)} {nw : Bool} {n0 : Nat} {y : MethodName} {code : ByteArray} {maxL : Nat} {ret : Option FieldType} {T : State} {h : Heap} {sf : List Addr} {cells slots : Nat} {Φ : Outcome → State → Prop} {a0 : Array Value} {pc pc' : Nat} {L : Array Slot} {S : List Value}
theorem backCt {z : MethodName} {bytes : ByteArray} {mL : Nat} {rt : Option FieldType} {rm : Room} {as' : Array Value} {sfc : List Addr} {Q : Option Value → Heap → List Addr → Prop} {len Wd : Nat} {vm0 : Vm}
    (hM : Ct l Z a0 EL nw z bytes mL rt rm as' h sfc n0 Q) (hZ : Z.Warmed39 vm0) (wc : (Cond.code z bytes mL rt).before a0 Z = true) (wz : (Cond.initialized z.cls).before a0 Z = true) (hf : rm.frames + 1 ≤ R.frames) (hl : Wd + (mL + 11) + rm.locals ≤ R.locals) (hE : EW Z a0 EL) (hn : n0 ≤ h.size) (H : CHv Z EL vm0 h) (hsf : ∀ x ∈ sfc, n0 ≤ x ∧ x < h.size ∧ Safe Z EL vm0 h x) :
    BackS l R p e below (s.setVm vm0) args z len Wd (fun A a => a = as' ∧ A.U.heap = h ∧ A.cells + rm.cells ≤ R.cells ∧ A.slots + rm.slots ≤ R.slots)
      (fun A _ v B => ∃ L so, Q v B.U.heap so ∧ Fr n0 L ∧ B.locs = A.locs ++ L ∧ B.cells = A.cells + rm.cells ∧ B.slots = A.slots + rm.slots ∧ CHr Z EL vm0 h B.U.vm B.U.heap ∧ (nw = true → (s.setVm vm0).WarmedH B.U.vm) ∧ ∀ x ∈ so, n0 ≤ x ∧ x < B.U.heap.size ∧ Safe Z EL B.U.vm B.U.heap x) := by
  refine BackS.of_freeW (bytes := bytes) (maxL := mL) (ret := rt) (E := fun _ first o t L k n => k = rm.cells ∧ n = rm.slots ∧ ∃ v so, o = .returned v ∧ Q v t.heap so ∧ Fr n0 L ∧ CHr Z EL first.vm first.heap t.vm t.heap ∧ (nw = true → first.WarmedH t.vm) ∧ ∀ x ∈ so, n0 ≤ x ∧ x < t.heap.size ∧ Safe Z EL t.vm t.heap x) (hM []) hf hl ?_ ?_ (fun _ _ _ _ _ _ _ _ _ => trivial) ?_ ?_
  · intro m meth c A a Y hp
    have hU : Z.Warmed39 A.U.vm := wtrans (s := s.setVm vm0) hZ Y.warmed
    exact ⟨by show (Cond.and _ .tt).before a A.U = true; rw [Cond.before_and, mv hU wc]; rfl, mv hU wc, mv hU wz, hp.2.2.1, hp.2.2.2⟩
  · intro m meth c A a g mk Y hp
    have C := CHv.at Y hZ hE H
    refine ⟨hp.1, wtrans (s := s.setVm vm0) hZ Y.warmed, hp.2.1, C.1, hn, hE, fun x hx => ?_⟩
    obtain ⟨q1, q2, q3⟩ := hsf x hx
    exact ⟨q1, q2, C.safe q2 q3⟩
  · rintro a first o t ⟨v, L, so, q1, q2, q3, q4, q5, qw, q6⟩
    exact ⟨L, _, _, q6, rfl, rfl, v, so, q1, q2, q3, q4, qw, q5⟩
  · rintro m meth c A a g mk v t L k n Y hp - - ⟨rfl, rfl, v', so, q1, q2, q3, q4, qw, q5⟩
    cases q1
    refine ⟨L, so, q2, q3, rfl, rfl, rfl, (CHv.at Y hZ hE H).trans ?_, fun u => State.WarmedH.trans Y.warmed (qw u), q5⟩
    rw [← hp.2.1]; exact q4

theorem k_callS (W : WS p l e R s m args below meth c Z a0 EL nw n0 y code maxL ret T h sf cells slots) {z : MethodName} {bytes : ByteArray} {mL : Nat} {rt : Option FieldType} {rm : Room} {sfc : List Addr} {Q : Option Value → Heap → List Addr → Prop} (Wd c' s' : Nat) {argsL rest : List Value} {index : Nat} (dd : D code pc (.invokestatic index) 3 pc') (w1 : (Cond.methodLink y.cls index z).before a0 Z = true) (w2 : (Cond.static z).before a0 Z = true) (hy : z.cls ≠ "java/lang/invoke/MethodHandle" ∧ z.cls ≠ "java/lang/invoke/VarHandle") (hlen : ∀ sig, parseMethodDescriptor z.desc = some sig → argsL.length = sig.parameters.length) (hC : Ct l Z a0 EL nw z bytes mL rt rm argsL.toArray h sfc n0 Q) (w4 : (Cond.code z bytes mL rt).before a0 Z = true) (w3 : (Cond.initialized z.cls).before a0 Z = true) (hsfc : ∀ x ∈ sfc, x ∈ sf) (hL : L.size = maxL) (hW : catS rest ≤ Wd) (hf : rm.frames + 1 ≤ R.frames) (hl : Wd + (mL + 11) + rm.locals ≤ R.locals) (hc : cells + rm.cells = c' ∧ c' ≤ R.cells) (hs : slots + rm.slots = s' ∧ s' ≤ R.slots) (hst : S = argsL.reverse ++ rest) (hnv : ∀ h so, ¬ Q none h so)
    (k : ∀ T' h' (v : Value) so, WS p l e R s m args below meth c Z a0 EL nw n0 y code maxL ret T' h' sf c' s' → Q (some v) h' so → WP p e below Φ T' (mkF m pc' L (v :: rest))) : WP p e below Φ T (mkF m pc L S) := by
  obtain ⟨locs, X, eT, hS, hZ, hown, hC0, hN, hn, hsf, hE, hWm, b1, b2, b3, b4, b5, b6⟩ := id W
  obtain ⟨rfl, hc⟩ := hc
  obtain ⟨rfl, hs⟩ := hs
  have hB := backCt (R := R) (p := p) (e := e) (below := below) (s := s) (args := args) (len := 3) (Wd := Wd) hC hZ w4 w3 hf hl hE hn hC0.1 (fun x hx => hsf x (hsfc x hx))
  obtain ⟨v, vm₁, ⟨U', L', c1, s1⟩, -, X', hS', hg, hpost, st⟩ := callSS X W.hx hown (mvT (s := s.setVm T.vm) hZ w1) (mvT (s := s.setVm T.vm) hZ w2) (mvT (s := s.setVm T.vm) hZ w3) (mvT (s := s.setVm T.vm) hZ w4) hy hB (g := mkF m pc L S) rfl (hL.trans b5.symm) (argsL := argsL) (rest := rest) hlen hst (by show 2 * 0 + _ ≤ _; rw [Nat.mul_zero, Nat.zero_add]; exact hW) (W.hd dd) (fun vm₁ _ => ⟨rfl, eT, hc, hs⟩)
  obtain ⟨L1, so, q1, q2, q3, q4, q5, q6, qw, q7⟩ := hpost
  dsimp only [Pt.U, Pt.locs, Pt.cells, Pt.slots] at X' hS' hg q1 q2 q3 q4 q5 q6 qw q7 st
  subst q3 q4 q5
  obtain ⟨hd, rfl⟩ := dd
  have WW : WS p l e R s m args below meth c Z a0 EL nw n0 y code maxL ret U' U'.heap (so ++ sf) (cells + rm.cells) (slots + rm.slots) := by
    refine ⟨_, X', rfl, hS.trans hS' (by rw [← eT]; exact hg), State.Warmed39.trans (t := s.setVm T.vm) hZ hS'.1, by rw [hS'.1.alike.findClass]; exact hown, hC0.trans q6, hN.app q2, Nat.le_trans hn (by rw [← eT]; exact hg), fun x hx => ?_, hE, fun u => State.WarmedH.trans (t := s.setVm T.vm) (hWm u) (qw u), b1, b2, b3, b4, b5, b6⟩
    rcases List.mem_append.mp hx with u | u
    · exact q7 x u
    · obtain ⟨g1, g2, g3⟩ := hsf x u
      exact ⟨g1, Nat.lt_of_lt_of_le g2 (by rw [← eT]; exact hg), q6.safe g2 g3⟩
  cases v with
  | none => exact absurd q1 (hnv _ _)
  | some v =>
  refine WP.steps st (k _ _ v so (WS.mono (sf' := sf) WW (Nat.le_refl _) (Nat.le_refl _) (fun x hx => List.mem_append_right _ hx)) q1)

theorem k_callS0 (W : WS p l e R s m args below meth c Z a0 EL nw n0 y code maxL ret T h sf cells slots) {z : MethodName} {bytes : ByteArray} {mL : Nat} {rt : Option FieldType} {rm : Room} {sfc : List Addr} {Q : Option Value → Heap → List Addr → Prop} (Wd c' s' : Nat) {argsL rest : List Value} {index : Nat} (dd : D code pc (.invokestatic index) 3 pc') (w1 : (Cond.methodLink y.cls index z).before a0 Z = true) (w2 : (Cond.static z).before a0 Z = true) (hy : z.cls ≠ "java/lang/invoke/MethodHandle" ∧ z.cls ≠ "java/lang/invoke/VarHandle") (hlen : ∀ sig, parseMethodDescriptor z.desc = some sig → argsL.length = sig.parameters.length) (hC : Ct l Z a0 EL nw z bytes mL rt rm argsL.toArray h sfc n0 Q) (w4 : (Cond.code z bytes mL rt).before a0 Z = true) (w3 : (Cond.initialized z.cls).before a0 Z = true) (hsfc : ∀ x ∈ sfc, x ∈ sf) (hL : L.size = maxL) (hW : catS rest ≤ Wd) (hf : rm.frames + 1 ≤ R.frames) (hl : Wd + (mL + 11) + rm.locals ≤ R.locals) (hc : cells + rm.cells = c' ∧ c' ≤ R.cells) (hs : slots + rm.slots = s' ∧ s' ≤ R.slots) (hst : S = argsL.reverse ++ rest) (hnv : ∀ v h so, ¬ Q (some v) h so)
    (k : ∀ T' h'  so, WS p l e R s m args below meth c Z a0 EL nw n0 y code maxL ret T' h' sf c' s' → Q none h' so → WP p e below Φ T' (mkF m pc' L rest)) : WP p e below Φ T (mkF m pc L S) := by
  obtain ⟨locs, X, eT, hS, hZ, hown, hC0, hN, hn, hsf, hE, hWm, b1, b2, b3, b4, b5, b6⟩ := id W
  obtain ⟨rfl, hc⟩ := hc
  obtain ⟨rfl, hs⟩ := hs
  have hB := backCt (R := R) (p := p) (e := e) (below := below) (s := s) (args := args) (len := 3) (Wd := Wd) hC hZ w4 w3 hf hl hE hn hC0.1 (fun x hx => hsf x (hsfc x hx))
  obtain ⟨v, vm₁, ⟨U', L', c1, s1⟩, -, X', hS', hg, hpost, st⟩ := callSS X W.hx hown (mvT (s := s.setVm T.vm) hZ w1) (mvT (s := s.setVm T.vm) hZ w2) (mvT (s := s.setVm T.vm) hZ w3) (mvT (s := s.setVm T.vm) hZ w4) hy hB (g := mkF m pc L S) rfl (hL.trans b5.symm) (argsL := argsL) (rest := rest) hlen hst (by show 2 * 0 + _ ≤ _; rw [Nat.mul_zero, Nat.zero_add]; exact hW) (W.hd dd) (fun vm₁ _ => ⟨rfl, eT, hc, hs⟩)
  obtain ⟨L1, so, q1, q2, q3, q4, q5, q6, qw, q7⟩ := hpost
  dsimp only [Pt.U, Pt.locs, Pt.cells, Pt.slots] at X' hS' hg q1 q2 q3 q4 q5 q6 qw q7 st
  subst q3 q4 q5
  obtain ⟨hd, rfl⟩ := dd
  have WW : WS p l e R s m args below meth c Z a0 EL nw n0 y code maxL ret U' U'.heap (so ++ sf) (cells + rm.cells) (slots + rm.slots) := by
    refine ⟨_, X', rfl, hS.trans hS' (by rw [← eT]; exact hg), State.Warmed39.trans (t := s.setVm T.vm) hZ hS'.1, by rw [hS'.1.alike.findClass]; exact hown, hC0.trans q6, hN.app q2, Nat.le_trans hn (by rw [← eT]; exact hg), fun x hx => ?_, hE, fun u => State.WarmedH.trans (t := s.setVm T.vm) (hWm u) (qw u), b1, b2, b3, b4, b5, b6⟩
    rcases List.mem_append.mp hx with u | u
    · exact q7 x u
    · obtain ⟨g1, g2, g3⟩ := hsf x u
      exact ⟨g1, Nat.lt_of_lt_of_le g2 (by rw [← eT]; exact hg), q6.safe g2 g3⟩
  cases v with
  | some v => exact absurd q1 (hnv _ _ _)
  | none =>
  refine WP.steps st (k _ _ so (WS.mono (sf' := sf) WW (Nat.le_refl _) (Nat.le_refl _) (fun x hx => List.mem_append_right _ hx)) q1)

theorem k_callSn (W : WS p l e R s m args below meth c Z a0 EL nw n0 y code maxL ret T h sf cells slots) {z : MethodName} {bytes : ByteArray} {mL : Nat} {rt : Option FieldType} {rm : Room} {sfc : List Addr} {Q : Option Value → Heap → List Addr → Prop} (Wd c' s' : Nat) {argsL rest : List Value} {index : Nat} (dd : D code pc (.invokestatic index) 3 pc') (w1 : (Cond.methodLink y.cls index z).before a0 Z = true) (w2 : (Cond.static z).before a0 Z = true) (hy : z.cls ≠ "java/lang/invoke/MethodHandle" ∧ z.cls ≠ "java/lang/invoke/VarHandle") (hlen : ∀ sig, parseMethodDescriptor z.desc = some sig → argsL.length = sig.parameters.length) (hC : Ct l Z a0 EL nw z bytes mL rt rm argsL.toArray h sfc n0 Q) (w4 : (Cond.code z bytes mL rt).before a0 Z = true) (w3 : (Cond.initialized z.cls).before a0 Z = true) (hsfc : ∀ x ∈ sfc, x ∈ sf) (hL : L.size = maxL) (hW : catS rest ≤ Wd) (hf : rm.frames + 1 ≤ R.frames) (hl : Wd + (mL + 11) + rm.locals ≤ R.locals) (hc : cells + rm.cells = c' ∧ c' ≤ R.cells) (hs : slots + rm.slots = s' ∧ s' ≤ R.slots) (hst : S = argsL.reverse ++ rest) (hnv : ∀ h so, ¬ Q none h so)
    (k : ∀ T' h' (v : Value) so, WS p l e R s m args below meth c Z a0 EL nw n0 y code maxL ret T' h' (so ++ sf) c' s' → Q (some v) h' so → WP p e below Φ T' (mkF m pc' L (v :: rest))) : WP p e below Φ T (mkF m pc L S) := by
  obtain ⟨locs, X, eT, hS, hZ, hown, hC0, hN, hn, hsf, hE, hWm, b1, b2, b3, b4, b5, b6⟩ := id W
  obtain ⟨rfl, hc⟩ := hc
  obtain ⟨rfl, hs⟩ := hs
  have hB := backCt (R := R) (p := p) (e := e) (below := below) (s := s) (args := args) (len := 3) (Wd := Wd) hC hZ w4 w3 hf hl hE hn hC0.1 (fun x hx => hsf x (hsfc x hx))
  obtain ⟨v, vm₁, ⟨U', L', c1, s1⟩, -, X', hS', hg, hpost, st⟩ := callSS X W.hx hown (mvT (s := s.setVm T.vm) hZ w1) (mvT (s := s.setVm T.vm) hZ w2) (mvT (s := s.setVm T.vm) hZ w3) (mvT (s := s.setVm T.vm) hZ w4) hy hB (g := mkF m pc L S) rfl (hL.trans b5.symm) (argsL := argsL) (rest := rest) hlen hst (by show 2 * 0 + _ ≤ _; rw [Nat.mul_zero, Nat.zero_add]; exact hW) (W.hd dd) (fun vm₁ _ => ⟨rfl, eT, hc, hs⟩)
  obtain ⟨L1, so, q1, q2, q3, q4, q5, q6, qw, q7⟩ := hpost
  dsimp only [Pt.U, Pt.locs, Pt.cells, Pt.slots] at X' hS' hg q1 q2 q3 q4 q5 q6 qw q7 st
  subst q3 q4 q5
  obtain ⟨hd, rfl⟩ := dd
  have WW : WS p l e R s m args below meth c Z a0 EL nw n0 y code maxL ret U' U'.heap (so ++ sf) (cells + rm.cells) (slots + rm.slots) := by
    refine ⟨_, X', rfl, hS.trans hS' (by rw [← eT]; exact hg), State.Warmed39.trans (t := s.setVm T.vm) hZ hS'.1, by rw [hS'.1.alike.findClass]; exact hown, hC0.trans q6, hN.app q2, Nat.le_trans hn (by rw [← eT]; exact hg), fun x hx => ?_, hE, fun u => State.WarmedH.trans (t := s.setVm T.vm) (hWm u) (qw u), b1, b2, b3, b4, b5, b6⟩
    rcases List.mem_append.mp hx with u | u
    · exact q7 x u
    · obtain ⟨g1, g2, g3⟩ := hsf x u
      exact ⟨g1, Nat.lt_of_lt_of_le g2 (by rw [← eT]; exact hg), q6.safe g2 g3⟩
  cases v with
  | none => exact absurd q1 (hnv _ _)
  | some v =>
  refine WP.steps st (k _ _ v so WW q1)

theorem k_callI0 (W : WS p l e R s m args below meth c Z a0 EL nw n0 y code maxL ret T h sf cells slots) {z : MethodName} {bytes : ByteArray} {mL : Nat} {rt : Option FieldType} {rm : Room} {sfc : List Addr} {Q : Option Value → Heap → List Addr → Prop} (Wd c' s' : Nat) {argsL rest : List Value} {index : Nat} {a : Addr} (dd : D code pc (.invokespecial index) 3 pc') (hrt : rt = none) (hz : z.name = "<init>") (w1 : (Cond.methodLink y.cls index z).before a0 Z = true) (w2 : (Cond.instanceMethod z).before a0 Z = true) (hy : z.cls ≠ "java/lang/invoke/MethodHandle" ∧ z.cls ≠ "java/lang/invoke/VarHandle") (hlen : ∀ sig, parseMethodDescriptor z.desc = some sig → argsL.length = sig.parameters.length) (hC : Ct l Z a0 EL nw z bytes mL rt rm (.ref a :: argsL).toArray h sfc n0 Q) (w4 : (Cond.code z bytes mL rt).before a0 Z = true) (w3 : (Cond.initialized z.cls).before a0 Z = true) (hsfc : ∀ x ∈ sfc, x ∈ sf) (hL : L.size = maxL) (hW : catS rest ≤ Wd) (hf : rm.frames + 1 ≤ R.frames) (hl : Wd + (mL + 11) + rm.locals ≤ R.locals) (hc : cells + rm.cells = c' ∧ c' ≤ R.cells) (hs : slots + rm.slots = s' ∧ s' ≤ R.slots) (hst : S = argsL.reverse ++ .ref a :: rest) (hnv : ∀ v h so, ¬ Q (some v) h so)
    (k : ∀ T' h'  so, WS p l e R s m args below meth c Z a0 EL nw n0 y code maxL ret T' h' sf c' s' → Q none h' so → WP p e below Φ T' (mkF m pc' L rest)) : WP p e below Φ T (mkF m pc L S) := by
  obtain ⟨locs, X, eT, hS, hZ, hown, hC0, hN, hn, hsf, hE, hWm, b1, b2, b3, b4, b5, b6⟩ := id W
  obtain ⟨rfl, hc⟩ := hc
  obtain ⟨rfl, hs⟩ := hs
  have hB := backCt (R := R) (p := p) (e := e) (below := below) (s := s) (args := args) (len := 3) (Wd := Wd) hC hZ w4 w3 hf hl hE hn hC0.1 (fun x hx => hsf x (hsfc x hx))
  subst hrt
  obtain ⟨v, vm₁, ⟨U', L', c1, s1⟩, -, X', hS', hg, hpost, st⟩ := X.specialBackS W.hx (y := z) hz hown (mvT (s := s.setVm T.vm) hZ w1) (mvT (s := s.setVm T.vm) hZ w2) (mvT (s := s.setVm T.vm) hZ w4) hy hB (g := mkF m pc L S) rfl (hL.trans b5.symm) (Steps.refl _) (a := a) (argsL := argsL) (rest := rest) hlen hst (by show 2 * 0 + _ ≤ _; rw [Nat.mul_zero, Nat.zero_add]; exact hW) (W.hd dd) (fun vm₁ _ => ⟨rfl, eT, hc, hs⟩)
  obtain ⟨L1, so, q1, q2, q3, q4, q5, q6, qw, q7⟩ := hpost
  dsimp only [Pt.U, Pt.locs, Pt.cells, Pt.slots] at X' hS' hg q1 q2 q3 q4 q5 q6 qw q7 st
  subst q3 q4 q5
  obtain ⟨hd, rfl⟩ := dd
  have WW : WS p l e R s m args below meth c Z a0 EL nw n0 y code maxL ret U' U'.heap (so ++ sf) (cells + rm.cells) (slots + rm.slots) := by
    refine ⟨_, X', rfl, hS.trans hS' (by rw [← eT]; exact hg), State.Warmed39.trans (t := s.setVm T.vm) hZ hS'.1, by rw [hS'.1.alike.findClass]; exact hown, hC0.trans q6, hN.app q2, Nat.le_trans hn (by rw [← eT]; exact hg), fun x hx => ?_, hE, fun u => State.WarmedH.trans (t := s.setVm T.vm) (hWm u) (qw u), b1, b2, b3, b4, b5, b6⟩
    rcases List.mem_append.mp hx with u | u
    · exact q7 x u
    · obtain ⟨g1, g2, g3⟩ := hsf x u
      exact ⟨g1, Nat.lt_of_lt_of_le g2 (by rw [← eT]; exact hg), q6.safe g2 g3⟩
  cases v with
  | some v => exact absurd q1 (hnv _ _ _)
  | none =>
  refine WP.steps st (k _ _ so (WS.mono (sf' := sf) WW (Nat.le_refl _) (Nat.le_refl _) (fun x hx => List.mem_append_right _ hx)) q1)

theorem k_callV (W : WS p l e R s m args below meth c Z a0 EL nw n0 y code maxL ret T h sf cells slots) {z : MethodName} {bytes : ByteArray} {mL : Nat} {rt : Option FieldType} {rm : Room} {sfc : List Addr} {Q : Option Value → Heap → List Addr → Prop} (Wd c' s' : Nat) {argsL rest : List Value} {index : Nat} {a : Addr} {C : String} {z0 : MethodName} (dd : D code pc (.invokevirtual index) 3 pc') (w1 : (Cond.methodLink y.cls index z0).before a0 Z = true) (w2 : (Cond.declares z0).before a0 Z = true) (nf : ∀ s' : State, Z.Warmed39 s'.vm → NotFace s' z0) (w5 : (Cond.selects C z0 z).before a0 Z = true) (w6 : (Cond.instanceMethod z).before a0 Z = true) (hy : z0.cls ≠ "java/lang/invoke/MethodHandle" ∧ z0.cls ≠ "java/lang/invoke/VarHandle") (hlen : ∀ sig, parseMethodDescriptor z0.desc = some sig → argsL.length = sig.parameters.length) (E : Exa Z h a C) (hC : Ct l Z a0 EL nw z bytes mL rt rm (.ref a :: argsL).toArray h sfc n0 Q) (w4 : (Cond.code z bytes mL rt).before a0 Z = true) (w3 : (Cond.initialized z.cls).before a0 Z = true) (hsfc : ∀ x ∈ sfc, x ∈ sf) (hL : L.size = maxL) (hW : catS rest ≤ Wd) (hf : rm.frames + 1 ≤ R.frames) (hl : Wd + (mL + 11) + rm.locals ≤ R.locals) (hc : cells + rm.cells = c' ∧ c' ≤ R.cells) (hs : slots + rm.slots = s' ∧ s' ≤ R.slots) (hst : S = argsL.reverse ++ .ref a :: rest) (hnv : ∀ h so, ¬ Q none h so)
    (k : ∀ T' h' (v : Value) so, WS p l e R s m args below meth c Z a0 EL nw n0 y code maxL ret T' h' sf c' s' → Q (some v) h' so → WP p e below Φ T' (mkF m pc' L (v :: rest))) : WP p e below Φ T (mkF m pc L S) := by
  obtain ⟨locs, X, eT, hS, hZ, hown, hC0, hN, hn, hsf, hE, hWm, b1, b2, b3, b4, b5, b6⟩ := id W
  obtain ⟨rfl, hc⟩ := hc
  obtain ⟨rfl, hs⟩ := hs
  have hB := backCt (R := R) (p := p) (e := e) (below := below) (s := s) (args := args) (len := 3) (Wd := Wd) hC hZ w4 w3 hf hl hE hn hC0.1 (fun x hx => hsf x (hsfc x hx))
  obtain ⟨cq, kq, qa, qb, qc⟩ := isOf (s := s.setVm T.vm) hZ eT E
  obtain ⟨v, vm₁, ⟨U', L', c1, s1⟩, -, X', hS', hg, hpost, st⟩ := X.virtualBackS W.hx (y := z0) (z := z) hown (mvT (s := s.setVm T.vm) hZ w1) (mvT (s := s.setVm T.vm) hZ w2) (nf (s.setVm T.vm) hZ) (mvT (s := s.setVm T.vm) hZ w5) (mvT (s := s.setVm T.vm) hZ w6) hy hB qa qc (g := mkF m pc L S) rfl (hL.trans b5.symm) (Steps.refl _) (argsL := argsL) (rest := rest) hlen hst (by show 2 * 0 + _ ≤ _; rw [Nat.mul_zero, Nat.zero_add]; exact hW) (W.hd dd) (fun vm₁ _ => ⟨rfl, eT, hc, hs⟩)
  obtain ⟨L1, so, q1, q2, q3, q4, q5, q6, qw, q7⟩ := hpost
  dsimp only [Pt.U, Pt.locs, Pt.cells, Pt.slots] at X' hS' hg q1 q2 q3 q4 q5 q6 qw q7 st
  subst q3 q4 q5
  obtain ⟨hd, rfl⟩ := dd
  have WW : WS p l e R s m args below meth c Z a0 EL nw n0 y code maxL ret U' U'.heap (so ++ sf) (cells + rm.cells) (slots + rm.slots) := by
    refine ⟨_, X', rfl, hS.trans hS' (by rw [← eT]; exact hg), State.Warmed39.trans (t := s.setVm T.vm) hZ hS'.1, by rw [hS'.1.alike.findClass]; exact hown, hC0.trans q6, hN.app q2, Nat.le_trans hn (by rw [← eT]; exact hg), fun x hx => ?_, hE, fun u => State.WarmedH.trans (t := s.setVm T.vm) (hWm u) (qw u), b1, b2, b3, b4, b5, b6⟩
    rcases List.mem_append.mp hx with u | u
    · exact q7 x u
    · obtain ⟨g1, g2, g3⟩ := hsf x u
      exact ⟨g1, Nat.lt_of_lt_of_le g2 (by rw [← eT]; exact hg), q6.safe g2 g3⟩
  cases v with
  | none => exact absurd q1 (hnv _ _)
  | some v =>
  refine WP.steps st (k _ _ v so (WS.mono (sf' := sf) WW (Nat.le_refl _) (Nat.le_refl _) (fun x hx => List.mem_append_right _ hx)) q1)

theorem k_callV0 (W : WS p l e R s m args below meth c Z a0 EL nw n0 y code maxL ret T h sf cells slots) {z : MethodName} {bytes : ByteArray} {mL : Nat} {rt : Option FieldType} {rm : Room} {sfc : List Addr} {Q : Option Value → Heap → List Addr → Prop} (Wd c' s' : Nat) {argsL rest : List Value} {index : Nat} {a : Addr} {C : String} {z0 : MethodName} (dd : D code pc (.invokevirtual index) 3 pc') (w1 : (Cond.methodLink y.cls index z0).before a0 Z = true) (w2 : (Cond.declares z0).before a0 Z = true) (nf : ∀ s' : State, Z.Warmed39 s'.vm → NotFace s' z0) (w5 : (Cond.selects C z0 z).before a0 Z = true) (w6 : (Cond.instanceMethod z).before a0 Z = true) (hy : z0.cls ≠ "java/lang/invoke/MethodHandle" ∧ z0.cls ≠ "java/lang/invoke/VarHandle") (hlen : ∀ sig, parseMethodDescriptor z0.desc = some sig → argsL.length = sig.parameters.length) (E : Exa Z h a C) (hC : Ct l Z a0 EL nw z bytes mL rt rm (.ref a :: argsL).toArray h sfc n0 Q) (w4 : (Cond.code z bytes mL rt).before a0 Z = true) (w3 : (Cond.initialized z.cls).before a0 Z = true) (hsfc : ∀ x ∈ sfc, x ∈ sf) (hL : L.size = maxL) (hW : catS rest ≤ Wd) (hf : rm.frames + 1 ≤ R.frames) (hl : Wd + (mL + 11) + rm.locals ≤ R.locals) (hc : cells + rm.cells = c' ∧ c' ≤ R.cells) (hs : slots + rm.slots = s' ∧ s' ≤ R.slots) (hst : S = argsL.reverse ++ .ref a :: rest) (hnv : ∀ v h so, ¬ Q (some v) h so)
    (k : ∀ T' h'  so, WS p l e R s m args below meth c Z a0 EL nw n0 y code maxL ret T' h' sf c' s' → Q none h' so → WP p e below Φ T' (mkF m pc' L rest)) : WP p e below Φ T (mkF m pc L S) := by
  obtain ⟨locs, X, eT, hS, hZ, hown, hC0, hN, hn, hsf, hE, hWm, b1, b2, b3, b4, b5, b6⟩ := id W
  obtain ⟨rfl, hc⟩ := hc
  obtain ⟨rfl, hs⟩ := hs
  have hB := backCt (R := R) (p := p) (e := e) (below := below) (s := s) (args := args) (len := 3) (Wd := Wd) hC hZ w4 w3 hf hl hE hn hC0.1 (fun x hx => hsf x (hsfc x hx))
  obtain ⟨cq, kq, qa, qb, qc⟩ := isOf (s := s.setVm T.vm) hZ eT E
  obtain ⟨v, vm₁, ⟨U', L', c1, s1⟩, -, X', hS', hg, hpost, st⟩ := X.virtualBackS W.hx (y := z0) (z := z) hown (mvT (s := s.setVm T.vm) hZ w1) (mvT (s := s.setVm T.vm) hZ w2) (nf (s.setVm T.vm) hZ) (mvT (s := s.setVm T.vm) hZ w5) (mvT (s := s.setVm T.vm) hZ w6) hy hB qa qc (g := mkF m pc L S) rfl (hL.trans b5.symm) (Steps.refl _) (argsL := argsL) (rest := rest) hlen hst (by show 2 * 0 + _ ≤ _; rw [Nat.mul_zero, Nat.zero_add]; exact hW) (W.hd dd) (fun vm₁ _ => ⟨rfl, eT, hc, hs⟩)
  obtain ⟨L1, so, q1, q2, q3, q4, q5, q6, qw, q7⟩ := hpost
  dsimp only [Pt.U, Pt.locs, Pt.cells, Pt.slots] at X' hS' hg q1 q2 q3 q4 q5 q6 qw q7 st
  subst q3 q4 q5
  obtain ⟨hd, rfl⟩ := dd
  have WW : WS p l e R s m args below meth c Z a0 EL nw n0 y code maxL ret U' U'.heap (so ++ sf) (cells + rm.cells) (slots + rm.slots) := by
    refine ⟨_, X', rfl, hS.trans hS' (by rw [← eT]; exact hg), State.Warmed39.trans (t := s.setVm T.vm) hZ hS'.1, by rw [hS'.1.alike.findClass]; exact hown, hC0.trans q6, hN.app q2, Nat.le_trans hn (by rw [← eT]; exact hg), fun x hx => ?_, hE, fun u => State.WarmedH.trans (t := s.setVm T.vm) (hWm u) (qw u), b1, b2, b3, b4, b5, b6⟩
    rcases List.mem_append.mp hx with u | u
    · exact q7 x u
    · obtain ⟨g1, g2, g3⟩ := hsf x u
      exact ⟨g1, Nat.lt_of_lt_of_le g2 (by rw [← eT]; exact hg), q6.safe g2 g3⟩
  cases v with
  | some v => exact absurd q1 (hnv _ _ _)
  | none =>
  refine WP.steps st (k _ _ so (WS.mono (sf' := sf) WW (Nat.le_refl _) (Nat.le_refl _) (fun x hx => List.mem_append_right _ hx)) q1)

theorem k_callVn (W : WS p l e R s m args below meth c Z a0 EL nw n0 y code maxL ret T h sf cells slots) {z : MethodName} {bytes : ByteArray} {mL : Nat} {rt : Option FieldType} {rm : Room} {sfc : List Addr} {Q : Option Value → Heap → List Addr → Prop} (Wd c' s' : Nat) {argsL rest : List Value} {index : Nat} {a : Addr} {C : String} {z0 : MethodName} (dd : D code pc (.invokevirtual index) 3 pc') (w1 : (Cond.methodLink y.cls index z0).before a0 Z = true) (w2 : (Cond.declares z0).before a0 Z = true) (nf : ∀ s' : State, Z.Warmed39 s'.vm → NotFace s' z0) (w5 : (Cond.selects C z0 z).before a0 Z = true) (w6 : (Cond.instanceMethod z).before a0 Z = true) (hy : z0.cls ≠ "java/lang/invoke/MethodHandle" ∧ z0.cls ≠ "java/lang/invoke/VarHandle") (hlen : ∀ sig, parseMethodDescriptor z0.desc = some sig → argsL.length = sig.parameters.length) (E : Exa Z h a C) (hC : Ct l Z a0 EL nw z bytes mL rt rm (.ref a :: argsL).toArray h sfc n0 Q) (w4 : (Cond.code z bytes mL rt).before a0 Z = true) (w3 : (Cond.initialized z.cls).before a0 Z = true) (hsfc : ∀ x ∈ sfc, x ∈ sf) (hL : L.size = maxL) (hW : catS rest ≤ Wd) (hf : rm.frames + 1 ≤ R.frames) (hl : Wd + (mL + 11) + rm.locals ≤ R.locals) (hc : cells + rm.cells = c' ∧ c' ≤ R.cells) (hs : slots + rm.slots = s' ∧ s' ≤ R.slots) (hst : S = argsL.reverse ++ .ref a :: rest) (hnv : ∀ h so, ¬ Q none h so)
    (k : ∀ T' h' (v : Value) so, WS p l e R s m args below meth c Z a0 EL nw n0 y code maxL ret T' h' (so ++ sf) c' s' → Q (some v) h' so → WP p e below Φ T' (mkF m pc' L (v :: rest))) : WP p e below Φ T (mkF m pc L S) := by
  obtain ⟨locs, X, eT, hS, hZ, hown, hC0, hN, hn, hsf, hE, hWm, b1, b2, b3, b4, b5, b6⟩ := id W
  obtain ⟨rfl, hc⟩ := hc
  obtain ⟨rfl, hs⟩ := hs
  have hB := backCt (R := R) (p := p) (e := e) (below := below) (s := s) (args := args) (len := 3) (Wd := Wd) hC hZ w4 w3 hf hl hE hn hC0.1 (fun x hx => hsf x (hsfc x hx))
  obtain ⟨cq, kq, qa, qb, qc⟩ := isOf (s := s.setVm T.vm) hZ eT E
  obtain ⟨v, vm₁, ⟨U', L', c1, s1⟩, -, X', hS', hg, hpost, st⟩ := X.virtualBackS W.hx (y := z0) (z := z) hown (mvT (s := s.setVm T.vm) hZ w1) (mvT (s := s.setVm T.vm) hZ w2) (nf (s.setVm T.vm) hZ) (mvT (s := s.setVm T.vm) hZ w5) (mvT (s := s.setVm T.vm) hZ w6) hy hB qa qc (g := mkF m pc L S) rfl (hL.trans b5.symm) (Steps.refl _) (argsL := argsL) (rest := rest) hlen hst (by show 2 * 0 + _ ≤ _; rw [Nat.mul_zero, Nat.zero_add]; exact hW) (W.hd dd) (fun vm₁ _ => ⟨rfl, eT, hc, hs⟩)
  obtain ⟨L1, so, q1, q2, q3, q4, q5, q6, qw, q7⟩ := hpost
  dsimp only [Pt.U, Pt.locs, Pt.cells, Pt.slots] at X' hS' hg q1 q2 q3 q4 q5 q6 qw q7 st
  subst q3 q4 q5
  obtain ⟨hd, rfl⟩ := dd
  have WW : WS p l e R s m args below meth c Z a0 EL nw n0 y code maxL ret U' U'.heap (so ++ sf) (cells + rm.cells) (slots + rm.slots) := by
    refine ⟨_, X', rfl, hS.trans hS' (by rw [← eT]; exact hg), State.Warmed39.trans (t := s.setVm T.vm) hZ hS'.1, by rw [hS'.1.alike.findClass]; exact hown, hC0.trans q6, hN.app q2, Nat.le_trans hn (by rw [← eT]; exact hg), fun x hx => ?_, hE, fun u => State.WarmedH.trans (t := s.setVm T.vm) (hWm u) (qw u), b1, b2, b3, b4, b5, b6⟩
    rcases List.mem_append.mp hx with u | u
    · exact q7 x u
    · obtain ⟨g1, g2, g3⟩ := hsf x u
      exact ⟨g1, Nat.lt_of_lt_of_le g2 (by rw [← eT]; exact hg), q6.safe g2 g3⟩
  cases v with
  | none => exact absurd q1 (hnv _ _)
  | some v =>
  refine WP.steps st (k _ _ v so WW q1)

theorem k_callP (W : WS p l e R s m args below meth c Z a0 EL nw n0 y code maxL ret T h sf cells slots) {z : MethodName} {bytes : ByteArray} {mL : Nat} {rt : Option FieldType} {rm : Room} {sfc : List Addr} {Q : Option Value → Heap → List Addr → Prop} (Wd c' s' : Nat) {argsL rest : List Value} {index : Nat} {a : Addr} {C : String} (dd : D code pc (.invokevirtual index) 3 pc') (w1 : (Cond.methodLink y.cls index z).before a0 Z = true) (w2 : (Cond.instanceMethod z).before a0 Z = true) (w5 : (Cond.selects z.cls z z).before a0 Z = true) (w6 : (Cond.privateMethod z).before a0 Z = true) (hy : z.cls ≠ "java/lang/invoke/MethodHandle" ∧ z.cls ≠ "java/lang/invoke/VarHandle") (hlen : ∀ sig, parseMethodDescriptor z.desc = some sig → argsL.length = sig.parameters.length) (E : Exa Z h a C) (hC : Ct l Z a0 EL nw z bytes mL rt rm (.ref a :: argsL).toArray h sfc n0 Q) (w4 : (Cond.code z bytes mL rt).before a0 Z = true) (w3 : (Cond.initialized z.cls).before a0 Z = true) (hsfc : ∀ x ∈ sfc, x ∈ sf) (hL : L.size = maxL) (hW : catS rest ≤ Wd) (hf : rm.frames + 1 ≤ R.frames) (hl : Wd + (mL + 11) + rm.locals ≤ R.locals) (hc : cells + rm.cells = c' ∧ c' ≤ R.cells) (hs : slots + rm.slots = s' ∧ s' ≤ R.slots) (hst : S = argsL.reverse ++ .ref a :: rest) (hnv : ∀ h so, ¬ Q none h so)
    (k : ∀ T' h' (v : Value) so, WS p l e R s m args below meth c Z a0 EL nw n0 y code maxL ret T' h' sf c' s' → Q (some v) h' so → WP p e below Φ T' (mkF m pc' L (v :: rest))) : WP p e below Φ T (mkF m pc L S) := by
  obtain ⟨locs, X, eT, hS, hZ, hown, hC0, hN, hn, hsf, hE, hWm, b1, b2, b3, b4, b5, b6⟩ := id W
  obtain ⟨rfl, hc⟩ := hc
  obtain ⟨rfl, hs⟩ := hs
  have hB := backCt (R := R) (p := p) (e := e) (below := below) (s := s) (args := args) (len := 3) (Wd := Wd) hC hZ w4 w3 hf hl hE hn hC0.1 (fun x hx => hsf x (hsfc x hx))
  obtain ⟨cc, hc1, hc2⟩ := E.cell
  obtain ⟨v, vm₁, ⟨U', L', c1, s1⟩, -, X', hS', hg, hpost, st⟩ := X.privateBackS W.hx (y := z) hown (mvT (s := s.setVm T.vm) hZ w1) (mvT (s := s.setVm T.vm) hZ w2) (mvT (s := s.setVm T.vm) hZ w5) (Cond.privateMethod_at (mvP (s := s.setVm T.vm) hZ w6 (args := #[]))) (mvT (s := s.setVm T.vm) hZ w4) hy hB (g := mkF m pc L S) rfl (hL.trans b5.symm) (Steps.refl _) (a := a) (by rw [eT]; exact hc1) hc2 (argsL := argsL) (rest := rest) hlen hst (by show 2 * 0 + _ ≤ _; rw [Nat.mul_zero, Nat.zero_add]; exact hW) (W.hd dd) (fun vm₁ _ => ⟨rfl, eT, hc, hs⟩)
  obtain ⟨L1, so, q1, q2, q3, q4, q5, q6, qw, q7⟩ := hpost
  dsimp only [Pt.U, Pt.locs, Pt.cells, Pt.slots] at X' hS' hg q1 q2 q3 q4 q5 q6 qw q7 st
  subst q3 q4 q5
  obtain ⟨hd, rfl⟩ := dd
  have WW : WS p l e R s m args below meth c Z a0 EL nw n0 y code maxL ret U' U'.heap (so ++ sf) (cells + rm.cells) (slots + rm.slots) := by
    refine ⟨_, X', rfl, hS.trans hS' (by rw [← eT]; exact hg), State.Warmed39.trans (t := s.setVm T.vm) hZ hS'.1, by rw [hS'.1.alike.findClass]; exact hown, hC0.trans q6, hN.app q2, Nat.le_trans hn (by rw [← eT]; exact hg), fun x hx => ?_, hE, fun u => State.WarmedH.trans (t := s.setVm T.vm) (hWm u) (qw u), b1, b2, b3, b4, b5, b6⟩
    rcases List.mem_append.mp hx with u | u
    · exact q7 x u
    · obtain ⟨g1, g2, g3⟩ := hsf x u
      exact ⟨g1, Nat.lt_of_lt_of_le g2 (by rw [← eT]; exact hg), q6.safe g2 g3⟩
  cases v with
  | none => exact absurd q1 (hnv _ _)
  | some v =>
  refine WP.steps st (k _ _ v so (WS.mono (sf' := sf) WW (Nat.le_refl _) (Nat.le_refl _) (fun x hx => List.mem_append_right _ hx)) q1)

theorem k_callP0 (W : WS p l e R s m args below meth c Z a0 EL nw n0 y code maxL ret T h sf cells slots) {z : MethodName} {bytes : ByteArray} {mL : Nat} {rt : Option FieldType} {rm : Room} {sfc : List Addr} {Q : Option Value → Heap → List Addr → Prop} (Wd c' s' : Nat) {argsL rest : List Value} {index : Nat} {a : Addr} {C : String} (dd : D code pc (.invokevirtual index) 3 pc') (w1 : (Cond.methodLink y.cls index z).before a0 Z = true) (w2 : (Cond.instanceMethod z).before a0 Z = true) (w5 : (Cond.selects z.cls z z).before a0 Z = true) (w6 : (Cond.privateMethod z).before a0 Z = true) (hy : z.cls ≠ "java/lang/invoke/MethodHandle" ∧ z.cls ≠ "java/lang/invoke/VarHandle") (hlen : ∀ sig, parseMethodDescriptor z.desc = some sig → argsL.length = sig.parameters.length) (E : Exa Z h a C) (hC : Ct l Z a0 EL nw z bytes mL rt rm (.ref a :: argsL).toArray h sfc n0 Q) (w4 : (Cond.code z bytes mL rt).before a0 Z = true) (w3 : (Cond.initialized z.cls).before a0 Z = true) (hsfc : ∀ x ∈ sfc, x ∈ sf) (hL : L.size = maxL) (hW : catS rest ≤ Wd) (hf : rm.frames + 1 ≤ R.frames) (hl : Wd + (mL + 11) + rm.locals ≤ R.locals) (hc : cells + rm.cells = c' ∧ c' ≤ R.cells) (hs : slots + rm.slots = s' ∧ s' ≤ R.slots) (hst : S = argsL.reverse ++ .ref a :: rest) (hnv : ∀ v h so, ¬ Q (some v) h so)
    (k : ∀ T' h'  so, WS p l e R s m args below meth c Z a0 EL nw n0 y code maxL ret T' h' sf c' s' → Q none h' so → WP p e below Φ T' (mkF m pc' L rest)) : WP p e below Φ T (mkF m pc L S) := by
  obtain ⟨locs, X, eT, hS, hZ, hown, hC0, hN, hn, hsf, hE, hWm, b1, b2, b3, b4, b5, b6⟩ := id W
  obtain ⟨rfl, hc⟩ := hc
  obtain ⟨rfl, hs⟩ := hs
  have hB := backCt (R := R) (p := p) (e := e) (below := below) (s := s) (args := args) (len := 3) (Wd := Wd) hC hZ w4 w3 hf hl hE hn hC0.1 (fun x hx => hsf x (hsfc x hx))
  obtain ⟨cc, hc1, hc2⟩ := E.cell
  obtain ⟨v, vm₁, ⟨U', L', c1, s1⟩, -, X', hS', hg, hpost, st⟩ := X.privateBackS W.hx (y := z) hown (mvT (s := s.setVm T.vm) hZ w1) (mvT (s := s.setVm T.vm) hZ w2) (mvT (s := s.setVm T.vm) hZ w5) (Cond.privateMethod_at (mvP (s := s.setVm T.vm) hZ w6 (args := #[]))) (mvT (s := s.setVm T.vm) hZ w4) hy hB (g := mkF m pc L S) rfl (hL.trans b5.symm) (Steps.refl _) (a := a) (by rw [eT]; exact hc1) hc2 (argsL := argsL) (rest := rest) hlen hst (by show 2 * 0 + _ ≤ _; rw [Nat.mul_zero, Nat.zero_add]; exact hW) (W.hd dd) (fun vm₁ _ => ⟨rfl, eT, hc, hs⟩)
  obtain ⟨L1, so, q1, q2, q3, q4, q5, q6, qw, q7⟩ := hpost
  dsimp only [Pt.U, Pt.locs, Pt.cells, Pt.slots] at X' hS' hg q1 q2 q3 q4 q5 q6 qw q7 st
  subst q3 q4 q5
  obtain ⟨hd, rfl⟩ := dd
  have WW : WS p l e R s m args below meth c Z a0 EL nw n0 y code maxL ret U' U'.heap (so ++ sf) (cells + rm.cells) (slots + rm.slots) := by
    refine ⟨_, X', rfl, hS.trans hS' (by rw [← eT]; exact hg), State.Warmed39.trans (t := s.setVm T.vm) hZ hS'.1, by rw [hS'.1.alike.findClass]; exact hown, hC0.trans q6, hN.app q2, Nat.le_trans hn (by rw [← eT]; exact hg), fun x hx => ?_, hE, fun u => State.WarmedH.trans (t := s.setVm T.vm) (hWm u) (qw u), b1, b2, b3, b4, b5, b6⟩
    rcases List.mem_append.mp hx with u | u
    · exact q7 x u
    · obtain ⟨g1, g2, g3⟩ := hsf x u
      exact ⟨g1, Nat.lt_of_lt_of_le g2 (by rw [← eT]; exact hg), q6.safe g2 g3⟩
  cases v with
  | some v => exact absurd q1 (hnv _ _ _)
  | none =>
  refine WP.steps st (k _ _ so (WS.mono (sf' := sf) WW (Nat.le_refl _) (Nat.le_refl _) (fun x hx => List.mem_append_right _ hx)) q1)

theorem k_callPn (W : WS p l e R s m args below meth c Z a0 EL nw n0 y code maxL ret T h sf cells slots) {z : MethodName} {bytes : ByteArray} {mL : Nat} {rt : Option FieldType} {rm : Room} {sfc : List Addr} {Q : Option Value → Heap → List Addr → Prop} (Wd c' s' : Nat) {argsL rest : List Value} {index : Nat} {a : Addr} {C : String} (dd : D code pc (.invokevirtual index) 3 pc') (w1 : (Cond.methodLink y.cls index z).before a0 Z = true) (w2 : (Cond.instanceMethod z).before a0 Z = true) (w5 : (Cond.selects z.cls z z).before a0 Z = true) (w6 : (Cond.privateMethod z).before a0 Z = true) (hy : z.cls ≠ "java/lang/invoke/MethodHandle" ∧ z.cls ≠ "java/lang/invoke/VarHandle") (hlen : ∀ sig, parseMethodDescriptor z.desc = some sig → argsL.length = sig.parameters.length) (E : Exa Z h a C) (hC : Ct l Z a0 EL nw z bytes mL rt rm (.ref a :: argsL).toArray h sfc n0 Q) (w4 : (Cond.code z bytes mL rt).before a0 Z = true) (w3 : (Cond.initialized z.cls).before a0 Z = true) (hsfc : ∀ x ∈ sfc, x ∈ sf) (hL : L.size = maxL) (hW : catS rest ≤ Wd) (hf : rm.frames + 1 ≤ R.frames) (hl : Wd + (mL + 11) + rm.locals ≤ R.locals) (hc : cells + rm.cells = c' ∧ c' ≤ R.cells) (hs : slots + rm.slots = s' ∧ s' ≤ R.slots) (hst : S = argsL.reverse ++ .ref a :: rest) (hnv : ∀ h so, ¬ Q none h so)
    (k : ∀ T' h' (v : Value) so, WS p l e R s m args below meth c Z a0 EL nw n0 y code maxL ret T' h' (so ++ sf) c' s' → Q (some v) h' so → WP p e below Φ T' (mkF m pc' L (v :: rest))) : WP p e below Φ T (mkF m pc L S) := by
  obtain ⟨locs, X, eT, hS, hZ, hown, hC0, hN, hn, hsf, hE, hWm, b1, b2, b3, b4, b5, b6⟩ := id W
  obtain ⟨rfl, hc⟩ := hc
  obtain ⟨rfl, hs⟩ := hs
  have hB := backCt (R := R) (p := p) (e := e) (below := below) (s := s) (args := args) (len := 3) (Wd := Wd) hC hZ w4 w3 hf hl hE hn hC0.1 (fun x hx => hsf x (hsfc x hx))
  obtain ⟨cc, hc1, hc2⟩ := E.cell
  obtain ⟨v, vm₁, ⟨U', L', c1, s1⟩, -, X', hS', hg, hpost, st⟩ := X.privateBackS W.hx (y := z) hown (mvT (s := s.setVm T.vm) hZ w1) (mvT (s := s.setVm T.vm) hZ w2) (mvT (s := s.setVm T.vm) hZ w5) (Cond.privateMethod_at (mvP (s := s.setVm T.vm) hZ w6 (args := #[]))) (mvT (s := s.setVm T.vm) hZ w4) hy hB (g := mkF m pc L S) rfl (hL.trans b5.symm) (Steps.refl _) (a := a) (by rw [eT]; exact hc1) hc2 (argsL := argsL) (rest := rest) hlen hst (by show 2 * 0 + _ ≤ _; rw [Nat.mul_zero, Nat.zero_add]; exact hW) (W.hd dd) (fun vm₁ _ => ⟨rfl, eT, hc, hs⟩)
  obtain ⟨L1, so, q1, q2, q3, q4, q5, q6, qw, q7⟩ := hpost
  dsimp only [Pt.U, Pt.locs, Pt.cells, Pt.slots] at X' hS' hg q1 q2 q3 q4 q5 q6 qw q7 st
  subst q3 q4 q5
  obtain ⟨hd, rfl⟩ := dd
  have WW : WS p l e R s m args below meth c Z a0 EL nw n0 y code maxL ret U' U'.heap (so ++ sf) (cells + rm.cells) (slots + rm.slots) := by
    refine ⟨_, X', rfl, hS.trans hS' (by rw [← eT]; exact hg), State.Warmed39.trans (t := s.setVm T.vm) hZ hS'.1, by rw [hS'.1.alike.findClass]; exact hown, hC0.trans q6, hN.app q2, Nat.le_trans hn (by rw [← eT]; exact hg), fun x hx => ?_, hE, fun u => State.WarmedH.trans (t := s.setVm T.vm) (hWm u) (qw u), b1, b2, b3, b4, b5, b6⟩
    rcases List.mem_append.mp hx with u | u
    · exact q7 x u
    · obtain ⟨g1, g2, g3⟩ := hsf x u
      exact ⟨g1, Nat.lt_of_lt_of_le g2 (by rw [← eT]; exact hg), q6.safe g2 g3⟩
  cases v with
  | none => exact absurd q1 (hnv _ _)
  | some v =>
  refine WP.steps st (k _ _ v so WW q1)

theorem nfSel {C : String} {z0 : MethodName} (w : (Cond.selects C z0 z0).before a0 Z = true) (s' : State) (hZ : Z.Warmed39 s'.vm) : NotFace s' z0 := notFace_of_selects (args := #[]) (mvT hZ w)
end Calls

/-! ## facts out of the case's words -/
section Start
variable {args : Array Value} {Z : State} {t u : Term} {a : Addr} {C n d : String} {v : Value} {ty : FieldType} {z : Int32} {vs : List Value}
theorem eq_start (h : (Cond.eq t (Term.int z)).value args Z none Z [] = some true) : t.eval args Z none [] Z = some (.int z) := by
  have hz : (Term.int z).eval args Z none [] Z = some (.int z) := rfl
  simp only [Cond.value, hz] at h
  cases ht : t.eval args Z none [] Z with
  | none => rw [ht] at h; cases h
  | some w => cases w <;> simp [ht] at h; rw [h]
theorem eqR_start (h : (Cond.eq t u).value args Z none Z [] = some true) (hu : u.eval args Z none [] Z = some (.ref a)) : t.eval args Z none [] Z = some (.ref a) := by
  simp only [Cond.value, hu] at h
  cases ht : t.eval args Z none [] Z with
  | none => rw [ht] at h; cases h
  | some w => cases w <;> simp [ht] at h; rw [h]
theorem exa_start (h : (Cond.exactly t C).value args Z none Z [] = some true) : ∃ a, t.eval args Z none [] Z = some (.ref a) ∧ Exa Z Z.heap a C := by
  obtain ⟨a', c', cell, k, e1, e2, e3, e4, e5, rfl, e7⟩ := Cond.exactly_spec (Cond.before_iff.mpr h)
  exact ⟨a', e1, cell, k, e3, e2, e4, e5, e7⟩
theorem fld_start (ht : t.eval args Z none [] Z = some (.ref a)) (hf : (Term.field t C n d).eval args Z none [] Z = some v) : Fld Z Z.heap a C n d v := Fld.start (by simpa [Term.eval, ht] using hf)
def Els (t : Term) (args : Array Value) (Z : State) : Nat → List Value → Prop
  | _, [] => True
  | i, v :: vs => (Term.elem t (Term.int (Int32.ofNat i))).eval args Z none [] Z = some v ∧ Els t args Z (i + 1) vs
theorem Els.get : ∀ {vs : List Value} {k : Nat}, Els t args Z k vs → ∀ i, i < vs.length → (Term.elem t (Term.int (Int32.ofNat (k + i)))).eval args Z none [] Z = vs[i]?
  | [], _, _, i, hi => by simp at hi
  | v :: vs, k, h, 0, _ => by simpa using h.1
  | v :: vs, k, h, i + 1, hi => by
    have := Els.get h.2 i (by simpa using hi)
    rw [show k + (i + 1) = k + 1 + i by omega]; simpa using this
theorem ref_of_arr (h : (Cond.arrayOf t ty).value args Z none Z [] = some true) : ∃ a, t.eval args Z none [] Z = some (.ref a) := by
  simp only [Cond.value] at h
  split at h
  · cases h
  · cases ht : t.eval args Z none [] Z with
    | none => rw [ht] at h; cases h
    | some w => cases w <;> simp [ht] at h <;> exact ⟨_, rfl⟩
theorem av_start (hf : Fit Z) (ht : t.eval args Z none [] Z = some (.ref a)) (h : (Cond.arrayOf t ty).value args Z none Z [] = some true) (hl : (Term.length t).eval args Z none [] Z = some (.int z)) (hz : Int32.ofNat vs.length = z) (hv : vs.length < 2147483648) (he : Els t args Z 0 vs) : Av Z Z.heap a ty vs := by
  obtain ⟨c, A⟩ := Arr.start ht h
  have hA : Z.arrayAt? a = some c := A.fin (Vm.Alike.refl _)
  have hs : c.slots.size = vs.length := by
    simp only [Term.eval, ht, Option.bind_eq_bind, Option.bind_some, hA, Option.pure_def] at hl
    split at hl
    · rename_i hlt
      have e1 : c.slots.size.toInt32 = z := by simpa using hl
      exact of_inj (by simpa using hlt) hv (e1.trans hz.symm)
    · cases hl
  have hg : ∀ i, i < vs.length → c.slots[i]? = vs[i]? := fun i hi => by
    have q := he.get i hi
    have hx := ix_of (i := i) (by omega)
    rw [Nat.zero_add] at q
    simp only [Term.eval, ht, Option.bind_eq_bind, Option.bind_some, hA, if_neg hx.1, hx.2] at q
    exact q
  have e : c.slots.toList = vs := by
    apply List.ext_getElem?; intro i
    by_cases hi : i < vs.length
    · rw [Array.getElem?_toList]; exact hg i hi
    · rw [Array.getElem?_toList, Array.getElem?_eq_none (by omega), List.getElem?_eq_none (by omega)]
  refine ⟨c, A, e, hv, fun w hw => ?_⟩
  obtain ⟨i, hi, rfl⟩ := List.mem_iff_getElem.mp hw
  have hx := ix_of (i := i) (by omega)
  obtain ⟨w', q1, q2⟩ := elem_fit hf A (j := Int32.ofNat i) (by rintro (u | u); exact hx.1 u; rw [hx.2] at u; omega)
  rw [hx.2, hg i hi, List.getElem?_eq_getElem hi] at q1
  cases q1; exact q2
end Start

end Jvm.OwnK
namespace Jvm.Pilot.@@N@@
open Jvm Jvm.ClassFile Sem Op Lib Jvm.Free Jvm.Stand Jvm.LawKit Jvm.RoadKit Bundle Jvm.OwnK Jvm.Pilot.@@N@@.Jvm.D
def own_EL : List (String × Nat) := [("com/example/epochmark/epochmark/io/Iso2709", 7)]
theorem w0 {Z : State} {a0 : Array Value} (hw : ∀ d ∈ tables_1, d.before a0 Z = true) : (Jvm.Cond.methodLink "com/example/epochmark/epochmark/io/Iso2709IsControlTagPinLaw" (7 : Nat) ({ cls := "com/example/epochmark/epochmark/io/Iso2709IsControlTagPinLaw", name := "draw", desc := "(I)C" } : Jvm.MethodName)).before a0 Z = true := hw _ (List.mem_of_getElem? (i := 0) rfl)
theorem w1 {Z : State} {a0 : Array Value} (hw : ∀ d ∈ tables_1, d.before a0 Z = true) : (Jvm.Cond.static ({ cls := "com/example/epochmark/epochmark/io/Iso2709IsControlTagPinLaw", name := "draw", desc := "(I)C" } : Jvm.MethodName)).before a0 Z = true := hw _ (List.mem_of_getElem? (i := 1) rfl)
theorem w2 {Z : State} {a0 : Array Value} (hw : ∀ d ∈ tables_1, d.before a0 Z = true) : (Jvm.Cond.initialized "com/example/epochmark/epochmark/io/Iso2709IsControlTagPinLaw").before a0 Z = true := hw _ (List.mem_of_getElem? (i := 2) rfl)
theorem w3 {Z : State} {a0 : Array Value} (hw : ∀ d ∈ tables_1, d.before a0 Z = true) : (Jvm.Cond.code ({ cls := "com/example/epochmark/epochmark/io/Iso2709IsControlTagPinLaw", name := "draw", desc := "(I)C" } : Jvm.MethodName) method_2_code (2 : Nat) (Option.some Jvm.ClassFile.FieldType.char)).before a0 Z = true := hw _ (List.mem_of_getElem? (i := 3) rfl)
theorem w4 {Z : State} {a0 : Array Value} (hw : ∀ d ∈ tables_1, d.before a0 Z = true) : (Jvm.Cond.classLink "com/example/epochmark/epochmark/io/Iso2709IsControlTagPinLaw" (13 : Nat) "java/lang/String").before a0 Z = true := hw _ (List.mem_of_getElem? (i := 4) rfl)
theorem w5 {Z : State} {a0 : Array Value} (hw : ∀ d ∈ tables_1, d.before a0 Z = true) : (Jvm.Cond.instantiable "java/lang/String" (4 : Nat)).before a0 Z = true := hw _ (List.mem_of_getElem? (i := 5) rfl)
theorem w6 {Z : State} {a0 : Array Value} (hw : ∀ d ∈ tables_1, d.before a0 Z = true) : (Jvm.Cond.initialized "java/lang/String").before a0 Z = true := hw _ (List.mem_of_getElem? (i := 6) rfl)
theorem w7 {Z : State} {a0 : Array Value} (hw : ∀ d ∈ tables_1, d.before a0 Z = true) : (Jvm.Cond.arrayClass Jvm.ClassFile.FieldType.char).before a0 Z = true := hw _ (List.mem_of_getElem? (i := 7) rfl)
theorem w8 {Z : State} {a0 : Array Value} (hw : ∀ d ∈ tables_1, d.before a0 Z = true) : (Jvm.Cond.methodLink "com/example/epochmark/epochmark/io/Iso2709IsControlTagPinLaw" (15 : Nat) ({ cls := "java/lang/String", name := "<init>", desc := "([C)V" } : Jvm.MethodName)).before a0 Z = true := hw _ (List.mem_of_getElem? (i := 8) rfl)
theorem w9 {Z : State} {a0 : Array Value} (hw : ∀ d ∈ tables_1, d.before a0 Z = true) : (Jvm.Cond.instanceMethod ({ cls := "java/lang/String", name := "<init>", desc := "([C)V" } : Jvm.MethodName)).before a0 Z = true := hw _ (List.mem_of_getElem? (i := 9) rfl)
theorem w10 {Z : State} {a0 : Array Value} (hw : ∀ d ∈ tables_1, d.before a0 Z = true) : (Jvm.Cond.code ({ cls := "java/lang/String", name := "<init>", desc := "([C)V" } : Jvm.MethodName) jdk_42_method_3_code (2 : Nat) (Option.none : Option Jvm.ClassFile.FieldType)).before a0 Z = true := hw _ (List.mem_of_getElem? (i := 10) rfl)
theorem w11 {Z : State} {a0 : Array Value} (hw : ∀ d ∈ tables_1, d.before a0 Z = true) : (Jvm.Cond.methodLink "java/lang/String" (27 : Nat) ({ cls := "java/lang/String", name := "<init>", desc := "([CIILjava/lang/Void;)V" } : Jvm.MethodName)).before a0 Z = true := hw _ (List.mem_of_getElem? (i := 11) rfl)
theorem w12 {Z : State} {a0 : Array Value} (hw : ∀ d ∈ tables_1, d.before a0 Z = true) : (Jvm.Cond.instanceMethod ({ cls := "java/lang/String", name := "<init>", desc := "([CIILjava/lang/Void;)V" } : Jvm.MethodName)).before a0 Z = true := hw _ (List.mem_of_getElem? (i := 12) rfl)
theorem w14 {Z : State} {a0 : Array Value} (hw : ∀ d ∈ tables_1, d.before a0 Z = true) : (Jvm.Cond.code ({ cls := "java/lang/String", name := "<init>", desc := "([CIILjava/lang/Void;)V" } : Jvm.MethodName) jdk_42_method_149_code (6 : Nat) (Option.none : Option Jvm.ClassFile.FieldType)).before a0 Z = true := hw _ (List.mem_of_getElem? (i := 14) rfl)
theorem w15 {Z : State} {a0 : Array Value} (hw : ∀ d ∈ tables_1, d.before a0 Z = true) : (Jvm.Cond.methodLink "java/lang/String" (1 : Nat) ({ cls := "java/lang/Object", name := "<init>", desc := "()V" } : Jvm.MethodName)).before a0 Z = true := hw _ (List.mem_of_getElem? (i := 15) rfl)
theorem w16 {Z : State} {a0 : Array Value} (hw : ∀ d ∈ tables_1, d.before a0 Z = true) : (Jvm.Cond.instanceMethod ({ cls := "java/lang/Object", name := "<init>", desc := "()V" } : Jvm.MethodName)).before a0 Z = true := hw _ (List.mem_of_getElem? (i := 16) rfl)
theorem w17 {Z : State} {a0 : Array Value} (hw : ∀ d ∈ tables_1, d.before a0 Z = true) : (Jvm.Cond.code ({ cls := "java/lang/Object", name := "<init>", desc := "()V" } : Jvm.MethodName) object_method_1_code (1 : Nat) (Option.none : Option Jvm.ClassFile.FieldType)).before a0 Z = true := hw _ (List.mem_of_getElem? (i := 17) rfl)
theorem w18 {Z : State} {a0 : Array Value} (hw : ∀ d ∈ tables_1, d.before a0 Z = true) : (Jvm.Cond.fieldLink "java/lang/String" (38 : Nat) "java/lang/String" "COMPACT_STRINGS" "Z").before a0 Z = true := hw _ (List.mem_of_getElem? (i := 18) rfl)
theorem w19 {Z : State} {a0 : Array Value} (hw : ∀ d ∈ tables_1, d.before a0 Z = true) : (Jvm.Cond.methodLink "java/lang/String" (177 : Nat) ({ cls := "java/lang/StringUTF16", name := "compress", desc := "([CII)[B" } : Jvm.MethodName)).before a0 Z = true := hw _ (List.mem_of_getElem? (i := 19) rfl)
theorem w20 {Z : State} {a0 : Array Value} (hw : ∀ d ∈ tables_1, d.before a0 Z = true) : (Jvm.Cond.static ({ cls := "java/lang/StringUTF16", name := "compress", desc := "([CII)[B" } : Jvm.MethodName)).before a0 Z = true := hw _ (List.mem_of_getElem? (i := 20) rfl)
theorem w21 {Z : State} {a0 : Array Value} (hw : ∀ d ∈ tables_1, d.before a0 Z = true) : (Jvm.Cond.initialized "java/lang/StringUTF16").before a0 Z = true := hw _ (List.mem_of_getElem? (i := 21) rfl)
theorem w22 {Z : State} {a0 : Array Value} (hw : ∀ d ∈ tables_1, d.before a0 Z = true) : (Jvm.Cond.code ({ cls := "java/lang/StringUTF16", name := "compress", desc := "([CII)[B" } : Jvm.MethodName) jdk_52_method_16_code (6 : Nat) (Option.some (Jvm.ClassFile.FieldType.array Jvm.ClassFile.FieldType.byte))).before a0 Z = true := hw _ (List.mem_of_getElem? (i := 22) rfl)
theorem w23 {Z : State} {a0 : Array Value} (hw : ∀ d ∈ tables_1, d.before a0 Z = true) : (Jvm.Cond.arrayClass Jvm.ClassFile.FieldType.byte).before a0 Z = true := hw _ (List.mem_of_getElem? (i := 23) rfl)
theorem w24 {Z : State} {a0 : Array Value} (hw : ∀ d ∈ tables_1, d.before a0 Z = true) : (Jvm.Cond.methodLink "java/lang/StringUTF16" (115 : Nat) ({ cls := "java/lang/StringUTF16", name := "compress", desc := "([CI[BII)I" } : Jvm.MethodName)).before a0 Z = true := hw _ (List.mem_of_getElem? (i := 24) rfl)
theorem w25 {Z : State} {a0 : Array Value} (hw : ∀ d ∈ tables_1, d.before a0 Z = true) : (Jvm.Cond.static ({ cls := "java/lang/StringUTF16", name := "compress", desc := "([CI[BII)I" } : Jvm.MethodName)).before a0 Z = true := hw _ (List.mem_of_getElem? (i := 25) rfl)
theorem w26 {Z : State} {a0 : Array Value} (hw : ∀ d ∈ tables_1, d.before a0 Z = true) : (Jvm.Cond.code ({ cls := "java/lang/StringUTF16", name := "compress", desc := "([CI[BII)I" } : Jvm.MethodName) jdk_52_method_21_code (7 : Nat) (Option.some Jvm.ClassFile.FieldType.int)).before a0 Z = true := hw _ (List.mem_of_getElem? (i := 26) rfl)
theorem w27 {Z : State} {a0 : Array Value} (hw : ∀ d ∈ tables_1, d.before a0 Z = true) : (Jvm.Cond.methodLink "java/lang/String" (47 : Nat) ({ cls := "java/lang/StringUTF16", name := "coderFromArrayLen", desc := "([BI)B" } : Jvm.MethodName)).before a0 Z = true := hw _ (List.mem_of_getElem? (i := 27) rfl)
theorem w28 {Z : State} {a0 : Array Value} (hw : ∀ d ∈ tables_1, d.before a0 Z = true) : (Jvm.Cond.static ({ cls := "java/lang/StringUTF16", name := "coderFromArrayLen", desc := "([BI)B" } : Jvm.MethodName)).before a0 Z = true := hw _ (List.mem_of_getElem? (i := 28) rfl)
theorem w29 {Z : State} {a0 : Array Value} (hw : ∀ d ∈ tables_1, d.before a0 Z = true) : (Jvm.Cond.code ({ cls := "java/lang/StringUTF16", name := "coderFromArrayLen", desc := "([BI)B" } : Jvm.MethodName) jdk_52_method_15_code (2 : Nat) (Option.some Jvm.ClassFile.FieldType.byte)).before a0 Z = true := hw _ (List.mem_of_getElem? (i := 29) rfl)
theorem w30 {Z : State} {a0 : Array Value} (hw : ∀ d ∈ tables_1, d.before a0 Z = true) : (Jvm.Cond.fieldLink "java/lang/String" (15 : Nat) "java/lang/String" "coder" "B").before a0 Z = true := hw _ (List.mem_of_getElem? (i := 30) rfl)
theorem w31 {Z : State} {a0 : Array Value} (hw : ∀ d ∈ tables_1, d.before a0 Z = true) : (Jvm.Cond.laysFinal "java/lang/String" "java/lang/String" "coder" "B").before a0 Z = true := hw _ (List.mem_of_getElem? (i := 31) rfl)
theorem w32 {Z : State} {a0 : Array Value} (hw : ∀ d ∈ tables_1, d.before a0 Z = true) : (Jvm.Cond.fieldLink "java/lang/String" (9 : Nat) "java/lang/String" "value" "[B").before a0 Z = true := hw _ (List.mem_of_getElem? (i := 32) rfl)
theorem w33 {Z : State} {a0 : Array Value} (hw : ∀ d ∈ tables_1, d.before a0 Z = true) : (Jvm.Cond.laysFinal "java/lang/String" "java/lang/String" "value" "[B").before a0 Z = true := hw _ (List.mem_of_getElem? (i := 33) rfl)
theorem w34 {Z : State} {a0 : Array Value} (hw : ∀ d ∈ tables_1, d.before a0 Z = true) : (Jvm.Cond.methodLink "com/example/epochmark/epochmark/io/Iso2709IsControlTagPinLaw" (18 : Nat) ({ cls := "com/example/epochmark/epochmark/io/Iso2709", name := "isControlTag", desc := "(Ljava/lang/String;)Z" } : Jvm.MethodName)).before a0 Z = true := hw _ (List.mem_of_getElem? (i := 34) rfl)
theorem w35 {Z : State} {a0 : Array Value} (hw : ∀ d ∈ tables_1, d.before a0 Z = true) : (Jvm.Cond.static ({ cls := "com/example/epochmark/epochmark/io/Iso2709", name := "isControlTag", desc := "(Ljava/lang/String;)Z" } : Jvm.MethodName)).before a0 Z = true := hw _ (List.mem_of_getElem? (i := 35) rfl)
theorem w36 {Z : State} {a0 : Array Value} (hw : ∀ d ∈ tables_1, d.before a0 Z = true) : (Jvm.Cond.initialized "com/example/epochmark/epochmark/io/Iso2709").before a0 Z = true := hw _ (List.mem_of_getElem? (i := 36) rfl)
theorem w37 {Z : State} {a0 : Array Value} (hw : ∀ d ∈ tables_1, d.before a0 Z = true) : (Jvm.Cond.code ({ cls := "com/example/epochmark/epochmark/io/Iso2709", name := "isControlTag", desc := "(Ljava/lang/String;)Z" } : Jvm.MethodName) prog_4_method_2_code (1 : Nat) (Option.some Jvm.ClassFile.FieldType.boolean)).before a0 Z = true := hw _ (List.mem_of_getElem? (i := 37) rfl)
theorem w38 {Z : State} {a0 : Array Value} (hw : ∀ d ∈ tables_1, d.before a0 Z = true) : (Jvm.Cond.stringLink "com/example/epochmark/epochmark/io/Iso2709" (7 : Nat) "00").before a0 Z = true := hw _ (List.mem_of_getElem? (i := 38) rfl)
theorem w41 {Z : State} {a0 : Array Value} (hw : ∀ d ∈ tables_1, d.before a0 Z = true) : (Jvm.Cond.methodLink "com/example/epochmark/epochmark/io/Iso2709" (9 : Nat) ({ cls := "java/lang/String", name := "startsWith", desc := "(Ljava/lang/String;)Z" } : Jvm.MethodName)).before a0 Z = true := hw _ (List.mem_of_getElem? (i := 41) rfl)
theorem w42 {Z : State} {a0 : Array Value} (hw : ∀ d ∈ tables_1, d.before a0 Z = true) : (Jvm.Cond.declares ({ cls := "java/lang/String", name := "startsWith", desc := "(Ljava/lang/String;)Z" } : Jvm.MethodName)).before a0 Z = true := hw _ (List.mem_of_getElem? (i := 42) rfl)
theorem w43 {Z : State} {a0 : Array Value} (hw : ∀ d ∈ tables_1, d.before a0 Z = true) : (Jvm.Cond.instanceMethod ({ cls := "java/lang/String", name := "startsWith", desc := "(Ljava/lang/String;)Z" } : Jvm.MethodName)).before a0 Z = true := hw _ (List.mem_of_getElem? (i := 43) rfl)
theorem w44 {Z : State} {a0 : Array Value} (hw : ∀ d ∈ tables_1, d.before a0 Z = true) : (Jvm.Cond.selects "java/lang/String" ({ cls := "java/lang/String", name := "startsWith", desc := "(Ljava/lang/String;)Z" } : Jvm.MethodName) ({ cls := "java/lang/String", name := "startsWith", desc := "(Ljava/lang/String;)Z" } : Jvm.MethodName)).before a0 Z = true := hw _ (List.mem_of_getElem? (i := 44) rfl)
theorem w45 {Z : State} {a0 : Array Value} (hw : ∀ d ∈ tables_1, d.before a0 Z = true) : (Jvm.Cond.code ({ cls := "java/lang/String", name := "startsWith", desc := "(Ljava/lang/String;)Z" } : Jvm.MethodName) jdk_42_method_76_code (2 : Nat) (Option.some Jvm.ClassFile.FieldType.boolean)).before a0 Z = true := hw _ (List.mem_of_getElem? (i := 45) rfl)
theorem w46 {Z : State} {a0 : Array Value} (hw : ∀ d ∈ tables_1, d.before a0 Z = true) : (Jvm.Cond.methodLink "java/lang/String" (624 : Nat) ({ cls := "java/lang/String", name := "startsWith", desc := "(Ljava/lang/String;I)Z" } : Jvm.MethodName)).before a0 Z = true := hw _ (List.mem_of_getElem? (i := 46) rfl)
theorem w47 {Z : State} {a0 : Array Value} (hw : ∀ d ∈ tables_1, d.before a0 Z = true) : (Jvm.Cond.declares ({ cls := "java/lang/String", name := "startsWith", desc := "(Ljava/lang/String;I)Z" } : Jvm.MethodName)).before a0 Z = true := hw _ (List.mem_of_getElem? (i := 47) rfl)
theorem w48 {Z : State} {a0 : Array Value} (hw : ∀ d ∈ tables_1, d.before a0 Z = true) : (Jvm.Cond.instanceMethod ({ cls := "java/lang/String", name := "startsWith", desc := "(Ljava/lang/String;I)Z" } : Jvm.MethodName)).before a0 Z = true := hw _ (List.mem_of_getElem? (i := 48) rfl)
theorem w49 {Z : State} {a0 : Array Value} (hw : ∀ d ∈ tables_1, d.before a0 Z = true) : (Jvm.Cond.selects "java/lang/String" ({ cls := "java/lang/String", name := "startsWith", desc := "(Ljava/lang/String;I)Z" } : Jvm.MethodName) ({ cls := "java/lang/String", name := "startsWith", desc := "(Ljava/lang/String;I)Z" } : Jvm.MethodName)).before a0 Z = true := hw _ (List.mem_of_getElem? (i := 49) rfl)
theorem w50 {Z : State} {a0 : Array Value} (hw : ∀ d ∈ tables_1, d.before a0 Z = true) : (Jvm.Cond.code ({ cls := "java/lang/String", name := "startsWith", desc := "(Ljava/lang/String;I)Z" } : Jvm.MethodName) jdk_42_method_75_code (8 : Nat) (Option.some Jvm.ClassFile.FieldType.boolean)).before a0 Z = true := hw _ (List.mem_of_getElem? (i := 50) rfl)
theorem w51 {Z : State} {a0 : Array Value} (hw : ∀ d ∈ tables_1, d.before a0 Z = true) : (Jvm.Cond.methodLink "java/lang/String" (505 : Nat) ({ cls := "java/lang/String", name := "length", desc := "()I" } : Jvm.MethodName)).before a0 Z = true := hw _ (List.mem_of_getElem? (i := 51) rfl)
theorem w52 {Z : State} {a0 : Array Value} (hw : ∀ d ∈ tables_1, d.before a0 Z = true) : (Jvm.Cond.declares ({ cls := "java/lang/String", name := "length", desc := "()I" } : Jvm.MethodName)).before a0 Z = true := hw _ (List.mem_of_getElem? (i := 52) rfl)
theorem w53 {Z : State} {a0 : Array Value} (hw : ∀ d ∈ tables_1, d.before a0 Z = true) : (Jvm.Cond.instanceMethod ({ cls := "java/lang/String", name := "length", desc := "()I" } : Jvm.MethodName)).before a0 Z = true := hw _ (List.mem_of_getElem? (i := 53) rfl)
theorem w54 {Z : State} {a0 : Array Value} (hw : ∀ d ∈ tables_1, d.before a0 Z = true) : (Jvm.Cond.selects "java/lang/String" ({ cls := "java/lang/String", name := "length", desc := "()I" } : Jvm.MethodName) ({ cls := "java/lang/String", name := "length", desc := "()I" } : Jvm.MethodName)).before a0 Z = true := hw _ (List.mem_of_getElem? (i := 54) rfl)
theorem w55 {Z : State} {a0 : Array Value} (hw : ∀ d ∈ tables_1, d.before a0 Z = true) : (Jvm.Cond.code ({ cls := "java/lang/String", name := "length", desc := "()I" } : Jvm.MethodName) jdk_42_method_54_code (1 : Nat) (Option.some Jvm.ClassFile.FieldType.int)).before a0 Z = true := hw _ (List.mem_of_getElem? (i := 55) rfl)
theorem w56 {Z : State} {a0 : Array Value} (hw : ∀ d ∈ tables_1, d.before a0 Z = true) : (Jvm.Cond.methodLink "java/lang/String" (335 : Nat) ({ cls := "java/lang/String", name := "coder", desc := "()B" } : Jvm.MethodName)).before a0 Z = true := hw _ (List.mem_of_getElem? (i := 56) rfl)
theorem w57 {Z : State} {a0 : Array Value} (hw : ∀ d ∈ tables_1, d.before a0 Z = true) : (Jvm.Cond.declares ({ cls := "java/lang/String", name := "coder", desc := "()B" } : Jvm.MethodName)).before a0 Z = true := hw _ (List.mem_of_getElem? (i := 57) rfl)
theorem w58 {Z : State} {a0 : Array Value} (hw : ∀ d ∈ tables_1, d.before a0 Z = true) : (Jvm.Cond.instanceMethod ({ cls := "java/lang/String", name := "coder", desc := "()B" } : Jvm.MethodName)).before a0 Z = true := hw _ (List.mem_of_getElem? (i := 58) rfl)
theorem w59 {Z : State} {a0 : Array Value} (hw : ∀ d ∈ tables_1, d.before a0 Z = true) : (Jvm.Cond.selects "java/lang/String" ({ cls := "java/lang/String", name := "coder", desc := "()B" } : Jvm.MethodName) ({ cls := "java/lang/String", name := "coder", desc := "()B" } : Jvm.MethodName)).before a0 Z = true := hw _ (List.mem_of_getElem? (i := 59) rfl)
theorem w60 {Z : State} {a0 : Array Value} (hw : ∀ d ∈ tables_1, d.before a0 Z = true) : (Jvm.Cond.code ({ cls := "java/lang/String", name := "coder", desc := "()B" } : Jvm.MethodName) jdk_42_method_152_code (1 : Nat) (Option.some Jvm.ClassFile.FieldType.byte)).before a0 Z = true := hw _ (List.mem_of_getElem? (i := 60) rfl)
theorem w61 {Z : State} {a0 : Array Value} (hw : ∀ d ∈ tables_1, d.before a0 Z = true) : (Jvm.Cond.methodLink "java/lang/String" (607 : Nat) ({ cls := "jdk/internal/util/ArraysSupport", name := "mismatch", desc := "([BI[BII)I" } : Jvm.MethodName)).before a0 Z = true := hw _ (List.mem_of_getElem? (i := 61) rfl)
theorem w62 {Z : State} {a0 : Array Value} (hw : ∀ d ∈ tables_1, d.before a0 Z = true) : (Jvm.Cond.static ({ cls := "jdk/internal/util/ArraysSupport", name := "mismatch", desc := "([BI[BII)I" } : Jvm.MethodName)).before a0 Z = true := hw _ (List.mem_of_getElem? (i := 62) rfl)
theorem w63 {Z : State} {a0 : Array Value} (hw : ∀ d ∈ tables_1, d.before a0 Z = true) : (Jvm.Cond.initialized "jdk/internal/util/ArraysSupport").before a0 Z = true := hw _ (List.mem_of_getElem? (i := 63) rfl)
theorem w64 {Z : State} {a0 : Array Value} (hw : ∀ d ∈ tables_1, d.before a0 Z = true) : (Jvm.Cond.code ({ cls := "jdk/internal/util/ArraysSupport", name := "mismatch", desc := "([BI[BII)I" } : Jvm.MethodName) jdk_48_method_14_code (8 : Nat) (Option.some Jvm.ClassFile.FieldType.int)).before a0 Z = true := hw _ (List.mem_of_getElem? (i := 64) rfl)
theorem w65 {Z : State} {a0 : Array Value} (hw : ∀ d ∈ tables_1, d.before a0 Z = true) : (Jvm.Cond.methodLink "com/example/epochmark/epochmark/io/Iso2709" (15 : Nat) ({ cls := "java/lang/String", name := "charAt", desc := "(I)C" } : Jvm.MethodName)).before a0 Z = true := hw _ (List.mem_of_getElem? (i := 65) rfl)
theorem w66 {Z : State} {a0 : Array Value} (hw : ∀ d ∈ tables_1, d.before a0 Z = true) : (Jvm.Cond.declares ({ cls := "java/lang/String", name := "charAt", desc := "(I)C" } : Jvm.MethodName)).before a0 Z = true := hw _ (List.mem_of_getElem? (i := 66) rfl)
theorem w67 {Z : State} {a0 : Array Value} (hw : ∀ d ∈ tables_1, d.before a0 Z = true) : (Jvm.Cond.instanceMethod ({ cls := "java/lang/String", name := "charAt", desc := "(I)C" } : Jvm.MethodName)).before a0 Z = true := hw _ (List.mem_of_getElem? (i := 67) rfl)
theorem w68 {Z : State} {a0 : Array Value} (hw : ∀ d ∈ tables_1, d.before a0 Z = true) : (Jvm.Cond.selects "java/lang/String" ({ cls := "java/lang/String", name := "charAt", desc := "(I)C" } : Jvm.MethodName) ({ cls := "java/lang/String", name := "charAt", desc := "(I)C" } : Jvm.MethodName)).before a0 Z = true := hw _ (List.mem_of_getElem? (i := 68) rfl)
theorem w69 {Z : State} {a0 : Array Value} (hw : ∀ d ∈ tables_1, d.before a0 Z = true) : (Jvm.Cond.code ({ cls := "java/lang/String", name := "charAt", desc := "(I)C" } : Jvm.MethodName) jdk_42_method_56_code (2 : Nat) (Option.some Jvm.ClassFile.FieldType.char)).before a0 Z = true := hw _ (List.mem_of_getElem? (i := 69) rfl)
theorem w70 {Z : State} {a0 : Array Value} (hw : ∀ d ∈ tables_1, d.before a0 Z = true) : (Jvm.Cond.methodLink "java/lang/String" (492 : Nat) ({ cls := "java/lang/String", name := "isLatin1", desc := "()Z" } : Jvm.MethodName)).before a0 Z = true := hw _ (List.mem_of_getElem? (i := 70) rfl)
theorem w71 {Z : State} {a0 : Array Value} (hw : ∀ d ∈ tables_1, d.before a0 Z = true) : (Jvm.Cond.declares ({ cls := "java/lang/String", name := "isLatin1", desc := "()Z" } : Jvm.MethodName)).before a0 Z = true := hw _ (List.mem_of_getElem? (i := 71) rfl)
theorem w72 {Z : State} {a0 : Array Value} (hw : ∀ d ∈ tables_1, d.before a0 Z = true) : (Jvm.Cond.instanceMethod ({ cls := "java/lang/String", name := "isLatin1", desc := "()Z" } : Jvm.MethodName)).before a0 Z = true := hw _ (List.mem_of_getElem? (i := 72) rfl)
theorem w73 {Z : State} {a0 : Array Value} (hw : ∀ d ∈ tables_1, d.before a0 Z = true) : (Jvm.Cond.selects "java/lang/String" ({ cls := "java/lang/String", name := "isLatin1", desc := "()Z" } : Jvm.MethodName) ({ cls := "java/lang/String", name := "isLatin1", desc := "()Z" } : Jvm.MethodName)).before a0 Z = true := hw _ (List.mem_of_getElem? (i := 73) rfl)
theorem w74 {Z : State} {a0 : Array Value} (hw : ∀ d ∈ tables_1, d.before a0 Z = true) : (Jvm.Cond.code ({ cls := "java/lang/String", name := "isLatin1", desc := "()Z" } : Jvm.MethodName) jdk_42_method_154_code (1 : Nat) (Option.some Jvm.ClassFile.FieldType.boolean)).before a0 Z = true := hw _ (List.mem_of_getElem? (i := 74) rfl)
theorem w75 {Z : State} {a0 : Array Value} (hw : ∀ d ∈ tables_1, d.before a0 Z = true) : (Jvm.Cond.methodLink "java/lang/String" (495 : Nat) ({ cls := "java/lang/StringLatin1", name := "charAt", desc := "([BI)C" } : Jvm.MethodName)).before a0 Z = true := hw _ (List.mem_of_getElem? (i := 75) rfl)
theorem w76 {Z : State} {a0 : Array Value} (hw : ∀ d ∈ tables_1, d.before a0 Z = true) : (Jvm.Cond.static ({ cls := "java/lang/StringLatin1", name := "charAt", desc := "([BI)C" } : Jvm.MethodName)).before a0 Z = true := hw _ (List.mem_of_getElem? (i := 76) rfl)
theorem w77 {Z : State} {a0 : Array Value} (hw : ∀ d ∈ tables_1, d.before a0 Z = true) : (Jvm.Cond.initialized "java/lang/StringLatin1").before a0 Z = true := hw _ (List.mem_of_getElem? (i := 77) rfl)
theorem w78 {Z : State} {a0 : Array Value} (hw : ∀ d ∈ tables_1, d.before a0 Z = true) : (Jvm.Cond.code ({ cls := "java/lang/StringLatin1", name := "charAt", desc := "([BI)C" } : Jvm.MethodName) jdk_43_method_2_code (2 : Nat) (Option.some Jvm.ClassFile.FieldType.char)).before a0 Z = true := hw _ (List.mem_of_getElem? (i := 78) rfl)
theorem w79 {Z : State} {a0 : Array Value} (hw : ∀ d ∈ tables_1, d.before a0 Z = true) : (Jvm.Cond.methodLink "java/lang/StringLatin1" (9 : Nat) ({ cls := "java/lang/String", name := "checkIndex", desc := "(II)V" } : Jvm.MethodName)).before a0 Z = true := hw _ (List.mem_of_getElem? (i := 79) rfl)
theorem w80 {Z : State} {a0 : Array Value} (hw : ∀ d ∈ tables_1, d.before a0 Z = true) : (Jvm.Cond.static ({ cls := "java/lang/String", name := "checkIndex", desc := "(II)V" } : Jvm.MethodName)).before a0 Z = true := hw _ (List.mem_of_getElem? (i := 80) rfl)
theorem w81 {Z : State} {a0 : Array Value} (hw : ∀ d ∈ tables_1, d.before a0 Z = true) : (Jvm.Cond.code ({ cls := "java/lang/String", name := "checkIndex", desc := "(II)V" } : Jvm.MethodName) jdk_42_method_155_code (2 : Nat) (Option.none : Option Jvm.ClassFile.FieldType)).before a0 Z = true := hw _ (List.mem_of_getElem? (i := 81) rfl)
theorem w82 {Z : State} {a0 : Array Value} (hw : ∀ d ∈ tables_1, d.before a0 Z = true) : (Jvm.Cond.fieldLink "java/lang/String" (1053 : Nat) "jdk/internal/util/Preconditions" "SIOOBE_FORMATTER" "Ljava/util/function/BiFunction;").before a0 Z = true := hw _ (List.mem_of_getElem? (i := 82) rfl)
theorem w83 {Z : State} {a0 : Array Value} (hw : ∀ d ∈ tables_1, d.before a0 Z = true) : (Jvm.Cond.initialized "jdk/internal/util/Preconditions").before a0 Z = true := hw _ (List.mem_of_getElem? (i := 83) rfl)
theorem w84 {Z : State} {a0 : Array Value} (hw : ∀ d ∈ tables_1, d.before a0 Z = true) : (Jvm.Cond.methodLink "java/lang/String" (1059 : Nat) ({ cls := "jdk/internal/util/Preconditions", name := "checkIndex", desc := "(IILjava/util/function/BiFunction;)I" } : Jvm.MethodName)).before a0 Z = true := hw _ (List.mem_of_getElem? (i := 84) rfl)
theorem w85 {Z : State} {a0 : Array Value} (hw : ∀ d ∈ tables_1, d.before a0 Z = true) : (Jvm.Cond.static ({ cls := "jdk/internal/util/Preconditions", name := "checkIndex", desc := "(IILjava/util/function/BiFunction;)I" } : Jvm.MethodName)).before a0 Z = true := hw _ (List.mem_of_getElem? (i := 85) rfl)
theorem w86 {Z : State} {a0 : Array Value} (hw : ∀ d ∈ tables_1, d.before a0 Z = true) : (Jvm.Cond.code ({ cls := "jdk/internal/util/Preconditions", name := "checkIndex", desc := "(IILjava/util/function/BiFunction;)I" } : Jvm.MethodName) jdk_41_method_11_code (3 : Nat) (Option.some Jvm.ClassFile.FieldType.int)).before a0 Z = true := hw _ (List.mem_of_getElem? (i := 86) rfl)
theorem d_jdk_52_21_0 : D jdk_52_method_21_code 0 (.iconst 0) 1 1 := And.intro (by decide +kernel) rfl
theorem d_jdk_52_21_1 : D jdk_52_method_21_code 1 (.istore 5) 2 3 := And.intro (by decide +kernel) rfl
theorem d_jdk_52_21_3 : D jdk_52_method_21_code 3 (.iload 5) 2 5 := And.intro (by decide +kernel) rfl
theorem d_jdk_52_21_5 : D jdk_52_method_21_code 5 (.iload 4) 2 7 := And.intro (by decide +kernel) rfl
theorem d_jdk_52_21_7 : D jdk_52_method_21_code 7 (.if_icmp .ge 37) 3 10 := And.intro (by decide +kernel) rfl
theorem d_jdk_52_21_44 : D jdk_52_method_21_code 44 (.iload 4) 2 46 := And.intro (by decide +kernel) rfl
theorem d_jdk_52_21_46 : D jdk_52_method_21_code 46 (.ireturn) 1 47 := And.intro (by decide +kernel) rfl
theorem d_jdk_52_21_10 : D jdk_52_method_21_code 10 (.aload_n 0) 1 11 := And.intro (by decide +kernel) rfl
theorem d_jdk_52_21_11 : D jdk_52_method_21_code 11 (.iload_n 1) 1 12 := And.intro (by decide +kernel) rfl
theorem d_jdk_52_21_12 : D jdk_52_method_21_code 12 (.caload) 1 13 := And.intro (by decide +kernel) rfl
theorem d_jdk_52_21_13 : D jdk_52_method_21_code 13 (.istore 6) 2 15 := And.intro (by decide +kernel) rfl
theorem d_jdk_52_21_15 : D jdk_52_method_21_code 15 (.iload 6) 2 17 := And.intro (by decide +kernel) rfl
theorem d_jdk_52_21_17 : D jdk_52_method_21_code 17 (.sipush 255) 3 20 := And.intro (by decide +kernel) rfl
theorem d_jdk_52_21_20 : D jdk_52_method_21_code 20 (.if_icmp .le 6) 3 23 := And.intro (by decide +kernel) rfl
theorem d_jdk_52_21_26 : D jdk_52_method_21_code 26 (.aload_n 2) 1 27 := And.intro (by decide +kernel) rfl
theorem d_jdk_52_21_27 : D jdk_52_method_21_code 27 (.iload_n 3) 1 28 := And.intro (by decide +kernel) rfl
theorem d_jdk_52_21_28 : D jdk_52_method_21_code 28 (.iload 6) 2 30 := And.intro (by decide +kernel) rfl
theorem d_jdk_52_21_30 : D jdk_52_method_21_code 30 (.i2b) 1 31 := And.intro (by decide +kernel) rfl
theorem d_jdk_52_21_31 : D jdk_52_method_21_code 31 (.bastore) 1 32 := And.intro (by decide +kernel) rfl
theorem d_jdk_52_21_32 : D jdk_52_method_21_code 32 (.iinc 1 1) 3 35 := And.intro (by decide +kernel) rfl
theorem d_jdk_52_21_35 : D jdk_52_method_21_code 35 (.iinc 3 1) 3 38 := And.intro (by decide +kernel) rfl
theorem d_jdk_52_21_38 : D jdk_52_method_21_code 38 (.iinc 5 1) 3 41 := And.intro (by decide +kernel) rfl
theorem d_jdk_52_21_41 : D jdk_52_method_21_code 41 (.goto (-38)) 3 44 := And.intro (by decide +kernel) rfl
theorem pn0 : plainName "java/lang/StringUTF16" = true := by first | (simp [plainName, overriddenIn]; done) | decide +kernel
theorem d_jdk_52_16_0 : D jdk_52_method_16_code 0 (.iload_n 2) 1 1 := And.intro (by decide +kernel) rfl
theorem d_jdk_52_16_1 : D jdk_52_method_16_code 1 (.newarray .byte) 2 3 := And.intro (by decide +kernel) rfl
theorem d_jdk_52_16_3 : D jdk_52_method_16_code 3 (.astore_n 3) 1 4 := And.intro (by decide +kernel) rfl
theorem d_jdk_52_16_4 : D jdk_52_method_16_code 4 (.aload_n 0) 1 5 := And.intro (by decide +kernel) rfl
theorem d_jdk_52_16_5 : D jdk_52_method_16_code 5 (.iload_n 1) 1 6 := And.intro (by decide +kernel) rfl
theorem d_jdk_52_16_6 : D jdk_52_method_16_code 6 (.aload_n 3) 1 7 := And.intro (by decide +kernel) rfl
theorem d_jdk_52_16_7 : D jdk_52_method_16_code 7 (.iconst 0) 1 8 := And.intro (by decide +kernel) rfl
theorem d_jdk_52_16_8 : D jdk_52_method_16_code 8 (.iload_n 2) 1 9 := And.intro (by decide +kernel) rfl
theorem d_jdk_52_16_9 : D jdk_52_method_16_code 9 (.invokestatic 115) 3 12 := And.intro (by decide +kernel) rfl
theorem pd0 : parseMethodDescriptor "([CI[BII)I" = some ⟨[(.array .char), .int, (.array .byte), .int, .int], some .int⟩ := by decide +kernel
theorem d_jdk_52_16_12 : D jdk_52_method_16_code 12 (.istore 4) 2 14 := And.intro (by decide +kernel) rfl
theorem d_jdk_52_16_14 : D jdk_52_method_16_code 14 (.iload 4) 2 16 := And.intro (by decide +kernel) rfl
theorem d_jdk_52_16_16 : D jdk_52_method_16_code 16 (.iload_n 2) 1 17 := And.intro (by decide +kernel) rfl
theorem d_jdk_52_16_17 : D jdk_52_method_16_code 17 (.if_icmp .eq 40) 3 20 := And.intro (by decide +kernel) rfl
theorem d_jdk_52_16_57 : D jdk_52_method_16_code 57 (.aload_n 3) 1 58 := And.intro (by decide +kernel) rfl
theorem d_jdk_52_16_58 : D jdk_52_method_16_code 58 (.areturn) 1 59 := And.intro (by decide +kernel) rfl
theorem d_jdk_52_15_0 : D jdk_52_method_15_code 0 (.iload_n 1) 1 1 := And.intro (by decide +kernel) rfl
theorem d_jdk_52_15_1 : D jdk_52_method_15_code 1 (.aload_n 0) 1 2 := And.intro (by decide +kernel) rfl
theorem d_jdk_52_15_2 : D jdk_52_method_15_code 2 (.arraylength) 1 3 := And.intro (by decide +kernel) rfl
theorem d_jdk_52_15_3 : D jdk_52_method_15_code 3 (.isub) 1 4 := And.intro (by decide +kernel) rfl
theorem d_jdk_52_15_4 : D jdk_52_method_15_code 4 (.bipush 31) 2 6 := And.intro (by decide +kernel) rfl
theorem d_jdk_52_15_6 : D jdk_52_method_15_code 6 (.iushr) 1 7 := And.intro (by decide +kernel) rfl
theorem d_jdk_52_15_7 : D jdk_52_method_15_code 7 (.i2b) 1 8 := And.intro (by decide +kernel) rfl
theorem d_jdk_52_15_8 : D jdk_52_method_15_code 8 (.ireturn) 1 9 := And.intro (by decide +kernel) rfl
theorem d_jdk_42_149_0 : D jdk_42_method_149_code 0 (.aload_n 0) 1 1 := And.intro (by decide +kernel) rfl
theorem d_jdk_42_149_1 : D jdk_42_method_149_code 1 (.invokespecial 1) 3 4 := And.intro (by decide +kernel) rfl
theorem d_jdk_42_149_4 : D jdk_42_method_149_code 4 (.iload_n 3) 1 5 := And.intro (by decide +kernel) rfl
theorem d_jdk_42_149_5 : D jdk_42_method_149_code 5 (.ifCond .ne 22) 3 8 := And.intro (by decide +kernel) rfl
theorem d_jdk_42_149_27 : D jdk_42_method_149_code 27 (.getstatic 38) 3 30 := And.intro (by decide +kernel) rfl
theorem d_jdk_42_149_30 : D jdk_42_method_149_code 30 (.ifCond .eq 28) 3 33 := And.intro (by decide +kernel) rfl
theorem d_jdk_42_149_33 : D jdk_42_method_149_code 33 (.aload_n 1) 1 34 := And.intro (by decide +kernel) rfl
theorem d_jdk_42_149_34 : D jdk_42_method_149_code 34 (.iload_n 2) 1 35 := And.intro (by decide +kernel) rfl
theorem d_jdk_42_149_35 : D jdk_42_method_149_code 35 (.iload_n 3) 1 36 := And.intro (by decide +kernel) rfl
theorem d_jdk_42_149_36 : D jdk_42_method_149_code 36 (.invokestatic 177) 3 39 := And.intro (by decide +kernel) rfl
theorem pd1 : parseMethodDescriptor "([CII)[B" = some ⟨[(.array .char), .int, .int], some (.array .byte)⟩ := by decide +kernel
theorem d_jdk_42_149_39 : D jdk_42_method_149_code 39 (.astore 5) 2 41 := And.intro (by decide +kernel) rfl
theorem d_jdk_42_149_41 : D jdk_42_method_149_code 41 (.aload_n 0) 1 42 := And.intro (by decide +kernel) rfl
theorem d_jdk_42_149_42 : D jdk_42_method_149_code 42 (.aload 5) 2 44 := And.intro (by decide +kernel) rfl
theorem d_jdk_42_149_44 : D jdk_42_method_149_code 44 (.iload_n 3) 1 45 := And.intro (by decide +kernel) rfl
theorem d_jdk_42_149_45 : D jdk_42_method_149_code 45 (.invokestatic 47) 3 48 := And.intro (by decide +kernel) rfl
theorem pd2 : parseMethodDescriptor "([BI)B" = some ⟨[(.array .byte), .int], some .byte⟩ := by decide +kernel
theorem d_jdk_42_149_48 : D jdk_42_method_149_code 48 (.putfield 15) 3 51 := And.intro (by decide +kernel) rfl
theorem d_jdk_42_149_51 : D jdk_42_method_149_code 51 (.aload_n 0) 1 52 := And.intro (by decide +kernel) rfl
theorem d_jdk_42_149_52 : D jdk_42_method_149_code 52 (.aload 5) 2 54 := And.intro (by decide +kernel) rfl
theorem d_jdk_42_149_54 : D jdk_42_method_149_code 54 (.putfield 9) 3 57 := And.intro (by decide +kernel) rfl
theorem d_jdk_42_149_57 : D jdk_42_method_149_code 57 (.return_) 1 58 := And.intro (by decide +kernel) rfl
theorem pn1 : plainName "java/lang/String" = true := by first | (simp [plainName, overriddenIn]; done) | decide +kernel
theorem d_jdk_42_3_0 : D jdk_42_method_3_code 0 (.aload_n 0) 1 1 := And.intro (by decide +kernel) rfl
theorem d_jdk_42_3_1 : D jdk_42_method_3_code 1 (.aload_n 1) 1 2 := And.intro (by decide +kernel) rfl
theorem d_jdk_42_3_2 : D jdk_42_method_3_code 2 (.iconst 0) 1 3 := And.intro (by decide +kernel) rfl
theorem d_jdk_42_3_3 : D jdk_42_method_3_code 3 (.aload_n 1) 1 4 := And.intro (by decide +kernel) rfl
theorem d_jdk_42_3_4 : D jdk_42_method_3_code 4 (.arraylength) 1 5 := And.intro (by decide +kernel) rfl
theorem d_jdk_42_3_5 : D jdk_42_method_3_code 5 (.aconst_null) 1 6 := And.intro (by decide +kernel) rfl
theorem d_jdk_42_3_6 : D jdk_42_method_3_code 6 (.invokespecial 27) 3 9 := And.intro (by decide +kernel) rfl
theorem pd3 : parseMethodDescriptor "([CIILjava/lang/Void;)V" = some ⟨[(.array .char), .int, .int, (.object "java/lang/Void")], none⟩ := by decide +kernel
theorem d_jdk_42_3_9 : D jdk_42_method_3_code 9 (.return_) 1 10 := And.intro (by decide +kernel) rfl
theorem d_jdk_41_11_0 : D jdk_41_method_11_code 0 (.iload_n 0) 1 1 := And.intro (by decide +kernel) rfl
theorem d_jdk_41_11_1 : D jdk_41_method_11_code 1 (.ifCond .lt 8) 3 4 := And.intro (by decide +kernel) rfl
theorem d_jdk_41_11_4 : D jdk_41_method_11_code 4 (.iload_n 0) 1 5 := And.intro (by decide +kernel) rfl
theorem d_jdk_41_11_5 : D jdk_41_method_11_code 5 (.iload_n 1) 1 6 := And.intro (by decide +kernel) rfl
theorem d_jdk_41_11_6 : D jdk_41_method_11_code 6 (.if_icmp .lt 10) 3 9 := And.intro (by decide +kernel) rfl
theorem d_jdk_41_11_16 : D jdk_41_method_11_code 16 (.iload_n 0) 1 17 := And.intro (by decide +kernel) rfl
theorem d_jdk_41_11_17 : D jdk_41_method_11_code 17 (.ireturn) 1 18 := And.intro (by decide +kernel) rfl
theorem pn2 : plainName "jdk/internal/util/Preconditions" = true := by first | (simp [plainName, overriddenIn]; done) | decide +kernel
theorem d_jdk_42_155_0 : D jdk_42_method_155_code 0 (.iload_n 0) 1 1 := And.intro (by decide +kernel) rfl
theorem d_jdk_42_155_1 : D jdk_42_method_155_code 1 (.iload_n 1) 1 2 := And.intro (by decide +kernel) rfl
theorem d_jdk_42_155_2 : D jdk_42_method_155_code 2 (.getstatic 1053) 3 5 := And.intro (by decide +kernel) rfl
theorem d_jdk_42_155_5 : D jdk_42_method_155_code 5 (.invokestatic 1059) 3 8 := And.intro (by decide +kernel) rfl
theorem pd4 : parseMethodDescriptor "(IILjava/util/function/BiFunction;)I" = some ⟨[.int, .int, (.object "java/util/function/BiFunction")], some .int⟩ := by decide +kernel
theorem d_jdk_42_155_8 : D jdk_42_method_155_code 8 (.pop) 1 9 := And.intro (by decide +kernel) rfl
theorem d_jdk_42_155_9 : D jdk_42_method_155_code 9 (.return_) 1 10 := And.intro (by decide +kernel) rfl
theorem d_jdk_42_154_0 : D jdk_42_method_154_code 0 (.getstatic 38) 3 3 := And.intro (by decide +kernel) rfl
theorem d_jdk_42_154_3 : D jdk_42_method_154_code 3 (.ifCond .eq 14) 3 6 := And.intro (by decide +kernel) rfl
theorem d_jdk_42_154_6 : D jdk_42_method_154_code 6 (.aload_n 0) 1 7 := And.intro (by decide +kernel) rfl
theorem d_jdk_42_154_7 : D jdk_42_method_154_code 7 (.getfield 15) 3 10 := And.intro (by decide +kernel) rfl
theorem d_jdk_42_154_10 : D jdk_42_method_154_code 10 (.ifCond .ne 7) 3 13 := And.intro (by decide +kernel) rfl
theorem d_jdk_42_154_13 : D jdk_42_method_154_code 13 (.iconst 1) 1 14 := And.intro (by decide +kernel) rfl
theorem d_jdk_42_154_14 : D jdk_42_method_154_code 14 (.goto 4) 3 17 := And.intro (by decide +kernel) rfl
theorem d_jdk_42_154_18 : D jdk_42_method_154_code 18 (.ireturn) 1 19 := And.intro (by decide +kernel) rfl
theorem d_jdk_43_2_0 : D jdk_43_method_2_code 0 (.iload_n 1) 1 1 := And.intro (by decide +kernel) rfl
theorem d_jdk_43_2_1 : D jdk_43_method_2_code 1 (.aload_n 0) 1 2 := And.intro (by decide +kernel) rfl
theorem d_jdk_43_2_2 : D jdk_43_method_2_code 2 (.arraylength) 1 3 := And.intro (by decide +kernel) rfl
theorem d_jdk_43_2_3 : D jdk_43_method_2_code 3 (.invokestatic 9) 3 6 := And.intro (by decide +kernel) rfl
theorem pd5 : parseMethodDescriptor "(II)V" = some ⟨[.int, .int], none⟩ := by decide +kernel
theorem d_jdk_43_2_6 : D jdk_43_method_2_code 6 (.aload_n 0) 1 7 := And.intro (by decide +kernel) rfl
theorem d_jdk_43_2_7 : D jdk_43_method_2_code 7 (.iload_n 1) 1 8 := And.intro (by decide +kernel) rfl
theorem d_jdk_43_2_8 : D jdk_43_method_2_code 8 (.baload) 1 9 := And.intro (by decide +kernel) rfl
theorem d_jdk_43_2_9 : D jdk_43_method_2_code 9 (.sipush 255) 3 12 := And.intro (by decide +kernel) rfl
theorem d_jdk_43_2_12 : D jdk_43_method_2_code 12 (.iand) 1 13 := And.intro (by decide +kernel) rfl
theorem d_jdk_43_2_13 : D jdk_43_method_2_code 13 (.i2c) 1 14 := And.intro (by decide +kernel) rfl
theorem d_jdk_43_2_14 : D jdk_43_method_2_code 14 (.ireturn) 1 15 := And.intro (by decide +kernel) rfl
theorem pn3 : plainName "java/lang/StringLatin1" = true := by first | (simp [plainName, overriddenIn]; done) | decide +kernel
theorem d_jdk_42_56_0 : D jdk_42_method_56_code 0 (.aload_n 0) 1 1 := And.intro (by decide +kernel) rfl
theorem d_jdk_42_56_1 : D jdk_42_method_56_code 1 (.invokevirtual 492) 3 4 := And.intro (by decide +kernel) rfl
theorem pd6 : parseMethodDescriptor "()Z" = some ⟨[], some .boolean⟩ := by decide +kernel
theorem d_jdk_42_56_4 : D jdk_42_method_56_code 4 (.ifCond .eq 12) 3 7 := And.intro (by decide +kernel) rfl
theorem d_jdk_42_56_7 : D jdk_42_method_56_code 7 (.aload_n 0) 1 8 := And.intro (by decide +kernel) rfl
theorem d_jdk_42_56_8 : D jdk_42_method_56_code 8 (.getfield 9) 3 11 := And.intro (by decide +kernel) rfl
theorem d_jdk_42_56_11 : D jdk_42_method_56_code 11 (.iload_n 1) 1 12 := And.intro (by decide +kernel) rfl
theorem d_jdk_42_56_12 : D jdk_42_method_56_code 12 (.invokestatic 495) 3 15 := And.intro (by decide +kernel) rfl
theorem pd7 : parseMethodDescriptor "([BI)C" = some ⟨[(.array .byte), .int], some .char⟩ := by decide +kernel
theorem d_jdk_42_56_15 : D jdk_42_method_56_code 15 (.ireturn) 1 16 := And.intro (by decide +kernel) rfl
theorem d_jdk_42_152_0 : D jdk_42_method_152_code 0 (.getstatic 38) 3 3 := And.intro (by decide +kernel) rfl
theorem d_jdk_42_152_3 : D jdk_42_method_152_code 3 (.ifCond .eq 10) 3 6 := And.intro (by decide +kernel) rfl
theorem d_jdk_42_152_6 : D jdk_42_method_152_code 6 (.aload_n 0) 1 7 := And.intro (by decide +kernel) rfl
theorem d_jdk_42_152_7 : D jdk_42_method_152_code 7 (.getfield 15) 3 10 := And.intro (by decide +kernel) rfl
theorem d_jdk_42_152_10 : D jdk_42_method_152_code 10 (.goto 4) 3 13 := And.intro (by decide +kernel) rfl
theorem d_jdk_42_152_14 : D jdk_42_method_152_code 14 (.ireturn) 1 15 := And.intro (by decide +kernel) rfl
theorem d_jdk_42_54_0 : D jdk_42_method_54_code 0 (.aload_n 0) 1 1 := And.intro (by decide +kernel) rfl
theorem d_jdk_42_54_1 : D jdk_42_method_54_code 1 (.getfield 9) 3 4 := And.intro (by decide +kernel) rfl
theorem d_jdk_42_54_4 : D jdk_42_method_54_code 4 (.arraylength) 1 5 := And.intro (by decide +kernel) rfl
theorem d_jdk_42_54_5 : D jdk_42_method_54_code 5 (.aload_n 0) 1 6 := And.intro (by decide +kernel) rfl
theorem d_jdk_42_54_6 : D jdk_42_method_54_code 6 (.invokevirtual 335) 3 9 := And.intro (by decide +kernel) rfl
theorem pd8 : parseMethodDescriptor "()B" = some ⟨[], some .byte⟩ := by decide +kernel
theorem d_jdk_42_54_9 : D jdk_42_method_54_code 9 (.ishr) 1 10 := And.intro (by decide +kernel) rfl
theorem d_jdk_42_54_10 : D jdk_42_method_54_code 10 (.ireturn) 1 11 := And.intro (by decide +kernel) rfl
theorem d_jdk_48_14_0 : D jdk_48_method_14_code 0 (.iconst 0) 1 1 := And.intro (by decide +kernel) rfl
theorem d_jdk_48_14_1 : D jdk_48_method_14_code 1 (.istore 5) 2 3 := And.intro (by decide +kernel) rfl
theorem d_jdk_48_14_3 : D jdk_48_method_14_code 3 (.iload 4) 2 5 := And.intro (by decide +kernel) rfl
theorem d_jdk_48_14_5 : D jdk_48_method_14_code 5 (.bipush 7) 2 7 := And.intro (by decide +kernel) rfl
theorem d_jdk_48_14_7 : D jdk_48_method_14_code 7 (.if_icmp .le 63) 3 10 := And.intro (by decide +kernel) rfl
theorem d_jdk_48_14_70 : D jdk_48_method_14_code 70 (.iload 5) 2 72 := And.intro (by decide +kernel) rfl
theorem d_jdk_48_14_72 : D jdk_48_method_14_code 72 (.iload 4) 2 74 := And.intro (by decide +kernel) rfl
theorem d_jdk_48_14_74 : D jdk_48_method_14_code 74 (.if_icmp .ge 27) 3 77 := And.intro (by decide +kernel) rfl
theorem d_jdk_48_14_101 : D jdk_48_method_14_code 101 (.iconst (-1)) 1 102 := And.intro (by decide +kernel) rfl
theorem d_jdk_48_14_102 : D jdk_48_method_14_code 102 (.ireturn) 1 103 := And.intro (by decide +kernel) rfl
theorem d_jdk_48_14_77 : D jdk_48_method_14_code 77 (.aload_n 0) 1 78 := And.intro (by decide +kernel) rfl
theorem d_jdk_48_14_78 : D jdk_48_method_14_code 78 (.iload_n 1) 1 79 := And.intro (by decide +kernel) rfl
theorem d_jdk_48_14_79 : D jdk_48_method_14_code 79 (.iload 5) 2 81 := And.intro (by decide +kernel) rfl
theorem d_jdk_48_14_81 : D jdk_48_method_14_code 81 (.iadd) 1 82 := And.intro (by decide +kernel) rfl
theorem d_jdk_48_14_82 : D jdk_48_method_14_code 82 (.baload) 1 83 := And.intro (by decide +kernel) rfl
theorem d_jdk_48_14_83 : D jdk_48_method_14_code 83 (.aload_n 2) 1 84 := And.intro (by decide +kernel) rfl
theorem d_jdk_48_14_84 : D jdk_48_method_14_code 84 (.iload_n 3) 1 85 := And.intro (by decide +kernel) rfl
theorem d_jdk_48_14_85 : D jdk_48_method_14_code 85 (.iload 5) 2 87 := And.intro (by decide +kernel) rfl
theorem d_jdk_48_14_87 : D jdk_48_method_14_code 87 (.iadd) 1 88 := And.intro (by decide +kernel) rfl
theorem d_jdk_48_14_88 : D jdk_48_method_14_code 88 (.baload) 1 89 := And.intro (by decide +kernel) rfl
theorem d_jdk_48_14_89 : D jdk_48_method_14_code 89 (.if_icmp .eq 6) 3 92 := And.intro (by decide +kernel) rfl
theorem d_jdk_48_14_95 : D jdk_48_method_14_code 95 (.iinc 5 1) 3 98 := And.intro (by decide +kernel) rfl
theorem d_jdk_48_14_98 : D jdk_48_method_14_code 98 (.goto (-28)) 3 101 := And.intro (by decide +kernel) rfl
theorem d_jdk_48_14_92 : D jdk_48_method_14_code 92 (.iload 5) 2 94 := And.intro (by decide +kernel) rfl
theorem d_jdk_48_14_94 : D jdk_48_method_14_code 94 (.ireturn) 1 95 := And.intro (by decide +kernel) rfl
theorem pn4 : plainName "jdk/internal/util/ArraysSupport" = true := by first | (simp [plainName, overriddenIn]; done) | decide +kernel
theorem d_jdk_42_75_0 : D jdk_42_method_75_code 0 (.iload_n 2) 1 1 := And.intro (by decide +kernel) rfl
theorem d_jdk_42_75_1 : D jdk_42_method_75_code 1 (.ifCond .lt 16) 3 4 := And.intro (by decide +kernel) rfl
theorem d_jdk_42_75_4 : D jdk_42_method_75_code 4 (.iload_n 2) 1 5 := And.intro (by decide +kernel) rfl
theorem d_jdk_42_75_5 : D jdk_42_method_75_code 5 (.aload_n 0) 1 6 := And.intro (by decide +kernel) rfl
theorem d_jdk_42_75_6 : D jdk_42_method_75_code 6 (.invokevirtual 505) 3 9 := And.intro (by decide +kernel) rfl
theorem pd9 : parseMethodDescriptor "()I" = some ⟨[], some .int⟩ := by decide +kernel
theorem d_jdk_42_75_9 : D jdk_42_method_75_code 9 (.aload_n 1) 1 10 := And.intro (by decide +kernel) rfl
theorem d_jdk_42_75_10 : D jdk_42_method_75_code 10 (.invokevirtual 505) 3 13 := And.intro (by decide +kernel) rfl
theorem d_jdk_42_75_13 : D jdk_42_method_75_code 13 (.isub) 1 14 := And.intro (by decide +kernel) rfl
theorem d_jdk_42_75_14 : D jdk_42_method_75_code 14 (.if_icmp .le 5) 3 17 := And.intro (by decide +kernel) rfl
theorem d_jdk_42_75_19 : D jdk_42_method_75_code 19 (.aload_n 0) 1 20 := And.intro (by decide +kernel) rfl
theorem d_jdk_42_75_20 : D jdk_42_method_75_code 20 (.getfield 9) 3 23 := And.intro (by decide +kernel) rfl
theorem d_jdk_42_75_23 : D jdk_42_method_75_code 23 (.astore_n 3) 1 24 := And.intro (by decide +kernel) rfl
theorem d_jdk_42_75_24 : D jdk_42_method_75_code 24 (.aload_n 1) 1 25 := And.intro (by decide +kernel) rfl
theorem d_jdk_42_75_25 : D jdk_42_method_75_code 25 (.getfield 9) 3 28 := And.intro (by decide +kernel) rfl
theorem d_jdk_42_75_28 : D jdk_42_method_75_code 28 (.astore 4) 2 30 := And.intro (by decide +kernel) rfl
theorem d_jdk_42_75_30 : D jdk_42_method_75_code 30 (.iconst 0) 1 31 := And.intro (by decide +kernel) rfl
theorem d_jdk_42_75_31 : D jdk_42_method_75_code 31 (.istore 5) 2 33 := And.intro (by decide +kernel) rfl
theorem d_jdk_42_75_33 : D jdk_42_method_75_code 33 (.aload 4) 2 35 := And.intro (by decide +kernel) rfl
theorem d_jdk_42_75_35 : D jdk_42_method_75_code 35 (.arraylength) 1 36 := And.intro (by decide +kernel) rfl
theorem d_jdk_42_75_36 : D jdk_42_method_75_code 36 (.istore 6) 2 38 := And.intro (by decide +kernel) rfl
theorem d_jdk_42_75_38 : D jdk_42_method_75_code 38 (.aload_n 0) 1 39 := And.intro (by decide +kernel) rfl
theorem d_jdk_42_75_39 : D jdk_42_method_75_code 39 (.invokevirtual 335) 3 42 := And.intro (by decide +kernel) rfl
theorem d_jdk_42_75_42 : D jdk_42_method_75_code 42 (.istore 7) 2 44 := And.intro (by decide +kernel) rfl
theorem d_jdk_42_75_44 : D jdk_42_method_75_code 44 (.iload 7) 2 46 := And.intro (by decide +kernel) rfl
theorem d_jdk_42_75_46 : D jdk_42_method_75_code 46 (.aload_n 1) 1 47 := And.intro (by decide +kernel) rfl
theorem d_jdk_42_75_47 : D jdk_42_method_75_code 47 (.invokevirtual 335) 3 50 := And.intro (by decide +kernel) rfl
theorem d_jdk_42_75_50 : D jdk_42_method_75_code 50 (.if_icmp .ne 32) 3 53 := And.intro (by decide +kernel) rfl
theorem d_jdk_42_75_53 : D jdk_42_method_75_code 53 (.iload 7) 2 55 := And.intro (by decide +kernel) rfl
theorem d_jdk_42_75_55 : D jdk_42_method_75_code 55 (.iconst 1) 1 56 := And.intro (by decide +kernel) rfl
theorem d_jdk_42_75_56 : D jdk_42_method_75_code 56 (.if_icmp .ne 7) 3 59 := And.intro (by decide +kernel) rfl
theorem d_jdk_42_75_63 : D jdk_42_method_75_code 63 (.aload_n 3) 1 64 := And.intro (by decide +kernel) rfl
theorem d_jdk_42_75_64 : D jdk_42_method_75_code 64 (.iload_n 2) 1 65 := And.intro (by decide +kernel) rfl
theorem d_jdk_42_75_65 : D jdk_42_method_75_code 65 (.aload 4) 2 67 := And.intro (by decide +kernel) rfl
theorem d_jdk_42_75_67 : D jdk_42_method_75_code 67 (.iconst 0) 1 68 := And.intro (by decide +kernel) rfl
theorem d_jdk_42_75_68 : D jdk_42_method_75_code 68 (.iload 6) 2 70 := And.intro (by decide +kernel) rfl
theorem d_jdk_42_75_70 : D jdk_42_method_75_code 70 (.invokestatic 607) 3 73 := And.intro (by decide +kernel) rfl
theorem pd10 : parseMethodDescriptor "([BI[BII)I" = some ⟨[(.array .byte), .int, (.array .byte), .int, .int], some .int⟩ := by decide +kernel
theorem d_jdk_42_75_73 : D jdk_42_method_75_code 73 (.ifCond .ge 7) 3 76 := And.intro (by decide +kernel) rfl
theorem d_jdk_42_75_76 : D jdk_42_method_75_code 76 (.iconst 1) 1 77 := And.intro (by decide +kernel) rfl
theorem d_jdk_42_75_77 : D jdk_42_method_75_code 77 (.goto 4) 3 80 := And.intro (by decide +kernel) rfl
theorem d_jdk_42_75_81 : D jdk_42_method_75_code 81 (.ireturn) 1 82 := And.intro (by decide +kernel) rfl
theorem d_jdk_42_75_80 : D jdk_42_method_75_code 80 (.iconst 0) 1 81 := And.intro (by decide +kernel) rfl
theorem d_jdk_42_76_0 : D jdk_42_method_76_code 0 (.aload_n 0) 1 1 := And.intro (by decide +kernel) rfl
theorem d_jdk_42_76_1 : D jdk_42_method_76_code 1 (.aload_n 1) 1 2 := And.intro (by decide +kernel) rfl
theorem d_jdk_42_76_2 : D jdk_42_method_76_code 2 (.iconst 0) 1 3 := And.intro (by decide +kernel) rfl
theorem d_jdk_42_76_3 : D jdk_42_method_76_code 3 (.invokevirtual 624) 3 6 := And.intro (by decide +kernel) rfl
theorem pd11 : parseMethodDescriptor "(Ljava/lang/String;I)Z" = some ⟨[(.object "java/lang/String"), .int], some .boolean⟩ := by decide +kernel
theorem d_jdk_42_76_6 : D jdk_42_method_76_code 6 (.ireturn) 1 7 := And.intro (by decide +kernel) rfl
theorem d_method_2_0 : D method_2_code 0 (.iload_n 0) 1 1 := And.intro (by decide +kernel) rfl
theorem d_method_2_1 : D method_2_code 1 (.sipush 255) 3 4 := And.intro (by decide +kernel) rfl
theorem d_method_2_4 : D method_2_code 4 (.iand) 1 5 := And.intro (by decide +kernel) rfl
theorem d_method_2_5 : D method_2_code 5 (.istore_n 1) 1 6 := And.intro (by decide +kernel) rfl
theorem d_method_2_6 : D method_2_code 6 (.iload_n 0) 1 7 := And.intro (by decide +kernel) rfl
theorem d_method_2_7 : D method_2_code 7 (.bipush 8) 2 9 := And.intro (by decide +kernel) rfl
theorem d_method_2_9 : D method_2_code 9 (.iushr) 1 10 := And.intro (by decide +kernel) rfl
theorem d_method_2_10 : D method_2_code 10 (.iconst 1) 1 11 := And.intro (by decide +kernel) rfl
theorem d_method_2_11 : D method_2_code 11 (.iand) 1 12 := And.intro (by decide +kernel) rfl
theorem d_method_2_12 : D method_2_code 12 (.ifCond .ne 12) 3 15 := And.intro (by decide +kernel) rfl
theorem d_method_2_24 : D method_2_code 24 (.iload_n 1) 1 25 := And.intro (by decide +kernel) rfl
theorem d_method_2_25 : D method_2_code 25 (.i2c) 1 26 := And.intro (by decide +kernel) rfl
theorem d_method_2_26 : D method_2_code 26 (.ireturn) 1 27 := And.intro (by decide +kernel) rfl
theorem d_method_2_15 : D method_2_code 15 (.bipush 46) 2 17 := And.intro (by decide +kernel) rfl
theorem d_method_2_17 : D method_2_code 17 (.iload_n 1) 1 18 := And.intro (by decide +kernel) rfl
theorem d_method_2_18 : D method_2_code 18 (.bipush 14) 2 20 := And.intro (by decide +kernel) rfl
theorem d_method_2_20 : D method_2_code 20 (.irem) 1 21 := And.intro (by decide +kernel) rfl
theorem d_method_2_21 : D method_2_code 21 (.iadd) 1 22 := And.intro (by decide +kernel) rfl
theorem d_method_2_22 : D method_2_code 22 (.i2c) 1 23 := And.intro (by decide +kernel) rfl
theorem d_method_2_23 : D method_2_code 23 (.ireturn) 1 24 := And.intro (by decide +kernel) rfl
theorem pn5 : plainName "com/example/epochmark/epochmark/io/Iso2709IsControlTagPinLaw" = true := by first | (simp [plainName, overriddenIn]; done) | decide +kernel
theorem d_prog_4_2_0 : D prog_4_method_2_code 0 (.aload_n 0) 1 1 := And.intro (by decide +kernel) rfl
theorem d_prog_4_2_1 : D prog_4_method_2_code 1 (.ldc 7) 2 3 := And.intro (by decide +kernel) rfl
theorem d_prog_4_2_3 : D prog_4_method_2_code 3 (.invokevirtual 9) 3 6 := And.intro (by decide +kernel) rfl
theorem pd12 : parseMethodDescriptor "(Ljava/lang/String;)Z" = some ⟨[(.object "java/lang/String")], some .boolean⟩ := by decide +kernel
theorem d_prog_4_2_6 : D prog_4_method_2_code 6 (.ifCond .eq 27) 3 9 := And.intro (by decide +kernel) rfl
theorem d_prog_4_2_9 : D prog_4_method_2_code 9 (.aload_n 0) 1 10 := And.intro (by decide +kernel) rfl
theorem d_prog_4_2_10 : D prog_4_method_2_code 10 (.iconst 2) 1 11 := And.intro (by decide +kernel) rfl
theorem d_prog_4_2_11 : D prog_4_method_2_code 11 (.invokevirtual 15) 3 14 := And.intro (by decide +kernel) rfl
theorem pd13 : parseMethodDescriptor "(I)C" = some ⟨[.int], some .char⟩ := by decide +kernel
theorem d_prog_4_2_14 : D prog_4_method_2_code 14 (.bipush 48) 2 16 := And.intro (by decide +kernel) rfl
theorem d_prog_4_2_16 : D prog_4_method_2_code 16 (.if_icmp .lt 17) 3 19 := And.intro (by decide +kernel) rfl
theorem d_prog_4_2_33 : D prog_4_method_2_code 33 (.iconst 0) 1 34 := And.intro (by decide +kernel) rfl
theorem d_prog_4_2_34 : D prog_4_method_2_code 34 (.ireturn) 1 35 := And.intro (by decide +kernel) rfl
theorem d_prog_4_2_19 : D prog_4_method_2_code 19 (.aload_n 0) 1 20 := And.intro (by decide +kernel) rfl
theorem d_prog_4_2_20 : D prog_4_method_2_code 20 (.iconst 2) 1 21 := And.intro (by decide +kernel) rfl
theorem d_prog_4_2_21 : D prog_4_method_2_code 21 (.invokevirtual 15) 3 24 := And.intro (by decide +kernel) rfl
theorem d_prog_4_2_24 : D prog_4_method_2_code 24 (.bipush 57) 2 26 := And.intro (by decide +kernel) rfl
theorem d_prog_4_2_26 : D prog_4_method_2_code 26 (.if_icmp .gt 7) 3 29 := And.intro (by decide +kernel) rfl
theorem d_prog_4_2_29 : D prog_4_method_2_code 29 (.iconst 1) 1 30 := And.intro (by decide +kernel) rfl
theorem d_prog_4_2_30 : D prog_4_method_2_code 30 (.goto 4) 3 33 := And.intro (by decide +kernel) rfl
theorem pn6 : plainName "com/example/epochmark/epochmark/io/Iso2709" = true := by first | (simp [plainName, overriddenIn]; done) | decide +kernel
theorem d_code_0 : D code 0 (.iload_n 0) 1 1 := And.intro at_0 rfl
theorem d_code_1 : D code 1 (.invokestatic 7) 3 4 := And.intro at_1 rfl
theorem d_code_4 : D code 4 (.istore_n 3) 1 5 := And.intro at_4 rfl
theorem d_code_5 : D code 5 (.iload_n 1) 1 6 := And.intro at_5 rfl
theorem d_code_6 : D code 6 (.invokestatic 7) 3 9 := And.intro at_6 rfl
theorem d_code_9 : D code 9 (.istore 4) 2 11 := And.intro at_9 rfl
theorem d_code_11 : D code 11 (.iload_n 2) 1 12 := And.intro at_11 rfl
theorem d_code_12 : D code 12 (.invokestatic 7) 3 15 := And.intro at_12 rfl
theorem d_code_15 : D code 15 (.istore 5) 2 17 := And.intro at_15 rfl
theorem d_code_17 : D code 17 (.new 13) 3 20 := And.intro at_17 rfl
theorem d_code_20 : D code 20 (.dup) 1 21 := And.intro at_20 rfl
theorem d_code_21 : D code 21 (.iconst 3) 1 22 := And.intro at_21 rfl
theorem d_code_22 : D code 22 (.newarray .char) 2 24 := And.intro at_22 rfl
theorem d_code_24 : D code 24 (.dup) 1 25 := And.intro at_24 rfl
theorem d_code_25 : D code 25 (.iconst 0) 1 26 := And.intro at_25 rfl
theorem d_code_26 : D code 26 (.iload_n 3) 1 27 := And.intro at_26 rfl
theorem d_code_27 : D code 27 (.castore) 1 28 := And.intro at_27 rfl
theorem d_code_28 : D code 28 (.dup) 1 29 := And.intro at_28 rfl
theorem d_code_29 : D code 29 (.iconst 1) 1 30 := And.intro at_29 rfl
theorem d_code_30 : D code 30 (.iload 4) 2 32 := And.intro at_30 rfl
theorem d_code_32 : D code 32 (.castore) 1 33 := And.intro at_32 rfl
theorem d_code_33 : D code 33 (.dup) 1 34 := And.intro at_33 rfl
theorem d_code_34 : D code 34 (.iconst 2) 1 35 := And.intro at_34 rfl
theorem d_code_35 : D code 35 (.iload 5) 2 37 := And.intro at_35 rfl
theorem d_code_37 : D code 37 (.castore) 1 38 := And.intro at_37 rfl
theorem d_code_38 : D code 38 (.invokespecial 15) 3 41 := And.intro at_38 rfl
theorem pd14 : parseMethodDescriptor "([C)V" = some ⟨[(.array .char)], none⟩ := by decide +kernel
theorem d_code_41 : D code 41 (.astore 6) 2 43 := And.intro at_41 rfl
theorem d_code_43 : D code 43 (.iconst 0) 1 44 := And.intro at_43 rfl
theorem d_code_44 : D code 44 (.istore 7) 2 46 := And.intro at_44 rfl
theorem d_code_46 : D code 46 (.iload_n 3) 1 47 := And.intro at_46 rfl
theorem d_code_47 : D code 47 (.bipush 48) 2 49 := And.intro at_47 rfl
theorem d_code_49 : D code 49 (.if_icmp .ne 27) 3 52 := And.intro at_49 rfl
theorem d_code_76 : D code 76 (.aload 6) 2 78 := And.intro at_76 rfl
theorem d_code_78 : D code 78 (.invokestatic 18) 3 81 := And.intro at_78 rfl
theorem d_code_81 : D code 81 (.iload 7) 2 83 := And.intro at_81 rfl
theorem d_code_83 : D code 83 (.if_icmp .ne 7) 3 86 := And.intro at_83 rfl
theorem d_code_86 : D code 86 (.iconst 1) 1 87 := And.intro at_86 rfl
theorem d_code_87 : D code 87 (.goto 4) 3 90 := And.intro at_87 rfl
theorem d_code_91 : D code 91 (.ireturn) 1 92 := And.intro at_91 rfl
theorem d_code_52 : D code 52 (.iload 4) 2 54 := And.intro at_52 rfl
theorem d_code_54 : D code 54 (.bipush 48) 2 56 := And.intro at_54 rfl
theorem d_code_56 : D code 56 (.if_icmp .ne 20) 3 59 := And.intro at_56 rfl
theorem d_code_59 : D code 59 (.iload 5) 2 61 := And.intro at_59 rfl
theorem d_code_61 : D code 61 (.bipush 48) 2 63 := And.intro at_61 rfl
theorem d_code_63 : D code 63 (.if_icmp .lt 13) 3 66 := And.intro at_63 rfl
theorem d_code_66 : D code 66 (.iload 5) 2 68 := And.intro at_66 rfl
theorem d_code_68 : D code 68 (.bipush 57) 2 70 := And.intro at_68 rfl
theorem d_code_70 : D code 70 (.if_icmp .gt 6) 3 73 := And.intro at_70 rfl
theorem d_code_73 : D code 73 (.iconst 1) 1 74 := And.intro at_73 rfl
theorem d_code_74 : D code 74 (.istore 7) 2 76 := And.intro at_74 rfl
theorem own_EW {Z : State} {a0 : Array Value} (hw : ∀ d ∈ tables_1, d.before a0 Z = true) : EW Z a0 own_EL := (EW.cons (w38 hw) (by decide) EW.nil)
theorem wS {Z : State} {a0 : Array Value} (hw : ∀ d ∈ tables_1, d.before a0 Z = true) : ∀ a ∈ Bundle.stringAtoms, a.before a0 Z = true := fun a ha => hw a ((by decide +kernel : ∀ a ∈ Bundle.stringAtoms, a ∈ tables_1) a ha)
set_option maxRecDepth 65536 in
set_option maxHeartbeats 40000000 in
theorem ct_cmp5 (l : Launch) (Z : State) (a0 : Array Value) (hw : ∀ d ∈ tables_1, d.before a0 Z = true) (n0 : Nat) (h0 : Heap) (a b : Addr) (cs : List Int32) (vs : List Value) (A0 : Av Z h0 a .char (cs.map Value.int)) (B0 : Av Z h0 b .byte vs) (hlen : vs.length = cs.length) (hR : ∀ c ∈ cs, Rg c 256) : Ct l Z a0 own_EL false (⟨"java/lang/StringUTF16", "compress", "([CI[BII)I"⟩ : MethodName) jdk_52_method_21_code 7 (Option.some Jvm.ClassFile.FieldType.int) ({ frames := 0, cells := 0, slots := 0, locals := 0 } : Room) #[(.ref a), (.int (0 : Int32)), (.ref b), (.int (0 : Int32)), (.int (Int32.ofNat cs.length))] h0 [b] n0 (fun v h so => v = some (.int (Int32.ofNat cs.length)) ∧ Keep h0 h [b] ∧ Av Z h b .byte ((cs.map i2b).map Value.int)) := by
  refine Ct.body (plainFor_of_name pn0) ?_
  intro p e s m below meth c T W
  refine WP.cast (g' := (mkF m 0 #[.val (.ref a), .val (.int (0 : Int32)), .val (.ref b), .val (.int (0 : Int32)), .val (.int (Int32.ofNat cs.length)), .unset, .unset] [])) (by simp [entryFrame, mkF, argsToLocals, cat_i, cat_l, cat_r, cat_n]) ?_
  have hN : cs.length < 2147483648 := by have := A0.len; simpa using this
  have hab : a ≠ b := ne_av A0 B0 (by decide)
  refine k_iconst W d_jdk_52_21_0 (z := (0 : Int32)) rfl ?_
  refine k_istore W d_jdk_52_21_1 (L' := #[.val (.ref a), .val (.int (0 : Int32)), .val (.ref b), .val (.int (0 : Int32)), .val (.int (Int32.ofNat cs.length)), .val (.int (0 : Int32)), .unset]) rfl ?_
  have loop : ∀ (k i : Nat) (T : State) (h : Heap) (s6 : Slot), i + k = cs.length → (s6 = .unset ∨ ∃ w, s6 = .val w ∧ w.category = 1) → WS p l e ({ frames := 0, cells := 0, slots := 0, locals := 0 } : Room) s m #[(.ref a), (.int (0 : Int32)), (.ref b), (.int (0 : Int32)), (.int (Int32.ofNat cs.length))] below meth c Z a0 own_EL false n0 (⟨"java/lang/StringUTF16", "compress", "([CI[BII)I"⟩ : MethodName) jdk_52_method_21_code 7 (Option.some Jvm.ClassFile.FieldType.int) T h [b] 0 0 → Keep h0 h [b] → Av Z h b .byte (((cs.take i).map i2b).map Value.int ++ vs.drop i) → WP p e below (Fne s n0 Z own_EL false ({ frames := 0, cells := 0, slots := 0, locals := 0 } : Room) (fun v h so => v = some (.int (Int32.ofNat cs.length)) ∧ Keep h0 h [b] ∧ Av Z h b .byte ((cs.map i2b).map Value.int))) T (mkF m 3 #[.val (.ref a), .val (.int (Int32.ofNat i)), .val (.ref b), .val (.int (Int32.ofNat i)), .val (.int (Int32.ofNat cs.length)), .val (.int (Int32.ofNat i)), s6] []) := by
    intro k
    induction k with
    | zero =>
      intro i T h s6 hi h6 W KB AB
      obtain rfl : i = cs.length := by omega
      refine k_iload W d_jdk_52_21_3 rfl ?_
      refine k_iload W d_jdk_52_21_5 rfl ?_
      refine k_icY W 44 d_jdk_52_21_7 (by decide) (show ¬ (Int32.ofNat cs.length) < (Int32.ofNat cs.length) from (of_ge (Nat.le_refl _) hN)) ?_
      refine k_iload W d_jdk_52_21_44 rfl ?_
      exact k_ireturn W d_jdk_52_21_46 rfl [] (fun x hx => nomatch hx) (Nat.le_of_ble_eq_true rfl) (Nat.le_of_ble_eq_true rfl) ⟨rfl, KB, by rw [List.take_length, List.drop_eq_nil_of_le (by omega), List.append_nil] at AB; exact AB⟩
    | succ k ih =>
      intro i T h s6 hi h6 W KB AB
      have hlt : i < cs.length := by omega
      obtain ⟨ci, hci⟩ : ∃ c, cs[i]? = some c := ⟨_, List.getElem?_eq_getElem hlt⟩
      have hRi : Rg ci 256 := hR _ (List.mem_of_getElem? hci)
      refine k_iload W d_jdk_52_21_3 rfl ?_
      refine k_iload W d_jdk_52_21_5 rfl ?_
      refine k_icN W d_jdk_52_21_7 (show ¬ (¬ (Int32.ofNat i) < (Int32.ofNat cs.length)) from (fun q => q (of_lt hlt hN))) ?_
      refine k_aloadN W d_jdk_52_21_10 rfl rfl ?_
      refine k_iloadN W d_jdk_52_21_11 rfl ?_
      refine k_caload W (v := (.int ci)) i d_jdk_52_21_12 (A0.keep KB (nin1 hab)) (ix_of (by omega)) (by simp [hci]) ?_
      refine k_istore W d_jdk_52_21_13 (L' := #[.val (.ref a), .val (.int (Int32.ofNat i)), .val (.ref b), .val (.int (Int32.ofNat i)), .val (.int (Int32.ofNat cs.length)), .val (.int (Int32.ofNat i)), .val (.int ci)]) (XS.store1 rfl h6 rfl) ?_
      refine k_iload W d_jdk_52_21_15 rfl ?_
      refine k_sipush W d_jdk_52_21_17 (z := (255 : Int32)) rfl ?_
      refine k_icY W 26 d_jdk_52_21_20 (by decide) (show ¬ (255 : Int32) < ci from (Rg.le255 hRi)) ?_
      refine k_aloadN W d_jdk_52_21_26 rfl rfl ?_
      refine k_iloadN W d_jdk_52_21_27 rfl ?_
      refine k_iload W d_jdk_52_21_28 rfl ?_
      refine k_i2b W d_jdk_52_21_30 (z := (i2b ci)) rfl ?_
      refine k_bastore W (z := (i2b ci)) i d_jdk_52_21_31 (List.mem_of_getElem? (i := 0) rfl) AB (ix_of (by omega)) (by simp; omega) (nar_i2b _) (fits_i2b _) fun T h1 W Wr1 A1 => ?_
      have K1 : Keep h h1 [b] := Keep.of_wr Wr1
      refine k_iinc W d_jdk_52_21_32 rfl (z := (Int32.ofNat (i + 1))) (of_succ i) (L' := #[.val (.ref a), .val (.int (Int32.ofNat (i + 1))), .val (.ref b), .val (.int (Int32.ofNat i)), .val (.int (Int32.ofNat cs.length)), .val (.int (Int32.ofNat i)), .val (.int ci)]) rfl ?_
      refine k_iinc W d_jdk_52_21_35 rfl (z := (Int32.ofNat (i + 1))) (of_succ i) (L' := #[.val (.ref a), .val (.int (Int32.ofNat (i + 1))), .val (.ref b), .val (.int (Int32.ofNat (i + 1))), .val (.int (Int32.ofNat cs.length)), .val (.int (Int32.ofNat i)), .val (.int ci)]) rfl ?_
      refine k_iinc W d_jdk_52_21_38 rfl (z := (Int32.ofNat (i + 1))) (of_succ i) (L' := #[.val (.ref a), .val (.int (Int32.ofNat (i + 1))), .val (.ref b), .val (.int (Int32.ofNat (i + 1))), .val (.int (Int32.ofNat cs.length)), .val (.int (Int32.ofNat (i + 1))), .val (.int ci)]) rfl ?_
      refine k_goto W 3 d_jdk_52_21_41 (by decide) ?_
      refine ih (i + 1) T h1 _ (by omega) (Or.inr ⟨_, rfl, rfl⟩) W (KB.trans K1 (fun x hx => Or.inl hx)) ?_
      have hh := A1
      rw [cmp_step hci hlen] at hh; exact hh
  exact loop cs.length 0 T h0 .unset (by omega) (Or.inl rfl) W (Keep.refl _ _) (by simpa using B0)
set_option maxRecDepth 65536 in
set_option maxHeartbeats 40000000 in
theorem ct_cmp3 (l : Launch) (Z : State) (a0 : Array Value) (hw : ∀ d ∈ tables_1, d.before a0 Z = true) (n0 : Nat) (h0 : Heap) (a : Addr) (cs : List Int32) (N : Nat) (A0 : Av Z h0 a .char (cs.map Value.int)) (hR : ∀ c ∈ cs, Rg c 256) (hN : cs.length ≤ N) (hN2 : N ≤ 67108864) : Ct l Z a0 own_EL false (⟨"java/lang/StringUTF16", "compress", "([CII)[B"⟩ : MethodName) jdk_52_method_16_code 6 (Option.some (Jvm.ClassFile.FieldType.array Jvm.ClassFile.FieldType.byte)) ({ frames := 1, cells := 1, slots := N, locals := 18 } : Room) #[(.ref a), (.int (0 : Int32)), (.int (Int32.ofNat cs.length))] h0 [] n0 (fun v h so => ∃ b, v = some (.ref b) ∧ h0.size ≤ b ∧ Keep h0 h [] ∧ Av Z h b .byte ((cs.map i2b).map Value.int)) := by
  refine Ct.body (plainFor_of_name pn0) ?_
  intro p e s m below meth c T W
  refine WP.cast (g' := (mkF m 0 #[.val (.ref a), .val (.int (0 : Int32)), .val (.int (Int32.ofNat cs.length)), .unset, .unset, .unset] [])) (by simp [entryFrame, mkF, argsToLocals, cat_i, cat_l, cat_r, cat_n]) ?_
  refine k_iloadN W d_jdk_52_16_0 rfl ?_
  refine k_newarr W cs.length 1 (0 + cs.length) d_jdk_52_16_1 (w23 hw) (ix_of (by omega)) (by omega) ⟨rfl, Nat.le_of_ble_eq_true rfl⟩ ⟨rfl, (by show 0 + cs.length ≤ N; omega)⟩ fun T h2 a3 g3 W E3 A3 => ?_
  have K3 : Keep h0 h2 [] := keep_ext E3 []
  have A3 : Av Z h2 a3 .byte (List.replicate cs.length (defaultValue .byte)) := A3
  refine k_astoreN W d_jdk_52_16_3 rfl (L' := #[.val (.ref a), .val (.int (0 : Int32)), .val (.int (Int32.ofNat cs.length)), .val (.ref a3), .unset, .unset]) rfl ?_
  refine k_aloadN W d_jdk_52_16_4 rfl rfl ?_
  refine k_iloadN W d_jdk_52_16_5 rfl ?_
  refine k_aloadN W d_jdk_52_16_6 rfl rfl ?_
  refine k_iconst W d_jdk_52_16_7 (z := (0 : Int32)) rfl ?_
  refine k_iloadN W d_jdk_52_16_8 rfl ?_
  have f4 := (A0.keep K3 nin0)
  refine k_callS W 0 1 ((0 + cs.length) + 0) (argsL := [(.ref a), (.int (0 : Int32)), (.ref a3), (.int (0 : Int32)), (.int (Int32.ofNat cs.length))]) (rest := []) d_jdk_52_16_9 (w24 hw) (w25 hw) (by decide) (lenOf pd0 rfl) (ct_cmp5 l Z a0 hw n0 h2 a a3 cs (List.replicate cs.length (defaultValue .byte)) f4 A3 (by simp) hR) (w26 hw) (w21 hw) (fun x hx => hx) rfl (Nat.le_of_eq rfl) (Nat.le_of_ble_eq_true rfl) (Nat.le_of_ble_eq_true rfl) ⟨rfl, Nat.le_of_ble_eq_true rfl⟩ ⟨rfl, (by show 0 + cs.length ≤ N; omega)⟩ rfl (fun _ _ q => nomatch q.1) fun T h5 v so W hQ => ?_
  obtain ⟨hv, K5, B5⟩ := hQ
  obtain rfl := Option.some.inj hv
  refine k_istore W d_jdk_52_16_12 (L' := #[.val (.ref a), .val (.int (0 : Int32)), .val (.int (Int32.ofNat cs.length)), .val (.ref a3), .val (.int (Int32.ofNat cs.length)), .unset]) rfl ?_
  refine k_iload W d_jdk_52_16_14 rfl ?_
  refine k_iloadN W d_jdk_52_16_16 rfl ?_
  refine k_icY W 57 d_jdk_52_16_17 (by decide) (show (Int32.ofNat cs.length) = (Int32.ofNat cs.length) from rfl) ?_
  refine k_aloadN W d_jdk_52_16_57 rfl rfl ?_
  have KK6 : Keep h0 h2 [] := (Keep.refl h0 []).trans K3 all0
  have KK7 : Keep h0 h5 [] := KK6.trans K5 (allS (Or.inr (Nat.le_of_eq g3.symm)) all0)
  exact k_areturn W d_jdk_52_16_58 rfl rfl rfl [] (fun x hx => nomatch hx) (Nat.le_of_ble_eq_true rfl) (by show 0 + cs.length + 0 ≤ N; omega) ⟨_, rfl, (Nat.le_of_eq g3.symm), KK7, B5⟩
set_option maxRecDepth 65536 in
set_option maxHeartbeats 40000000 in
theorem ct_cfal (l : Launch) (Z : State) (a0 : Array Value) (hw : ∀ d ∈ tables_1, d.before a0 Z = true) (n0 : Nat) (h0 : Heap) (b : Addr) (vs : List Value) (B0 : Av Z h0 b .byte vs) : Ct l Z a0 own_EL false (⟨"java/lang/StringUTF16", "coderFromArrayLen", "([BI)B"⟩ : MethodName) jdk_52_method_15_code 2 (Option.some Jvm.ClassFile.FieldType.byte) ({ frames := 0, cells := 0, slots := 0, locals := 0 } : Room) #[(.ref b), (.int (Int32.ofNat vs.length))] h0 [] n0 (fun v h so => v = some (.int (0 : Int32)) ∧ h0 = h ∧ so = []) := by
  refine Ct.body (plainFor_of_name pn0) ?_
  intro p e s m below meth c T W
  refine WP.cast (g' := (mkF m 0 #[.val (.ref b), .val (.int (Int32.ofNat vs.length))] [])) (by simp [entryFrame, mkF, argsToLocals, cat_i, cat_l, cat_r, cat_n]) ?_
  refine k_iloadN W d_jdk_52_15_0 rfl ?_
  refine k_aloadN W d_jdk_52_15_1 rfl rfl ?_
  refine k_arraylength W (z := (Int32.ofNat vs.length)) d_jdk_52_15_2 B0 rfl ?_
  refine k_isub W d_jdk_52_15_3 (z := ((Int32.ofNat vs.length) - (Int32.ofNat vs.length))) rfl ?_
  refine k_bipush W d_jdk_52_15_4 (z := (31 : Int32)) rfl ?_
  obtain ⟨v8, ev8⟩ : ∃ z : Int32, z = (XT.ushr ((Int32.ofNat vs.length) - (Int32.ofNat vs.length)) (31 : Int32)) := ⟨_, rfl⟩
  refine k_iushr W d_jdk_52_15_6 ev8.symm ?_
  refine k_i2b W d_jdk_52_15_7 (z := (i2b v8)) rfl ?_
  exact k_retN W (t := .byte) (z' := (0 : Int32)) d_jdk_52_15_8 rfl (by simp) (by subst_vars; rw [Int32.sub_self]; decide) [] (fun x hx => nomatch hx) (Nat.le_of_ble_eq_true rfl) (Nat.le_of_ble_eq_true rfl) ⟨rfl, rfl, rfl⟩
set_option maxRecDepth 65536 in
set_option maxHeartbeats 40000000 in
theorem ct_sinit4 (l : Launch) (Z : State) (a0 : Array Value) (hw : ∀ d ∈ tables_1, d.before a0 Z = true) (n0 : Nat) (h0 : Heap) (x a : Addr) (cs : List Int32) (N : Nat) (zc : Int32) (v0 c0 : Value) (E0 : Exa Z h0 x "java/lang/String") (V0 : Fld Z h0 x "java/lang/String" "value" "[B" v0) (C0 : Fld Z h0 x "java/lang/String" "coder" "B" c0) (A0 : Av Z h0 a .char (cs.map Value.int)) (P0 : Sta Z h0 "java/lang/String" "COMPACT_STRINGS" "Z" (.int zc)) (hzc : zc ≠ 0) (hR : ∀ c ∈ cs, Rg c 256) (hp : 0 < cs.length) (hN : cs.length ≤ N) (hN2 : N ≤ 67108864) : Ct l Z a0 own_EL false (⟨"java/lang/String", "<init>", "([CIILjava/lang/Void;)V"⟩ : MethodName) jdk_42_method_149_code 6 (Option.none : Option Jvm.ClassFile.FieldType) ({ frames := 2, cells := 1, slots := N, locals := 35 } : Room) #[(.ref x), (.ref a), (.int (0 : Int32)), (.int (Int32.ofNat cs.length)), .null] h0 [x] n0 (fun v h so => v = none ∧ ∃ b, h0.size ≤ b ∧ Keep h0 h [x] ∧ St Z h x b (cs.map i2b)) := by
  refine Ct.body (plainFor_of_name pn1) ?_
  intro p e s m below meth c T W
  refine WP.cast (g' := (mkF m 0 #[.val (.ref x), .val (.ref a), .val (.int (0 : Int32)), .val (.int (Int32.ofNat cs.length)), .val .null, .unset] [])) (by simp [entryFrame, mkF, argsToLocals, cat_i, cat_l, cat_r, cat_n]) ?_
  have hL : cs.length < 2147483648 := by omega
  have hnz : ¬ Int32.ofNat cs.length = 0 := of_ne0 hp hL
  refine k_aloadN W d_jdk_42_149_0 rfl rfl ?_
  refine k_initO W 0 d_jdk_42_149_1 (w15 hw) (w16 hw) (w17 hw) rfl (Nat.le_of_eq rfl) (Nat.le_of_ble_eq_true rfl) (Nat.le_of_ble_eq_true rfl) fun T W => ?_
  refine k_iloadN W d_jdk_42_149_4 rfl ?_
  refine k_ifY W 27 d_jdk_42_149_5 (by decide) (show ¬ (Int32.ofNat cs.length) = 0 from hnz) ?_
  refine k_getS W d_jdk_42_149_27 (w18 hw) Via.refl P0 fun T W => ?_
  refine k_ifN W d_jdk_42_149_30 (show ¬ (zc = 0) from hzc) ?_
  refine k_aloadN W d_jdk_42_149_33 rfl rfl ?_
  refine k_iloadN W d_jdk_42_149_34 rfl ?_
  refine k_iloadN W d_jdk_42_149_35 rfl ?_
  refine k_callS W 0 1 (0 + N) (argsL := [(.ref a), (.int (0 : Int32)), (.int (Int32.ofNat cs.length))]) (rest := []) d_jdk_42_149_36 (w19 hw) (w20 hw) (by decide) (lenOf pd1 rfl) (ct_cmp3 l Z a0 hw n0 h0 a cs N A0 hR hN hN2) (w22 hw) (w21 hw) (fun x hx => nomatch hx) rfl (Nat.le_of_eq rfl) (Nat.le_of_ble_eq_true rfl) (Nat.le_of_ble_eq_true rfl) ⟨rfl, Nat.le_of_ble_eq_true rfl⟩ ⟨rfl, (by show 0 + N ≤ N; omega)⟩ rfl (fun _ _ ⟨_, q, _⟩ => nomatch q) fun T h9 v so W hQ => ?_
  obtain ⟨b9, hv, g9, K9, B9⟩ := hQ
  obtain rfl := Option.some.inj hv
  refine k_astore W d_jdk_42_149_39 rfl (L' := #[.val (.ref x), .val (.ref a), .val (.int (0 : Int32)), .val (.int (Int32.ofNat cs.length)), .val .null, .val (.ref b9)]) rfl ?_
  refine k_aloadN W d_jdk_42_149_41 rfl rfl ?_
  refine k_aload W d_jdk_42_149_42 rfl rfl ?_
  refine k_iloadN W d_jdk_42_149_44 rfl ?_
  have hvl : ((cs.map i2b).map Value.int).length = cs.length := by simp
  have hqc := ct_cfal l Z a0 hw n0 h9 b9 ((cs.map i2b).map Value.int) B9
  rw [hvl] at hqc
  refine k_callS W 1 1 ((0 + N) + 0) (argsL := [(.ref b9), (.int (Int32.ofNat cs.length))]) (rest := [(.ref x)]) d_jdk_42_149_45 (w27 hw) (w28 hw) (by decide) (lenOf pd2 rfl) hqc (w29 hw) (w21 hw) (fun x hx => nomatch hx) rfl (Nat.le_of_eq rfl) (Nat.le_of_ble_eq_true rfl) (Nat.le_of_ble_eq_true rfl) ⟨rfl, Nat.le_of_ble_eq_true rfl⟩ ⟨rfl, (by show 0 + N ≤ N; omega)⟩ rfl (fun _ _ q => nomatch q.1) fun T h10 v so W hQ => ?_
  obtain ⟨hv, rfl, -⟩ := hQ
  obtain rfl := Option.some.inj hv
  have f11 := (C0.keep K9 nin0)
  have f12 := (E0.keep K9)
  refine k_putF W d_jdk_42_149_48 (w30 hw) Via.refl (v' := (.int (0 : Int32))) (List.mem_of_getElem? (i := 0) rfl) f11 f12 (Or.inr ⟨(w31 hw), rfl, rfl⟩) (w5 hw) (ty := .byte) (by decide) (by decide) (by decide) fun T h13 W Wr13 => ?_
  have K13 : Keep h9 h13 [x] := Keep.of_wr Wr13
  refine k_aloadN W d_jdk_42_149_51 rfl rfl ?_
  refine k_aload W d_jdk_42_149_52 rfl rfl ?_
  have f14 := ((V0.keep K9 nin0).other Wr13 (Or.inr (slot_ne (Or.inr (w33 hw)) (Or.inr (w31 hw)) (by decide) (t := (.array .byte)) (t' := .byte) (by decide) (by decide))))
  have f15 := (f12.keep K13)
  refine k_putF W d_jdk_42_149_54 (w32 hw) Via.refl (v' := (.ref b9)) (List.mem_of_getElem? (i := 0) rfl) f14 f15 (Or.inr ⟨(w33 hw), rfl, rfl⟩) (w5 hw) (ty := (.array .byte)) (by decide) rfl rfl fun T h16 W Wr16 => ?_
  have K16 : Keep h13 h16 [x] := Keep.of_wr Wr16
  have KK17 : Keep h0 h9 [x] := (Keep.refl h0 [x]).trans K9 all0
  have KK18 : Keep h0 h13 [x] := KK17.trans K13 (allS (Or.inl (List.mem_of_getElem? (i := 0) rfl)) all0)
  have KK19 : Keep h0 h16 [x] := KK18.trans K16 (allS (Or.inl (List.mem_of_getElem? (i := 0) rfl)) all0)
  have f20 := (f15.keep K16)
  have f21 := ((Fld.same Wr13 f11).other Wr16 (Or.inr (slot_ne (Or.inr (w31 hw)) (Or.inr (w33 hw)) (by decide) (t := .byte) (t' := (.array .byte)) (by decide) (by decide))))
  have ne22 : b9 ≠ x := (Ne.symm (Nat.ne_of_lt (Nat.lt_of_lt_of_le E0.lt g9)))
  have f23 := ((B9.keep K13 (ninS ne22 nin0)).keep K16 (ninS ne22 nin0))
  exact k_ret W d_jdk_42_149_57 rfl [] (fun x hx => nomatch hx) (Nat.le_of_ble_eq_true rfl) (by show 0 + N ≤ N; omega) ⟨rfl, _, g9, KK19, f20, f21, (Fld.same Wr16 f14), f23⟩
set_option maxRecDepth 65536 in
set_option maxHeartbeats 40000000 in
theorem ct_sinit (l : Launch) (Z : State) (a0 : Array Value) (hw : ∀ d ∈ tables_1, d.before a0 Z = true) (n0 : Nat) (h0 : Heap) (x a : Addr) (cs : List Int32) (N : Nat) (zc : Int32) (v0 c0 : Value) (E0 : Exa Z h0 x "java/lang/String") (V0 : Fld Z h0 x "java/lang/String" "value" "[B" v0) (C0 : Fld Z h0 x "java/lang/String" "coder" "B" c0) (A0 : Av Z h0 a .char (cs.map Value.int)) (P0 : Sta Z h0 "java/lang/String" "COMPACT_STRINGS" "Z" (.int zc)) (hzc : zc ≠ 0) (hR : ∀ c ∈ cs, Rg c 256) (hp : 0 < cs.length) (hN : cs.length ≤ N) (hN2 : N ≤ 67108864) : Ct l Z a0 own_EL false (⟨"java/lang/String", "<init>", "([C)V"⟩ : MethodName) jdk_42_method_3_code 2 (Option.none : Option Jvm.ClassFile.FieldType) ({ frames := 3, cells := 1, slots := N, locals := 52 } : Room) #[(.ref x), (.ref a)] h0 [x] n0 (fun v h so => v = none ∧ ∃ b, h0.size ≤ b ∧ Keep h0 h [x] ∧ St Z h x b (cs.map i2b)) := by
  refine Ct.body (plainFor_of_name pn1) ?_
  intro p e s m below meth c T W
  refine WP.cast (g' := (mkF m 0 #[.val (.ref x), .val (.ref a)] [])) (by simp [entryFrame, mkF, argsToLocals, cat_i, cat_l, cat_r, cat_n]) ?_
  refine k_aloadN W d_jdk_42_3_0 rfl rfl ?_
  refine k_aloadN W d_jdk_42_3_1 rfl rfl ?_
  refine k_iconst W d_jdk_42_3_2 (z := (0 : Int32)) rfl ?_
  refine k_aloadN W d_jdk_42_3_3 rfl rfl ?_
  refine k_arraylength W (z := (Int32.ofNat cs.length)) d_jdk_42_3_4 A0 (by first | (rw [List.length_map]; done) | (rw [List.length_map]; rfl)) ?_
  refine k_aconst W d_jdk_42_3_5 ?_
  refine k_callI0 W 0 1 (0 + N) (argsL := [(.ref a), (.int (0 : Int32)), (.int (Int32.ofNat cs.length)), .null]) (rest := []) (a := x) d_jdk_42_3_6 rfl rfl (w11 hw) (w12 hw) (by decide) (lenOf pd3 rfl) (ct_sinit4 l Z a0 hw n0 h0 x a cs N zc v0 c0 E0 V0 C0 A0 P0 hzc hR hp hN hN2) (w14 hw) (w6 hw) (fun x hx => hx) rfl (Nat.le_of_eq rfl) (Nat.le_of_ble_eq_true rfl) (Nat.le_of_ble_eq_true rfl) ⟨rfl, Nat.le_of_ble_eq_true rfl⟩ ⟨rfl, (by show 0 + N ≤ N; omega)⟩ rfl (fun _ _ _ q => nomatch q.1) fun T h24 so W hQ => ?_
  have hq24 := hQ.2
  exact k_ret W d_jdk_42_3_9 rfl [] (fun x hx => nomatch hx) (Nat.le_of_ble_eq_true rfl) (by show 0 + N ≤ N; omega) ⟨rfl, hq24⟩
set_option maxRecDepth 65536 in
set_option maxHeartbeats 40000000 in
theorem ct_pchk (l : Launch) (Z : State) (a0 : Array Value) (hw : ∀ d ∈ tables_1, d.before a0 Z = true) (n0 : Nat) (h0 : Heap) (i n : Nat) (sio : Value) (hsio : sio.isRef = true) (hi : i < n) (hn : n < 2147483648) : Ct l Z a0 own_EL false (⟨"jdk/internal/util/Preconditions", "checkIndex", "(IILjava/util/function/BiFunction;)I"⟩ : MethodName) jdk_41_method_11_code 3 (Option.some Jvm.ClassFile.FieldType.int) ({ frames := 0, cells := 0, slots := 0, locals := 0 } : Room) #[(.int (Int32.ofNat i)), (.int (Int32.ofNat n)), sio] h0 [] n0 (fun v h so => v = some (.int (Int32.ofNat i)) ∧ h0 = h ∧ so = []) := by
  refine Ct.body (plainFor_of_name pn2) ?_
  intro p e s m below meth c T W
  refine WP.cast (g' := (mkF m 0 #[.val (.int (Int32.ofNat i)), .val (.int (Int32.ofNat n)), .val sio] [])) (by simp [entryFrame, mkF, argsToLocals, cat_i, cat_l, cat_r, cat_n, cat_ref hsio]) ?_
  refine k_iloadN W d_jdk_41_11_0 rfl ?_
  refine k_ifN W d_jdk_41_11_1 (show ¬ ((Int32.ofNat i) < 0) from (ix_of (Nat.lt_trans hi hn)).1) ?_
  refine k_iloadN W d_jdk_41_11_4 rfl ?_
  refine k_iloadN W d_jdk_41_11_5 rfl ?_
  refine k_icY W 16 d_jdk_41_11_6 (by decide) (show (Int32.ofNat i) < (Int32.ofNat n) from (of_lt hi hn)) ?_
  refine k_iloadN W d_jdk_41_11_16 rfl ?_
  exact k_ireturn W d_jdk_41_11_17 rfl [] (fun x hx => nomatch hx) (Nat.le_of_ble_eq_true rfl) (Nat.le_of_ble_eq_true rfl) ⟨rfl, rfl, rfl⟩
set_option maxRecDepth 65536 in
set_option maxHeartbeats 40000000 in
theorem ct_schk (l : Launch) (Z : State) (a0 : Array Value) (hw : ∀ d ∈ tables_1, d.before a0 Z = true) (n0 : Nat) (h0 : Heap) (i n : Nat) (sio : Value) (hi : i < n) (hn : n < 2147483648) (G0 : Sta Z h0 "jdk/internal/util/Preconditions" "SIOOBE_FORMATTER" "Ljava/util/function/BiFunction;" sio) (hsio : sio.isRef = true) : Ct l Z a0 own_EL false (⟨"java/lang/String", "checkIndex", "(II)V"⟩ : MethodName) jdk_42_method_155_code 2 (Option.none : Option Jvm.ClassFile.FieldType) ({ frames := 1, cells := 0, slots := 0, locals := 14 } : Room) #[(.int (Int32.ofNat i)), (.int (Int32.ofNat n))] h0 [] n0 (fun v h so => v = none ∧ h0 = h ∧ so = []) := by
  refine Ct.body (plainFor_of_name pn1) ?_
  intro p e s m below meth c T W
  refine WP.cast (g' := (mkF m 0 #[.val (.int (Int32.ofNat i)), .val (.int (Int32.ofNat n))] [])) (by simp [entryFrame, mkF, argsToLocals, cat_i, cat_l, cat_r, cat_n]) ?_
  refine k_iloadN W d_jdk_42_155_0 rfl ?_
  refine k_iloadN W d_jdk_42_155_1 rfl ?_
  refine k_getS W d_jdk_42_155_2 (w82 hw) Via.refl G0 fun T W => ?_
  refine k_callS W 0 0 0 (argsL := [(.int (Int32.ofNat i)), (.int (Int32.ofNat n)), sio]) (rest := []) d_jdk_42_155_5 (w84 hw) (w85 hw) (by decide) (lenOf pd4 rfl) (ct_pchk l Z a0 hw n0 h0 i n sio hsio hi hn) (w86 hw) (w83 hw) (fun x hx => hx) rfl (Nat.le_of_eq rfl) (Nat.le_of_ble_eq_true rfl) (Nat.le_of_ble_eq_true rfl) ⟨rfl, Nat.le_of_ble_eq_true rfl⟩ ⟨rfl, Nat.le_of_ble_eq_true rfl⟩ rfl (fun _ _ q => nomatch q.1) fun T h25 v so W hQ => ?_
  obtain ⟨hv, rfl, -⟩ := hQ
  obtain rfl := Option.some.inj hv
  refine k_pop W d_jdk_42_155_8 rfl ?_
  exact k_ret W d_jdk_42_155_9 rfl [] (fun x hx => nomatch hx) (Nat.le_of_ble_eq_true rfl) (Nat.le_of_ble_eq_true rfl) ⟨rfl, rfl, rfl⟩
set_option maxRecDepth 65536 in
set_option maxHeartbeats 40000000 in
theorem ct_isL1 (l : Launch) (Z : State) (a0 : Array Value) (hw : ∀ d ∈ tables_1, d.before a0 Z = true) (n0 : Nat) (h0 : Heap) (x b : Addr) (bs : List Int32) (zc : Int32) (S0 : St Z h0 x b bs) (P0 : Sta Z h0 "java/lang/String" "COMPACT_STRINGS" "Z" (.int zc)) (hzc : zc ≠ 0) : Ct l Z a0 own_EL false (⟨"java/lang/String", "isLatin1", "()Z"⟩ : MethodName) jdk_42_method_154_code 1 (Option.some Jvm.ClassFile.FieldType.boolean) ({ frames := 0, cells := 0, slots := 0, locals := 0 } : Room) #[(.ref x)] h0 [] n0 (fun v h so => v = some (.int (1 : Int32)) ∧ h0 = h ∧ so = []) := by
  refine Ct.body (plainFor_of_name pn1) ?_
  intro p e s m below meth c T W
  refine WP.cast (g' := (mkF m 0 #[.val (.ref x)] [])) (by simp [entryFrame, mkF, argsToLocals, cat_i, cat_l, cat_r, cat_n]) ?_
  refine k_getS W d_jdk_42_154_0 (w18 hw) Via.refl P0 fun T W => ?_
  refine k_ifN W d_jdk_42_154_3 (show ¬ (zc = 0) from hzc) ?_
  refine k_aloadN W d_jdk_42_154_6 rfl rfl ?_
  refine k_getF W d_jdk_42_154_7 (host := "") (Or.inl (w30 hw)) Via.refl S0.2.1 fun T W => ?_
  refine k_ifN W d_jdk_42_154_10 (show ¬ (¬ (0 : Int32) = 0) by decide) ?_
  refine k_iconst W d_jdk_42_154_13 (z := (1 : Int32)) rfl ?_
  refine k_goto W 18 d_jdk_42_154_14 (by decide) ?_
  exact k_retN W (t := .boolean) (z' := (1 : Int32)) d_jdk_42_154_18 rfl (by simp) (by decide) [] (fun x hx => nomatch hx) (Nat.le_of_ble_eq_true rfl) (Nat.le_of_ble_eq_true rfl) ⟨rfl, rfl, rfl⟩
set_option maxRecDepth 65536 in
set_option maxHeartbeats 40000000 in
theorem ct_lchar (l : Launch) (Z : State) (a0 : Array Value) (hw : ∀ d ∈ tables_1, d.before a0 Z = true) (n0 : Nat) (h0 : Heap) (b : Addr) (bs : List Int32) (i : Nat) (bi ci : Int32) (sio : Value) (hi : bs[i]? = some bi) (hci : bi &&& 255 = ci) (B0 : Av Z h0 b .byte (bs.map Value.int)) (G0 : Sta Z h0 "jdk/internal/util/Preconditions" "SIOOBE_FORMATTER" "Ljava/util/function/BiFunction;" sio) (hsio : sio.isRef = true) : Ct l Z a0 own_EL false (⟨"java/lang/StringLatin1", "charAt", "([BI)C"⟩ : MethodName) jdk_43_method_2_code 2 (Option.some Jvm.ClassFile.FieldType.char) ({ frames := 2, cells := 0, slots := 0, locals := 27 } : Room) #[(.ref b), (.int (Int32.ofNat i))] h0 [] n0 (fun v h so => v = some (.int ci) ∧ h0 = h ∧ so = []) := by
  refine Ct.body (plainFor_of_name pn3) ?_
  intro p e s m below meth c T W
  refine WP.cast (g' := (mkF m 0 #[.val (.ref b), .val (.int (Int32.ofNat i))] [])) (by simp [entryFrame, mkF, argsToLocals, cat_i, cat_l, cat_r, cat_n]) ?_
  have hlt : i < bs.length := (List.getElem?_eq_some_iff.mp hi).1
  have hL : bs.length < 2147483648 := by have := B0.len; simpa using this
  refine k_iloadN W d_jdk_43_2_0 rfl ?_
  refine k_aloadN W d_jdk_43_2_1 rfl rfl ?_
  refine k_arraylength W (z := (Int32.ofNat bs.length)) d_jdk_43_2_2 B0 (by first | (rw [List.length_map]; done) | (rw [List.length_map]; rfl)) ?_
  refine k_callS0 W 0 0 0 (argsL := [(.int (Int32.ofNat i)), (.int (Int32.ofNat bs.length))]) (rest := []) d_jdk_43_2_3 (w79 hw) (w80 hw) (by decide) (lenOf pd5 rfl) (ct_schk l Z a0 hw n0 h0 i bs.length sio hlt hL G0 hsio) (w81 hw) (w6 hw) (fun x hx => hx) rfl (Nat.le_of_eq rfl) (Nat.le_of_ble_eq_true rfl) (Nat.le_of_ble_eq_true rfl) ⟨rfl, Nat.le_of_ble_eq_true rfl⟩ ⟨rfl, Nat.le_of_ble_eq_true rfl⟩ rfl (fun _ _ _ q => nomatch q.1) fun T h26 so W hQ => ?_
  obtain ⟨-, rfl, -⟩ := hQ
  refine k_aloadN W d_jdk_43_2_6 rfl rfl ?_
  refine k_iloadN W d_jdk_43_2_7 rfl ?_
  refine k_baload W (v := (.int bi)) i d_jdk_43_2_8 B0 (ix_of (Nat.lt_trans hlt hL)) (by simp [hi]) ?_
  refine k_sipush W d_jdk_43_2_9 (z := (255 : Int32)) rfl ?_
  refine k_iand W d_jdk_43_2_12 (z := (bi &&& (255 : Int32))) rfl ?_
  refine k_i2c W d_jdk_43_2_13 (z := (bi &&& (255 : Int32))) (Rg.c (Rg.mono (Rg.and (n := 256) bi (255 : Int32) (by decide)) (by decide))) ?_
  exact k_retN W (t := .char) (z' := (bi &&& (255 : Int32))) d_jdk_43_2_14 rfl (by simp) (Rg.nar (Rg.mono (Rg.and (n := 256) bi (255 : Int32) (by decide)) (by decide))) [] (fun x hx => nomatch hx) (Nat.le_of_ble_eq_true rfl) (Nat.le_of_ble_eq_true rfl) ⟨by rw [hci], rfl, rfl⟩
set_option maxRecDepth 65536 in
set_option maxHeartbeats 40000000 in
theorem ct_char (l : Launch) (Z : State) (a0 : Array Value) (hw : ∀ d ∈ tables_1, d.before a0 Z = true) (n0 : Nat) (h0 : Heap) (x b : Addr) (bs : List Int32) (zc : Int32) (i : Nat) (bi ci : Int32) (sio : Value) (hi : bs[i]? = some bi) (hci : bi &&& 255 = ci) (S0 : St Z h0 x b bs) (P0 : Sta Z h0 "java/lang/String" "COMPACT_STRINGS" "Z" (.int zc)) (hzc : zc ≠ 0) (G0 : Sta Z h0 "jdk/internal/util/Preconditions" "SIOOBE_FORMATTER" "Ljava/util/function/BiFunction;" sio) (hsio : sio.isRef = true) : Ct l Z a0 own_EL false (⟨"java/lang/String", "charAt", "(I)C"⟩ : MethodName) jdk_42_method_56_code 2 (Option.some Jvm.ClassFile.FieldType.char) ({ frames := 3, cells := 0, slots := 0, locals := 40 } : Room) #[(.ref x), (.int (Int32.ofNat i))] h0 [] n0 (fun v h so => v = some (.int ci) ∧ h0 = h ∧ so = []) := by
  refine Ct.body (plainFor_of_name pn1) ?_
  intro p e s m below meth c T W
  refine WP.cast (g' := (mkF m 0 #[.val (.ref x), .val (.int (Int32.ofNat i))] [])) (by simp [entryFrame, mkF, argsToLocals, cat_i, cat_l, cat_r, cat_n]) ?_
  have hcr : Rg ci 65536 := by rw [← hci]; exact Rg.and _ _ (by decide)
  refine k_aloadN W d_jdk_42_56_0 rfl rfl ?_
  refine k_callV W 0 0 0 (argsL := []) (rest := []) (a := x) (C := "java/lang/String") (z0 := (⟨"java/lang/String", "isLatin1", "()Z"⟩ : MethodName)) (z := (⟨"java/lang/String", "isLatin1", "()Z"⟩ : MethodName)) d_jdk_42_56_1 (w70 hw) (w71 hw) (nfSel (w73 hw)) (w73 hw) (w72 hw) (by decide) (lenOf pd6 rfl) S0.1 (ct_isL1 l Z a0 hw n0 h0 x b bs zc S0 P0 hzc) (w74 hw) (w6 hw) (fun x hx => hx) rfl (Nat.le_of_eq rfl) (Nat.le_of_ble_eq_true rfl) (Nat.le_of_ble_eq_true rfl) ⟨rfl, Nat.le_of_ble_eq_true rfl⟩ ⟨rfl, Nat.le_of_ble_eq_true rfl⟩ rfl (fun _ _ q => nomatch q.1) fun T h27 v so W hQ => ?_
  obtain ⟨hv, rfl, -⟩ := hQ
  obtain rfl := Option.some.inj hv
  refine k_ifN W d_jdk_42_56_4 (show ¬ ((1 : Int32) = 0) by decide) ?_
  refine k_aloadN W d_jdk_42_56_7 rfl rfl ?_
  refine k_getF W d_jdk_42_56_8 (host := "") (Or.inl (w32 hw)) Via.refl S0.2.2.1 fun T W => ?_
  refine k_iloadN W d_jdk_42_56_11 rfl ?_
  refine k_callS W 0 0 0 (argsL := [(.ref b), (.int (Int32.ofNat i))]) (rest := []) d_jdk_42_56_12 (w75 hw) (w76 hw) (by decide) (lenOf pd7 rfl) (ct_lchar l Z a0 hw n0 h0 b bs i bi ci sio hi hci S0.2.2.2 G0 hsio) (w78 hw) (w77 hw) (fun x hx => hx) rfl (Nat.le_of_eq rfl) (Nat.le_of_ble_eq_true rfl) (Nat.le_of_ble_eq_true rfl) ⟨rfl, Nat.le_of_ble_eq_true rfl⟩ ⟨rfl, Nat.le_of_ble_eq_true rfl⟩ rfl (fun _ _ q => nomatch q.1) fun T h28 v so W hQ => ?_
  obtain ⟨hv, rfl, -⟩ := hQ
  obtain rfl := Option.some.inj hv
  exact k_retN W (t := .char) (z' := ci) d_jdk_42_56_15 rfl (by simp) (Rg.nar hcr) [] (fun x hx => nomatch hx) (Nat.le_of_ble_eq_true rfl) (Nat.le_of_ble_eq_true rfl) ⟨rfl, rfl, rfl⟩
set_option maxRecDepth 65536 in
set_option maxHeartbeats 40000000 in
theorem ct_coder (l : Launch) (Z : State) (a0 : Array Value) (hw : ∀ d ∈ tables_1, d.before a0 Z = true) (n0 : Nat) (h0 : Heap) (x b : Addr) (bs : List Int32) (zc : Int32) (S0 : St Z h0 x b bs) (P0 : Sta Z h0 "java/lang/String" "COMPACT_STRINGS" "Z" (.int zc)) (hzc : zc ≠ 0) : Ct l Z a0 own_EL false (⟨"java/lang/String", "coder", "()B"⟩ : MethodName) jdk_42_method_152_code 1 (Option.some Jvm.ClassFile.FieldType.byte) ({ frames := 0, cells := 0, slots := 0, locals := 0 } : Room) #[(.ref x)] h0 [] n0 (fun v h so => v = some (.int (0 : Int32)) ∧ h0 = h ∧ so = []) := by
  refine Ct.body (plainFor_of_name pn1) ?_
  intro p e s m below meth c T W
  refine WP.cast (g' := (mkF m 0 #[.val (.ref x)] [])) (by simp [entryFrame, mkF, argsToLocals, cat_i, cat_l, cat_r, cat_n]) ?_
  refine k_getS W d_jdk_42_152_0 (w18 hw) Via.refl P0 fun T W => ?_
  refine k_ifN W d_jdk_42_152_3 (show ¬ (zc = 0) from hzc) ?_
  refine k_aloadN W d_jdk_42_152_6 rfl rfl ?_
  refine k_getF W d_jdk_42_152_7 (host := "") (Or.inl (w30 hw)) Via.refl S0.2.1 fun T W => ?_
  refine k_goto W 14 d_jdk_42_152_10 (by decide) ?_
  exact k_retN W (t := .byte) (z' := (0 : Int32)) d_jdk_42_152_14 rfl (by simp) (by decide) [] (fun x hx => nomatch hx) (Nat.le_of_ble_eq_true rfl) (Nat.le_of_ble_eq_true rfl) ⟨rfl, rfl, rfl⟩
set_option maxRecDepth 65536 in
set_option maxHeartbeats 40000000 in
theorem ct_len (l : Launch) (Z : State) (a0 : Array Value) (hw : ∀ d ∈ tables_1, d.before a0 Z = true) (n0 : Nat) (h0 : Heap) (x b : Addr) (bs : List Int32) (zc : Int32) (S0 : St Z h0 x b bs) (P0 : Sta Z h0 "java/lang/String" "COMPACT_STRINGS" "Z" (.int zc)) (hzc : zc ≠ 0) : Ct l Z a0 own_EL false (⟨"java/lang/String", "length", "()I"⟩ : MethodName) jdk_42_method_54_code 1 (Option.some Jvm.ClassFile.FieldType.int) ({ frames := 1, cells := 0, slots := 0, locals := 13 } : Room) #[(.ref x)] h0 [] n0 (fun v h so => v = some (.int (Int32.ofNat bs.length)) ∧ h0 = h ∧ so = []) := by
  refine Ct.body (plainFor_of_name pn1) ?_
  intro p e s m below meth c T W
  refine WP.cast (g' := (mkF m 0 #[.val (.ref x)] [])) (by simp [entryFrame, mkF, argsToLocals, cat_i, cat_l, cat_r, cat_n]) ?_
  refine k_aloadN W d_jdk_42_54_0 rfl rfl ?_
  refine k_getF W d_jdk_42_54_1 (host := "") (Or.inl (w32 hw)) Via.refl S0.2.2.1 fun T W => ?_
  refine k_arraylength W (z := (Int32.ofNat bs.length)) d_jdk_42_54_4 S0.2.2.2 (by first | (rw [List.length_map]; done) | (rw [List.length_map]; rfl)) ?_
  refine k_aloadN W d_jdk_42_54_5 rfl rfl ?_
  refine k_callV W 1 0 0 (argsL := []) (rest := [(.int (Int32.ofNat bs.length))]) (a := x) (C := "java/lang/String") (z0 := (⟨"java/lang/String", "coder", "()B"⟩ : MethodName)) (z := (⟨"java/lang/String", "coder", "()B"⟩ : MethodName)) d_jdk_42_54_6 (w56 hw) (w57 hw) (nfSel (w59 hw)) (w59 hw) (w58 hw) (by decide) (lenOf pd8 rfl) S0.1 (ct_coder l Z a0 hw n0 h0 x b bs zc S0 P0 hzc) (w60 hw) (w6 hw) (fun x hx => hx) rfl (Nat.le_of_eq rfl) (Nat.le_of_ble_eq_true rfl) (Nat.le_of_ble_eq_true rfl) ⟨rfl, Nat.le_of_ble_eq_true rfl⟩ ⟨rfl, Nat.le_of_ble_eq_true rfl⟩ rfl (fun _ _ q => nomatch q.1) fun T h29 v so W hQ => ?_
  obtain ⟨hv, rfl, -⟩ := hQ
  obtain rfl := Option.some.inj hv
  refine k_ishr W d_jdk_42_54_9 (z := (Int32.ofNat bs.length)) (shr0 _) ?_
  exact k_ireturn W d_jdk_42_54_10 rfl [] (fun x hx => nomatch hx) (Nat.le_of_ble_eq_true rfl) (Nat.le_of_ble_eq_true rfl) ⟨rfl, rfl, rfl⟩
set_option maxRecDepth 65536 in
set_option maxHeartbeats 40000000 in
theorem ct_mism (l : Launch) (Z : State) (a0 : Array Value) (hw : ∀ d ∈ tables_1, d.before a0 Z = true) (n0 : Nat) (h0 : Heap) (a b : Addr) (as bs : List Int32) (n : Nat) (hn : n ≤ 7) (ha : n ≤ as.length) (hb : n ≤ bs.length) (A0 : Av Z h0 a .byte (as.map Value.int)) (B0 : Av Z h0 b .byte (bs.map Value.int)) : Ct l Z a0 own_EL false (⟨"jdk/internal/util/ArraysSupport", "mismatch", "([BI[BII)I"⟩ : MethodName) jdk_48_method_14_code 8 (Option.some Jvm.ClassFile.FieldType.int) ({ frames := 0, cells := 0, slots := 0, locals := 0 } : Room) #[(.ref a), (.int (0 : Int32)), (.ref b), (.int (0 : Int32)), (.int (Int32.ofNat n))] h0 [] n0 (fun v h so => ∃ r : Int32, v = some (.int r) ∧ h0 = h ∧ ((as.take n = bs.take n ∧ r < 0) ∨ (as.take n ≠ bs.take n ∧ ¬ r < 0))) := by
  refine Ct.body (plainFor_of_name pn4) ?_
  intro p e s m below meth c T W
  refine WP.cast (g' := (mkF m 0 #[.val (.ref a), .val (.int (0 : Int32)), .val (.ref b), .val (.int (0 : Int32)), .val (.int (Int32.ofNat n)), .unset, .unset, .unset] [])) (by simp [entryFrame, mkF, argsToLocals, cat_i, cat_l, cat_r, cat_n]) ?_
  refine k_iconst W d_jdk_48_14_0 (z := (0 : Int32)) rfl ?_
  refine k_istore W d_jdk_48_14_1 (L' := #[.val (.ref a), .val (.int (0 : Int32)), .val (.ref b), .val (.int (0 : Int32)), .val (.int (Int32.ofNat n)), .val (.int (0 : Int32)), .unset, .unset]) rfl ?_
  refine k_iload W d_jdk_48_14_3 rfl ?_
  refine k_bipush W d_jdk_48_14_5 (z := (7 : Int32)) rfl ?_
  refine k_icY W 70 d_jdk_48_14_7 (by decide) (show ¬ (7 : Int32) < (Int32.ofNat n) from (le7 hn)) ?_
  have loop : ∀ (k i : Nat) (T : State), i + k = n → as.take i = bs.take i → WS p l e ({ frames := 0, cells := 0, slots := 0, locals := 0 } : Room) s m #[(.ref a), (.int (0 : Int32)), (.ref b), (.int (0 : Int32)), (.int (Int32.ofNat n))] below meth c Z a0 own_EL false n0 (⟨"jdk/internal/util/ArraysSupport", "mismatch", "([BI[BII)I"⟩ : MethodName) jdk_48_method_14_code 8 (Option.some Jvm.ClassFile.FieldType.int) T h0 [] 0 0 → WP p e below (Fne s n0 Z own_EL false ({ frames := 0, cells := 0, slots := 0, locals := 0 } : Room) (fun v h so => ∃ r : Int32, v = some (.int r) ∧ h0 = h ∧ ((as.take n = bs.take n ∧ r < 0) ∨ (as.take n ≠ bs.take n ∧ ¬ r < 0)))) T (mkF m 70 #[.val (.ref a), .val (.int (0 : Int32)), .val (.ref b), .val (.int (0 : Int32)), .val (.int (Int32.ofNat n)), .val (.int (Int32.ofNat i)), .unset, .unset] []) := by
    intro k
    induction k with
    | zero =>
      intro i T hi hE W
      obtain rfl : i = n := by omega
      refine k_iload W d_jdk_48_14_70 rfl ?_
      refine k_iload W d_jdk_48_14_72 rfl ?_
      refine k_icY W 101 d_jdk_48_14_74 (by decide) (show ¬ (Int32.ofNat i) < (Int32.ofNat i) from (of_ge (Nat.le_refl _) (by omega))) ?_
      refine k_iconst W d_jdk_48_14_101 (z := (-1 : Int32)) rfl ?_
      exact k_ireturn W d_jdk_48_14_102 rfl [] (fun x hx => nomatch hx) (Nat.le_of_ble_eq_true rfl) (Nat.le_of_ble_eq_true rfl) ⟨_, rfl, rfl, Or.inl ⟨hE, by decide⟩⟩
    | succ k ih =>
      intro i T hi hE W
      have h1 : i < as.length := by omega
      have h2 : i < bs.length := by omega
      obtain ⟨x, hx⟩ : ∃ c, as[i]? = some c := ⟨_, List.getElem?_eq_getElem h1⟩
      obtain ⟨y, hy⟩ : ∃ c, bs[i]? = some c := ⟨_, List.getElem?_eq_getElem h2⟩
      have hs : ∀ zs : List Int32, ∀ z, zs[i]? = some z → zs.take (i + 1) = zs.take i ++ [z] := fun zs z q => by rw [List.take_succ, q]; rfl
      refine k_iload W d_jdk_48_14_70 rfl ?_
      refine k_iload W d_jdk_48_14_72 rfl ?_
      refine k_icN W d_jdk_48_14_74 (show ¬ (¬ (Int32.ofNat i) < (Int32.ofNat n)) from (fun q => q (of_lt (by omega) (by omega)))) ?_
      refine k_aloadN W d_jdk_48_14_77 rfl rfl ?_
      refine k_iloadN W d_jdk_48_14_78 rfl ?_
      refine k_iload W d_jdk_48_14_79 rfl ?_
      refine k_iadd W d_jdk_48_14_81 (z := ((0 : Int32) + (Int32.ofNat i))) rfl ?_
      refine k_baload W (v := (.int x)) i d_jdk_48_14_82 A0 (by rw [Int32.zero_add]; exact ix_of (by omega)) (by simp [hx]) ?_
      refine k_aloadN W d_jdk_48_14_83 rfl rfl ?_
      refine k_iloadN W d_jdk_48_14_84 rfl ?_
      refine k_iload W d_jdk_48_14_85 rfl ?_
      refine k_iadd W d_jdk_48_14_87 (z := ((0 : Int32) + (Int32.ofNat i))) rfl ?_
      refine k_baload W (v := (.int y)) i d_jdk_48_14_88 B0 (by rw [Int32.zero_add]; exact ix_of (by omega)) (by simp [hy]) ?_
      refine k_ic W 95 d_jdk_48_14_89 (by decide) (fun (hc30 : x = y) => ?_) (fun (hc30 : ¬ (x = y)) => ?_)
      · -- pc 95
        refine k_iinc W d_jdk_48_14_95 rfl (z := (Int32.ofNat (i + 1))) (of_succ i) (L' := #[.val (.ref a), .val (.int (0 : Int32)), .val (.ref b), .val (.int (0 : Int32)), .val (.int (Int32.ofNat n)), .val (.int (Int32.ofNat (i + 1))), .unset, .unset]) rfl ?_
        refine k_goto W 70 d_jdk_48_14_98 (by decide) ?_
        exact ih (i + 1) T (by omega) (by rw [hs as x hx, hs bs y hy, hE, hc30]) W
      · -- pc 92
        refine k_iload W d_jdk_48_14_92 rfl ?_
        exact k_ireturn W d_jdk_48_14_94 rfl [] (fun x hx => nomatch hx) (Nat.le_of_ble_eq_true rfl) (Nat.le_of_ble_eq_true rfl) ⟨_, rfl, rfl, Or.inr ⟨fun q => hc30 (by
            have e1 : (as.take n)[i]? = some x := by rw [List.getElem?_take_of_lt (by omega)]; exact hx
            rw [q, List.getElem?_take_of_lt (by omega), hy] at e1; exact (Option.some.inj e1).symm), (ix_of (by omega)).1⟩⟩
  exact loop n 0 T (by omega) (by simp) W
set_option maxRecDepth 65536 in
set_option maxHeartbeats 40000000 in
theorem ct_sw2 (l : Launch) (Z : State) (a0 : Array Value) (hw : ∀ d ∈ tables_1, d.before a0 Z = true) (n0 : Nat) (h0 : Heap) (x b q d : Addr) (bs ps : List Int32) (zc : Int32) (hp : ps.length ≤ 7) (hl : ps.length ≤ bs.length) (S0 : St Z h0 x b bs) (S1 : St Z h0 q d ps) (P0 : Sta Z h0 "java/lang/String" "COMPACT_STRINGS" "Z" (.int zc)) (hzc : zc ≠ 0) : Ct l Z a0 own_EL false (⟨"java/lang/String", "startsWith", "(Ljava/lang/String;I)Z"⟩ : MethodName) jdk_42_method_75_code 8 (Option.some Jvm.ClassFile.FieldType.boolean) ({ frames := 2, cells := 0, slots := 0, locals := 27 } : Room) #[(.ref x), (.ref q), (.int (0 : Int32))] h0 [] n0 (fun v h so => ((bs.take ps.length = ps ∧ v = some (.int (1 : Int32))) ∨ (bs.take ps.length ≠ ps ∧ v = some (.int (0 : Int32)))) ∧ h0 = h) := by
  refine Ct.body (plainFor_of_name pn1) ?_
  intro p e s m below meth c T W
  refine WP.cast (g' := (mkF m 0 #[.val (.ref x), .val (.ref q), .val (.int (0 : Int32)), .unset, .unset, .unset, .unset, .unset] [])) (by simp [entryFrame, mkF, argsToLocals, cat_i, cat_l, cat_r, cat_n]) ?_
  have hL : bs.length < 2147483648 := by have := S0.2.2.2.len; simpa using this
  refine k_iloadN W d_jdk_42_75_0 rfl ?_
  refine k_ifN W d_jdk_42_75_1 (show ¬ ((0 : Int32) < 0) by decide) ?_
  refine k_iloadN W d_jdk_42_75_4 rfl ?_
  refine k_aloadN W d_jdk_42_75_5 rfl rfl ?_
  refine k_callV W 1 0 0 (argsL := []) (rest := [(.int (0 : Int32))]) (a := x) (C := "java/lang/String") (z0 := (⟨"java/lang/String", "length", "()I"⟩ : MethodName)) (z := (⟨"java/lang/String", "length", "()I"⟩ : MethodName)) d_jdk_42_75_6 (w51 hw) (w52 hw) (nfSel (w54 hw)) (w54 hw) (w53 hw) (by decide) (lenOf pd9 rfl) S0.1 (ct_len l Z a0 hw n0 h0 x b bs zc S0 P0 hzc) (w55 hw) (w6 hw) (fun x hx => hx) rfl (Nat.le_of_eq rfl) (Nat.le_of_ble_eq_true rfl) (Nat.le_of_ble_eq_true rfl) ⟨rfl, Nat.le_of_ble_eq_true rfl⟩ ⟨rfl, Nat.le_of_ble_eq_true rfl⟩ rfl (fun _ _ q => nomatch q.1) fun T h31 v so W hQ => ?_
  obtain ⟨hv, rfl, -⟩ := hQ
  obtain rfl := Option.some.inj hv
  refine k_aloadN W d_jdk_42_75_9 rfl rfl ?_
  refine k_callV W 2 0 0 (argsL := []) (rest := [(.int (Int32.ofNat bs.length)), (.int (0 : Int32))]) (a := q) (C := "java/lang/String") (z0 := (⟨"java/lang/String", "length", "()I"⟩ : MethodName)) (z := (⟨"java/lang/String", "length", "()I"⟩ : MethodName)) d_jdk_42_75_10 (w51 hw) (w52 hw) (nfSel (w54 hw)) (w54 hw) (w53 hw) (by decide) (lenOf pd9 rfl) S1.1 (ct_len l Z a0 hw n0 h0 q d ps zc S1 P0 hzc) (w55 hw) (w6 hw) (fun x hx => hx) rfl (Nat.le_of_eq rfl) (Nat.le_of_ble_eq_true rfl) (Nat.le_of_ble_eq_true rfl) ⟨rfl, Nat.le_of_ble_eq_true rfl⟩ ⟨rfl, Nat.le_of_ble_eq_true rfl⟩ rfl (fun _ _ q => nomatch q.1) fun T h32 v so W hQ => ?_
  obtain ⟨hv, rfl, -⟩ := hQ
  obtain rfl := Option.some.inj hv
  refine k_isub W d_jdk_42_75_13 (z := ((Int32.ofNat bs.length) - (Int32.ofNat ps.length))) rfl ?_
  refine k_icY W 19 d_jdk_42_75_14 (by decide) (show ¬ ((Int32.ofNat bs.length) - (Int32.ofNat ps.length)) < (0 : Int32) from (by show ¬ Int32.ofNat bs.length - Int32.ofNat ps.length < 0; exact of_sub hl hL)) ?_
  refine k_aloadN W d_jdk_42_75_19 rfl rfl ?_
  refine k_getF W d_jdk_42_75_20 (host := "") (Or.inl (w32 hw)) Via.refl S0.2.2.1 fun T W => ?_
  refine k_astoreN W d_jdk_42_75_23 rfl (L' := #[.val (.ref x), .val (.ref q), .val (.int (0 : Int32)), .val (.ref b), .unset, .unset, .unset, .unset]) rfl ?_
  refine k_aloadN W d_jdk_42_75_24 rfl rfl ?_
  refine k_getF W d_jdk_42_75_25 (host := "") (Or.inl (w32 hw)) Via.refl S1.2.2.1 fun T W => ?_
  refine k_astore W d_jdk_42_75_28 rfl (L' := #[.val (.ref x), .val (.ref q), .val (.int (0 : Int32)), .val (.ref b), .val (.ref d), .unset, .unset, .unset]) rfl ?_
  refine k_iconst W d_jdk_42_75_30 (z := (0 : Int32)) rfl ?_
  refine k_istore W d_jdk_42_75_31 (L' := #[.val (.ref x), .val (.ref q), .val (.int (0 : Int32)), .val (.ref b), .val (.ref d), .val (.int (0 : Int32)), .unset, .unset]) rfl ?_
  refine k_aload W d_jdk_42_75_33 rfl rfl ?_
  refine k_arraylength W (z := (Int32.ofNat ps.length)) d_jdk_42_75_35 S1.2.2.2 (by first | (rw [List.length_map]; done) | (rw [List.length_map]; rfl)) ?_
  refine k_istore W d_jdk_42_75_36 (L' := #[.val (.ref x), .val (.ref q), .val (.int (0 : Int32)), .val (.ref b), .val (.ref d), .val (.int (0 : Int32)), .val (.int (Int32.ofNat ps.length)), .unset]) rfl ?_
  refine k_aloadN W d_jdk_42_75_38 rfl rfl ?_
  refine k_callV W 0 0 0 (argsL := []) (rest := []) (a := x) (C := "java/lang/String") (z0 := (⟨"java/lang/String", "coder", "()B"⟩ : MethodName)) (z := (⟨"java/lang/String", "coder", "()B"⟩ : MethodName)) d_jdk_42_75_39 (w56 hw) (w57 hw) (nfSel (w59 hw)) (w59 hw) (w58 hw) (by decide) (lenOf pd8 rfl) S0.1 (ct_coder l Z a0 hw n0 h0 x b bs zc S0 P0 hzc) (w60 hw) (w6 hw) (fun x hx => hx) rfl (Nat.le_of_eq rfl) (Nat.le_of_ble_eq_true rfl) (Nat.le_of_ble_eq_true rfl) ⟨rfl, Nat.le_of_ble_eq_true rfl⟩ ⟨rfl, Nat.le_of_ble_eq_true rfl⟩ rfl (fun _ _ q => nomatch q.1) fun T h33 v so W hQ => ?_
  obtain ⟨hv, rfl, -⟩ := hQ
  obtain rfl := Option.some.inj hv
  refine k_istore W d_jdk_42_75_42 (L' := #[.val (.ref x), .val (.ref q), .val (.int (0 : Int32)), .val (.ref b), .val (.ref d), .val (.int (0 : Int32)), .val (.int (Int32.ofNat ps.length)), .val (.int (0 : Int32))]) rfl ?_
  refine k_iload W d_jdk_42_75_44 rfl ?_
  refine k_aloadN W d_jdk_42_75_46 rfl rfl ?_
  refine k_callV W 1 0 0 (argsL := []) (rest := [(.int (0 : Int32))]) (a := q) (C := "java/lang/String") (z0 := (⟨"java/lang/String", "coder", "()B"⟩ : MethodName)) (z := (⟨"java/lang/String", "coder", "()B"⟩ : MethodName)) d_jdk_42_75_47 (w56 hw) (w57 hw) (nfSel (w59 hw)) (w59 hw) (w58 hw) (by decide) (lenOf pd8 rfl) S1.1 (ct_coder l Z a0 hw n0 h0 q d ps zc S1 P0 hzc) (w60 hw) (w6 hw) (fun x hx => hx) rfl (Nat.le_of_eq rfl) (Nat.le_of_ble_eq_true rfl) (Nat.le_of_ble_eq_true rfl) ⟨rfl, Nat.le_of_ble_eq_true rfl⟩ ⟨rfl, Nat.le_of_ble_eq_true rfl⟩ rfl (fun _ _ q => nomatch q.1) fun T h34 v so W hQ => ?_
  obtain ⟨hv, rfl, -⟩ := hQ
  obtain rfl := Option.some.inj hv
  refine k_icN W d_jdk_42_75_50 (show ¬ (¬ (0 : Int32) = (0 : Int32)) from (fun q => q rfl)) ?_
  refine k_iload W d_jdk_42_75_53 rfl ?_
  refine k_iconst W d_jdk_42_75_55 (z := (1 : Int32)) rfl ?_
  refine k_icY W 63 d_jdk_42_75_56 (by decide) (show ¬ (0 : Int32) = (1 : Int32) by decide) ?_
  refine k_aloadN W d_jdk_42_75_63 rfl rfl ?_
  refine k_iloadN W d_jdk_42_75_64 rfl ?_
  refine k_aload W d_jdk_42_75_65 rfl rfl ?_
  refine k_iconst W d_jdk_42_75_67 (z := (0 : Int32)) rfl ?_
  refine k_iload W d_jdk_42_75_68 rfl ?_
  refine k_callS W 0 0 0 (argsL := [(.ref b), (.int (0 : Int32)), (.ref d), (.int (0 : Int32)), (.int (Int32.ofNat ps.length))]) (rest := []) d_jdk_42_75_70 (w61 hw) (w62 hw) (by decide) (lenOf pd10 rfl) (ct_mism l Z a0 hw n0 h0 b d bs ps ps.length hp hl (Nat.le_refl _) S0.2.2.2 S1.2.2.2) (w64 hw) (w63 hw) (fun x hx => hx) rfl (Nat.le_of_eq rfl) (Nat.le_of_ble_eq_true rfl) (Nat.le_of_ble_eq_true rfl) ⟨rfl, Nat.le_of_ble_eq_true rfl⟩ ⟨rfl, Nat.le_of_ble_eq_true rfl⟩ rfl (fun _ _ ⟨_, q, _⟩ => nomatch q) fun T h35 v so W hQ => ?_
  obtain ⟨r36, hv, rfl, hr36⟩ := hQ
  obtain rfl := Option.some.inj hv
  rw [List.take_length] at hr36
  rcases hr36 with hq | hq
  · --
    obtain ⟨he, hr⟩ := hq
    refine k_ifN W d_jdk_42_75_73 (show ¬ (¬ r36 < 0) from (fun z => z hr)) ?_
    refine k_iconst W d_jdk_42_75_76 (z := (1 : Int32)) rfl ?_
    refine k_goto W 81 d_jdk_42_75_77 (by decide) ?_
    exact k_retN W (t := .boolean) (z' := (1 : Int32)) d_jdk_42_75_81 rfl (by simp) (by decide) [] (fun x hx => nomatch hx) (Nat.le_of_ble_eq_true rfl) (Nat.le_of_ble_eq_true rfl) ⟨Or.inl ⟨he, rfl⟩, rfl⟩
  · --
    obtain ⟨he, hr⟩ := hq
    refine k_ifY W 80 d_jdk_42_75_73 (by decide) (show ¬ r36 < 0 from hr) ?_
    refine k_iconst W d_jdk_42_75_80 (z := (0 : Int32)) rfl ?_
    exact k_retN W (t := .boolean) (z' := (0 : Int32)) d_jdk_42_75_81 rfl (by simp) (by decide) [] (fun x hx => nomatch hx) (Nat.le_of_ble_eq_true rfl) (Nat.le_of_ble_eq_true rfl) ⟨Or.inr ⟨he, rfl⟩, rfl⟩
set_option maxRecDepth 65536 in
set_option maxHeartbeats 40000000 in
theorem ct_sw1 (l : Launch) (Z : State) (a0 : Array Value) (hw : ∀ d ∈ tables_1, d.before a0 Z = true) (n0 : Nat) (h0 : Heap) (x b q d : Addr) (bs ps : List Int32) (zc : Int32) (hp : ps.length ≤ 7) (hl : ps.length ≤ bs.length) (S0 : St Z h0 x b bs) (S1 : St Z h0 q d ps) (P0 : Sta Z h0 "java/lang/String" "COMPACT_STRINGS" "Z" (.int zc)) (hzc : zc ≠ 0) : Ct l Z a0 own_EL false (⟨"java/lang/String", "startsWith", "(Ljava/lang/String;)Z"⟩ : MethodName) jdk_42_method_76_code 2 (Option.some Jvm.ClassFile.FieldType.boolean) ({ frames := 3, cells := 0, slots := 0, locals := 46 } : Room) #[(.ref x), (.ref q)] h0 [] n0 (fun v h so => ((bs.take ps.length = ps ∧ v = some (.int (1 : Int32))) ∨ (bs.take ps.length ≠ ps ∧ v = some (.int (0 : Int32)))) ∧ h0 = h) := by
  refine Ct.body (plainFor_of_name pn1) ?_
  intro p e s m below meth c T W
  refine WP.cast (g' := (mkF m 0 #[.val (.ref x), .val (.ref q)] [])) (by simp [entryFrame, mkF, argsToLocals, cat_i, cat_l, cat_r, cat_n]) ?_
  refine k_aloadN W d_jdk_42_76_0 rfl rfl ?_
  refine k_aloadN W d_jdk_42_76_1 rfl rfl ?_
  refine k_iconst W d_jdk_42_76_2 (z := (0 : Int32)) rfl ?_
  refine k_callV W 0 0 0 (argsL := [(.ref q), (.int (0 : Int32))]) (rest := []) (a := x) (C := "java/lang/String") (z0 := (⟨"java/lang/String", "startsWith", "(Ljava/lang/String;I)Z"⟩ : MethodName)) (z := (⟨"java/lang/String", "startsWith", "(Ljava/lang/String;I)Z"⟩ : MethodName)) d_jdk_42_76_3 (w46 hw) (w47 hw) (nfSel (w49 hw)) (w49 hw) (w48 hw) (by decide) (lenOf pd11 rfl) S0.1 (ct_sw2 l Z a0 hw n0 h0 x b q d bs ps zc hp hl S0 S1 P0 hzc) (w50 hw) (w6 hw) (fun x hx => hx) rfl (Nat.le_of_eq rfl) (Nat.le_of_ble_eq_true rfl) (Nat.le_of_ble_eq_true rfl) ⟨rfl, Nat.le_of_ble_eq_true rfl⟩ ⟨rfl, Nat.le_of_ble_eq_true rfl⟩ rfl (fun _ _ q => by rcases q.1 with ⟨_, u⟩ | ⟨_, u⟩ <;> cases u) fun T h37 v so W hQ => ?_
  obtain ⟨hQ, rfl⟩ := hQ
  rcases hQ with ⟨he, hv⟩ | ⟨he, hv⟩
  · --
    obtain rfl := Option.some.inj hv
    exact k_retN W (t := .boolean) (z' := (1 : Int32)) d_jdk_42_76_6 rfl (by simp) (by decide) [] (fun x hx => nomatch hx) (Nat.le_of_ble_eq_true rfl) (Nat.le_of_ble_eq_true rfl) ⟨Or.inl ⟨he, rfl⟩, rfl⟩
  · --
    obtain rfl := Option.some.inj hv
    exact k_retN W (t := .boolean) (z' := (0 : Int32)) d_jdk_42_76_6 rfl (by simp) (by decide) [] (fun x hx => nomatch hx) (Nat.le_of_ble_eq_true rfl) (Nat.le_of_ble_eq_true rfl) ⟨Or.inr ⟨he, rfl⟩, rfl⟩
set_option maxRecDepth 65536 in
set_option maxHeartbeats 40000000 in
theorem ct_draw (l : Launch) (Z : State) (a0 : Array Value) (hw : ∀ d ∈ tables_1, d.before a0 Z = true) (n0 : Nat) (h0 : Heap) (p0 : Int32) : Ct l Z a0 own_EL false (⟨"com/example/epochmark/epochmark/io/Iso2709IsControlTagPinLaw", "draw", "(I)C"⟩ : MethodName) method_2_code 2 (Option.some Jvm.ClassFile.FieldType.char) ({ frames := 0, cells := 0, slots := 0, locals := 0 } : Room) #[(.int p0)] h0 [] n0 (fun v h so => ∃ c, v = some (.int c) ∧ Rg c 256 ∧ h0 = h) := by
  refine Ct.body (plainFor_of_name pn5) ?_
  intro p e s m below meth c T W
  refine WP.cast (g' := (mkF m 0 #[.val (.int p0), .unset] [])) (by simp [entryFrame, mkF, argsToLocals, cat_i, cat_l, cat_r, cat_n]) ?_
  refine k_iloadN W d_method_2_0 rfl ?_
  refine k_sipush W d_method_2_1 (z := (255 : Int32)) rfl ?_
  refine k_iand W d_method_2_4 (z := (p0 &&& (255 : Int32))) rfl ?_
  refine k_istoreN W d_method_2_5 (L' := #[.val (.int p0), .val (.int (p0 &&& (255 : Int32)))]) rfl ?_
  refine k_iloadN W d_method_2_6 rfl ?_
  refine k_bipush W d_method_2_7 (z := (8 : Int32)) rfl ?_
  refine k_iushr W d_method_2_9 (z := (XT.ushr p0 (8 : Int32))) rfl ?_
  refine k_iconst W d_method_2_10 (z := (1 : Int32)) rfl ?_
  refine k_iand W d_method_2_11 (z := ((XT.ushr p0 (8 : Int32)) &&& (1 : Int32))) rfl ?_
  refine k_if W 24 d_method_2_12 (by decide) (fun (hc39 : ¬ ((XT.ushr p0 (8 : Int32)) &&& (1 : Int32)) = 0) => ?_) (fun (hc39 : ¬ (¬ ((XT.ushr p0 (8 : Int32)) &&& (1 : Int32)) = 0)) => ?_)
  · -- pc 24
    refine k_iloadN W d_method_2_24 rfl ?_
    refine k_i2c W d_method_2_25 (z := (p0 &&& (255 : Int32))) (Rg.c (Rg.mono (Rg.and (n := 256) p0 (255 : Int32) (by decide)) (by decide))) ?_
    exact k_retN W (t := .char) (z' := (p0 &&& (255 : Int32))) d_method_2_26 rfl (by simp) (Rg.nar (Rg.mono (Rg.and (n := 256) p0 (255 : Int32) (by decide)) (by decide))) [] (fun x hx => nomatch hx) (Nat.le_of_ble_eq_true rfl) (Nat.le_of_ble_eq_true rfl) ⟨_, rfl, (Rg.and (n := 256) p0 (255 : Int32) (by decide)), rfl⟩
  · -- pc 15
    refine k_bipush W d_method_2_15 (z := (46 : Int32)) rfl ?_
    refine k_iloadN W d_method_2_17 rfl ?_
    refine k_bipush W d_method_2_18 (z := (14 : Int32)) rfl ?_
    refine k_irem W d_method_2_20 (by decide) (z := ((p0 &&& (255 : Int32)) % (14 : Int32))) rfl ?_
    refine k_iadd W d_method_2_21 (z := ((46 : Int32) + ((p0 &&& (255 : Int32)) % (14 : Int32)))) rfl ?_
    refine k_i2c W d_method_2_22 (z := ((46 : Int32) + ((p0 &&& (255 : Int32)) % (14 : Int32)))) (Rg.c (Rg.mono (show Rg ((46 : Int32) + ((p0 &&& (255 : Int32)) % (14 : Int32))) 60 from (Rg.mono (Rg.add (show Rg (46 : Int32) 47 by decide) (show Rg ((p0 &&& (255 : Int32)) % (14 : Int32)) 14 from (Rg.mono (Rg.mod (Rg.and (n := 256) p0 (255 : Int32) (by decide)) (by decide)) (by decide))) (by decide)) (by decide))) (by decide))) ?_
    exact k_retN W (t := .char) (z' := ((46 : Int32) + ((p0 &&& (255 : Int32)) % (14 : Int32)))) d_method_2_23 rfl (by simp) (Rg.nar (Rg.mono (show Rg ((46 : Int32) + ((p0 &&& (255 : Int32)) % (14 : Int32))) 60 from (Rg.mono (Rg.add (show Rg (46 : Int32) 47 by decide) (show Rg ((p0 &&& (255 : Int32)) % (14 : Int32)) 14 from (Rg.mono (Rg.mod (Rg.and (n := 256) p0 (255 : Int32) (by decide)) (by decide)) (by decide))) (by decide)) (by decide))) (by decide))) [] (fun x hx => nomatch hx) (Nat.le_of_ble_eq_true rfl) (Nat.le_of_ble_eq_true rfl) ⟨_, rfl, (Rg.mono (show Rg ((46 : Int32) + ((p0 &&& (255 : Int32)) % (14 : Int32))) 60 from (Rg.mono (Rg.add (show Rg (46 : Int32) 47 by decide) (show Rg ((p0 &&& (255 : Int32)) % (14 : Int32)) 14 from (Rg.mono (Rg.mod (Rg.and (n := 256) p0 (255 : Int32) (by decide)) (by decide)) (by decide))) (by decide)) (by decide))) (by decide)), rfl⟩
set_option maxRecDepth 65536 in
set_option maxHeartbeats 40000000 in
theorem ct_ict (l : Launch) (Z : State) (a0 : Array Value) (hw : ∀ d ∈ tables_1, d.before a0 Z = true) (n0 : Nat) (h0 : Heap) (x b : Addr) (c0 c1 c2 zc : Int32) (sio : Value) (r0 : Rg c0 256) (r1 : Rg c1 256) (r2 : Rg c2 256) (S0 : St Z h0 x b [(i2b c0), (i2b c1), (i2b c2)]) (P0 : Sta Z h0 "java/lang/String" "COMPACT_STRINGS" "Z" (.int zc)) (hzc : zc ≠ 0) (G0 : Sta Z h0 "jdk/internal/util/Preconditions" "SIOOBE_FORMATTER" "Ljava/util/function/BiFunction;" sio) (hsio : sio.isRef = true) : Ct l Z a0 own_EL false (⟨"com/example/epochmark/epochmark/io/Iso2709", "isControlTag", "(Ljava/lang/String;)Z"⟩ : MethodName) prog_4_method_2_code 1 (Option.some Jvm.ClassFile.FieldType.boolean) ({ frames := 4, cells := 2, slots := 12, locals := 59 } : Room) #[(.ref x)] h0 [] n0 (fun v h so => (((c0 = 48 ∧ c1 = 48 ∧ ¬ c2 < 48 ∧ ¬ (57 : Int32) < c2) ∧ v = some (.int (1 : Int32))) ∨ (¬ (c0 = 48 ∧ c1 = 48 ∧ ¬ c2 < 48 ∧ ¬ (57 : Int32) < c2) ∧ v = some (.int (0 : Int32)))) ∧ Keep h0 h []) := by
  refine Ct.body (plainFor_of_name pn6) ?_
  intro p e s m below meth c T W
  refine WP.cast (g' := (mkF m 0 #[.val (.ref x)] [])) (by simp [entryFrame, mkF, argsToLocals, cat_i, cat_l, cat_r, cat_n]) ?_
  refine k_aloadN W d_prog_4_2_0 rfl rfl ?_
  refine k_ldcS W [(48 : Int32), (48 : Int32)] 8 2 12 rfl d_prog_4_2_1 (w38 hw) (wS hw) (by decide) ⟨by decide, by decide⟩ (by decide) ⟨by decide, by decide⟩ ⟨rfl, Nat.le_of_ble_eq_true rfl⟩ ⟨rfl, Nat.le_of_ble_eq_true rfl⟩ fun T h40 a40 b40 W E40 S40 N40 => ?_
  have K40 : Keep h0 h40 [] := keep_ext E40 []
  have f41 := (S0.keep K40 nin0 nin0)
  have f42 := (Sta.keep P0 K40 ns0)
  refine k_callV W 0 2 12 (argsL := [(.ref a40)]) (rest := []) (a := x) (C := "java/lang/String") (z0 := (⟨"java/lang/String", "startsWith", "(Ljava/lang/String;)Z"⟩ : MethodName)) (z := (⟨"java/lang/String", "startsWith", "(Ljava/lang/String;)Z"⟩ : MethodName)) d_prog_4_2_3 (w41 hw) (w42 hw) (nfSel (w44 hw)) (w44 hw) (w43 hw) (by decide) (lenOf pd12 rfl) f41.1 (ct_sw1 l Z a0 hw n0 h40 x b a40 b40 [(i2b c0), (i2b c1), (i2b c2)] [(48 : Int32), (48 : Int32)] zc (Nat.le_of_ble_eq_true rfl) (Nat.le_of_ble_eq_true rfl) f41 S40 f42 hzc) (w45 hw) (w6 hw) (fun x hx => hx) rfl (Nat.le_of_eq rfl) (Nat.le_of_ble_eq_true rfl) (Nat.le_of_ble_eq_true rfl) ⟨rfl, Nat.le_of_ble_eq_true rfl⟩ ⟨rfl, Nat.le_of_ble_eq_true rfl⟩ rfl (fun _ _ q => by rcases q.1 with ⟨_, u⟩ | ⟨_, u⟩ <;> cases u) fun T h43 v so W hQ => ?_
  obtain ⟨hQ, rfl⟩ := hQ
  rcases hQ with ⟨hsw, hv⟩ | ⟨hsw, hv⟩
  · --
    obtain rfl := Option.some.inj hv
    obtain ⟨hq0, hq1⟩ : c0 = 48 ∧ c1 = 48 := by
      have h1 : [i2b c0, i2b c1] = [(48 : Int32), 48] := hsw
      simp only [List.cons.injEq, and_true] at h1
      exact ⟨i2b_inj r0 (by decide) (h1.1.trans (by decide)), i2b_inj r1 (by decide) (h1.2.trans (by decide))⟩
    refine k_ifN W d_prog_4_2_6 (show ¬ ((1 : Int32) = 0) by decide) ?_
    refine k_aloadN W d_prog_4_2_9 rfl rfl ?_
    refine k_iconst W d_prog_4_2_10 (z := (2 : Int32)) rfl ?_
    have f45 := (Sta.keep G0 K40 ns0)
    refine k_callV W 0 2 12 (argsL := [(.int (2 : Int32))]) (rest := []) (a := x) (C := "java/lang/String") (z0 := (⟨"java/lang/String", "charAt", "(I)C"⟩ : MethodName)) (z := (⟨"java/lang/String", "charAt", "(I)C"⟩ : MethodName)) d_prog_4_2_11 (w65 hw) (w66 hw) (nfSel (w68 hw)) (w68 hw) (w67 hw) (by decide) (lenOf pd13 rfl) f41.1 (ct_char l Z a0 hw n0 h40 x b [(i2b c0), (i2b c1), (i2b c2)] zc 2 (i2b c2) c2 sio rfl (lo_i2b r2) f41 f42 hzc f45 hsio) (w69 hw) (w6 hw) (fun x hx => hx) rfl (Nat.le_of_eq rfl) (Nat.le_of_ble_eq_true rfl) (Nat.le_of_ble_eq_true rfl) ⟨rfl, Nat.le_of_ble_eq_true rfl⟩ ⟨rfl, Nat.le_of_ble_eq_true rfl⟩ rfl (fun _ _ q => nomatch q.1) fun T h46 v so W hQ => ?_
    obtain ⟨hv, rfl, -⟩ := hQ
    obtain rfl := Option.some.inj hv
    refine k_bipush W d_prog_4_2_14 (z := (48 : Int32)) rfl ?_
    refine k_ic W 33 d_prog_4_2_16 (by decide) (fun (hc47 : c2 < (48 : Int32)) => ?_) (fun (hc47 : ¬ (c2 < (48 : Int32))) => ?_)
    · -- pc 33
      refine k_iconst W d_prog_4_2_33 (z := (0 : Int32)) rfl ?_
      have KK48 : Keep h0 h40 [] := (Keep.refl h0 []).trans K40 all0
      exact k_retN W (t := .boolean) (z' := (0 : Int32)) d_prog_4_2_34 rfl (by simp) (by decide) [] (fun x hx => nomatch hx) (Nat.le_of_ble_eq_true rfl) (Nat.le_of_ble_eq_true rfl) ⟨Or.inr ⟨fun q => q.2.2.1 hc47, rfl⟩, KK48⟩
    · -- pc 19
      refine k_aloadN W d_prog_4_2_19 rfl rfl ?_
      refine k_iconst W d_prog_4_2_20 (z := (2 : Int32)) rfl ?_
      refine k_callV W 0 2 12 (argsL := [(.int (2 : Int32))]) (rest := []) (a := x) (C := "java/lang/String") (z0 := (⟨"java/lang/String", "charAt", "(I)C"⟩ : MethodName)) (z := (⟨"java/lang/String", "charAt", "(I)C"⟩ : MethodName)) d_prog_4_2_21 (w65 hw) (w66 hw) (nfSel (w68 hw)) (w68 hw) (w67 hw) (by decide) (lenOf pd13 rfl) f41.1 (ct_char l Z a0 hw n0 h40 x b [(i2b c0), (i2b c1), (i2b c2)] zc 2 (i2b c2) c2 sio rfl (lo_i2b r2) f41 f42 hzc f45 hsio) (w69 hw) (w6 hw) (fun x hx => hx) rfl (Nat.le_of_eq rfl) (Nat.le_of_ble_eq_true rfl) (Nat.le_of_ble_eq_true rfl) ⟨rfl, Nat.le_of_ble_eq_true rfl⟩ ⟨rfl, Nat.le_of_ble_eq_true rfl⟩ rfl (fun _ _ q => nomatch q.1) fun T h49 v so W hQ => ?_
      obtain ⟨hv, rfl, -⟩ := hQ
      obtain rfl := Option.some.inj hv
      refine k_bipush W d_prog_4_2_24 (z := (57 : Int32)) rfl ?_
      refine k_ic W 33 d_prog_4_2_26 (by decide) (fun (hc50 : (57 : Int32) < c2) => ?_) (fun (hc50 : ¬ ((57 : Int32) < c2)) => ?_)
      · -- pc 33
        refine k_iconst W d_prog_4_2_33 (z := (0 : Int32)) rfl ?_
        have KK51 : Keep h0 h40 [] := (Keep.refl h0 []).trans K40 all0
        exact k_retN W (t := .boolean) (z' := (0 : Int32)) d_prog_4_2_34 rfl (by simp) (by decide) [] (fun x hx => nomatch hx) (Nat.le_of_ble_eq_true rfl) (Nat.le_of_ble_eq_true rfl) ⟨Or.inr ⟨fun q => q.2.2.2 hc50, rfl⟩, KK51⟩
      · -- pc 29
        refine k_iconst W d_prog_4_2_29 (z := (1 : Int32)) rfl ?_
        refine k_goto W 34 d_prog_4_2_30 (by decide) ?_
        have KK52 : Keep h0 h40 [] := (Keep.refl h0 []).trans K40 all0
        exact k_retN W (t := .boolean) (z' := (1 : Int32)) d_prog_4_2_34 rfl (by simp) (by decide) [] (fun x hx => nomatch hx) (Nat.le_of_ble_eq_true rfl) (Nat.le_of_ble_eq_true rfl) ⟨Or.inl ⟨⟨hq0, hq1, hc47, hc50⟩, rfl⟩, KK52⟩
  · --
    obtain rfl := Option.some.inj hv
    have hsn : ¬ (c0 = 48 ∧ c1 = 48) := fun q => hsw (by rw [q.1, q.2]; show [i2b 48, i2b 48] = [(48 : Int32), 48]; decide)
    refine k_ifY W 33 d_prog_4_2_6 (by decide) (show (0 : Int32) = 0 by decide) ?_
    refine k_iconst W d_prog_4_2_33 (z := (0 : Int32)) rfl ?_
    have KK53 : Keep h0 h40 [] := (Keep.refl h0 []).trans K40 all0
    exact k_retN W (t := .boolean) (z' := (0 : Int32)) d_prog_4_2_34 rfl (by simp) (by decide) [] (fun x hx => nomatch hx) (Nat.le_of_ble_eq_true rfl) (Nat.le_of_ble_eq_true rfl) ⟨Or.inr ⟨fun q => hsn ⟨q.1, q.2.1⟩, rfl⟩, KK53⟩
set_option maxRecDepth 65536 in
set_option maxHeartbeats 40000000 in
theorem rm0 (l : Launch) (Z : State) (a0 : Array Value) (hw : ∀ d ∈ tables_1, d.before a0 Z = true) (n0 : Nat) (h0 : Heap) (p0 p1 p2 : Int32) (zc : Int32) (sio : Value) (P0 : Sta Z h0 "java/lang/String" "COMPACT_STRINGS" "Z" (.int zc)) (hzc : zc ≠ 0) (G0 : Sta Z h0 "jdk/internal/util/Preconditions" "SIOOBE_FORMATTER" "Ljava/util/function/BiFunction;" sio) (hsio : sio.isRef = true) : Ct l Z a0 own_EL false x code maxLocals ret room_1 #[(.int p0), (.int p1), (.int p2)] h0 [] n0 (fun v h so => v = some (.int 1)) := by
  refine Ct.body (plainFor_of_name pn5) ?_
  intro p e s m below meth c T W
  refine WP.cast (g' := (mkF m 0 #[.val (.int p0), .val (.int p1), .val (.int p2), .unset, .unset, .unset, .unset, .unset] [])) (by simp [entryFrame, mkF, argsToLocals, cat_i, cat_l, cat_r, cat_n, maxLocals]) ?_
  refine k_iloadN W d_code_0 rfl ?_
  refine k_callS W 0 0 0 (argsL := [(.int p0)]) (rest := []) d_code_1 (w0 hw) (w1 hw) (by decide) (lenOf pd13 rfl) (ct_draw l Z a0 hw n0 h0 p0) (w3 hw) (w2 hw) (fun x hx => hx) rfl (Nat.le_of_eq rfl) (Nat.le_of_ble_eq_true rfl) (Nat.le_of_ble_eq_true rfl) ⟨rfl, Nat.le_of_ble_eq_true rfl⟩ ⟨rfl, Nat.le_of_ble_eq_true rfl⟩ rfl (fun _ _ ⟨_, q, _⟩ => nomatch q) fun T h54 v so W hQ => ?_
  obtain ⟨c54, hv, r54, rfl⟩ := hQ
  obtain rfl := Option.some.inj hv
  refine k_istoreN W d_code_4 (L' := #[.val (.int p0), .val (.int p1), .val (.int p2), .val (.int c54), .unset, .unset, .unset, .unset]) rfl ?_
  refine k_iloadN W d_code_5 rfl ?_
  refine k_callS W 0 0 0 (argsL := [(.int p1)]) (rest := []) d_code_6 (w0 hw) (w1 hw) (by decide) (lenOf pd13 rfl) (ct_draw l Z a0 hw n0 h0 p1) (w3 hw) (w2 hw) (fun x hx => hx) rfl (Nat.le_of_eq rfl) (Nat.le_of_ble_eq_true rfl) (Nat.le_of_ble_eq_true rfl) ⟨rfl, Nat.le_of_ble_eq_true rfl⟩ ⟨rfl, Nat.le_of_ble_eq_true rfl⟩ rfl (fun _ _ ⟨_, q, _⟩ => nomatch q) fun T h55 v so W hQ => ?_
  obtain ⟨c55, hv, r55, rfl⟩ := hQ
  obtain rfl := Option.some.inj hv
  refine k_istore W d_code_9 (L' := #[.val (.int p0), .val (.int p1), .val (.int p2), .val (.int c54), .val (.int c55), .unset, .unset, .unset]) rfl ?_
  refine k_iloadN W d_code_11 rfl ?_
  refine k_callS W 0 0 0 (argsL := [(.int p2)]) (rest := []) d_code_12 (w0 hw) (w1 hw) (by decide) (lenOf pd13 rfl) (ct_draw l Z a0 hw n0 h0 p2) (w3 hw) (w2 hw) (fun x hx => hx) rfl (Nat.le_of_eq rfl) (Nat.le_of_ble_eq_true rfl) (Nat.le_of_ble_eq_true rfl) ⟨rfl, Nat.le_of_ble_eq_true rfl⟩ ⟨rfl, Nat.le_of_ble_eq_true rfl⟩ rfl (fun _ _ ⟨_, q, _⟩ => nomatch q) fun T h56 v so W hQ => ?_
  obtain ⟨c56, hv, r56, rfl⟩ := hQ
  obtain rfl := Option.some.inj hv
  refine k_istore W d_code_15 (L' := #[.val (.int p0), .val (.int p1), .val (.int p2), .val (.int c54), .val (.int c55), .val (.int c56), .unset, .unset]) rfl ?_
  refine k_new W 1 4 d_code_17 (w4 hw) (w5 hw) (w6 hw) ⟨rfl, Nat.le_of_ble_eq_true rfl⟩ ⟨rfl, Nat.le_of_ble_eq_true rfl⟩ fun T h57 a58 g58 W E58 X58 D58 => ?_
  have K58 : Keep h0 h57 [] := keep_ext E58 []
  refine k_dup W d_code_20 rfl ?_
  refine k_iconst W d_code_21 (z := (3 : Int32)) rfl ?_
  refine k_newarr W 3 2 7 d_code_22 (w7 hw) (by decide) (by decide) ⟨rfl, Nat.le_of_ble_eq_true rfl⟩ ⟨rfl, Nat.le_of_ble_eq_true rfl⟩ fun T h59 a60 g60 W E60 A60 => ?_
  have K60 : Keep h57 h59 [] := keep_ext E60 []
  have A60 : Av Z h59 a60 .char [(.int (0 : Int32)), (.int (0 : Int32)), (.int (0 : Int32))] := A60
  refine k_dup W d_code_24 rfl ?_
  refine k_iconst W d_code_25 (z := (0 : Int32)) rfl ?_
  refine k_iloadN W d_code_26 rfl ?_
  refine k_castore W (z := c54) 0 d_code_27 (List.mem_of_getElem? (i := 0) rfl) A60 (by decide) (Nat.le_of_ble_eq_true rfl) (Rg.nar (Rg.mono r54 (by decide))) (Rg.fits (Rg.mono r54 (by decide))) fun T h61 W Wr61 A61 => ?_
  have K61 : Keep h59 h61 [a60] := Keep.of_wr Wr61
  have A61 : Av Z h61 a60 .char [(.int c54), (.int (0 : Int32)), (.int (0 : Int32))] := A61
  refine k_dup W d_code_28 rfl ?_
  refine k_iconst W d_code_29 (z := (1 : Int32)) rfl ?_
  refine k_iload W d_code_30 rfl ?_
  refine k_castore W (z := c55) 1 d_code_32 (List.mem_of_getElem? (i := 0) rfl) A61 (by decide) (Nat.le_of_ble_eq_true rfl) (Rg.nar (Rg.mono r55 (by decide))) (Rg.fits (Rg.mono r55 (by decide))) fun T h62 W Wr62 A62 => ?_
  have K62 : Keep h61 h62 [a60] := Keep.of_wr Wr62
  have A62 : Av Z h62 a60 .char [(.int c54), (.int c55), (.int (0 : Int32))] := A62
  refine k_dup W d_code_33 rfl ?_
  refine k_iconst W d_code_34 (z := (2 : Int32)) rfl ?_
  refine k_iload W d_code_35 rfl ?_
  refine k_castore W (z := c56) 2 d_code_37 (List.mem_of_getElem? (i := 0) rfl) A62 (by decide) (Nat.le_of_ble_eq_true rfl) (Rg.nar (Rg.mono r56 (by decide))) (Rg.fits (Rg.mono r56 (by decide))) fun T h63 W Wr63 A63 => ?_
  have K63 : Keep h62 h63 [a60] := Keep.of_wr Wr63
  have A63 : Av Z h63 a60 .char [(.int c54), (.int c55), (.int c56)] := A63
  have f64 := ((((X58.keep K60).keep K61).keep K62).keep K63)
  have ne65 : a58 ≠ a60 := (Nat.ne_of_lt (Nat.lt_of_lt_of_le X58.lt (Nat.le_of_eq g60.symm)))
  have f66 := (((((D58 (Or.inr (w33 hw)) (ty := (.array .byte)) (by decide)).keep K60 nin0).keep K61 (ninS ne65 nin0)).keep K62 (ninS ne65 nin0)).keep K63 (ninS ne65 nin0))
  have f67 := (((((D58 (Or.inr (w31 hw)) (ty := .byte) (by decide)).keep K60 nin0).keep K61 (ninS ne65 nin0)).keep K62 (ninS ne65 nin0)).keep K63 (ninS ne65 nin0))
  have f68 := (Sta.keep (Sta.keep (Sta.keep (Sta.keep (Sta.keep P0 K58 ns0) K60 ns0) K61 (nsS (Av.plain A60) ns0)) K62 (nsS (Av.plain A61) ns0)) K63 (nsS (Av.plain A62) ns0))
  refine k_callI0 W 1 3 10 (argsL := [(.ref a60)]) (rest := [(.ref a58)]) (a := a58) d_code_38 rfl rfl (w8 hw) (w9 hw) (by decide) (lenOf pd14 rfl) (ct_sinit l Z a0 hw n0 h63 a58 a60 [c54, c55, c56] 3 zc .null (.int (0 : Int32)) f64 f66 f67 A63 f68 hzc (rgS r54 (rgS r55 (rgS r56 (fun _ q => nomatch q)))) (Nat.le_of_ble_eq_true rfl) (Nat.le_of_ble_eq_true rfl) (by decide)) (w10 hw) (w6 hw) (fun x hx => by simp only [List.mem_cons, List.not_mem_nil, or_false] at hx; rcases hx with rfl; all_goals first | exact (List.mem_of_getElem? (i := 1) rfl)) rfl (Nat.le_of_eq rfl) (Nat.le_of_ble_eq_true rfl) (Nat.le_of_ble_eq_true rfl) ⟨rfl, Nat.le_of_ble_eq_true rfl⟩ ⟨rfl, Nat.le_of_ble_eq_true rfl⟩ rfl (fun _ _ _ q => nomatch q.1) fun T h69 so W hQ => ?_
  obtain ⟨-, b69, g69, K69, S69⟩ := hQ
  have S69 : St Z h69 a58 b69 [(i2b c54), (i2b c55), (i2b c56)] := S69
  refine k_astore W d_code_41 rfl (L' := #[.val (.int p0), .val (.int p1), .val (.int p2), .val (.int c54), .val (.int c55), .val (.int c56), .val (.ref a58), .unset]) rfl ?_
  refine k_iconst W d_code_43 (z := (0 : Int32)) rfl ?_
  refine k_istore W d_code_44 (L' := #[.val (.int p0), .val (.int p1), .val (.int p2), .val (.int c54), .val (.int c55), .val (.int c56), .val (.ref a58), .val (.int (0 : Int32))]) rfl ?_
  refine k_iloadN W d_code_46 rfl ?_
  refine k_bipush W d_code_47 (z := (48 : Int32)) rfl ?_
  refine k_ic W 76 d_code_49 (by decide) (fun (hc70 : ¬ c54 = (48 : Int32)) => ?_) (fun (hc70 : ¬ (¬ c54 = (48 : Int32))) => ?_)
  · -- pc 76
    refine k_aload W d_code_76 rfl rfl ?_
    have f71 := (Sta.keep f68 K69 (nsS (Exa.plain f64) ns0))
    have f72 := (Sta.keep (Sta.keep (Sta.keep (Sta.keep (Sta.keep (Sta.keep G0 K58 ns0) K60 ns0) K61 (nsS (Av.plain A60) ns0)) K62 (nsS (Av.plain A61) ns0)) K63 (nsS (Av.plain A62) ns0)) K69 (nsS (Exa.plain f64) ns0))
    refine k_callS W 0 5 22 (argsL := [(.ref a58)]) (rest := []) d_code_78 (w34 hw) (w35 hw) (by decide) (lenOf pd12 rfl) (ct_ict l Z a0 hw n0 h69 a58 b69 c54 c55 c56 zc sio r54 r55 r56 S69 f71 hzc f72 hsio) (w37 hw) (w36 hw) (fun x hx => nomatch hx) rfl (Nat.le_of_eq rfl) (Nat.le_of_ble_eq_true rfl) (Nat.le_of_ble_eq_true rfl) ⟨rfl, Nat.le_of_ble_eq_true rfl⟩ ⟨rfl, Nat.le_of_ble_eq_true rfl⟩ rfl (fun _ _ q => by rcases q.1 with ⟨_, u⟩ | ⟨_, u⟩ <;> cases u) fun T h73 v so W hQ => ?_
    obtain ⟨hQ, K73⟩ := hQ
    rcases hQ with ⟨hP, hv⟩ | ⟨hP, hv⟩
    · --
      exfalso; obtain ⟨q1, q2, q3, q4⟩ := hP; contradiction
    · --
      obtain rfl := Option.some.inj hv
      refine k_iload W d_code_81 rfl ?_
      refine k_icN W d_code_83 (show ¬ (¬ (0 : Int32) = (0 : Int32)) by decide) ?_
      refine k_iconst W d_code_86 (z := (1 : Int32)) rfl ?_
      refine k_goto W 91 d_code_87 (by decide) ?_
      exact k_retN W (t := .boolean) (z' := (1 : Int32)) d_code_91 rfl (by simp) (by decide) [] (fun x hx => nomatch hx) (Nat.le_of_ble_eq_true rfl) (Nat.le_of_ble_eq_true rfl) rfl
  · -- pc 52
    refine k_iload W d_code_52 rfl ?_
    refine k_bipush W d_code_54 (z := (48 : Int32)) rfl ?_
    refine k_ic W 76 d_code_56 (by decide) (fun (hc74 : ¬ c55 = (48 : Int32)) => ?_) (fun (hc74 : ¬ (¬ c55 = (48 : Int32))) => ?_)
    · -- pc 76
      refine k_aload W d_code_76 rfl rfl ?_
      have f75 := (Sta.keep f68 K69 (nsS (Exa.plain f64) ns0))
      have f76 := (Sta.keep (Sta.keep (Sta.keep (Sta.keep (Sta.keep (Sta.keep G0 K58 ns0) K60 ns0) K61 (nsS (Av.plain A60) ns0)) K62 (nsS (Av.plain A61) ns0)) K63 (nsS (Av.plain A62) ns0)) K69 (nsS (Exa.plain f64) ns0))
      refine k_callS W 0 5 22 (argsL := [(.ref a58)]) (rest := []) d_code_78 (w34 hw) (w35 hw) (by decide) (lenOf pd12 rfl) (ct_ict l Z a0 hw n0 h69 a58 b69 c54 c55 c56 zc sio r54 r55 r56 S69 f75 hzc f76 hsio) (w37 hw) (w36 hw) (fun x hx => nomatch hx) rfl (Nat.le_of_eq rfl) (Nat.le_of_ble_eq_true rfl) (Nat.le_of_ble_eq_true rfl) ⟨rfl, Nat.le_of_ble_eq_true rfl⟩ ⟨rfl, Nat.le_of_ble_eq_true rfl⟩ rfl (fun _ _ q => by rcases q.1 with ⟨_, u⟩ | ⟨_, u⟩ <;> cases u) fun T h77 v so W hQ => ?_
      obtain ⟨hQ, K77⟩ := hQ
      rcases hQ with ⟨hP, hv⟩ | ⟨hP, hv⟩
      · --
        exfalso; obtain ⟨q1, q2, q3, q4⟩ := hP; contradiction
      · --
        obtain rfl := Option.some.inj hv
        refine k_iload W d_code_81 rfl ?_
        refine k_icN W d_code_83 (show ¬ (¬ (0 : Int32) = (0 : Int32)) by decide) ?_
        refine k_iconst W d_code_86 (z := (1 : Int32)) rfl ?_
        refine k_goto W 91 d_code_87 (by decide) ?_
        exact k_retN W (t := .boolean) (z' := (1 : Int32)) d_code_91 rfl (by simp) (by decide) [] (fun x hx => nomatch hx) (Nat.le_of_ble_eq_true rfl) (Nat.le_of_ble_eq_true rfl) rfl
    · -- pc 59
      refine k_iload W d_code_59 rfl ?_
      refine k_bipush W d_code_61 (z := (48 : Int32)) rfl ?_
      refine k_ic W 76 d_code_63 (by decide) (fun (hc78 : c56 < (48 : Int32)) => ?_) (fun (hc78 : ¬ (c56 < (48 : Int32))) => ?_)
      · -- pc 76
        refine k_aload W d_code_76 rfl rfl ?_
        have f79 := (Sta.keep f68 K69 (nsS (Exa.plain f64) ns0))
        have f80 := (Sta.keep (Sta.keep (Sta.keep (Sta.keep (Sta.keep (Sta.keep G0 K58 ns0) K60 ns0) K61 (nsS (Av.plain A60) ns0)) K62 (nsS (Av.plain A61) ns0)) K63 (nsS (Av.plain A62) ns0)) K69 (nsS (Exa.plain f64) ns0))
        refine k_callS W 0 5 22 (argsL := [(.ref a58)]) (rest := []) d_code_78 (w34 hw) (w35 hw) (by decide) (lenOf pd12 rfl) (ct_ict l Z a0 hw n0 h69 a58 b69 c54 c55 c56 zc sio r54 r55 r56 S69 f79 hzc f80 hsio) (w37 hw) (w36 hw) (fun x hx => nomatch hx) rfl (Nat.le_of_eq rfl) (Nat.le_of_ble_eq_true rfl) (Nat.le_of_ble_eq_true rfl) ⟨rfl, Nat.le_of_ble_eq_true rfl⟩ ⟨rfl, Nat.le_of_ble_eq_true rfl⟩ rfl (fun _ _ q => by rcases q.1 with ⟨_, u⟩ | ⟨_, u⟩ <;> cases u) fun T h81 v so W hQ => ?_
        obtain ⟨hQ, K81⟩ := hQ
        rcases hQ with ⟨hP, hv⟩ | ⟨hP, hv⟩
        · --
          exfalso; obtain ⟨q1, q2, q3, q4⟩ := hP; contradiction
        · --
          obtain rfl := Option.some.inj hv
          refine k_iload W d_code_81 rfl ?_
          refine k_icN W d_code_83 (show ¬ (¬ (0 : Int32) = (0 : Int32)) by decide) ?_
          refine k_iconst W d_code_86 (z := (1 : Int32)) rfl ?_
          refine k_goto W 91 d_code_87 (by decide) ?_
          exact k_retN W (t := .boolean) (z' := (1 : Int32)) d_code_91 rfl (by simp) (by decide) [] (fun x hx => nomatch hx) (Nat.le_of_ble_eq_true rfl) (Nat.le_of_ble_eq_true rfl) rfl
      · -- pc 66
        refine k_iload W d_code_66 rfl ?_
        refine k_bipush W d_code_68 (z := (57 : Int32)) rfl ?_
        refine k_ic W 76 d_code_70 (by decide) (fun (hc82 : (57 : Int32) < c56) => ?_) (fun (hc82 : ¬ ((57 : Int32) < c56)) => ?_)
        · -- pc 76
          refine k_aload W d_code_76 rfl rfl ?_
          have f83 := (Sta.keep f68 K69 (nsS (Exa.plain f64) ns0))
          have f84 := (Sta.keep (Sta.keep (Sta.keep (Sta.keep (Sta.keep (Sta.keep G0 K58 ns0) K60 ns0) K61 (nsS (Av.plain A60) ns0)) K62 (nsS (Av.plain A61) ns0)) K63 (nsS (Av.plain A62) ns0)) K69 (nsS (Exa.plain f64) ns0))
          refine k_callS W 0 5 22 (argsL := [(.ref a58)]) (rest := []) d_code_78 (w34 hw) (w35 hw) (by decide) (lenOf pd12 rfl) (ct_ict l Z a0 hw n0 h69 a58 b69 c54 c55 c56 zc sio r54 r55 r56 S69 f83 hzc f84 hsio) (w37 hw) (w36 hw) (fun x hx => nomatch hx) rfl (Nat.le_of_eq rfl) (Nat.le_of_ble_eq_true rfl) (Nat.le_of_ble_eq_true rfl) ⟨rfl, Nat.le_of_ble_eq_true rfl⟩ ⟨rfl, Nat.le_of_ble_eq_true rfl⟩ rfl (fun _ _ q => by rcases q.1 with ⟨_, u⟩ | ⟨_, u⟩ <;> cases u) fun T h85 v so W hQ => ?_
          obtain ⟨hQ, K85⟩ := hQ
          rcases hQ with ⟨hP, hv⟩ | ⟨hP, hv⟩
          · --
            exfalso; obtain ⟨q1, q2, q3, q4⟩ := hP; contradiction
          · --
            obtain rfl := Option.some.inj hv
            refine k_iload W d_code_81 rfl ?_
            refine k_icN W d_code_83 (show ¬ (¬ (0 : Int32) = (0 : Int32)) by decide) ?_
            refine k_iconst W d_code_86 (z := (1 : Int32)) rfl ?_
            refine k_goto W 91 d_code_87 (by decide) ?_
            exact k_retN W (t := .boolean) (z' := (1 : Int32)) d_code_91 rfl (by simp) (by decide) [] (fun x hx => nomatch hx) (Nat.le_of_ble_eq_true rfl) (Nat.le_of_ble_eq_true rfl) rfl
        · -- pc 73
          refine k_iconst W d_code_73 (z := (1 : Int32)) rfl ?_
          refine k_istore W d_code_74 (L' := #[.val (.int p0), .val (.int p1), .val (.int p2), .val (.int c54), .val (.int c55), .val (.int c56), .val (.ref a58), .val (.int (1 : Int32))]) rfl ?_
          refine k_aload W d_code_76 rfl rfl ?_
          have f86 := (Sta.keep f68 K69 (nsS (Exa.plain f64) ns0))
          have f87 := (Sta.keep (Sta.keep (Sta.keep (Sta.keep (Sta.keep (Sta.keep G0 K58 ns0) K60 ns0) K61 (nsS (Av.plain A60) ns0)) K62 (nsS (Av.plain A61) ns0)) K63 (nsS (Av.plain A62) ns0)) K69 (nsS (Exa.plain f64) ns0))
          refine k_callS W 0 5 22 (argsL := [(.ref a58)]) (rest := []) d_code_78 (w34 hw) (w35 hw) (by decide) (lenOf pd12 rfl) (ct_ict l Z a0 hw n0 h69 a58 b69 c54 c55 c56 zc sio r54 r55 r56 S69 f86 hzc f87 hsio) (w37 hw) (w36 hw) (fun x hx => nomatch hx) rfl (Nat.le_of_eq rfl) (Nat.le_of_ble_eq_true rfl) (Nat.le_of_ble_eq_true rfl) ⟨rfl, Nat.le_of_ble_eq_true rfl⟩ ⟨rfl, Nat.le_of_ble_eq_true rfl⟩ rfl (fun _ _ q => by rcases q.1 with ⟨_, u⟩ | ⟨_, u⟩ <;> cases u) fun T h88 v so W hQ => ?_
          obtain ⟨hQ, K88⟩ := hQ
          rcases hQ with ⟨hP, hv⟩ | ⟨hP, hv⟩
          · --
            obtain rfl := Option.some.inj hv
            refine k_iload W d_code_81 rfl ?_
            refine k_icN W d_code_83 (show ¬ (¬ (1 : Int32) = (1 : Int32)) by decide) ?_
            refine k_iconst W d_code_86 (z := (1 : Int32)) rfl ?_
            refine k_goto W 91 d_code_87 (by decide) ?_
            exact k_retN W (t := .boolean) (z' := (1 : Int32)) d_code_91 rfl (by simp) (by decide) [] (fun x hx => nomatch hx) (Nat.le_of_ble_eq_true rfl) (Nat.le_of_ble_eq_true rfl) rfl
          · --
            exact absurd ⟨Classical.not_not.mp hc70, Classical.not_not.mp hc74, hc78, hc82⟩ hP
set_option maxRecDepth 65536 in
set_option maxHeartbeats 40000000 in
theorem comes_1 {Post : Tables → Env → Array Value → State → Outcome → State → Prop} (hpost : ∀ tb e args s v u, (limb_1_1.after args s (.returned v) u = true ∧ limb_1_2.after args s (.returned v) u = true ∧ True) → FramedW s (.returned v) u (Jvm.fieldLocs frame_1_writes args s ++ Jvm.arrayLocs frame_1_arrays args s ++ Jvm.staticLocs frame_1_statics s) 16 1152 → Post tb e args s (.returned v) u) :
    ArmFor flags0 classFile x code maxLocals ret World_1 tables_1 room_1 Calls_1 rest_1 Pre_1 Post := by
  intro l hfl _ _ p e ha hc hk s m args below hf hA hF happ hP
  obtain ⟨hcalls, hrest, hpre⟩ := hP
  obtain ⟨-, -, -, hnamed, -, -, -, hat⟩ := (Spec.applies_iff hf).mp happ
  obtain ⟨hg, hnarrow⟩ := and_e (Cond.before_iff.mp (show (Jvm.Cond.and given_1 narrow_1).before args s = true from hpre))
  obtain ⟨h1, h2⟩ := and_e hg
  obtain ⟨ga0, h2⟩ := and_e h2
  obtain ⟨ga1, h2⟩ := and_e h2
  have ga2 := h2
  obtain ⟨w0, w1, w2, rfl⟩ : ∃ w0 w1 w2 : Value, args = #[w0, w1, w2] := by
    have hs : args.size = 3 := by simpa [Cond.value, given_1] using h1
    obtain ⟨L⟩ := args
    match L, hs with
    | [w0, w1, w2], _ => exact ⟨w0, w1, w2, rfl⟩
  have hw := fun d (hd : d ∈ tables_1) => atoms_spec (ws := Jvm.Cond.code x code maxLocals ret :: tables_1) hat d (List.mem_cons_of_mem _ hd)
  obtain ⟨hsets, hown0⟩ := atoms_of _ (rest_1_c_eq ▸ (show rest_1_c.before _ s = true from hrest))
  have hfit : Fit s := fun {y c} hc i hi => by
    obtain ⟨ha, rfl⟩ := Array.getElem?_eq_some_iff.mp hc
    have q := List.all_eq_true.mp ((Array.all_eq_true_iff_forall_mem.mp hF) _ (Array.getElem_mem ha)) i (List.mem_range.mpr hi)
    simpa [Array.getElem?_eq_getElem hi] using q
  obtain ⟨i0, ei0⟩ := is_v ga0
  obtain rfl : w0 = (.int i0) := Option.some.inj ei0
  obtain ⟨i1, ei1⟩ := is_v ga1
  obtain rfl : w1 = (.int i1) := Option.some.inj ei1
  obtain ⟨i2, ei2⟩ := is_v ga2
  obtain rfl : w2 = (.int i2) := Option.some.inj ei2
  have n5 := not_v (Cond.before_iff.mp (hsets _ (List.mem_of_getElem? (i := 2) rfl)))
  obtain ⟨zc, ezc⟩ := is_v (Cond.before_iff.mp (hsets _ (List.mem_of_getElem? (i := 1) rfl)))
  have Szc : Sta s s.heap "java/lang/String" "COMPACT_STRINGS" "Z" (.int zc) := Sta.start ezc (Or.inl (hsets _ (List.mem_of_getElem? (i := 0) rfl)))
  have hzc : ¬ (zc = (0 : Int32)) := gotF (Cond.eq_ints ezc (Term.int_eval (0))) n5
  obtain ⟨sio, esio, hsio⟩ := isR_v (Cond.before_iff.mp (hsets _ (List.mem_of_getElem? (i := 8) rfl)))
  have Ssio : Sta s s.heap "jdk/internal/util/Preconditions" "SIOOBE_FORMATTER" "Ljava/util/function/BiFunction;" sio := Sta.start esio (Or.inl (hsets _ (List.mem_of_getElem? (i := 7) rfl)))
  obtain ⟨n, o, k1, k2, k3, v, L, so, rfl, hQ, N, -, -, hnw, hq⟩ := rm0 l s _ hw s.heap.size s.heap i0 i1 i2 zc sio Szc hzc Ssio hsio tables_1 p e ha hc hk s m _ below hf ((Spec.applies_iff_loose hf).mp happ).1 ⟨rfl, State.Warmed39.refl s, rfl, (CHv.start (own_EW hw) (fun p hp => hcalls.1 p hp) (hsets _ (List.mem_of_getElem? (i := 2) rfl)) (w23 hw) (w5 hw)), Nat.le_refl _, own_EW hw, fun x hx => nomatch hx⟩ trivial
  subst hQ
  refine ⟨n, _, k1, k2, k3, hpost _ _ _ _ _ _ ⟨Cond.after_iff.mpr rfl, Cond.after_iff.mpr (eq_i res_at (Term.int_eval (1)) rfl), trivial⟩ ⟨hq.1, hq.2.1, hq.2.2.1, (hq.2.2.2.sift fun y hy => Or.inr (N y hy)).mono (by decide) (by decide)⟩⟩
theorem main_1_1 : Claimed_1_1 := comes_1 fun _ _ _ _ _ _ h hF => ⟨h.1, hF⟩
theorem main_1_2 : Claimed_1_2 := comes_1 fun _ _ _ _ _ _ h hF => ⟨h.2.1, hF⟩
end Jvm.Pilot.@@N@@
namespace Jvm.Pilot.@@N@@
open Jvm Jvm.ClassFile Sem Op Lib Jvm.Free Jvm.Stand Jvm.Pilot.@@N@@.Jvm.D
/-! MADE BY PROGRAM (witnessworld.py) out of the Statement's table words and the real class files: 20 classes; the members and pool entries that the words name. The judged class is class 1, her method 2. -/
namespace start1
open Jvm.ClassFile
def u (s : String) : CpInfo := .utf8 (stringToUtf16 s)
/-- a pool by its gaps: so many unusable entries, then the entry; so many at the end -/
def gap : Nat → List CpInfo → List CpInfo
  | 0, r => r
  | n + 1, r => .unusable :: gap n r
def poolList (es : List (Nat × CpInfo)) (last : Nat) : List CpInfo := es.foldr (fun e r => gap e.1 (e.2 :: r)) (gap last [])
def pool (es : List (Nat × CpInfo)) (last : Nat) : Array CpInfo := ⟨poolList es last⟩
def fileOf (pool : Array CpInfo) (this : Nat) (attrs : Array Attribute := #[]) (ms : Array MethodInfo := #[]) (fl : Nat := 33) (sup : Nat := 0) (ifs : Array Nat := #[]) (fds : Array FieldInfo := #[]) : ClassFile where
  minorVersion := 0
  majorVersion := 65
  constantPool := pool
  accessFlags := fl
  thisClass := this
  superClass := sup
  interfaces := ifs
  fields := fds
  methods := ms
  attributes := attrs
def plain (name : String) (sup : Option ClassId) : Class where
  name := name
  kind := .ordinary
  loader := none
  accessFlags := 33
  super := sup
  interfaces := #[]
  cf := none
  fields := #[]
  methods := #[]
  instanceTypes := #[]
  staticTypes := #[]
  resolved := #[]
  callSites := []
  init := .initialized
  statics := none
  mirror := none

def pool0 : Array CpInfo := pool [(5, u "<init>"), (0, u "()V"), (1, .class_ 10), (1, u "java/lang/Object")] 113

def k0c0 : Code := { maxStack := 0, maxLocals := 1, code := object_method_1_code, exceptionTable := #[], attributes := #[] }
def k0m0 : Method := { name := "<init>", desc := "()V", sig := { parameters := [], returnType := none }, accessFlags := 1, code := some k0c0 }
/-- java/lang/Object -/
def k0 : Class := { plain "java/lang/Object" none with
  accessFlags := 33
  interfaces := #[]
  cf := some (fileOf pool0 8 #[] #[{ accessFlags := 1, nameIndex := 5, descriptorIndex := 6, attributes := #[] }] 33 0 #[] #[])
  fields := #[]
  methods := #[k0m0]
  instanceTypes := #[]
  staticTypes := #[]
  resolved := Array.replicate 124 none
  statics := none }

def pool1 : Array CpInfo := pool [(2, .class_ 4), (1, u "java/lang/Object"), (0, u "<init>"), (0, u "()V"), (0, .methodref 8 9), (0, .class_ 10), (0, .nameAndType 11 12), (0, u "com/example/epochmark/epochmark/io/Iso2709IsControlTagPinLaw"), (0, u "draw"), (0, u "(I)C"), (0, .class_ 14), (0, u "java/lang/String"), (0, .methodref 13 16), (0, .nameAndType 5 17), (0, u "([C)V"), (0, .methodref 19 20), (0, .class_ 21), (0, .nameAndType 22 23), (0, u "com/example/epochmark/epochmark/io/Iso2709"), (0, u "isControlTag"), (0, u "(Ljava/lang/String;)Z"), (3, u "law"), (0, u "(III)Z")] 2

def k1m0 : Method := { name := "<init>", desc := "()V", sig := { parameters := [], returnType := none }, accessFlags := 2, code := none }
def k1c1 : Code := { maxStack := 3, maxLocals := 2, code := method_2_code, exceptionTable := #[], attributes := #[] }
def k1m1 : Method := { name := "draw", desc := "(I)C", sig := { parameters := [.int], returnType := some .char }, accessFlags := 10, code := some k1c1 }
def k1c2 : Code := { maxStack := 6, maxLocals := 8, code := code, exceptionTable := #[], attributes := #[] }
def k1m2 : Method := { name := "law", desc := "(III)Z", sig := { parameters := [.int, .int, .int], returnType := some .boolean }, accessFlags := 9, code := some k1c2 }
/-- com/example/epochmark/epochmark/io/Iso2709IsControlTagPinLaw -/
def k1 : Class := { plain "com/example/epochmark/epochmark/io/Iso2709IsControlTagPinLaw" (some 0) with
  accessFlags := 49
  interfaces := #[]
  cf := some (fileOf pool1 8 #[] #[{ accessFlags := 2, nameIndex := 5, descriptorIndex := 6, attributes := #[] }, { accessFlags := 10, nameIndex := 11, descriptorIndex := 12, attributes := #[] }, { accessFlags := 9, nameIndex := 27, descriptorIndex := 28, attributes := #[] }] 49 2 #[] #[])
  fields := #[]
  methods := #[k1m0, k1m1, k1m2]
  instanceTypes := #[]
  staticTypes := #[]
  resolved := Array.replicate 31 none
  statics := none }

def pool2 : Array CpInfo := pool [(1, .class_ 2), (0, u "java/io/Serializable"), (0, .class_ 4), (0, u "java/lang/Object")] 2

/-- java/io/Serializable -/
def k2 : Class := { plain "java/io/Serializable" (some 0) with
  accessFlags := 1537
  interfaces := #[]
  cf := some (fileOf pool2 1 #[] #[] 1537 3 #[] #[])
  fields := #[]
  methods := #[]
  instanceTypes := #[]
  staticTypes := #[]
  resolved := Array.replicate 7 none
  statics := none }

def pool3 : Array CpInfo := pool [(1, .class_ 2), (0, u "java/lang/Comparable"), (0, .class_ 4), (0, u "java/lang/Object")] 7

/-- java/lang/Comparable -/
def k3 : Class := { plain "java/lang/Comparable" (some 0) with
  accessFlags := 1537
  interfaces := #[]
  cf := some (fileOf pool3 1 #[] #[] 1537 3 #[] #[])
  fields := #[]
  methods := #[]
  instanceTypes := #[]
  staticTypes := #[]
  resolved := Array.replicate 12 none
  statics := none }

def pool4 : Array CpInfo := pool [(2, .class_ 4), (1, u "java/lang/CharSequence"), (42, .class_ 48), (0, u "java/lang/CharSequence$1CodePointIterator"), (10, .class_ 60), (0, u "java/lang/CharSequence$1CharIterator"), (5, .class_ 67), (0, u "java/lang/Object")] 63

/-- java/lang/CharSequence -/
def k4 : Class := { plain "java/lang/CharSequence" (some 0) with
  accessFlags := 1537
  interfaces := #[]
  cf := some (fileOf pool4 2 #[.nestMembers #[47, 59]] #[] 1537 66 #[] #[])
  fields := #[]
  methods := #[]
  instanceTypes := #[]
  staticTypes := #[]
  resolved := Array.replicate 131 none
  statics := none }

def pool5 : Array CpInfo := pool [(1, .class_ 2), (0, u "java/lang/constant/Constable"), (0, .class_ 4), (0, u "java/lang/Object")] 6

/-- java/lang/constant/Constable -/
def k5 : Class := { plain "java/lang/constant/Constable" (some 0) with
  accessFlags := 1537
  interfaces := #[]
  cf := some (fileOf pool5 1 #[] #[] 1537 3 #[] #[])
  fields := #[]
  methods := #[]
  instanceTypes := #[]
  staticTypes := #[]
  resolved := Array.replicate 11 none
  statics := none }

def pool6 : Array CpInfo := pool [(1, .class_ 2), (0, u "java/lang/constant/ConstantDesc"), (0, .class_ 4), (0, u "java/lang/Object")] 32

/-- java/lang/constant/ConstantDesc -/
def k6 : Class := { plain "java/lang/constant/ConstantDesc" (some 0) with
  accessFlags := 1537
  interfaces := #[]
  cf := some (fileOf pool6 1 #[] #[] 1537 3 #[] #[])
  fields := #[]
  methods := #[]
  instanceTypes := #[]
  staticTypes := #[]
  resolved := Array.replicate 37 none
  statics := none }

def pool7 : Array CpInfo := pool [(1, .methodref 2 3), (0, .class_ 4), (0, .nameAndType 5 6), (0, u "java/lang/Object"), (0, u "<init>"), (0, u "()V"), (2, .fieldref 10 11), (0, .class_ 12), (0, .nameAndType 13 14), (0, u "java/lang/String"), (0, u "value"), (0, u "[B"), (0, .fieldref 10 16), (0, .nameAndType 17 18), (0, u "coder"), (0, u "B"), (2, u "hash"), (0, u "I"), (2, u "hashIsZero"), (0, u "Z"), (0, .methodref 10 28), (0, .nameAndType 5 29), (0, u "([CIILjava/lang/Void;)V"), (8, .fieldref 10 39), (0, .nameAndType 40 26), (0, u "COMPACT_STRINGS"), (1, .class_ 44), (1, u "java/lang/StringUTF16"), (0, u "compress"), (1, .methodref 42 48), (0, .nameAndType 49 50), (0, u "coderFromArrayLen"), (0, u "([BI)B"), (56, .class_ 109), (1, u "java/lang/StringLatin1"), (32, u "()Z"), (34, .methodref 42 178), (0, .nameAndType 45 179), (0, u "([CII)[B"), (154, u "()I"), (0, .methodref 10 336), (0, .nameAndType 17 337), (0, u "()B"), (25, u "([BI)C"), (12, u "([BI[BII)I"), (14, u "(II)V"), (35, u "(I)C"), (64, .methodref 10 493), (0, .nameAndType 494 142), (0, u "isLatin1"), (0, .methodref 107 496), (0, .nameAndType 497 363), (0, u "charAt"), (3, u "checkIndex"), (3, .methodref 10 506), (0, .nameAndType 507 334), (0, u "length"), (51, .class_ 561), (1, u "jdk/internal/util/ArraysSupport"), (0, u "mismatch"), (12, .class_ 576), (0, u "java/lang/CharSequence"), (22, u "CASE_INSENSITIVE_ORDER"), (0, u "Ljava/util/Comparator;"), (6, .methodref 559 608), (0, .nameAndType 562 376), (15, .methodref 10 625), (0, .nameAndType 626 627), (0, u "startsWith"), (0, u "(Ljava/lang/String;I)Z"), (382, u "([C)V"), (42, .fieldref 1054 1055), (0, .class_ 1056), (0, .nameAndType 1057 1058), (0, u "jdk/internal/util/Preconditions"), (0, u "SIOOBE_FORMATTER"), (0, u "Ljava/util/function/BiFunction;"), (0, .methodref 1054 1060), (0, .nameAndType 501 1061), (0, u "(IILjava/util/function/BiFunction;)I"), (39, u "serialPersistentFields"), (0, u "[Ljava/io/ObjectStreamField;"), (0, .class_ 1104), (0, u "java/lang/String$CaseInsensitiveComparator"), (1, .class_ 1107), (0, u "java/io/Serializable"), (0, .class_ 1109), (0, u "java/lang/Comparable"), (0, .class_ 1111), (0, u "java/lang/constant/Constable"), (0, .class_ 1113), (0, u "java/lang/constant/ConstantDesc"), (2, u "serialVersionUID"), (0, u "J"), (3, u "REPL"), (0, u "C"), (2, u "LATIN1"), (1, u "UTF16"), (129, u "(Ljava/lang/String;)Z")] 193

def k7m0 : Method := { name := "<init>", desc := "()V", sig := { parameters := [], returnType := none }, accessFlags := 1, code := none }
def k7c1 : Code := { maxStack := 5, maxLocals := 2, code := jdk_42_method_3_code, exceptionTable := #[], attributes := #[] }
def k7m1 : Method := { name := "<init>", desc := "([C)V", sig := { parameters := [(.array .char)], returnType := none }, accessFlags := 1, code := some k7c1 }
def k7c2 : Code := { maxStack := 2, maxLocals := 1, code := jdk_42_method_54_code, exceptionTable := #[], attributes := #[] }
def k7m2 : Method := { name := "length", desc := "()I", sig := { parameters := [], returnType := some .int }, accessFlags := 1, code := some k7c2 }
def k7c3 : Code := { maxStack := 2, maxLocals := 2, code := jdk_42_method_56_code, exceptionTable := #[], attributes := #[] }
def k7m3 : Method := { name := "charAt", desc := "(I)C", sig := { parameters := [.int], returnType := some .char }, accessFlags := 1, code := some k7c3 }
def k7c4 : Code := { maxStack := 5, maxLocals := 8, code := jdk_42_method_75_code, exceptionTable := #[], attributes := #[] }
def k7m4 : Method := { name := "startsWith", desc := "(Ljava/lang/String;I)Z", sig := { parameters := [(.object "java/lang/String"), .int], returnType := some .boolean }, accessFlags := 1, code := some k7c4 }
def k7c5 : Code := { maxStack := 3, maxLocals := 2, code := jdk_42_method_76_code, exceptionTable := #[], attributes := #[] }
def k7m5 : Method := { name := "startsWith", desc := "(Ljava/lang/String;)Z", sig := { parameters := [(.object "java/lang/String")], returnType := some .boolean }, accessFlags := 1, code := some k7c5 }
def k7c6 : Code := { maxStack := 4, maxLocals := 6, code := jdk_42_method_149_code, exceptionTable := #[], attributes := #[] }
def k7m6 : Method := { name := "<init>", desc := "([CIILjava/lang/Void;)V", sig := { parameters := [(.array .char), .int, .int, (.object "java/lang/Void")], returnType := none }, accessFlags := 2, code := some k7c6 }
def k7c7 : Code := { maxStack := 1, maxLocals := 1, code := jdk_42_method_152_code, exceptionTable := #[], attributes := #[] }
def k7m7 : Method := { name := "coder", desc := "()B", sig := { parameters := [], returnType := some .byte }, accessFlags := 0, code := some k7c7 }
def k7c8 : Code := { maxStack := 1, maxLocals := 1, code := jdk_42_method_154_code, exceptionTable := #[], attributes := #[] }
def k7m8 : Method := { name := "isLatin1", desc := "()Z", sig := { parameters := [], returnType := some .boolean }, accessFlags := 0, code := some k7c8 }
def k7c9 : Code := { maxStack := 3, maxLocals := 2, code := jdk_42_method_155_code, exceptionTable := #[], attributes := #[] }
def k7m9 : Method := { name := "checkIndex", desc := "(II)V", sig := { parameters := [.int, .int], returnType := none }, accessFlags := 8, code := some k7c9 }
/-- java/lang/String -/
def k7 : Class := { plain "java/lang/String" (some 0) with
  accessFlags := 49
  interfaces := #[2, 3, 4, 5, 6]
  cf := some (fileOf pool7 10 #[.nestMembers #[1103]] #[{ accessFlags := 1, nameIndex := 5, descriptorIndex := 6, attributes := #[] }, { accessFlags := 1, nameIndex := 5, descriptorIndex := 1010, attributes := #[] }, { accessFlags := 1, nameIndex := 507, descriptorIndex := 334, attributes := #[] }, { accessFlags := 1, nameIndex := 497, descriptorIndex := 427, attributes := #[] }, { accessFlags := 1, nameIndex := 626, descriptorIndex := 627, attributes := #[] }, { accessFlags := 1, nameIndex := 626, descriptorIndex := 1257, attributes := #[] }, { accessFlags := 2, nameIndex := 5, descriptorIndex := 29, attributes := #[] }, { accessFlags := 0, nameIndex := 17, descriptorIndex := 337, attributes := #[] }, { accessFlags := 0, nameIndex := 494, descriptorIndex := 142, attributes := #[] }, { accessFlags := 8, nameIndex := 501, descriptorIndex := 391, attributes := #[] }] 49 2 #[1106, 1108, 575, 1110, 1112] #[{ accessFlags := 18, nameIndex := 13, descriptorIndex := 14, attributes := #[] }, { accessFlags := 18, nameIndex := 17, descriptorIndex := 18, attributes := #[] }, { accessFlags := 2, nameIndex := 21, descriptorIndex := 22, attributes := #[] }, { accessFlags := 2, nameIndex := 25, descriptorIndex := 26, attributes := #[] }, { accessFlags := 26, nameIndex := 1116, descriptorIndex := 1117, attributes := #[] }, { accessFlags := 24, nameIndex := 40, descriptorIndex := 26, attributes := #[] }, { accessFlags := 26, nameIndex := 1101, descriptorIndex := 1102, attributes := #[] }, { accessFlags := 26, nameIndex := 1121, descriptorIndex := 1122, attributes := #[] }, { accessFlags := 25, nameIndex := 599, descriptorIndex := 600, attributes := #[] }, { accessFlags := 24, nameIndex := 1125, descriptorIndex := 18, attributes := #[] }, { accessFlags := 24, nameIndex := 1127, descriptorIndex := 18, attributes := #[] }])
  fields := #[{ name := "value", type := (.array .byte), accessFlags := 18, slot := 0, constantValue := 0 }, { name := "coder", type := .byte, accessFlags := 18, slot := 1, constantValue := 0 }, { name := "hash", type := .int, accessFlags := 2, slot := 2, constantValue := 0 }, { name := "hashIsZero", type := .boolean, accessFlags := 2, slot := 3, constantValue := 0 }, { name := "serialVersionUID", type := .long, accessFlags := 26, slot := 0, constantValue := 0 }, { name := "COMPACT_STRINGS", type := .boolean, accessFlags := 24, slot := 1, constantValue := 0 }, { name := "serialPersistentFields", type := (.array (.object "java/io/ObjectStreamField")), accessFlags := 26, slot := 2, constantValue := 0 }, { name := "REPL", type := .char, accessFlags := 26, slot := 3, constantValue := 0 }, { name := "CASE_INSENSITIVE_ORDER", type := (.object "java/util/Comparator"), accessFlags := 25, slot := 4, constantValue := 0 }, { name := "LATIN1", type := .byte, accessFlags := 24, slot := 5, constantValue := 0 }, { name := "UTF16", type := .byte, accessFlags := 24, slot := 6, constantValue := 0 }]
  methods := #[k7m0, k7m1, k7m2, k7m3, k7m4, k7m5, k7m6, k7m7, k7m8, k7m9]
  instanceTypes := #[(.array .byte), .byte, .int, .boolean]
  staticTypes := #[.long, .boolean, (.array (.object "java/io/ObjectStreamField")), .char, (.object "java/util/Comparator"), .byte, .byte]
  resolved := Array.replicate 1451 none
  statics := some 0 }

def pool8 : Array CpInfo := pool [(6, .class_ 8), (1, u "java/lang/Object"), (0, u "<init>"), (0, u "()V"), (1, .class_ 14), (1, u "java/lang/StringUTF16"), (31, u "$assertionsDisabled"), (0, u "Z"), (13, u "HI_BYTE_SHIFT"), (0, u "I"), (2, u "LO_BYTE_SHIFT"), (49, .methodref 12 116), (0, .nameAndType 117 118), (0, u "compress"), (0, u "([CI[BII)I"), (3, u "([CII)[B"), (138, u "coderFromArrayLen"), (0, u "([BI)B"), (106, .class_ 371), (1, u "java/lang/StringUTF16$LinesSpliterator"), (58, u "MAX_LENGTH"), (196, .class_ 628), (0, u "java/lang/StringUTF16$CodePointsSpliterator"), (0, .class_ 630), (0, u "java/lang/StringUTF16$CharsSpliterator")] 4

def k8m0 : Method := { name := "<init>", desc := "()V", sig := { parameters := [], returnType := none }, accessFlags := 0, code := none }
def k8c1 : Code := { maxStack := 2, maxLocals := 2, code := jdk_52_method_15_code, exceptionTable := #[], attributes := #[] }
def k8m1 : Method := { name := "coderFromArrayLen", desc := "([BI)B", sig := { parameters := [(.array .byte), .int], returnType := some .byte }, accessFlags := 8, code := some k8c1 }
def k8c2 : Code := { maxStack := 5, maxLocals := 6, code := jdk_52_method_16_code, exceptionTable := #[], attributes := #[] }
def k8m2 : Method := { name := "compress", desc := "([CII)[B", sig := { parameters := [(.array .char), .int, .int], returnType := some (.array .byte) }, accessFlags := 9, code := some k8c2 }
def k8c3 : Code := { maxStack := 3, maxLocals := 7, code := jdk_52_method_21_code, exceptionTable := #[], attributes := #[] }
def k8m3 : Method := { name := "compress", desc := "([CI[BII)I", sig := { parameters := [(.array .char), .int, (.array .byte), .int, .int], returnType := some .int }, accessFlags := 9, code := some k8c3 }
/-- java/lang/StringUTF16 -/
def k8 : Class := { plain "java/lang/StringUTF16" (some 0) with
  accessFlags := 48
  interfaces := #[]
  cf := some (fileOf pool8 12 #[.nestMembers #[627, 629, 369]] #[{ accessFlags := 0, nameIndex := 9, descriptorIndex := 10, attributes := #[] }, { accessFlags := 8, nameIndex := 261, descriptorIndex := 262, attributes := #[] }, { accessFlags := 9, nameIndex := 117, descriptorIndex := 122, attributes := #[] }, { accessFlags := 9, nameIndex := 117, descriptorIndex := 118, attributes := #[] }] 48 6 #[] #[{ accessFlags := 26, nameIndex := 61, descriptorIndex := 62, attributes := #[] }, { accessFlags := 26, nameIndex := 65, descriptorIndex := 62, attributes := #[] }, { accessFlags := 24, nameIndex := 430, descriptorIndex := 62, attributes := #[] }, { accessFlags := 4120, nameIndex := 46, descriptorIndex := 47, attributes := #[] }])
  fields := #[{ name := "HI_BYTE_SHIFT", type := .int, accessFlags := 26, slot := 0, constantValue := 0 }, { name := "LO_BYTE_SHIFT", type := .int, accessFlags := 26, slot := 1, constantValue := 0 }, { name := "MAX_LENGTH", type := .int, accessFlags := 24, slot := 2, constantValue := 0 }, { name := "$assertionsDisabled", type := .boolean, accessFlags := 4120, slot := 3, constantValue := 0 }]
  methods := #[k8m0, k8m1, k8m2, k8m3]
  instanceTypes := #[]
  staticTypes := #[.int, .int, .int, .boolean]
  resolved := Array.replicate 635 none
  statics := none }

def pool9 : Array CpInfo := pool [(2, .class_ 4), (1, u "java/lang/Object"), (0, u "<init>"), (0, u "()V"), (0, .string 8), (0, u "00"), (0, .methodref 10 11), (0, .class_ 12), (0, .nameAndType 13 14), (0, u "java/lang/String"), (0, u "startsWith"), (0, u "(Ljava/lang/String;)Z"), (0, .methodref 10 16), (0, .nameAndType 17 18), (0, u "charAt"), (0, u "(I)C"), (0, .class_ 20), (0, u "com/example/epochmark/epochmark/io/Iso2709"), (0, u "LEADER"), (0, u "I"), (2, u "RECORD_LENGTH"), (1, u "BASE_ADDRESS"), (1, u "ENTRY"), (0, u "LONGEST_RECORD"), (1, u "LONGEST_FIELD"), (1, u "FIELD_TERMINATOR"), (0, u "B"), (1, u "RECORD_TERMINATOR"), (1, u "SUBFIELD_DELIMITER"), (0, u "C"), (3, u "isControlTag")] 3

def k9m0 : Method := { name := "<init>", desc := "()V", sig := { parameters := [], returnType := none }, accessFlags := 2, code := none }
def k9c1 : Code := { maxStack := 2, maxLocals := 1, code := prog_4_method_2_code, exceptionTable := #[], attributes := #[] }
def k9m1 : Method := { name := "isControlTag", desc := "(Ljava/lang/String;)Z", sig := { parameters := [(.object "java/lang/String")], returnType := some .boolean }, accessFlags := 8, code := some k9c1 }
/-- com/example/epochmark/epochmark/io/Iso2709 -/
def k9 : Class := { plain "com/example/epochmark/epochmark/io/Iso2709" (some 0) with
  accessFlags := 48
  interfaces := #[]
  cf := some (fileOf pool9 19 #[] #[{ accessFlags := 2, nameIndex := 5, descriptorIndex := 6, attributes := #[] }, { accessFlags := 8, nameIndex := 44, descriptorIndex := 14, attributes := #[] }] 48 2 #[] #[{ accessFlags := 24, nameIndex := 21, descriptorIndex := 22, attributes := #[] }, { accessFlags := 24, nameIndex := 25, descriptorIndex := 22, attributes := #[] }, { accessFlags := 24, nameIndex := 27, descriptorIndex := 22, attributes := #[] }, { accessFlags := 24, nameIndex := 29, descriptorIndex := 22, attributes := #[] }, { accessFlags := 24, nameIndex := 30, descriptorIndex := 22, attributes := #[] }, { accessFlags := 24, nameIndex := 32, descriptorIndex := 22, attributes := #[] }, { accessFlags := 24, nameIndex := 34, descriptorIndex := 35, attributes := #[] }, { accessFlags := 24, nameIndex := 37, descriptorIndex := 35, attributes := #[] }, { accessFlags := 24, nameIndex := 39, descriptorIndex := 40, attributes := #[] }])
  fields := #[{ name := "LEADER", type := .int, accessFlags := 24, slot := 0, constantValue := 0 }, { name := "RECORD_LENGTH", type := .int, accessFlags := 24, slot := 1, constantValue := 0 }, { name := "BASE_ADDRESS", type := .int, accessFlags := 24, slot := 2, constantValue := 0 }, { name := "ENTRY", type := .int, accessFlags := 24, slot := 3, constantValue := 0 }, { name := "LONGEST_RECORD", type := .int, accessFlags := 24, slot := 4, constantValue := 0 }, { name := "LONGEST_FIELD", type := .int, accessFlags := 24, slot := 5, constantValue := 0 }, { name := "FIELD_TERMINATOR", type := .byte, accessFlags := 24, slot := 6, constantValue := 0 }, { name := "RECORD_TERMINATOR", type := .byte, accessFlags := 24, slot := 7, constantValue := 0 }, { name := "SUBFIELD_DELIMITER", type := .char, accessFlags := 24, slot := 8, constantValue := 0 }]
  methods := #[k9m0, k9m1]
  instanceTypes := #[]
  staticTypes := #[.int, .int, .int, .int, .int, .int, .byte, .byte, .char]
  resolved := Array.replicate 48 none
  statics := none }

def pool10 : Array CpInfo := pool [(9, u "<init>"), (6, .class_ 18), (1, u "java/lang/Object"), (0, u "()V"), (1, .class_ 23), (1, u "jdk/internal/util/ArraysSupport"), (0, u "LOG2_ARRAY_LONG_INDEX_SCALE"), (0, u "I"), (2, u "U"), (0, u "Ljdk/internal/misc/Unsafe;"), (8, u "BIG_ENDIAN"), (0, u "Z"), (8, u "LOG2_BYTE_BIT_SIZE"), (4, u "LOG2_ARRAY_INT_INDEX_SCALE"), (54, u "JLA"), (0, u "Ljdk/internal/access/JavaLangAccess;"), (11, u "LOG2_ARRAY_BOOLEAN_INDEX_SCALE"), (9, u "LOG2_ARRAY_BYTE_INDEX_SCALE"), (5, u "LOG2_ARRAY_CHAR_INDEX_SCALE"), (5, u "LOG2_ARRAY_SHORT_INDEX_SCALE"), (5, u "mismatch"), (12, u "LOG2_ARRAY_FLOAT_INDEX_SCALE"), (24, u "LOG2_ARRAY_DOUBLE_INDEX_SCALE"), (89, u "T_BOOLEAN"), (2, u "T_CHAR"), (1, u "T_FLOAT"), (1, u "T_DOUBLE"), (1, u "T_BYTE"), (1, u "T_SHORT"), (1, u "T_INT"), (1, u "T_LONG"), (1, u "SOFT_MAX_ARRAY_LENGTH"), (42, u "([BI[BII)I")] 40

def k10m0 : Method := { name := "<init>", desc := "()V", sig := { parameters := [], returnType := none }, accessFlags := 2, code := none }
def k10c1 : Code := { maxStack := 8, maxLocals := 8, code := jdk_48_method_14_code, exceptionTable := #[], attributes := #[] }
def k10m1 : Method := { name := "mismatch", desc := "([BI[BII)I", sig := { parameters := [(.array .byte), .int, (.array .byte), .int, .int], returnType := some .int }, accessFlags := 9, code := some k10c1 }
/-- jdk/internal/util/ArraysSupport -/
def k10 : Class := { plain "jdk/internal/util/ArraysSupport" (some 0) with
  accessFlags := 33
  interfaces := #[]
  cf := some (fileOf pool10 21 #[] #[{ accessFlags := 2, nameIndex := 9, descriptorIndex := 19, attributes := #[] }, { accessFlags := 9, nameIndex := 149, descriptorIndex := 337, attributes := #[] }] 33 16 #[] #[{ accessFlags := 24, nameIndex := 28, descriptorIndex := 29, attributes := #[] }, { accessFlags := 26, nameIndex := 38, descriptorIndex := 39, attributes := #[] }, { accessFlags := 25, nameIndex := 121, descriptorIndex := 25, attributes := #[] }, { accessFlags := 25, nameIndex := 131, descriptorIndex := 25, attributes := #[] }, { accessFlags := 25, nameIndex := 137, descriptorIndex := 25, attributes := #[] }, { accessFlags := 25, nameIndex := 143, descriptorIndex := 25, attributes := #[] }, { accessFlags := 25, nameIndex := 53, descriptorIndex := 25, attributes := #[] }, { accessFlags := 25, nameIndex := 24, descriptorIndex := 25, attributes := #[] }, { accessFlags := 25, nameIndex := 162, descriptorIndex := 25, attributes := #[] }, { accessFlags := 25, nameIndex := 187, descriptorIndex := 25, attributes := #[] }, { accessFlags := 26, nameIndex := 48, descriptorIndex := 25, attributes := #[] }, { accessFlags := 25, nameIndex := 277, descriptorIndex := 25, attributes := #[] }, { accessFlags := 25, nameIndex := 280, descriptorIndex := 25, attributes := #[] }, { accessFlags := 25, nameIndex := 282, descriptorIndex := 25, attributes := #[] }, { accessFlags := 25, nameIndex := 284, descriptorIndex := 25, attributes := #[] }, { accessFlags := 25, nameIndex := 286, descriptorIndex := 25, attributes := #[] }, { accessFlags := 25, nameIndex := 288, descriptorIndex := 25, attributes := #[] }, { accessFlags := 25, nameIndex := 290, descriptorIndex := 25, attributes := #[] }, { accessFlags := 25, nameIndex := 292, descriptorIndex := 25, attributes := #[] }, { accessFlags := 26, nameIndex := 108, descriptorIndex := 109, attributes := #[] }, { accessFlags := 25, nameIndex := 294, descriptorIndex := 25, attributes := #[] }])
  fields := #[{ name := "U", type := (.object "jdk/internal/misc/Unsafe"), accessFlags := 24, slot := 0, constantValue := 0 }, { name := "BIG_ENDIAN", type := .boolean, accessFlags := 26, slot := 1, constantValue := 0 }, { name := "LOG2_ARRAY_BOOLEAN_INDEX_SCALE", type := .int, accessFlags := 25, slot := 2, constantValue := 0 }, { name := "LOG2_ARRAY_BYTE_INDEX_SCALE", type := .int, accessFlags := 25, slot := 3, constantValue := 0 }, { name := "LOG2_ARRAY_CHAR_INDEX_SCALE", type := .int, accessFlags := 25, slot := 4, constantValue := 0 }, { name := "LOG2_ARRAY_SHORT_INDEX_SCALE", type := .int, accessFlags := 25, slot := 5, constantValue := 0 }, { name := "LOG2_ARRAY_INT_INDEX_SCALE", type := .int, accessFlags := 25, slot := 6, constantValue := 0 }, { name := "LOG2_ARRAY_LONG_INDEX_SCALE", type := .int, accessFlags := 25, slot := 7, constantValue := 0 }, { name := "LOG2_ARRAY_FLOAT_INDEX_SCALE", type := .int, accessFlags := 25, slot := 8, constantValue := 0 }, { name := "LOG2_ARRAY_DOUBLE_INDEX_SCALE", type := .int, accessFlags := 25, slot := 9, constantValue := 0 }, { name := "LOG2_BYTE_BIT_SIZE", type := .int, accessFlags := 26, slot := 10, constantValue := 0 }, { name := "T_BOOLEAN", type := .int, accessFlags := 25, slot := 11, constantValue := 0 }, { name := "T_CHAR", type := .int, accessFlags := 25, slot := 12, constantValue := 0 }, { name := "T_FLOAT", type := .int, accessFlags := 25, slot := 13, constantValue := 0 }, { name := "T_DOUBLE", type := .int, accessFlags := 25, slot := 14, constantValue := 0 }, { name := "T_BYTE", type := .int, accessFlags := 25, slot := 15, constantValue := 0 }, { name := "T_SHORT", type := .int, accessFlags := 25, slot := 16, constantValue := 0 }, { name := "T_INT", type := .int, accessFlags := 25, slot := 17, constantValue := 0 }, { name := "T_LONG", type := .int, accessFlags := 25, slot := 18, constantValue := 0 }, { name := "JLA", type := (.object "jdk/internal/access/JavaLangAccess"), accessFlags := 26, slot := 19, constantValue := 0 }, { name := "SOFT_MAX_ARRAY_LENGTH", type := .int, accessFlags := 25, slot := 20, constantValue := 0 }]
  methods := #[k10m0, k10m1]
  instanceTypes := #[]
  staticTypes := #[(.object "jdk/internal/misc/Unsafe"), .boolean, .int, .int, .int, .int, .int, .int, .int, .int, .int, .int, .int, .int, .int, .int, .int, .int, .int, (.object "jdk/internal/access/JavaLangAccess"), .int]
  resolved := Array.replicate 378 none
  statics := none }

def pool11 : Array CpInfo := pool [(1, .class_ 2), (0, u "java/lang/String"), (1, .class_ 6), (1, u "java/lang/Object"), (0, u "<init>"), (0, u "()V"), (0, .methodref 1 10), (0, .nameAndType 11 12), (0, u "checkIndex"), (0, u "(II)V"), (1, .class_ 16), (1, u "java/lang/StringLatin1"), (36, u "([BI)C"), (67, u "$assertionsDisabled"), (0, u "Z"), (98, .class_ 223), (1, u "java/lang/StringLatin1$LinesSpliterator"), (28, u "charAt"), (137, .class_ 391), (0, u "java/lang/StringLatin1$CharsSpliterator")] 3

def k11m0 : Method := { name := "<init>", desc := "()V", sig := { parameters := [], returnType := none }, accessFlags := 0, code := none }
def k11c1 : Code := { maxStack := 2, maxLocals := 2, code := jdk_43_method_2_code, exceptionTable := #[], attributes := #[] }
def k11m1 : Method := { name := "charAt", desc := "([BI)C", sig := { parameters := [(.array .byte), .int], returnType := some .char }, accessFlags := 9, code := some k11c1 }
/-- java/lang/StringLatin1 -/
def k11 : Class := { plain "java/lang/StringLatin1" (some 0) with
  accessFlags := 48
  interfaces := #[]
  cf := some (fileOf pool11 14 #[.nestMembers #[390, 221]] #[{ accessFlags := 0, nameIndex := 7, descriptorIndex := 8, attributes := #[] }, { accessFlags := 9, nameIndex := 252, descriptorIndex := 53, attributes := #[] }] 48 4 #[] #[{ accessFlags := 4120, nameIndex := 121, descriptorIndex := 122, attributes := #[] }])
  fields := #[{ name := "$assertionsDisabled", type := .boolean, accessFlags := 4120, slot := 0, constantValue := 0 }]
  methods := #[k11m0, k11m1]
  instanceTypes := #[]
  staticTypes := #[.boolean]
  resolved := Array.replicate 395 none
  statics := none }

def pool12 : Array CpInfo := pool [(2, .class_ 4), (1, u "java/lang/Object"), (0, u "<init>"), (0, u "()V"), (17, .class_ 26), (1, u "jdk/internal/util/Preconditions"), (6, u "checkIndex"), (21, .class_ 56), (0, u "jdk/internal/util/Preconditions$4"), (57, .class_ 115), (0, u "jdk/internal/util/Preconditions$1"), (7, u "SIOOBE_FORMATTER"), (0, u "Ljava/util/function/BiFunction;"), (0, .class_ 126), (0, u "jdk/internal/util/Preconditions$2"), (3, u "AIOOBE_FORMATTER"), (0, .class_ 132), (0, u "jdk/internal/util/Preconditions$3"), (3, u "IOOBE_FORMATTER"), (41, u "(IILjava/util/function/BiFunction;)I")] 15

def k12m0 : Method := { name := "<init>", desc := "()V", sig := { parameters := [], returnType := none }, accessFlags := 1, code := none }
def k12c1 : Code := { maxStack := 3, maxLocals := 3, code := jdk_41_method_11_code, exceptionTable := #[], attributes := #[] }
def k12m1 : Method := { name := "checkIndex", desc := "(IILjava/util/function/BiFunction;)I", sig := { parameters := [.int, .int, (.object "java/util/function/BiFunction")], returnType := some .int }, accessFlags := 9, code := some k12c1 }
/-- jdk/internal/util/Preconditions -/
def k12 : Class := { plain "jdk/internal/util/Preconditions" (some 0) with
  accessFlags := 33
  interfaces := #[]
  cf := some (fileOf pool12 24 #[.nestMembers #[55, 131, 125, 114]] #[{ accessFlags := 1, nameIndex := 5, descriptorIndex := 6, attributes := #[] }, { accessFlags := 9, nameIndex := 33, descriptorIndex := 178, attributes := #[] }] 33 2 #[] #[{ accessFlags := 25, nameIndex := 123, descriptorIndex := 124, attributes := #[] }, { accessFlags := 25, nameIndex := 130, descriptorIndex := 124, attributes := #[] }, { accessFlags := 25, nameIndex := 136, descriptorIndex := 124, attributes := #[] }])
  fields := #[{ name := "SIOOBE_FORMATTER", type := (.object "java/util/function/BiFunction"), accessFlags := 25, slot := 0, constantValue := 0 }, { name := "AIOOBE_FORMATTER", type := (.object "java/util/function/BiFunction"), accessFlags := 25, slot := 1, constantValue := 0 }, { name := "IOOBE_FORMATTER", type := (.object "java/util/function/BiFunction"), accessFlags := 25, slot := 2, constantValue := 0 }]
  methods := #[k12m0, k12m1]
  instanceTypes := #[]
  staticTypes := #[(.object "java/util/function/BiFunction"), (.object "java/util/function/BiFunction"), (.object "java/util/function/BiFunction")]
  resolved := Array.replicate 194 none
  statics := some 1 }

def pool13 : Array CpInfo := pool [(1, u "java/lang/Cloneable"), (0, .class_ 1), (0, u "java/lang/Object"), (0, .class_ 3)] 3

/-- java/lang/Cloneable -/
def k13 : Class := { plain "java/lang/Cloneable" (some 0) with
  accessFlags := 1537
  interfaces := #[]
  cf := some (fileOf pool13 2 #[] #[] 1537 4 #[] #[])
  fields := #[]
  methods := #[]
  instanceTypes := #[]
  staticTypes := #[]
  resolved := Array.replicate 8 none
  statics := none }

/-- the primitive byte -/
def k14 : Class := { plain "byte" none with kind := .primitive 'B', accessFlags := 0x411 }
/-- [B -/
def k15 : Class := { plain "[B" (some 0) with kind := .array 14 .byte, interfaces := #[13, 2], accessFlags := 1041 }

/-- the primitive char -/
def k16 : Class := { plain "char" none with kind := .primitive 'C', accessFlags := 0x411 }
/-- [C -/
def k17 : Class := { plain "[C" (some 0) with kind := .array 16 .char, interfaces := #[13, 2], accessFlags := 1041 }

/-- the primitive int -/
def k18 : Class := { plain "int" none with kind := .primitive 'I', accessFlags := 0x411 }
/-- [I -/
def k19 : Class := { plain "[I" (some 0) with kind := .array 18 .int, interfaces := #[13, 2], accessFlags := 1041 }

def heap : Heap := #[{ cls := 7, slots := #[.long 0, .int 1, .null, .int 0, .null, .int 0, .int 0], vm := .statics 7 },
  { cls := 12, slots := #[.null, .null, .null], vm := .statics 12 }]
def classes : Array Class := #[k0, k1, k2, k3, k4, k5, k6, k7, k8, k9, k10, k11, k12, k13, k14, k15, k16, k17, k18, k19]
def interned : List (Array UInt16 × Addr) := []
def slotsUsed : Nat := 10
def theMethod : MethodId := ⟨1, 2⟩
def args0 : Array Value := #[.int 5, .int 6, .int 7]
def aboutOver (below : List Frame) : State where
  vm := { classes := classes, interned := interned.toArray }
  heap := heap
  slotsUsed := slotsUsed
  threads := #[{ frames := .invoking theMethod args0 :: below }]
def below0 : List Frame := [.native { method := ⟨0, 0⟩, args := #[] }]
def about1 : State := aboutOver below0
def p0 : Program := .bare "" "" ""
def e0 : Env := launch0.env 0 0 0
theorem w_frames : about1.frames = Frame.invoking theMethod args0 :: below0 := rfl
set_option maxRecDepth 65536 in
theorem w_args : argsFit about1.vm theMethod args0 = true := by decide +kernel
set_option maxRecDepth 65536 in
theorem w_heap : heapFits about1 = true := by decide +kernel
set_option maxRecDepth 65536 in
theorem w_runnable : about1.curStatus? = some .runnable := by decide +kernel
set_option maxRecDepth 65536 in
theorem w_alone : about1.alone = true := by decide +kernel
set_option maxRecDepth 65536 in
theorem w_named : about1.methodNamed? x = some theMethod := by decide +kernel
set_option maxRecDepth 65536 in
theorem w_hears : about1.hears theMethod below0 = true := by decide +kernel
set_option maxRecDepth 65536 in
theorem w_ripe : about1.ripe theMethod args0 below0 = true := by decide +kernel
theorem w_running : about1.status = .running := rfl
set_option maxRecDepth 65536 in
theorem w_room : about1.hasRoom e0.platform room_1 = true :=
  launch0.hasRoom_least _ room_1 (by decide +kernel) (by decide +kernel) (by decide +kernel) (by decide +kernel) (by decide +kernel) (by decide +kernel)
theorem allAtoms_all (ts : List Jvm.Cond) (a : Array Jvm.Value) (st : Jvm.State) : (allAtoms ts).before a st = ts.all (fun c => c.before a st) := by
  induction ts with
  | nil => rfl
  | cons c t ih =>
    show (Jvm.Cond.and c (allAtoms t)).before a st = _
    rw [Jvm.Cond.before_and, ih, List.all_cons]
def words1 : List Jvm.Cond := Jvm.Cond.code x code maxLocals ret :: tables_1
/-- a 'code' word, met by the world's own term for the bytes: nothing is compared byte by byte -/
theorem code_word {y : MethodName} {bytes : ByteArray} {mx : Nat} {rt : Option FieldType} {a : Array Value} {s : State} {m : MethodId} {meth : Method} {c : Code} (h1 : s.methodNamed? y = some m) (h2 : s.vm.method? m = some meth) (h3 : meth.code = some c) (h4 : c.code = bytes)
    (h5 : (c.maxLocals == mx && c.exceptionTable.isEmpty && decide (c.maxStack ≤ mostOperands) && decide (meth.sig.returnType = rt) && !meth.locks && decide (parseMethodDescriptor y.desc = some meth.sig)) = true) : (Jvm.Cond.code y bytes mx rt).before a s = true := by
  simp only [Bool.and_eq_true, beq_iff_eq, Bool.not_eq_true', decide_eq_true_eq] at h5
  obtain ⟨⟨⟨⟨⟨g1, g2⟩, g3⟩, g4⟩, g5⟩, g6⟩ := h5
  simp [Cond.before, Cond.holds, Cond.value, h1, h2, h3, h4, g1, g2, g3, g4, g5, g6]
def isCode : Jvm.Cond → Bool
  | .code _ _ _ _ => true
  | _ => false
theorem all_split {L : List Jvm.Cond} {P : Jvm.Cond → Bool} (h1 : L.all (fun c => isCode c || P c) = true) (h2 : ∀ c ∈ L.filter isCode, P c = true) : L.all P = true := by
  refine List.all_eq_true.mpr fun c hc => ?_
  have h := List.all_eq_true.mp h1 c hc
  rcases Bool.eq_false_or_eq_true (isCode c) with hi | hi
  · exact h2 c (List.mem_filter.mpr ⟨hc, hi⟩)
  · simpa [hi] using h
set_option maxRecDepth 65536 in
theorem w_c0 : (Jvm.Cond.code x code maxLocals ret).before args0 about1 = true := code_word (m := ⟨1, 2⟩) (meth := k1m2) (c := k1c2) (by decide +kernel) rfl rfl rfl (by decide +kernel)
set_option maxRecDepth 65536 in
theorem w_c1 : (Jvm.Cond.code ({ cls := "com/example/epochmark/epochmark/io/Iso2709IsControlTagPinLaw", name := "draw", desc := "(I)C" } : Jvm.MethodName) method_2_code (2 : Nat) (Option.some Jvm.ClassFile.FieldType.char)).before args0 about1 = true := code_word (m := ⟨1, 1⟩) (meth := k1m1) (c := k1c1) (by decide +kernel) rfl rfl rfl (by decide +kernel)
set_option maxRecDepth 65536 in
theorem w_c2 : (Jvm.Cond.code ({ cls := "java/lang/String", name := "<init>", desc := "([C)V" } : Jvm.MethodName) jdk_42_method_3_code (2 : Nat) (Option.none : Option Jvm.ClassFile.FieldType)).before args0 about1 = true := code_word (m := ⟨7, 1⟩) (meth := k7m1) (c := k7c1) (by decide +kernel) rfl rfl rfl (by decide +kernel)
set_option maxRecDepth 65536 in
theorem w_c3 : (Jvm.Cond.code ({ cls := "java/lang/String", name := "<init>", desc := "([CIILjava/lang/Void;)V" } : Jvm.MethodName) jdk_42_method_149_code (6 : Nat) (Option.none : Option Jvm.ClassFile.FieldType)).before args0 about1 = true := code_word (m := ⟨7, 6⟩) (meth := k7m6) (c := k7c6) (by decide +kernel) rfl rfl rfl (by decide +kernel)
set_option maxRecDepth 65536 in
theorem w_c4 : (Jvm.Cond.code ({ cls := "java/lang/Object", name := "<init>", desc := "()V" } : Jvm.MethodName) object_method_1_code (1 : Nat) (Option.none : Option Jvm.ClassFile.FieldType)).before args0 about1 = true := code_word (m := ⟨0, 0⟩) (meth := k0m0) (c := k0c0) (by decide +kernel) rfl rfl rfl (by decide +kernel)
set_option maxRecDepth 65536 in
theorem w_c5 : (Jvm.Cond.code ({ cls := "java/lang/StringUTF16", name := "compress", desc := "([CII)[B" } : Jvm.MethodName) jdk_52_method_16_code (6 : Nat) (Option.some (Jvm.ClassFile.FieldType.array Jvm.ClassFile.FieldType.byte))).before args0 about1 = true := code_word (m := ⟨8, 2⟩) (meth := k8m2) (c := k8c2) (by decide +kernel) rfl rfl rfl (by decide +kernel)
set_option maxRecDepth 65536 in
theorem w_c6 : (Jvm.Cond.code ({ cls := "java/lang/StringUTF16", name := "compress", desc := "([CI[BII)I" } : Jvm.MethodName) jdk_52_method_21_code (7 : Nat) (Option.some Jvm.ClassFile.FieldType.int)).before args0 about1 = true := code_word (m := ⟨8, 3⟩) (meth := k8m3) (c := k8c3) (by decide +kernel) rfl rfl rfl (by decide +kernel)
set_option maxRecDepth 65536 in
theorem w_c7 : (Jvm.Cond.code ({ cls := "java/lang/StringUTF16", name := "coderFromArrayLen", desc := "([BI)B" } : Jvm.MethodName) jdk_52_method_15_code (2 : Nat) (Option.some Jvm.ClassFile.FieldType.byte)).before args0 about1 = true := code_word (m := ⟨8, 1⟩) (meth := k8m1) (c := k8c1) (by decide +kernel) rfl rfl rfl (by decide +kernel)
set_option maxRecDepth 65536 in
theorem w_c8 : (Jvm.Cond.code ({ cls := "com/example/epochmark/epochmark/io/Iso2709", name := "isControlTag", desc := "(Ljava/lang/String;)Z" } : Jvm.MethodName) prog_4_method_2_code (1 : Nat) (Option.some Jvm.ClassFile.FieldType.boolean)).before args0 about1 = true := code_word (m := ⟨9, 1⟩) (meth := k9m1) (c := k9c1) (by decide +kernel) rfl rfl rfl (by decide +kernel)
set_option maxRecDepth 65536 in
theorem w_c9 : (Jvm.Cond.code ({ cls := "java/lang/String", name := "startsWith", desc := "(Ljava/lang/String;)Z" } : Jvm.MethodName) jdk_42_method_76_code (2 : Nat) (Option.some Jvm.ClassFile.FieldType.boolean)).before args0 about1 = true := code_word (m := ⟨7, 5⟩) (meth := k7m5) (c := k7c5) (by decide +kernel) rfl rfl rfl (by decide +kernel)
set_option maxRecDepth 65536 in
theorem w_c10 : (Jvm.Cond.code ({ cls := "java/lang/String", name := "startsWith", desc := "(Ljava/lang/String;I)Z" } : Jvm.MethodName) jdk_42_method_75_code (8 : Nat) (Option.some Jvm.ClassFile.FieldType.boolean)).before args0 about1 = true := code_word (m := ⟨7, 4⟩) (meth := k7m4) (c := k7c4) (by decide +kernel) rfl rfl rfl (by decide +kernel)
set_option maxRecDepth 65536 in
theorem w_c11 : (Jvm.Cond.code ({ cls := "java/lang/String", name := "length", desc := "()I" } : Jvm.MethodName) jdk_42_method_54_code (1 : Nat) (Option.some Jvm.ClassFile.FieldType.int)).before args0 about1 = true := code_word (m := ⟨7, 2⟩) (meth := k7m2) (c := k7c2) (by decide +kernel) rfl rfl rfl (by decide +kernel)
set_option maxRecDepth 65536 in
theorem w_c12 : (Jvm.Cond.code ({ cls := "java/lang/String", name := "coder", desc := "()B" } : Jvm.MethodName) jdk_42_method_152_code (1 : Nat) (Option.some Jvm.ClassFile.FieldType.byte)).before args0 about1 = true := code_word (m := ⟨7, 7⟩) (meth := k7m7) (c := k7c7) (by decide +kernel) rfl rfl rfl (by decide +kernel)
set_option maxRecDepth 65536 in
theorem w_c13 : (Jvm.Cond.code ({ cls := "jdk/internal/util/ArraysSupport", name := "mismatch", desc := "([BI[BII)I" } : Jvm.MethodName) jdk_48_method_14_code (8 : Nat) (Option.some Jvm.ClassFile.FieldType.int)).before args0 about1 = true := code_word (m := ⟨10, 1⟩) (meth := k10m1) (c := k10c1) (by decide +kernel) rfl rfl rfl (by decide +kernel)
set_option maxRecDepth 65536 in
theorem w_c14 : (Jvm.Cond.code ({ cls := "java/lang/String", name := "charAt", desc := "(I)C" } : Jvm.MethodName) jdk_42_method_56_code (2 : Nat) (Option.some Jvm.ClassFile.FieldType.char)).before args0 about1 = true := code_word (m := ⟨7, 3⟩) (meth := k7m3) (c := k7c3) (by decide +kernel) rfl rfl rfl (by decide +kernel)
set_option maxRecDepth 65536 in
theorem w_c15 : (Jvm.Cond.code ({ cls := "java/lang/String", name := "isLatin1", desc := "()Z" } : Jvm.MethodName) jdk_42_method_154_code (1 : Nat) (Option.some Jvm.ClassFile.FieldType.boolean)).before args0 about1 = true := code_word (m := ⟨7, 8⟩) (meth := k7m8) (c := k7c8) (by decide +kernel) rfl rfl rfl (by decide +kernel)
set_option maxRecDepth 65536 in
theorem w_c16 : (Jvm.Cond.code ({ cls := "java/lang/StringLatin1", name := "charAt", desc := "([BI)C" } : Jvm.MethodName) jdk_43_method_2_code (2 : Nat) (Option.some Jvm.ClassFile.FieldType.char)).before args0 about1 = true := code_word (m := ⟨11, 1⟩) (meth := k11m1) (c := k11c1) (by decide +kernel) rfl rfl rfl (by decide +kernel)
set_option maxRecDepth 65536 in
theorem w_c17 : (Jvm.Cond.code ({ cls := "java/lang/String", name := "checkIndex", desc := "(II)V" } : Jvm.MethodName) jdk_42_method_155_code (2 : Nat) (Option.none : Option Jvm.ClassFile.FieldType)).before args0 about1 = true := code_word (m := ⟨7, 9⟩) (meth := k7m9) (c := k7c9) (by decide +kernel) rfl rfl rfl (by decide +kernel)
set_option maxRecDepth 65536 in
theorem w_c18 : (Jvm.Cond.code ({ cls := "jdk/internal/util/Preconditions", name := "checkIndex", desc := "(IILjava/util/function/BiFunction;)I" } : Jvm.MethodName) jdk_41_method_11_code (3 : Nat) (Option.some Jvm.ClassFile.FieldType.int)).before args0 about1 = true := code_word (m := ⟨12, 1⟩) (meth := k12m1) (c := k12c1) (by decide +kernel) rfl rfl rfl (by decide +kernel)
def codes1 : List Jvm.Cond := [Jvm.Cond.code x code maxLocals ret, Jvm.Cond.code ({ cls := "com/example/epochmark/epochmark/io/Iso2709IsControlTagPinLaw", name := "draw", desc := "(I)C" } : Jvm.MethodName) method_2_code (2 : Nat) (Option.some Jvm.ClassFile.FieldType.char), Jvm.Cond.code ({ cls := "java/lang/String", name := "<init>", desc := "([C)V" } : Jvm.MethodName) jdk_42_method_3_code (2 : Nat) (Option.none : Option Jvm.ClassFile.FieldType), Jvm.Cond.code ({ cls := "java/lang/String", name := "<init>", desc := "([CIILjava/lang/Void;)V" } : Jvm.MethodName) jdk_42_method_149_code (6 : Nat) (Option.none : Option Jvm.ClassFile.FieldType), Jvm.Cond.code ({ cls := "java/lang/Object", name := "<init>", desc := "()V" } : Jvm.MethodName) object_method_1_code (1 : Nat) (Option.none : Option Jvm.ClassFile.FieldType), Jvm.Cond.code ({ cls := "java/lang/StringUTF16", name := "compress", desc := "([CII)[B" } : Jvm.MethodName) jdk_52_method_16_code (6 : Nat) (Option.some (Jvm.ClassFile.FieldType.array Jvm.ClassFile.FieldType.byte)), Jvm.Cond.code ({ cls := "java/lang/StringUTF16", name := "compress", desc := "([CI[BII)I" } : Jvm.MethodName) jdk_52_method_21_code (7 : Nat) (Option.some Jvm.ClassFile.FieldType.int), Jvm.Cond.code ({ cls := "java/lang/StringUTF16", name := "coderFromArrayLen", desc := "([BI)B" } : Jvm.MethodName) jdk_52_method_15_code (2 : Nat) (Option.some Jvm.ClassFile.FieldType.byte), Jvm.Cond.code ({ cls := "com/example/epochmark/epochmark/io/Iso2709", name := "isControlTag", desc := "(Ljava/lang/String;)Z" } : Jvm.MethodName) prog_4_method_2_code (1 : Nat) (Option.some Jvm.ClassFile.FieldType.boolean), Jvm.Cond.code ({ cls := "java/lang/String", name := "startsWith", desc := "(Ljava/lang/String;)Z" } : Jvm.MethodName) jdk_42_method_76_code (2 : Nat) (Option.some Jvm.ClassFile.FieldType.boolean), Jvm.Cond.code ({ cls := "java/lang/String", name := "startsWith", desc := "(Ljava/lang/String;I)Z" } : Jvm.MethodName) jdk_42_method_75_code (8 : Nat) (Option.some Jvm.ClassFile.FieldType.boolean), Jvm.Cond.code ({ cls := "java/lang/String", name := "length", desc := "()I" } : Jvm.MethodName) jdk_42_method_54_code (1 : Nat) (Option.some Jvm.ClassFile.FieldType.int), Jvm.Cond.code ({ cls := "java/lang/String", name := "coder", desc := "()B" } : Jvm.MethodName) jdk_42_method_152_code (1 : Nat) (Option.some Jvm.ClassFile.FieldType.byte), Jvm.Cond.code ({ cls := "jdk/internal/util/ArraysSupport", name := "mismatch", desc := "([BI[BII)I" } : Jvm.MethodName) jdk_48_method_14_code (8 : Nat) (Option.some Jvm.ClassFile.FieldType.int), Jvm.Cond.code ({ cls := "java/lang/String", name := "charAt", desc := "(I)C" } : Jvm.MethodName) jdk_42_method_56_code (2 : Nat) (Option.some Jvm.ClassFile.FieldType.char), Jvm.Cond.code ({ cls := "java/lang/String", name := "isLatin1", desc := "()Z" } : Jvm.MethodName) jdk_42_method_154_code (1 : Nat) (Option.some Jvm.ClassFile.FieldType.boolean), Jvm.Cond.code ({ cls := "java/lang/StringLatin1", name := "charAt", desc := "([BI)C" } : Jvm.MethodName) jdk_43_method_2_code (2 : Nat) (Option.some Jvm.ClassFile.FieldType.char), Jvm.Cond.code ({ cls := "java/lang/String", name := "checkIndex", desc := "(II)V" } : Jvm.MethodName) jdk_42_method_155_code (2 : Nat) (Option.none : Option Jvm.ClassFile.FieldType), Jvm.Cond.code ({ cls := "jdk/internal/util/Preconditions", name := "checkIndex", desc := "(IILjava/util/function/BiFunction;)I" } : Jvm.MethodName) jdk_41_method_11_code (3 : Nat) (Option.some Jvm.ClassFile.FieldType.int)]
set_option maxRecDepth 65536 in
theorem codes_eq : words1.filter isCode = codes1 := rfl
theorem w_codes : ∀ c ∈ words1.filter isCode, c.before args0 about1 = true := by
  rw [codes_eq]
  intro c hc
  simp only [codes1, List.mem_cons, List.not_mem_nil, or_false] at hc
  rcases hc with rfl | rfl | rfl | rfl | rfl | rfl | rfl | rfl | rfl | rfl | rfl | rfl | rfl | rfl | rfl | rfl | rfl | rfl | rfl
  · exact w_c0
  · exact w_c1
  · exact w_c2
  · exact w_c3
  · exact w_c4
  · exact w_c5
  · exact w_c6
  · exact w_c7
  · exact w_c8
  · exact w_c9
  · exact w_c10
  · exact w_c11
  · exact w_c12
  · exact w_c13
  · exact w_c14
  · exact w_c15
  · exact w_c16
  · exact w_c17
  · exact w_c18
set_option maxRecDepth 65536 in
theorem w_t1 : (words1.take 24).all (fun c => isCode c || c.before args0 about1) = true := by decide +kernel
set_option maxRecDepth 65536 in
theorem w_t2 : ((words1.drop 24).take 24).all (fun c => isCode c || c.before args0 about1) = true := by decide +kernel
set_option maxRecDepth 65536 in
theorem w_t3 : (((words1.drop 24).drop 24).take 24).all (fun c => isCode c || c.before args0 about1) = true := by decide +kernel
set_option maxRecDepth 65536 in
theorem w_t4 : (((words1.drop 24).drop 24).drop 24).all (fun c => isCode c || c.before args0 about1) = true := by decide +kernel
theorem w_tables : (allAtoms (Jvm.Cond.code x code maxLocals ret :: tables_1)).before args0 about1 = true := by
  rw [allAtoms_all]
  show words1.all (fun c => c.before args0 about1) = true
  refine all_split ?_ w_codes
  rw [← List.take_append_drop 24 words1, List.all_append, w_t1, ← List.take_append_drop 24 (words1.drop 24), List.all_append, w_t2, ← List.take_append_drop 24 ((words1.drop 24).drop 24), List.all_append, w_t3, w_t4]
  rfl
set_option maxRecDepth 65536 in
theorem w_rest : rest_1_c.before args0 about1 = true := by decide +kernel
set_option maxRecDepth 65536 in
theorem w_case : (Jvm.Cond.and given_1 narrow_1).before args0 about1 = true := by decide +kernel
set_option maxRecDepth 65536 in
theorem w_consts : constsHeld consts_1 about1 := Jvm.Lit.constsHeldB_iff.mp (by decide +kernel)
theorem w_applies : (headSpec (Jvm.Cond.code x code maxLocals ret :: tables_1) room_1).applies x e0.platform about1 = true :=
  (Spec.applies_iff w_frames).mpr ⟨w_running, w_runnable, w_alone, w_named, w_hears, w_ripe, w_room, w_tables⟩
theorem atStart : AtStart classFile x code maxLocals ret World_1 tables_1 room_1 Calls_1 rest_1 Pre_1 launch0 p0 e0 about1 theMethod args0 below0 :=
  ⟨lists_1, trivial, launch0.admits_env _ _ _, launch0.least_env, fairChoices_fair.cas, fairChoices_fair.clock, w_frames, w_args, w_heap, w_applies, ⟨w_consts, trivial⟩, w_rest, w_case⟩
end start1
theorem witness_1 : WitnessClaimed_1 := ⟨start1.p0, start1.e0, start1.about1, start1.theMethod, start1.args0, start1.below0, start1.atStart⟩
end Jvm.Pilot.@@N@@
