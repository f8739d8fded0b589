import JvmDerived
import JvmDerived.Pilot.@@N@@Statement
import JvmDerived.Pilot.@@N@@Code
set_option linter.unusedVariables false
set_option linter.unusedSimpArgs false
namespace Jvm.OwnK
open Sem ClassFile Op Lib Bundle Jvm.Stand Jvm.Free Jvm.LawKit Jvm.RoadKit
/-! ## the end of a body, the goal, the point -/
def Fne (s : State) (n0 : Nat) (Z : State) (EL : List (String × Nat)) (nw : Bool) (rm : Room) (Q : Option Value → Heap → List Addr → Prop) (o : Outcome) (U : State) : Prop :=
  ∃ v L so, o = .returned v ∧ Q v U.heap so ∧ Fr n0 L ∧ CHr Z EL s.vm s.heap U.vm U.heap ∧ (∀ x ∈ so, n0 ≤ x ∧ x < U.heap.size ∧ Safe Z EL U.vm U.heap x) ∧ (nw = true → s.WarmedH U.vm) ∧ ReturnedEndW s o U L rm.cells rm.slots
def WP (p : Program) (e : Env) (below : List Frame) (Φ : Outcome → State → Prop) (T : State) (g : JFrame) : Prop :=
  ∃ s₂ o, Steps p.tables e below (T.setTop g) s₂ ∧ s₂.status = .running ∧ Ended s₂ below o ∧ Φ o s₂
def WS (p : Program) (l : Launch) (e : Env) (R : Room) (s : State) (m : MethodId) (args : Array Value) (below : List Frame) (meth : Method) (c : Code) (Z : State) (a0 : Array Value) (EL : List (String × Nat)) (nw : Bool) (n0 : Nat) (y : MethodName) (code : ByteArray) (maxL : Nat) (ret : Option FieldType)
    (T : State) (h : Heap) (sf : List Addr) (cells slots : Nat) : Prop :=
  ∃ locs, Stand p l e R (s.setVm T.vm) m args below meth c T locs cells slots ∧ T.heap = h ∧ s.Since T.vm h.size ∧ Z.Warmed39 T.vm ∧ T.vm.findClass y.cls = some m.cls ∧ CHr Z EL s.vm s.heap T.vm h ∧ Fr n0 locs ∧ n0 ≤ h.size ∧
    (∀ x ∈ sf, n0 ≤ x ∧ x < h.size ∧ Safe Z EL T.vm h x) ∧ EW Z a0 EL ∧ (nw = true → s.WarmedH T.vm) ∧ (p.tables.exec = Jvm.exec ∧ c.code = code ∧ meth.sig.returnType = ret ∧ meth.locks = false ∧ c.maxLocals = maxL ∧ meth.name = y.name)
def Ct (l : Launch) (Z : State) (a0 : Array Value) (EL : List (String × Nat)) (nw : Bool) (y : MethodName) (bytes : ByteArray) (maxL : Nat) (ret : Option FieldType) (rm : Room) (as' : Array Value) (h : Heap) (sf : List Addr) (n0 : Nat) (Q : Option Value → Heap → List Addr → Prop) : Prop :=
  ∀ ws, MetFree l y (head1 (Cond.code y bytes maxL ret :: ws) rm) (fun a U => a = as' ∧ Z.Warmed39 U.vm ∧ U.heap = h ∧ CHv Z EL U.vm h ∧ n0 ≤ h.size ∧ EW Z a0 EL ∧ ∀ x ∈ sf, n0 ≤ x ∧ x < h.size ∧ Safe Z EL U.vm h x) (fun _ _ _ _ _ => True)
    (fun _ U o U' => Fne U n0 Z EL nw rm Q o U')
def D (code : ByteArray) (pc : Nat) (i : Instr) (n pc' : Nat) : Prop := decode code pc = .ok (i, n) ∧ pc' = pc + n
section Base
variable {p : Program} {l : Launch} {e : Env} {R : Room} {s : State} {m : MethodId} {args : Array Value} {below : List Frame} {meth : Method} {c : Code} {Z : State} {EL : List (String × Nat)} {nw : Bool} {n0 : Nat} {y : MethodName} {code : ByteArray} {maxL : Nat} {ret : Option FieldType} {T : State} {h : Heap} {sf : List Addr} {cells slots : Nat} {Φ : Outcome → State → Prop} {a0 : Array Value} {pc pc' : Nat} {L : Array Slot} {S : List Value}
theorem WP.st {T' : State} {g g' : JFrame} (k : ∀ t, Steps p.tables e below (T'.setTop g') t → Steps p.tables e below (T.setTop g) t) (w : WP p e below Φ T' g') : WP p e below Φ T g := by
  obtain ⟨s₂, o, h1, h2⟩ := w; exact ⟨s₂, o, k _ h1, h2⟩
theorem WP.cast {g g' : JFrame} (q : g = g') (w : WP p e below Φ T g') : WP p e below Φ T g := q ▸ w
theorem WP.steps {T' : State} {g g' : JFrame} (k : Steps p.tables e below (T.setTop g) (T'.setTop g')) (w : WP p e below Φ T' g') : WP p e below Φ T g := WP.st (fun _ q => k.trans q) w

theorem WS.here (W : WS p l e R s m args below meth c Z a0 EL nw n0 y code maxL ret T h sf cells slots) : At T m c below := by obtain ⟨_, X, -⟩ := W; exact X.here
theorem WS.hx (W : WS p l e R s m args below meth c Z a0 EL nw n0 y code maxL ret T h sf cells slots) : p.tables.exec = Jvm.exec := by obtain ⟨_, _, _, _, _, _, _, _, _, _, _, _, q, -⟩ := W; exact q
theorem WS.hby (W : WS p l e R s m args below meth c Z a0 EL nw n0 y code maxL ret T h sf cells slots) : c.code = code := by obtain ⟨_, _, _, _, _, _, _, _, _, _, _, _, _, q, -⟩ := W; exact q
theorem WS.hn (W : WS p l e R s m args below meth c Z a0 EL nw n0 y code maxL ret T h sf cells slots) : n0 ≤ h.size := by obtain ⟨_, _, _, _, _, _, _, _, q, -⟩ := W; exact q
theorem WS.hT (W : WS p l e R s m args below meth c Z a0 EL nw n0 y code maxL ret T h sf cells slots) : T.heap = h := by obtain ⟨_, _, q, -⟩ := W; exact q
theorem WS.hZ (W : WS p l e R s m args below meth c Z a0 EL nw n0 y code maxL ret T h sf cells slots) : Z.Warmed39 T.vm := by obtain ⟨_, _, _, _, q, -⟩ := W; exact q
theorem WS.lt (W : WS p l e R s m args below meth c Z a0 EL nw n0 y code maxL ret T h sf cells slots) {x : Addr} (q : x ∈ sf) : x < h.size := by obtain ⟨_, _, _, _, _, _, _, _, _, w, -⟩ := W; exact (w x q).2.1
theorem WS.ge (W : WS p l e R s m args below meth c Z a0 EL nw n0 y code maxL ret T h sf cells slots) {x : Addr} (q : x ∈ sf) : n0 ≤ x := by obtain ⟨_, _, _, _, _, _, _, _, _, w, -⟩ := W; exact (w x q).1
theorem WS.hd (W : WS p l e R s m args below meth c Z a0 EL nw n0 y code maxL ret T h sf cells slots) {i : Instr} {n : Nat} (d : D code pc i n pc') : decode c.code pc = .ok (i, n) := hb W.hby d.1
theorem WS.mono (W : WS p l e R s m args below meth c Z a0 EL nw n0 y code maxL ret T h sf cells slots) {cells' slots' : Nat} {sf' : List Addr} (hc : cells ≤ cells') (hs : slots ≤ slots') (hf : ∀ x ∈ sf', x ∈ sf) : WS p l e R s m args below meth c Z a0 EL nw n0 y code maxL ret T h sf' cells' slots' := by
  obtain ⟨locs, X, a1, a2, a3, a4, a5, a6, a7, a8, a9⟩ := W
  exact ⟨locs, X.mono hc hs, a1, a2, a3, a4, a5, a6, a7, fun x hx => a8 x (hf x hx), a9⟩
/-- a step by a law of the library over the point's own start: the point behind it -/
theorem WS.pack {T' : State} {h' : Heap} {sf' : List Addr} {locs' : List Loc} {cells' slots' : Nat} (W : WS p l e R s m args below meth c Z a0 EL nw n0 y code maxL ret T h sf cells slots) (X' : Stand p l e R (s.setVm T.vm) m args below meth c T' locs' cells' slots') (eT : T'.heap = h') (N : Fr n0 locs') (hle : h.size ≤ h'.size) (K : CHv Z EL T.vm h → CHv Z EL T.vm h' ∧ ∀ y, Bk Z EL T.vm h' y → Bk Z EL T.vm h y) (hf : ∀ x ∈ sf', x ∈ sf ∨ (h.size ≤ x ∧ x < h'.size)) :
    WS p l e R s m args below meth c Z a0 EL nw n0 y code maxL ret T' h' sf' cells' slots' := by
  obtain ⟨locs, X, a1, a2, a3, a4, a5, a6, a7, a8, hE, aW, a10⟩ := W
  have C0 := K a5.1
  have C1 : CHr Z EL T.vm h T.vm h' := ⟨C0.1, hle, fun z q => Or.inl (C0.2 z q)⟩
  have C2 := CHv.at X' a3 hE C1.1
  have hS2 : (s.setVm T.vm).Since T'.vm h'.size := X'.warmed.since _
  refine ⟨locs', X'.retabled X'.warmed.wide, eT, a2.trans hS2 hle, wtrans (s := s.setVm T.vm) a3 X'.warmed, by rw [X'.warmed.alike.findClass]; exact a4, (a5.trans C1).trans C2, N, Nat.le_trans a7 hle, fun x hx => ?_, hE, fun u => State.WarmedH.trans (t := s.setVm T.vm) (aW u) X'.warmed, a10⟩
  rcases hf x hx with q | ⟨q1, q2⟩
  · obtain ⟨b1, b2, b3⟩ := a8 x q
    exact ⟨b1, Nat.lt_of_lt_of_le b2 hle, C2.safe (Nat.lt_of_lt_of_le b2 hle) (C1.safe b2 b3)⟩
  · refine ⟨Nat.le_trans a7 q1, q2, C2.safe q2 fun B => ?_⟩
    obtain ⟨cell, z⟩ := (C0.2 x B).there
    have := (Array.getElem?_eq_some_iff.mp z).1; omega
/-- nothing of the heap moved -/
theorem WS.same {T' : State} (W : WS p l e R s m args below meth c Z a0 EL nw n0 y code maxL ret T h sf cells slots) (f : ∀ locs, Stand p l e R (s.setVm T.vm) m args below meth c T locs cells slots → Stand p l e R (s.setVm T.vm) m args below meth c T' locs cells slots) (eT : T'.heap = h) : WS p l e R s m args below meth c Z a0 EL nw n0 y code maxL ret T' h sf cells slots := by
  obtain ⟨locs, X, a1, a2, a3, a4, a5, a6, a7, a8, a9⟩ := id W
  exact W.pack (f _ X) eT a6 (Nat.le_refl _) (fun H => ⟨H, fun _ q => q⟩) (fun x hx => Or.inl hx)

theorem k_aloadN (W : WS p l e R s m args below meth c Z a0 EL nw n0 y code maxL ret T h sf cells slots) {k : Fin 4} {v : Value} (d : D code pc (.aload_n k) 1 pc')   (hl : L[k.val]? = some (.val v)) (hv : v.isRef = true) (w : WP p e below Φ T (mkF m pc' L (v :: S))) : WP p e below Φ T (mkF m pc L (S)) := by
  obtain ⟨hd, rfl⟩ := d
  exact WP.st (fun _ q => XS.aloadN W.here W.hx rfl (hb W.hby hd) hl hv q) w
theorem k_aload (W : WS p l e R s m args below meth c Z a0 EL nw n0 y code maxL ret T h sf cells slots) {k : Nat} {v : Value} (d : D code pc (.aload k) 2 pc')   (hl : L[k]? = some (.val v)) (hv : v.isRef = true) (w : WP p e below Φ T (mkF m pc' L (v :: S))) : WP p e below Φ T (mkF m pc L (S)) := by
  obtain ⟨hd, rfl⟩ := d
  exact WP.st (fun _ q => XS.aload W.here W.hx rfl (hb W.hby hd) hl hv q) w
theorem k_iloadN (W : WS p l e R s m args below meth c Z a0 EL nw n0 y code maxL ret T h sf cells slots) {k : Fin 4} {v : Int32} (d : D code pc (.iload_n k) 1 pc')   (hl : L[k.val]? = some (.val (.int v))) (w : WP p e below Φ T (mkF m pc' L (.int v :: S))) : WP p e below Φ T (mkF m pc L (S)) := by
  obtain ⟨hd, rfl⟩ := d
  exact WP.st (fun _ q => XS.iloadN W.here W.hx rfl (hb W.hby hd) hl q) w
theorem k_iload (W : WS p l e R s m args below meth c Z a0 EL nw n0 y code maxL ret T h sf cells slots) {k : Nat} {v : Int32} (d : D code pc (.iload k) 2 pc')   (hl : L[k]? = some (.val (.int v))) (w : WP p e below Φ T (mkF m pc' L (.int v :: S))) : WP p e below Φ T (mkF m pc L (S)) := by
  obtain ⟨hd, rfl⟩ := d
  exact WP.st (fun _ q => XS.iload W.here W.hx rfl (hb W.hby hd) hl q) w
theorem k_lloadN (W : WS p l e R s m args below meth c Z a0 EL nw n0 y code maxL ret T h sf cells slots) {k : Fin 4} {v : Int64} (d : D code pc (.lload_n k) 1 pc')   (hl : L[k.val]? = some (.val (.long v))) (w : WP p e below Φ T (mkF m pc' L (.long v :: S))) : WP p e below Φ T (mkF m pc L (S)) := by
  obtain ⟨hd, rfl⟩ := d
  exact WP.st (fun _ q => XS.lloadN W.here W.hx rfl (hb W.hby hd) hl q) w
theorem k_lload (W : WS p l e R s m args below meth c Z a0 EL nw n0 y code maxL ret T h sf cells slots) {k : Nat} {v : Int64} (d : D code pc (.lload k) 2 pc')   (hl : L[k]? = some (.val (.long v))) (w : WP p e below Φ T (mkF m pc' L (.long v :: S))) : WP p e below Φ T (mkF m pc L (S)) := by
  obtain ⟨hd, rfl⟩ := d
  exact WP.st (fun _ q => XS.lload W.here W.hx rfl (hb W.hby hd) hl q) w
theorem k_istoreN (W : WS p l e R s m args below meth c Z a0 EL nw n0 y code maxL ret T h sf cells slots) {k : Fin 4} {x : Int32} {L' : Array Slot} (d : D code pc (.istore_n k) 1 pc')    (hl : storeLocals L k.val (.int x) = some L') (w : WP p e below Φ T (mkF m pc' L' (S))) : WP p e below Φ T (mkF m pc L (.int x :: S)) := by
  obtain ⟨hd, rfl⟩ := d
  exact WP.st (fun _ q => XS.istoreN W.here W.hx rfl (hb W.hby hd) rfl hl q) w
theorem k_istore (W : WS p l e R s m args below meth c Z a0 EL nw n0 y code maxL ret T h sf cells slots) {k : Nat} {x : Int32} {L' : Array Slot} (d : D code pc (.istore k) 2 pc')    (hl : storeLocals L k (.int x) = some L') (w : WP p e below Φ T (mkF m pc' L' (S))) : WP p e below Φ T (mkF m pc L (.int x :: S)) := by
  obtain ⟨hd, rfl⟩ := d
  exact WP.st (fun _ q => XS.istore W.here W.hx rfl (hb W.hby hd) rfl hl q) w
theorem k_lstoreN (W : WS p l e R s m args below meth c Z a0 EL nw n0 y code maxL ret T h sf cells slots) {k : Fin 4} {x : Int64} {L' : Array Slot} (d : D code pc (.lstore_n k) 1 pc')    (hl : storeLocals L k.val (.long x) = some L') (w : WP p e below Φ T (mkF m pc' L' (S))) : WP p e below Φ T (mkF m pc L (.long x :: S)) := by
  obtain ⟨hd, rfl⟩ := d
  exact WP.st (fun _ q => XS.lstoreN W.here W.hx rfl (hb W.hby hd) rfl hl q) w
theorem k_lstore (W : WS p l e R s m args below meth c Z a0 EL nw n0 y code maxL ret T h sf cells slots) {k : Nat} {x : Int64} {L' : Array Slot} (d : D code pc (.lstore k) 2 pc')    (hl : storeLocals L k (.long x) = some L') (w : WP p e below Φ T (mkF m pc' L' (S))) : WP p e below Φ T (mkF m pc L (.long x :: S)) := by
  obtain ⟨hd, rfl⟩ := d
  exact WP.st (fun _ q => XS.lstore W.here W.hx rfl (hb W.hby hd) rfl hl q) w
theorem k_astoreN (W : WS p l e R s m args below meth c Z a0 EL nw n0 y code maxL ret T h sf cells slots) {k : Fin 4} {x : Value} {L' : Array Slot} (d : D code pc (.astore_n k) 1 pc')    (hv : x.isRef = true) (hl : storeLocals L k.val x = some L') (w : WP p e below Φ T (mkF m pc' L' (S))) : WP p e below Φ T (mkF m pc L (x :: S)) := by
  obtain ⟨hd, rfl⟩ := d
  exact WP.st (fun _ q => XS.astoreN W.here W.hx rfl (hb W.hby hd) rfl hv hl q) w
theorem k_astore (W : WS p l e R s m args below meth c Z a0 EL nw n0 y code maxL ret T h sf cells slots) {k : Nat} {x : Value} {L' : Array Slot} (d : D code pc (.astore k) 2 pc')    (hv : x.isRef = true) (hl : storeLocals L k x = some L') (w : WP p e below Φ T (mkF m pc' L' (S))) : WP p e below Φ T (mkF m pc L (x :: S)) := by
  obtain ⟨hd, rfl⟩ := d
  exact WP.st (fun _ q => XS.astore W.here W.hx rfl (hb W.hby hd) rfl hv hl q) w
theorem k_iconst (W : WS p l e R s m args below meth c Z a0 EL nw n0 y code maxL ret T h sf cells slots) {i : Int} {z : Int32} (d : D code pc (.iconst i) 1 pc')   (hz : Int32.ofInt i = z) (w : WP p e below Φ T (mkF m pc' L (.int z :: S))) : WP p e below Φ T (mkF m pc L (S)) := by
  obtain ⟨hd, rfl⟩ := d
  exact WP.st (fun _ q => XS.iconst W.here W.hx rfl (hb W.hby hd) (by rw [hz]; exact q)) w
theorem k_bipush (W : WS p l e R s m args below meth c Z a0 EL nw n0 y code maxL ret T h sf cells slots) {i : Int} {z : Int32} (d : D code pc (.bipush i) 2 pc')   (hz : (Int8.ofInt i).toInt32 = z) (w : WP p e below Φ T (mkF m pc' L (.int z :: S))) : WP p e below Φ T (mkF m pc L (S)) := by
  obtain ⟨hd, rfl⟩ := d
  exact WP.st (fun _ q => XS.bipush W.here W.hx rfl (hb W.hby hd) (by rw [hz]; exact q)) w
theorem k_sipush (W : WS p l e R s m args below meth c Z a0 EL nw n0 y code maxL ret T h sf cells slots) {i : Int} {z : Int32} (d : D code pc (.sipush i) 3 pc')   (hz : (Int16.ofInt i).toInt32 = z) (w : WP p e below Φ T (mkF m pc' L (.int z :: S))) : WP p e below Φ T (mkF m pc L (S)) := by
  obtain ⟨hd, rfl⟩ := d
  exact WP.st (fun _ q => XS.sipush W.here W.hx rfl (hb W.hby hd) (by rw [hz]; exact q)) w
theorem k_lconst (W : WS p l e R s m args below meth c Z a0 EL nw n0 y code maxL ret T h sf cells slots) {k : Fin 2} {z : Int64} (d : D code pc (.lconst k) 1 pc')   (hz : Int64.ofNat k = z) (w : WP p e below Φ T (mkF m pc' L (.long z :: S))) : WP p e below Φ T (mkF m pc L (S)) := by
  obtain ⟨hd, rfl⟩ := d
  exact WP.st (fun _ q => XS.lconst W.here W.hx rfl (hb W.hby hd) (by rw [hz]; exact q)) w
theorem k_aconst (W : WS p l e R s m args below meth c Z a0 EL nw n0 y code maxL ret T h sf cells slots)  (d : D code pc (.aconst_null) 1 pc')  (w : WP p e below Φ T (mkF m pc' L (.null :: S))) : WP p e below Φ T (mkF m pc L (S)) := by
  obtain ⟨hd, rfl⟩ := d
  exact WP.st (fun _ q => XS.aconstNull W.here W.hx rfl (hb W.hby hd) q) w
theorem k_iadd (W : WS p l e R s m args below meth c Z a0 EL nw n0 y code maxL ret T h sf cells slots) {x y z : Int32} (d : D code pc (.iadd) 1 pc')  (hz : x + y = z) (w : WP p e below Φ T (mkF m pc' L (.int z :: S))) : WP p e below Φ T (mkF m pc L (.int y :: .int x :: S)) := by
  obtain ⟨hd, rfl⟩ := d
  exact WP.st (fun _ q => XS.iadd W.here W.hx rfl (hb W.hby hd) rfl (by rw [hz]; exact q)) w
theorem k_isub (W : WS p l e R s m args below meth c Z a0 EL nw n0 y code maxL ret T h sf cells slots) {x y z : Int32} (d : D code pc (.isub) 1 pc')  (hz : x - y = z) (w : WP p e below Φ T (mkF m pc' L (.int z :: S))) : WP p e below Φ T (mkF m pc L (.int y :: .int x :: S)) := by
  obtain ⟨hd, rfl⟩ := d
  exact WP.st (fun _ q => XS.isub W.here W.hx rfl (hb W.hby hd) rfl (by rw [hz]; exact q)) w
theorem k_iand (W : WS p l e R s m args below meth c Z a0 EL nw n0 y code maxL ret T h sf cells slots) {x y z : Int32} (d : D code pc (.iand) 1 pc')  (hz : x &&& y = z) (w : WP p e below Φ T (mkF m pc' L (.int z :: S))) : WP p e below Φ T (mkF m pc L (.int y :: .int x :: S)) := by
  obtain ⟨hd, rfl⟩ := d
  exact WP.st (fun _ q => XS.iand W.here W.hx rfl (hb W.hby hd) rfl (by rw [hz]; exact q)) w
theorem k_imul (W : WS p l e R s m args below meth c Z a0 EL nw n0 y code maxL ret T h sf cells slots) {x y z : Int32} (d : D code pc (.imul) 1 pc')  (hz : x * y = z) (w : WP p e below Φ T (mkF m pc' L (.int z :: S))) : WP p e below Φ T (mkF m pc L (.int y :: .int x :: S)) := by
  obtain ⟨hd, rfl⟩ := d
  exact WP.st (fun _ q => XS.imul W.here W.hx rfl (hb W.hby hd) rfl (by rw [hz]; exact q)) w
theorem k_ixor (W : WS p l e R s m args below meth c Z a0 EL nw n0 y code maxL ret T h sf cells slots) {x y z : Int32} (d : D code pc (.ixor) 1 pc')  (hz : x ^^^ y = z) (w : WP p e below Φ T (mkF m pc' L (.int z :: S))) : WP p e below Φ T (mkF m pc L (.int y :: .int x :: S)) := by
  obtain ⟨hd, rfl⟩ := d
  exact WP.st (fun _ q => XS.ixor W.here W.hx rfl (hb W.hby hd) rfl (by rw [hz]; exact q)) w
theorem k_ior (W : WS p l e R s m args below meth c Z a0 EL nw n0 y code maxL ret T h sf cells slots) {x y z : Int32} (d : D code pc (.ior) 1 pc')  (hz : x ||| y = z) (w : WP p e below Φ T (mkF m pc' L (.int z :: S))) : WP p e below Φ T (mkF m pc L (.int y :: .int x :: S)) := by
  obtain ⟨hd, rfl⟩ := d
  exact WP.st (fun _ q => XS.ior W.here W.hx rfl (hb W.hby hd) rfl (by rw [hz]; exact q)) w
theorem k_ishl (W : WS p l e R s m args below meth c Z a0 EL nw n0 y code maxL ret T h sf cells slots) {x y z : Int32} (d : D code pc (.ishl) 1 pc')  (hz : x <<< (y &&& 31) = z) (w : WP p e below Φ T (mkF m pc' L (.int z :: S))) : WP p e below Φ T (mkF m pc L (.int y :: .int x :: S)) := by
  obtain ⟨hd, rfl⟩ := d
  exact WP.st (fun _ q => XS.ishl W.here W.hx rfl (hb W.hby hd) rfl (by rw [hz]; exact q)) w
theorem k_ishr (W : WS p l e R s m args below meth c Z a0 EL nw n0 y code maxL ret T h sf cells slots) {x y z : Int32} (d : D code pc (.ishr) 1 pc')  (hz : x >>> (y &&& 31) = z) (w : WP p e below Φ T (mkF m pc' L (.int z :: S))) : WP p e below Φ T (mkF m pc L (.int y :: .int x :: S)) := by
  obtain ⟨hd, rfl⟩ := d
  exact WP.st (fun _ q => XS.ishr W.here W.hx rfl (hb W.hby hd) rfl (by rw [hz]; exact q)) w
theorem k_iushr (W : WS p l e R s m args below meth c Z a0 EL nw n0 y code maxL ret T h sf cells slots) {x y z : Int32} (d : D code pc (.iushr) 1 pc')  (hz : XT.ushr x y = z) (w : WP p e below Φ T (mkF m pc' L (.int z :: S))) : WP p e below Φ T (mkF m pc L (.int y :: .int x :: S)) := by
  obtain ⟨hd, rfl⟩ := d
  exact WP.st (fun _ q => XT.iushr W.here W.hx rfl (hb W.hby hd) rfl (by rw [hz]; exact q)) w
theorem k_idiv (W : WS p l e R s m args below meth c Z a0 EL nw n0 y code maxL ret T h sf cells slots) {x y z : Int32} (d : D code pc (.idiv) 1 pc')  (hy : y ≠ 0) (hz : x / y = z) (w : WP p e below Φ T (mkF m pc' L (.int z :: S))) : WP p e below Φ T (mkF m pc L (.int y :: .int x :: S)) := by
  obtain ⟨hd, rfl⟩ := d
  exact WP.st (fun _ q => XS.idiv W.here W.hx rfl (hb W.hby hd) rfl hy (by rw [hz]; exact q)) w
theorem k_irem (W : WS p l e R s m args below meth c Z a0 EL nw n0 y code maxL ret T h sf cells slots) {x y z : Int32} (d : D code pc (.irem) 1 pc')  (hy : y ≠ 0) (hz : x % y = z) (w : WP p e below Φ T (mkF m pc' L (.int z :: S))) : WP p e below Φ T (mkF m pc L (.int y :: .int x :: S)) := by
  obtain ⟨hd, rfl⟩ := d
  exact WP.st (fun _ q => XS.irem W.here W.hx rfl (hb W.hby hd) rfl hy (by rw [irem_eq_mod x y, hz]; exact q)) w
theorem k_ineg (W : WS p l e R s m args below meth c Z a0 EL nw n0 y code maxL ret T h sf cells slots) {x z : Int32} (d : D code pc (.ineg) 1 pc')  (hz : -x = z) (w : WP p e below Φ T (mkF m pc' L (.int z :: S))) : WP p e below Φ T (mkF m pc L (.int x :: S)) := by
  obtain ⟨hd, rfl⟩ := d
  exact WP.st (fun _ q => XS.ineg W.here W.hx rfl (hb W.hby hd) rfl (by rw [hz]; exact q)) w
theorem k_ladd (W : WS p l e R s m args below meth c Z a0 EL nw n0 y code maxL ret T h sf cells slots) {x y z : Int64} (d : D code pc (.ladd) 1 pc')  (hz : x + y = z) (w : WP p e below Φ T (mkF m pc' L (.long z :: S))) : WP p e below Φ T (mkF m pc L (.long y :: .long x :: S)) := by
  obtain ⟨hd, rfl⟩ := d
  exact WP.st (fun _ q => XS.ladd W.here W.hx rfl (hb W.hby hd) rfl (by rw [hz]; exact q)) w
theorem k_lsub (W : WS p l e R s m args below meth c Z a0 EL nw n0 y code maxL ret T h sf cells slots) {x y z : Int64} (d : D code pc (.lsub) 1 pc')  (hz : x - y = z) (w : WP p e below Φ T (mkF m pc' L (.long z :: S))) : WP p e below Φ T (mkF m pc L (.long y :: .long x :: S)) := by
  obtain ⟨hd, rfl⟩ := d
  exact WP.st (fun _ q => XS.lsub W.here W.hx rfl (hb W.hby hd) rfl (by rw [hz]; exact q)) w
theorem k_land (W : WS p l e R s m args below meth c Z a0 EL nw n0 y code maxL ret T h sf cells slots) {x y z : Int64} (d : D code pc (.land) 1 pc')  (hz : x &&& y = z) (w : WP p e below Φ T (mkF m pc' L (.long z :: S))) : WP p e below Φ T (mkF m pc L (.long y :: .long x :: S)) := by
  obtain ⟨hd, rfl⟩ := d
  exact WP.st (fun _ q => XS.land W.here W.hx rfl (hb W.hby hd) rfl (by rw [hz]; exact q)) w
theorem k_lmul (W : WS p l e R s m args below meth c Z a0 EL nw n0 y code maxL ret T h sf cells slots) {x y z : Int64} (d : D code pc (.lmul) 1 pc')  (hz : x * y = z) (w : WP p e below Φ T (mkF m pc' L (.long z :: S))) : WP p e below Φ T (mkF m pc L (.long y :: .long x :: S)) := by
  obtain ⟨hd, rfl⟩ := d
  exact WP.st (fun _ q => XS.lmul W.here W.hx rfl (hb W.hby hd) rfl (by rw [hz]; exact q)) w
theorem k_lxor (W : WS p l e R s m args below meth c Z a0 EL nw n0 y code maxL ret T h sf cells slots) {x y z : Int64} (d : D code pc (.lxor) 1 pc')  (hz : x ^^^ y = z) (w : WP p e below Φ T (mkF m pc' L (.long z :: S))) : WP p e below Φ T (mkF m pc L (.long y :: .long x :: S)) := by
  obtain ⟨hd, rfl⟩ := d
  exact WP.st (fun _ q => XS.lxor W.here W.hx rfl (hb W.hby hd) rfl (by rw [hz]; exact q)) w
theorem k_lor (W : WS p l e R s m args below meth c Z a0 EL nw n0 y code maxL ret T h sf cells slots) {x y z : Int64} (d : D code pc (.lor) 1 pc')  (hz : x ||| y = z) (w : WP p e below Φ T (mkF m pc' L (.long z :: S))) : WP p e below Φ T (mkF m pc L (.long y :: .long x :: S)) := by
  obtain ⟨hd, rfl⟩ := d
  exact WP.st (fun _ q => XS.lor W.here W.hx rfl (hb W.hby hd) rfl (by rw [hz]; exact q)) w
theorem k_lshl (W : WS p l e R s m args below meth c Z a0 EL nw n0 y code maxL ret T h sf cells slots) {x z : Int64} {y : Int32} (d : D code pc (.lshl) 1 pc')   (hz : x <<< (y.toInt64 &&& 63) = z) (w : WP p e below Φ T (mkF m pc' L (.long z :: S))) : WP p e below Φ T (mkF m pc L (.int y :: .long x :: S)) := by
  obtain ⟨hd, rfl⟩ := d
  exact WP.st (fun _ q => XT.lshl W.here W.hx rfl (hb W.hby hd) rfl (by rw [hz]; exact q)) w
theorem k_lshr (W : WS p l e R s m args below meth c Z a0 EL nw n0 y code maxL ret T h sf cells slots) {x z : Int64} {y : Int32} (d : D code pc (.lshr) 1 pc')   (hz : x >>> (y.toInt64 &&& 63) = z) (w : WP p e below Φ T (mkF m pc' L (.long z :: S))) : WP p e below Φ T (mkF m pc L (.int y :: .long x :: S)) := by
  obtain ⟨hd, rfl⟩ := d
  exact WP.st (fun _ q => XT.lshr W.here W.hx rfl (hb W.hby hd) rfl (by rw [hz]; exact q)) w
theorem k_lushr (W : WS p l e R s m args below meth c Z a0 EL nw n0 y code maxL ret T h sf cells slots) {x z : Int64} {y : Int32} (d : D code pc (.lushr) 1 pc')   (hz : XT.ushrL x y = z) (w : WP p e below Φ T (mkF m pc' L (.long z :: S))) : WP p e below Φ T (mkF m pc L (.int y :: .long x :: S)) := by
  obtain ⟨hd, rfl⟩ := d
  exact WP.st (fun _ q => XT.lushr W.here W.hx rfl (hb W.hby hd) rfl (by rw [hz]; exact q)) w
theorem k_lrem (W : WS p l e R s m args below meth c Z a0 EL nw n0 y code maxL ret T h sf cells slots) {x y z : Int64} (d : D code pc (.lrem) 1 pc')  (hy : y ≠ 0) (hz : x - (x / y) * y = z) (w : WP p e below Φ T (mkF m pc' L (.long z :: S))) : WP p e below Φ T (mkF m pc L (.long y :: .long x :: S)) := by
  obtain ⟨hd, rfl⟩ := d
  exact WP.st (fun _ q => XS.lrem W.here W.hx rfl (hb W.hby hd) rfl hy (by rw [hz]; exact q)) w
theorem k_ldiv (W : WS p l e R s m args below meth c Z a0 EL nw n0 y code maxL ret T h sf cells slots) {x y z : Int64} (d : D code pc (.ldiv) 1 pc')  (hy : y ≠ 0) (hz : x / y = z) (w : WP p e below Φ T (mkF m pc' L (.long z :: S))) : WP p e below Φ T (mkF m pc L (.long y :: .long x :: S)) := by
  obtain ⟨hd, rfl⟩ := d
  exact WP.st (fun _ q => XS.ldiv W.here W.hx rfl (hb W.hby hd) rfl hy (by rw [hz]; exact q)) w
theorem k_lneg (W : WS p l e R s m args below meth c Z a0 EL nw n0 y code maxL ret T h sf cells slots) {x z : Int64} (d : D code pc (.lneg) 1 pc')  (hz : -x = z) (w : WP p e below Φ T (mkF m pc' L (.long z :: S))) : WP p e below Φ T (mkF m pc L (.long x :: S)) := by
  obtain ⟨hd, rfl⟩ := d
  exact WP.st (fun _ q => XS.lneg W.here W.hx rfl (hb W.hby hd) rfl (by rw [hz]; exact q)) w
theorem k_lcmp (W : WS p l e R s m args below meth c Z a0 EL nw n0 y code maxL ret T h sf cells slots) {x y : Int64} {z : Int32} (d : D code pc (.lcmp) 1 pc')   (hz : XT.cmpL x y = z) (w : WP p e below Φ T (mkF m pc' L (.int z :: S))) : WP p e below Φ T (mkF m pc L (.long y :: .long x :: S)) := by
  obtain ⟨hd, rfl⟩ := d
  exact WP.st (fun _ q => XT.lcmp W.here W.hx rfl (hb W.hby hd) rfl (by rw [hz]; exact q)) w
theorem k_i2b (W : WS p l e R s m args below meth c Z a0 EL nw n0 y code maxL ret T h sf cells slots) {x z : Int32} (d : D code pc (.i2b) 1 pc')  (hz : x.toInt8.toInt32 = z) (w : WP p e below Φ T (mkF m pc' L (.int z :: S))) : WP p e below Φ T (mkF m pc L (.int x :: S)) := by
  obtain ⟨hd, rfl⟩ := d
  exact WP.st (fun _ q => XS.i2b W.here W.hx rfl (hb W.hby hd) rfl (by rw [hz]; exact q)) w
theorem k_i2c (W : WS p l e R s m args below meth c Z a0 EL nw n0 y code maxL ret T h sf cells slots) {x z : Int32} (d : D code pc (.i2c) 1 pc')  (hz : x.toUInt32.toUInt16.toUInt32.toInt32 = z) (w : WP p e below Φ T (mkF m pc' L (.int z :: S))) : WP p e below Φ T (mkF m pc L (.int x :: S)) := by
  obtain ⟨hd, rfl⟩ := d
  exact WP.st (fun _ q => XS.i2c W.here W.hx rfl (hb W.hby hd) rfl (by rw [hz]; exact q)) w
theorem k_i2s (W : WS p l e R s m args below meth c Z a0 EL nw n0 y code maxL ret T h sf cells slots) {x z : Int32} (d : D code pc (.i2s) 1 pc')  (hz : x.toInt16.toInt32 = z) (w : WP p e below Φ T (mkF m pc' L (.int z :: S))) : WP p e below Φ T (mkF m pc L (.int x :: S)) := by
  obtain ⟨hd, rfl⟩ := d
  exact WP.st (fun _ q => XS.i2s W.here W.hx rfl (hb W.hby hd) rfl (by rw [hz]; exact q)) w
theorem k_i2l (W : WS p l e R s m args below meth c Z a0 EL nw n0 y code maxL ret T h sf cells slots) {x : Int32} {z : Int64} (d : D code pc (.i2l) 1 pc')   (hz : x.toInt64 = z) (w : WP p e below Φ T (mkF m pc' L (.long z :: S))) : WP p e below Φ T (mkF m pc L (.int x :: S)) := by
  obtain ⟨hd, rfl⟩ := d
  exact WP.st (fun _ q => XS.i2l W.here W.hx rfl (hb W.hby hd) rfl (by rw [hz]; exact q)) w
theorem k_l2i (W : WS p l e R s m args below meth c Z a0 EL nw n0 y code maxL ret T h sf cells slots) {x : Int64} {z : Int32} (d : D code pc (.l2i) 1 pc')   (hz : x.toInt32 = z) (w : WP p e below Φ T (mkF m pc' L (.int z :: S))) : WP p e below Φ T (mkF m pc L (.long x :: S)) := by
  obtain ⟨hd, rfl⟩ := d
  exact WP.st (fun _ q => XS.l2i W.here W.hx rfl (hb W.hby hd) rfl (by rw [hz]; exact q)) w
theorem k_dup (W : WS p l e R s m args below meth c Z a0 EL nw n0 y code maxL ret T h sf cells slots) {x : Value} (d : D code pc (.dup) 1 pc')  (hc : x.category = 1) (w : WP p e below Φ T (mkF m pc' L (x :: x :: S))) : WP p e below Φ T (mkF m pc L (x :: S)) := by
  obtain ⟨hd, rfl⟩ := d
  exact WP.st (fun _ q => XS.dup W.here W.hx rfl (hb W.hby hd) rfl hc q) w
theorem k_pop (W : WS p l e R s m args below meth c Z a0 EL nw n0 y code maxL ret T h sf cells slots) {x : Value} (d : D code pc (.pop) 1 pc')  (hc : x.category = 1) (w : WP p e below Φ T (mkF m pc' L (S))) : WP p e below Φ T (mkF m pc L (x :: S)) := by
  obtain ⟨hd, rfl⟩ := d
  exact WP.st (fun _ q => XS.pop W.here W.hx rfl (hb W.hby hd) rfl hc q) w
theorem k_dupX1 (W : WS p l e R s m args below meth c Z a0 EL nw n0 y code maxL ret T h sf cells slots) {x z : Value} (d : D code pc (.dup_x1) 1 pc')  (hc : x.category = 1) (hc' : z.category = 1) (w : WP p e below Φ T (mkF m pc' L (x :: z :: x :: S))) : WP p e below Φ T (mkF m pc L (x :: z :: S)) := by
  obtain ⟨hd, rfl⟩ := d
  exact WP.st (fun _ q => XS.dupX1 W.here W.hx rfl (hb W.hby hd) rfl hc hc' q) w
theorem k_dup2 (W : WS p l e R s m args below meth c Z a0 EL nw n0 y code maxL ret T h sf cells slots) {x z : Value} (d : D code pc (.dup2) 1 pc')  (hc : x.category = 1) (hc' : z.category = 1) (w : WP p e below Φ T (mkF m pc' L (x :: z :: x :: z :: S))) : WP p e below Φ T (mkF m pc L (x :: z :: S)) := by
  obtain ⟨hd, rfl⟩ := d
  exact WP.st (fun _ q => XT.dup2 W.here W.hx rfl (hb W.hby hd) rfl hc hc' q) w
theorem k_dup2L (W : WS p l e R s m args below meth c Z a0 EL nw n0 y code maxL ret T h sf cells slots) {x : Int64} (d : D code pc (.dup2) 1 pc')  (w : WP p e below Φ T (mkF m pc' L (.long x :: .long x :: S))) : WP p e below Φ T (mkF m pc L (.long x :: S)) := by
  obtain ⟨hd, rfl⟩ := d
  exact WP.st (fun _ q => XT.dup2L W.here W.hx rfl (hb W.hby hd) rfl q) w
theorem k_iinc (W : WS p l e R s m args below meth c Z a0 EL nw n0 y code maxL ret T h sf cells slots) {k : Nat} {cst : Int} {x z : Int32} {L' : Array Slot} (d : D code pc (.iinc k cst) 3 pc')     (hl : L[k]? = some (.val (.int x))) (hz : x + Int32.ofInt cst = z) (hl' : storeLocals L k (.int z) = some L') (w : WP p e below Φ T (mkF m pc' L' (S))) : WP p e below Φ T (mkF m pc L (S)) := by
  obtain ⟨hd, rfl⟩ := d
  exact WP.st (fun _ q => XS.iinc W.here W.hx rfl (hb W.hby hd) hl (by rw [hz]; exact hl') q) w
theorem k_goto (W : WS p l e R s m args below meth c Z a0 EL nw n0 y code maxL ret T h sf cells slots) {o : Int} (pc1 : Nat) (d : D code pc (.goto o) 3 pc') (ho : 0 ≤ (pc : Int) + o ∧ ((pc : Int) + o).toNat = pc1) (w : WP p e below Φ T (mkF m pc1 L S)) : WP p e below Φ T (mkF m pc L S) := by
  obtain ⟨hd, rfl⟩ := d
  exact WP.st (fun _ q => XS.goto W.here W.hx rfl (pc0 := pc) (pc' := pc1) rfl (hb W.hby hd) ho.1 ho.2 q) w
def icP : ClassFile.Cond → Int32 → Prop
  | .eq, x => x = 0
  | .ne, x => ¬ x = 0
  | .lt, x => x < 0
  | .ge, x => ¬ x < 0
  | .gt, x => 0 < x
  | .le, x => ¬ 0 < x
def ic2 : ClassFile.Cond → Int32 → Int32 → Prop
  | .eq, x, y => x = y
  | .ne, x, y => ¬ x = y
  | .lt, x, y => x < y
  | .ge, x, y => ¬ x < y
  | .gt, x, y => y < x
  | .le, x, y => ¬ y < x
theorem icP_iff (cd : ClassFile.Cond) (x : Int32) : ifCond.holds cd x = true ↔ icP cd x := by
  cases cd <;> simp [ifCond.holds, icP, Int32.not_lt, Int32.not_le]
theorem ic2_iff (cd : ClassFile.Cond) (x y : Int32) : if_icmp.holds cd x y = true ↔ ic2 cd x y := by
  cases cd <;> simp [if_icmp.holds, ic2, Int32.not_lt, Int32.not_le]
theorem k_ifY (W : WS p l e R s m args below meth c Z a0 EL nw n0 y code maxL ret T h sf cells slots) {cd : ClassFile.Cond} {x : Int32} {o : Int} (pc1 : Nat) (d : D code pc (.ifCond cd o) 3 pc') (ho : 0 ≤ (pc : Int) + o ∧ ((pc : Int) + o).toNat = pc1) (hc : icP cd x) (w : WP p e below Φ T (mkF m pc1 L S)) : WP p e below Φ T (mkF m pc L (.int x :: S)) := by
  obtain ⟨hd, rfl⟩ := d
  exact WP.st (fun _ q => XS.ifYes W.here W.hx rfl (pc0 := pc) (pc' := pc1) rfl (hb W.hby hd) rfl ((icP_iff _ _).mpr hc) ho.1 ho.2 q) w
theorem k_ifN (W : WS p l e R s m args below meth c Z a0 EL nw n0 y code maxL ret T h sf cells slots) {cd : ClassFile.Cond} {x : Int32} {o : Int} (d : D code pc (.ifCond cd o) 3 pc') (hc : ¬ icP cd x) (w : WP p e below Φ T (mkF m pc' L S)) : WP p e below Φ T (mkF m pc L (.int x :: S)) := by
  obtain ⟨hd, rfl⟩ := d
  exact WP.st (fun _ q => XS.ifNo W.here W.hx rfl (hb W.hby hd) rfl (by cases hh : ifCond.holds cd x with | false => rfl | true => exact absurd ((icP_iff _ _).mp hh) hc) q) w
theorem k_if (W : WS p l e R s m args below meth c Z a0 EL nw n0 y code maxL ret T h sf cells slots) {cd : ClassFile.Cond} {x : Int32} {o : Int} (pc1 : Nat) (d : D code pc (.ifCond cd o) 3 pc') (ho : 0 ≤ (pc : Int) + o ∧ ((pc : Int) + o).toNat = pc1) (w1 : icP cd x → WP p e below Φ T (mkF m pc1 L S)) (w2 : ¬ icP cd x → WP p e below Φ T (mkF m pc' L S)) : WP p e below Φ T (mkF m pc L (.int x :: S)) := by
  by_cases q : icP cd x
  · exact k_ifY W pc1 d ho q (w1 q)
  · exact k_ifN W d q (w2 q)
theorem k_icY (W : WS p l e R s m args below meth c Z a0 EL nw n0 y code maxL ret T h sf cells slots) {cd : ClassFile.Cond} {x z : Int32} {o : Int} (pc1 : Nat) (d : D code pc (.if_icmp cd o) 3 pc') (ho : 0 ≤ (pc : Int) + o ∧ ((pc : Int) + o).toNat = pc1) (hc : ic2 cd x z) (w : WP p e below Φ T (mkF m pc1 L S)) : WP p e below Φ T (mkF m pc L (.int z :: .int x :: S)) := by
  obtain ⟨hd, rfl⟩ := d
  exact WP.st (fun _ q => XS.icmpYes W.here W.hx rfl (pc0 := pc) (pc' := pc1) rfl (hb W.hby hd) rfl ((ic2_iff _ _ _).mpr hc) ho.1 ho.2 q) w
theorem k_icN (W : WS p l e R s m args below meth c Z a0 EL nw n0 y code maxL ret T h sf cells slots) {cd : ClassFile.Cond} {x z : Int32} {o : Int} (d : D code pc (.if_icmp cd o) 3 pc') (hc : ¬ ic2 cd x z) (w : WP p e below Φ T (mkF m pc' L S)) : WP p e below Φ T (mkF m pc L (.int z :: .int x :: S)) := by
  obtain ⟨hd, rfl⟩ := d
  exact WP.st (fun _ q => XS.icmpNo W.here W.hx rfl (hb W.hby hd) rfl (by cases hh : if_icmp.holds cd x z with | false => rfl | true => exact absurd ((ic2_iff _ _ _).mp hh) hc) q) w
theorem k_ic (W : WS p l e R s m args below meth c Z a0 EL nw n0 y code maxL ret T h sf cells slots) {cd : ClassFile.Cond} {x z : Int32} {o : Int} (pc1 : Nat) (d : D code pc (.if_icmp cd o) 3 pc') (ho : 0 ≤ (pc : Int) + o ∧ ((pc : Int) + o).toNat = pc1) (w1 : ic2 cd x z → WP p e below Φ T (mkF m pc1 L S)) (w2 : ¬ ic2 cd x z → WP p e below Φ T (mkF m pc' L S)) : WP p e below Φ T (mkF m pc L (.int z :: .int x :: S)) := by
  by_cases q : ic2 cd x z
  · exact k_icY W pc1 d ho q (w1 q)
  · exact k_icN W d q (w2 q)
theorem k_nullY (W : WS p l e R s m args below meth c Z a0 EL nw n0 y code maxL ret T h sf cells slots) {o : Int} (pc1 : Nat) (d : D code pc (.ifnull o) 3 pc') (ho : 0 ≤ (pc : Int) + o ∧ ((pc : Int) + o).toNat = pc1) (w : WP p e below Φ T (mkF m pc1 L S)) : WP p e below Φ T (mkF m pc L (.null :: S)) := by
  obtain ⟨hd, rfl⟩ := d
  exact WP.st (fun _ q => XS.ifnullYes W.here W.hx rfl (pc0 := pc) (pc' := pc1) rfl (hb W.hby hd) rfl ho.1 ho.2 q) w
theorem k_nullN (W : WS p l e R s m args below meth c Z a0 EL nw n0 y code maxL ret T h sf cells slots) {o : Int} {b : Addr} (d : D code pc (.ifnull o) 3 pc') (w : WP p e below Φ T (mkF m pc' L S)) : WP p e below Φ T (mkF m pc L (.ref b :: S)) := by
  obtain ⟨hd, rfl⟩ := d
  exact WP.st (fun _ q => XS.ifnullNo W.here W.hx rfl (hb W.hby hd) rfl q) w
theorem k_nnY (W : WS p l e R s m args below meth c Z a0 EL nw n0 y code maxL ret T h sf cells slots) {o : Int} {b : Addr} (pc1 : Nat) (d : D code pc (.ifnonnull o) 3 pc') (ho : 0 ≤ (pc : Int) + o ∧ ((pc : Int) + o).toNat = pc1) (w : WP p e below Φ T (mkF m pc1 L S)) : WP p e below Φ T (mkF m pc L (.ref b :: S)) := by
  obtain ⟨hd, rfl⟩ := d
  exact WP.st (fun _ q => XS.ifnonnullYes W.here W.hx rfl (pc0 := pc) (pc' := pc1) rfl (hb W.hby hd) rfl ho.1 ho.2 q) w
theorem k_nnN (W : WS p l e R s m args below meth c Z a0 EL nw n0 y code maxL ret T h sf cells slots) {o : Int} (d : D code pc (.ifnonnull o) 3 pc') (w : WP p e below Φ T (mkF m pc' L S)) : WP p e below Φ T (mkF m pc L (.null :: S)) := by
  obtain ⟨hd, rfl⟩ := d
  exact WP.st (fun _ q => XS.ifnonnullNo W.here W.hx rfl (hb W.hby hd) rfl q) w
def acP : ACond → Value → Value → Prop
  | .eq, x, y => x = y
  | .ne, x, y => ¬ x = y
theorem k_acY (W : WS p l e R s m args below meth c Z a0 EL nw n0 y code maxL ret T h sf cells slots) {cd : ACond} {x z : Value} {o : Int} (pc1 : Nat) (d : D code pc (.if_acmp cd o) 3 pc') (h1 : x.isRef = true) (h2 : z.isRef = true) (ho : 0 ≤ (pc : Int) + o ∧ ((pc : Int) + o).toNat = pc1) (hc : acP cd x z) (w : WP p e below Φ T (mkF m pc1 L S)) : WP p e below Φ T (mkF m pc L (z :: x :: S)) := by
  obtain ⟨hd, rfl⟩ := d
  obtain ⟨locs, X, -⟩ := id W
  cases cd
  · exact WP.st (fun _ q => Jvm.RoadKit.acmp X W.hx rfl h1 h2 (pc0 := pc) (pc' := pc1) (same := true) rfl (hb W.hby hd) rfl (decide_eq_true hc) ho.1 (by simp [acV, ho.2]) q) w
  · exact WP.st (fun _ q => Jvm.RoadKit.acmp X W.hx rfl h1 h2 (pc0 := pc) (pc' := pc1) (same := false) rfl (hb W.hby hd) rfl (decide_eq_false hc) ho.1 (by simp [acV, ho.2]) q) w
theorem k_acN (W : WS p l e R s m args below meth c Z a0 EL nw n0 y code maxL ret T h sf cells slots) {cd : ACond} {x z : Value} {o : Int} (d : D code pc (.if_acmp cd o) 3 pc') (h1 : x.isRef = true) (h2 : z.isRef = true) (ho : 0 ≤ (pc : Int) + o) (hc : ¬ acP cd x z) (w : WP p e below Φ T (mkF m pc' L S)) : WP p e below Φ T (mkF m pc L (z :: x :: S)) := by
  obtain ⟨hd, rfl⟩ := d
  obtain ⟨locs, X, -⟩ := id W
  cases cd
  · exact WP.st (fun _ q => Jvm.RoadKit.acmp X W.hx rfl h1 h2 (pc0 := pc) (pc' := pc + 3) (same := false) rfl (hb W.hby hd) rfl (decide_eq_false hc) ho (by simp [acV]) q) w
  · exact WP.st (fun _ q => Jvm.RoadKit.acmp X W.hx rfl h1 h2 (pc0 := pc) (pc' := pc + 3) (same := true) rfl (hb W.hby hd) rfl (decide_eq_true (Classical.not_not.mp hc)) ho (by simp [acV]) q) w
end Base

/-! ## small facts on numbers -/
abbrev i2c (x : Int32) : Int32 := x.toUInt32.toUInt16.toUInt32.toInt32
abbrev i2b (x : Int32) : Int32 := x.toInt8.toInt32
abbrev Rg (x : Int32) (n : Int) : Prop := 0 ≤ x.toInt ∧ x.toInt < n
theorem Rg.mono {x : Int32} {n k : Int} (q : Rg x n) (h : n ≤ k) : Rg x k := ⟨q.1, Int.lt_of_lt_of_le q.2 h⟩
theorem toInt_and_nonneg (x m : Int32) (hm : 0 ≤ m.toInt) : 0 ≤ (x &&& m).toInt ∧ (x &&& m).toInt ≤ m.toInt := by
  have e1 : (x &&& m).toBitVec = x.toBitVec &&& m.toBitVec := rfl
  have h1 : m.toInt = m.toBitVec.toNat := by
    have : m.toInt = m.toBitVec.toInt := rfl
    rw [this] at hm ⊢
    rw [BitVec.toInt_eq_toNat_cond] at hm ⊢
    split at hm <;> split <;> omega
  have h2 : (x.toBitVec &&& m.toBitVec).toNat ≤ m.toBitVec.toNat := by rw [BitVec.toNat_and]; exact Nat.and_le_right
  have hm2 : 2 * m.toBitVec.toNat < 2 ^ 32 := by
    have : m.toInt < 2 ^ 31 := Int32.toInt_lt m
    omega
  have h3 : (x &&& m).toInt = (x.toBitVec &&& m.toBitVec).toNat := by
    show (x.toBitVec &&& m.toBitVec).toInt = _
    rw [BitVec.toInt_eq_toNat_cond, if_pos (by omega)]
  rw [h3, h1]; omega
theorem Rg.and (x m : Int32) {n : Int} (hm : 0 ≤ m.toInt ∧ m.toInt < n) : Rg (x &&& m) n := by
  have := toInt_and_nonneg x m hm.1; exact ⟨this.1, by omega⟩
theorem toInt_i2c (x : Int32) : (i2c x).toInt = x.toBitVec.toNat % 65536 := by
  have h : (i2c x).toBitVec = (x.toBitVec.setWidth 16).setWidth 32 := rfl
  show (i2c x).toBitVec.toInt = _
  rw [h, BitVec.toInt_eq_toNat_cond, BitVec.toNat_setWidth, BitVec.toNat_setWidth]
  have : x.toBitVec.toNat % 2 ^ 16 < 2 ^ 16 := Nat.mod_lt _ (by decide)
  rw [Nat.mod_eq_of_lt (a := x.toBitVec.toNat % 2 ^ 16) (by omega), if_pos (by omega)]
  rfl
theorem rg_i2c (x : Int32) : Rg (i2c x) 65536 := by rw [Rg, toInt_i2c]; omega
theorem natOf {x : Int32} (q : 0 ≤ x.toInt) : (x.toBitVec.toNat : Int) = x.toInt := by
  have : x.toInt = x.toBitVec.toInt := rfl
  rw [this] at q ⊢
  rw [BitVec.toInt_eq_toNat_cond] at q ⊢
  split at q <;> split <;> omega
theorem Rg.c {x : Int32} (q : Rg x 65536) : i2c x = x := by
  apply Int32.toInt_inj.mp
  have := natOf q.1; rw [toInt_i2c]; have h2 := q.2; omega
theorem Rg.nar {x : Int32} (q : Rg x 65536) : nar .char x = x := q.c
theorem Rg.fits {x : Int32} (q : Rg x 65536) : fits .char (.int x) = true := by
  have h0 : (0 : Int32) ≤ x := Int32.le_iff_toInt_le.mpr q.1
  have h1 : x ≤ 65535 := Int32.le_iff_toInt_le.mpr (by have := q.2; have e : (65535 : Int32).toInt = 65535 := by decide
                                                       omega)
  simp [Jvm.fits, h0, h1]
theorem Rg.le255 {x : Int32} (q : Rg x 256) : ¬ 255 < x := by rw [Int32.lt_iff_toInt_lt]; have := q.2; have h : (255 : Int32).toInt = 255 := by decide
                                                              omega
theorem nar_i2b (x : Int32) : nar .byte (i2b x) = i2b x := by simp [nar, i2b]
theorem fits_i2b (x : Int32) : Jvm.fits .byte (.int (i2b x)) = true := by
  have e : (i2b x).toInt = x.toInt8.toInt := Int8.toInt_toInt32 _
  have h0 : (-128 : Int32) ≤ i2b x := Int32.le_iff_toInt_le.mpr (by rw [e]; exact Int8.le_toInt _)
  have h1 : i2b x ≤ 127 := Int32.le_iff_toInt_le.mpr (by rw [e]; exact Int8.toInt_le _)
  simp [Jvm.fits, h0, h1]
theorem shr0 (x : Int32) : x >>> ((0 : Int32) &&& 31) = x := by
  have : ((0 : Int32) &&& 31) = 0 := by decide
  rw [this]; simp
theorem Rg.fin {x : Int32} (q : Rg x 256) : ∃ k : Fin 256, x = Int32.ofNat k.val := by
  obtain ⟨h1, h2⟩ := q
  obtain ⟨n, hn⟩ : ∃ n : Nat, x.toInt = n := ⟨x.toInt.toNat, (Int.toNat_of_nonneg h1).symm⟩
  refine ⟨⟨n, by omega⟩, ?_⟩
  apply Int32.toInt_inj.mp
  rw [Int32.toInt_ofNat_of_lt (by simp; omega), hn]
theorem lo_all : ∀ k : Fin 256, (i2b (Int32.ofNat k.val)) &&& 255 = Int32.ofNat k.val := by decide +kernel
theorem lo_i2b {x : Int32} (q : Rg x 256) : (i2b x) &&& 255 = x := by
  obtain ⟨k, rfl⟩ := q.fin; exact lo_all k
theorem i2b_inj {x y : Int32} (q : Rg x 256) (r : Rg y 256) (h : i2b x = i2b y) : x = y := by
  rw [← lo_i2b q, ← lo_i2b r, h]
theorem Rg.mod {x k : Int32} {n : Int} (q : Rg x n) (hk : 0 < k.toInt) : Rg (x % k) k.toInt := by
  have h : (x % k).toInt = x.toInt.tmod k.toInt := Int32.toInt_mod _ _
  rw [Rg, h]
  have h1 := q.1
  rw [Int.tmod_eq_emod_of_nonneg h1]
  exact ⟨Int.emod_nonneg _ (by omega), Int.emod_lt_of_pos _ hk⟩
theorem Rg.add {x y : Int32} {n k : Int} (q : Rg x n) (r : Rg y k) (h : n + k ≤ 2147483648) : Rg (x + y) (n + k - 1) := by
  have e : (x + y).toInt = x.toInt + y.toInt := by
    rw [Int32.toInt_add]
    have h1 := q.1; have h2 := q.2; have h3 := r.1; have h4 := r.2
    rw [Int.bmod_eq_of_le (by omega) (by omega)]
  rw [Rg, e]
  have h1 := q.1; have h2 := q.2; have h3 := r.1; have h4 := r.2
  omega
theorem toInt_of {i : Nat} (h : i < 2147483648) : (Int32.ofNat i).toInt = i := Int32.toInt_ofNat_of_lt (by simpa using h)
theorem ix_of {i : Nat} (h : i < 2147483648) : ¬ Int32.ofNat i < 0 ∧ (Int32.ofNat i).toNatClampNeg = i := by
  refine ⟨?_, ?_⟩
  · rw [Int32.lt_iff_toInt_lt, toInt_of h]; simp
  · unfold Int32.toNatClampNeg; rw [toInt_of h]; rfl
theorem of_lt {i n : Nat} (h : i < n) (hn : n < 2147483648) : Int32.ofNat i < Int32.ofNat n := by
  rw [Int32.lt_iff_toInt_lt, toInt_of hn, toInt_of (by omega)]; omega
theorem of_ge {i n : Nat} (h : n ≤ i) (hn : i < 2147483648) : ¬ Int32.ofNat i < Int32.ofNat n := by
  rw [Int32.lt_iff_toInt_lt, toInt_of hn, toInt_of (by omega)]; omega
theorem of_sub {i n : Nat} (h : n ≤ i) (hi : i < 2147483648) : ¬ Int32.ofNat i - Int32.ofNat n < 0 := by
  have e : Int32.ofNat i - Int32.ofNat n = Int32.ofNat (i - n) := by
    apply Int32.toInt_inj.mp
    rw [Int32.toInt_sub, toInt_of hi, toInt_of (i := n) (by omega), toInt_of (i := i - n) (by omega), Int.bmod_eq_of_le (by omega) (by omega)]; omega
  rw [e]; exact (ix_of (by omega)).1
theorem of_inj {i n : Nat} (hi : i < 2147483648) (hn : n < 2147483648) (h : Int32.ofNat i = Int32.ofNat n) : i = n := by
  have := congrArg Int32.toInt h; rw [toInt_of hi, toInt_of hn] at this; omega
theorem of_ne0 {n : Nat} (h : 0 < n) (hn : n < 2147483648) : ¬ Int32.ofNat n = 0 := fun q => by
  have h1 := congrArg Int32.toInt q; rw [toInt_of hn] at h1
  have h2 : (0 : Int32).toInt = 0 := by decide
  omega
theorem cmp_step {cs : List Int32} {vs : List Value} {i : Nat} {ci : Int32} (hci : cs[i]? = some ci) (hl : vs.length = cs.length) : (((cs.take i).map i2b).map Value.int ++ vs.drop i).set i (.int (i2b ci)) = ((cs.take (i + 1)).map i2b).map Value.int ++ vs.drop (i + 1) := by
  have h0 : i < cs.length := (List.getElem?_eq_some_iff.mp hci).1
  have h1 : (((cs.take i).map i2b).map Value.int).length = i := by simp; omega
  have h2 : i < vs.length := by omega
  rw [List.set_append_right _ _ (by omega), h1, Nat.sub_self, List.drop_eq_getElem_cons h2, List.set_cons_zero, List.take_add_one, hci]
  simp
theorem of_succ (i : Nat) : Int32.ofNat i + Int32.ofInt 1 = Int32.ofNat (i + 1) := by
  rw [Int32.ofNat_add]; rfl
theorem rgS {x : Int32} {L : List Int32} {n : Int} (q : Rg x n) (r : ∀ c ∈ L, Rg c n) : ∀ c ∈ x :: L, Rg c n := fun c hc => (List.mem_cons.mp hc).elim (fun e => e ▸ q) (r c)
theorem cat_ref {v : Value} (h : v.isRef = true) : v.category = 1 := by cases v <;> simp_all [Value.isRef, Value.category]
theorem cat_i (x : Int32) : (Value.int x).category = 1 := rfl
theorem cat_l (x : Int64) : (Value.long x).category = 2 := rfl
theorem cat_r (x : Addr) : (Value.ref x).category = 1 := rfl
theorem cat_n : Value.null.category = 1 := rfl
theorem nar_refv {t : FieldType} {v : Value} (h : v.isRef = true) (ht : t.isReference = true) : narrow t v = v := by cases t <;> simp_all [narrow, FieldType.isReference]
theorem fits_refv {t : FieldType} {v : Value} (h : v.isRef = true) (ht : t.isReference = true) : Jvm.fits t v = true := by cases t <;> cases v <;> simp_all [Jvm.fits, Value.isRef, FieldType.isReference]

/-! ## what is known of a heap -/
section Facts
variable {Z : State} {h h' : Heap} {a b : Addr} {ty : FieldType} {vs : List Value} {ws : List Addr} {C : String}
def Av (Z : State) (h : Heap) (a : Addr) (ty : FieldType) (vs : List Value) : Prop :=
  ∃ c : Cell, Arr Z h a c ty ∧ c.slots.toList = vs ∧ vs.length < 2147483648 ∧ ∀ v ∈ vs, fits ty v = true
theorem Av.lt (F : Av Z h a ty vs) : a < h.size := by obtain ⟨c, A, -⟩ := F; exact A.lt
theorem Av.keep (F : Av Z h a ty vs) (K : Keep h h' ws) (q : a ∉ ws) : Av Z h' a ty vs := by obtain ⟨c, A, r⟩ := F; exact ⟨c, ⟨K.2.1 a c A.1 q, A.2⟩, r⟩
theorem Av.len (F : Av Z h a ty vs) : vs.length < 2147483648 := F.choose_spec.2.2.1
theorem fits_default (ty : FieldType) : fits ty (defaultValue ty) = true := by cases ty <;> simp [fits, defaultValue]
theorem Av.new {k : ClassId} {z : Int32} (A : Arr Z h a (newA k ty z) ty) (n : Nat) (q : z.toNatClampNeg = n) : Av Z h a ty (List.replicate n (defaultValue ty)) := by
  refine ⟨_, A, by simp [newA, q], ?_, fun v hv => ?_⟩
  · rw [List.length_replicate, ← q]; have := Int32.toInt_lt z; unfold Int32.toNatClampNeg; omega
  · rw [List.eq_of_mem_replicate hv]; exact fits_default ty
theorem Av.set {j : Nat} {v : Value} (F : Av Z h a ty vs) (W : Wr h h' a j v) (hv : fits ty v = true) : Av Z h' a ty (vs.set j v) := by
  obtain ⟨c, A, r1, r2, r3⟩ := F
  refine ⟨c.setSlot j v, A.same W, by simp [Cell.setSlot, r1], by simpa using r2, fun u hu => ?_⟩
  rcases List.mem_or_eq_of_mem_set hu with q | q
  · exact r3 u q
  · rw [q]; exact hv
theorem Av.of_arv {k : ClassId} {z : Int32} {d : Value} (F : Arv Z h a k ty z vs d) (q : z.toNatClampNeg = vs.length) : Av Z h a ty vs := by
  obtain ⟨c, A, -, r1, r2, H, G⟩ := F
  have e : c.slots.toList = vs := by
    apply List.ext_getElem?; intro i
    by_cases hi : i < c.slots.size
    · have := H i hi
      rw [Array.getElem?_toList, this, List.getD_eq_getElem?_getD]
      have hv : i < vs.length := by omega
      simp [hv]
    · rw [Array.getElem?_toList, Array.getElem?_eq_none (by omega), List.getElem?_eq_none (by omega)]
  refine ⟨c, A, e, ?_, fun v hv => ?_⟩
  · rw [← q]; have := Int32.toInt_lt z; unfold Int32.toNatClampNeg; omega
  · obtain ⟨i, hi, rfl⟩ := List.mem_iff_getElem.mp hv
    have := G i (by omega)
    rwa [List.getD_eq_getElem?_getD, List.getElem?_eq_getElem hi] at this
theorem keep_ext (E : Ext h h') (ws : List Addr) : Keep h h' ws := (Keep.refl h ws).ext E
theorem nin1 {x y : Addr} (q : x ≠ y) : x ∉ [y] := ninS q nin0
theorem Sta.keep {n d : String} {v : Value} (F : Sta Z h C n d v) (K : Keep h h' ws) (q : ∀ x ∈ ws, ∀ cell : Cell, h[x]? = some cell → cell.vm.isStatics = false) : Sta Z h' C n d v := by
  obtain ⟨cf, i, k, f, st, cell, h1, h2, h3, h4, h5, h6, h7⟩ := F
  exact ⟨cf, i, k, f, st, cell, h1, h2, h3, h4, K.2.1 _ _ h5 (fun hm => by have := q _ hm _ h5; rw [h6] at this; cases this), h6, h7⟩
theorem Av.plain (F : Av Z h a ty vs) : ∀ cell : Cell, h[a]? = some cell → cell.vm.isStatics = false := fun cell q => by
  obtain ⟨c, A, -⟩ := F; cases A.1.symm.trans q; exact Arr.plain A
theorem Exa.plain (F : Exa Z h a C) : ∀ cell : Cell, h[a]? = some cell → cell.vm.isStatics = false := fun cell q => by
  obtain ⟨c, _, h1, _, _, h4, _⟩ := F; cases h1.symm.trans q; exact h4
theorem ne_av {ty' : FieldType} {vs' : List Value} (F : Av Z h a ty vs) (G : Av Z h b ty' vs') (q : ty ≠ ty') : a ≠ b := fun e => by
  subst e
  obtain ⟨c, A, -⟩ := F; obtain ⟨c', A', -⟩ := G
  cases A.1.symm.trans A'.1
  obtain ⟨-, k, hk, comp, hkind⟩ := A.2.1
  obtain ⟨-, k', hk', comp', hkind'⟩ := A'.2.1
  cases hk.symm.trans hk'
  have := hkind.symm.trans hkind'
  injection this with _ e
  exact q e
theorem ne_len {vs' : List Value} (F : Av Z h a ty vs) (G : Av Z h b ty vs') (q : vs ≠ vs') : a ≠ b := fun e => by
  subst e
  obtain ⟨c, A, r, -⟩ := F; obtain ⟨c', A', r', -⟩ := G
  cases A.1.symm.trans A'.1
  exact q (r.symm.trans r')
theorem ne_exav {n : Nat} {a0 : Array Value} (E : Exa Z h a C) (w : (Cond.instantiable C n).before a0 Z = true) (F : Av Z h b ty vs) : a ≠ b := by
  obtain ⟨c, A, -⟩ := F; exact ne_arr E w A
/-- a String of Latin-1 bytes (as signed), its byte[] at b -/
def St (Z : State) (h : Heap) (a b : Addr) (bs : List Int32) : Prop :=
  Exa Z h a "java/lang/String" ∧ Fld Z h a "java/lang/String" "coder" "B" (.int 0) ∧ Fld Z h a "java/lang/String" "value" "[B" (.ref b) ∧ Av Z h b .byte (bs.map Value.int)
theorem St.keep {bs : List Int32} (F : St Z h a b bs) (K : Keep h h' ws) (q : a ∉ ws) (r : b ∉ ws) : St Z h' a b bs := ⟨F.1.keep K, F.2.1.keep K q, F.2.2.1.keep K q, F.2.2.2.keep K r⟩
end Facts

/-! ## a body's entry and its ends -/
section Ends
variable {p : Program} {l : Launch} {e : Env} {R : Room} {s : State} {m : MethodId} {args : Array Value} {below : List Frame} {meth : Method} {c : Code} {Z : State} {EL : List (String × Nat)} {nw : Bool} {n0 : Nat} {y : MethodName} {code : ByteArray} {maxL : Nat} {ret : Option FieldType} {T : State} {h : Heap} {sf : List Addr} {cells slots : Nat} {Φ : Outcome → State → Prop} {a0 : Array Value} {pc pc' : Nat} {L : Array Slot} {S : List Value} {rm : Room} {Q : Option Value → Heap → List Addr → Prop}
theorem Ct.body {as' : Array Value} (hp : plainFor y = true)
    (body : ∀ p e s m below meth c s₁, WS p l e rm s m as' below meth c Z a0 EL nw n0 y code maxL ret s₁ h sf 0 0 → WP p e below (Fne s n0 Z EL nw rm Q) s₁ (entryFrame m as' maxL)) : Ct l Z a0 EL nw y code maxL ret rm as' h sf n0 Q := by
  intro ws
  refine MetFree.of_bodySF hp hisR ?_
  intro p e s m args below meth c s₁ Bd hml hP hK
  obtain ⟨rfl, hZ, hh, hC, hn, hE, hsf⟩ := hP
  have X0 : Stand p l e rm s m args below meth c s₁ [] 0 0 := Stand.of_body Bd
  have e0 : s₁.heap = h := by rw [← hh, Bd.state]; rfl
  have ev : s₁.vm = s.vm := by rw [Bd.state]; rfl
  have hs : s.heap = h := hh
  refine body p e s m below meth c s₁ ⟨[], X0.retabled X0.warmed.wide, e0, X0.warmed.since _, wtrans hZ X0.warmed, ?_, ?_, Fr.nil _, hn, ?_, hE, fun _ => X0.warmed, Bd.exec, Bd.bytes, Bd.returns, Bd.notSynchronized, hml, (name_of_methodNamed Bd.named Bd.method).1⟩
  · rw [ev]; exact findClass_of_methodNamed Bd.named
  · rw [ev, hs]; exact CHr.refl hC
  · rw [ev]; exact hsf
theorem WS.fin (W : WS p l e R s m args below meth c Z a0 EL nw n0 y code maxL ret T h sf cells slots) (so : List Addr) (hso : ∀ x ∈ so, x ∈ sf) {v : Option Value} (hv : meth.sig.returnType = none → v = none) (hc : cells ≤ rm.cells) (hs : slots ≤ rm.slots) (q : Q v h so) :
    ∃ fs, (∀ (f : JFrame) (acts : List Action), f.method = m → f.locked = none → f.entered = [] → (doReturn e (T.setTop f) acts v).1 = T.setFrames fs) ∧ (T.setFrames fs).status = .running ∧ Ended (T.setFrames fs) below (.returned v) ∧ Fne s n0 Z EL nw rm Q (.returned v) (T.setFrames fs) := by
  obtain ⟨locs, X, a1, a2, a3, a4, a5, a6, a7, a8, a9, aW, b1, b2, b3, b4, b5⟩ := W
  obtain ⟨fs, q1, q2, q3, q4⟩ := (X.mono hc hs).leaveW a2 (by rw [a1]; exact Nat.le_refl _) hv b4
  refine ⟨fs, q1, q2, q3, v, locs, so, rfl, ?_, a6, ?_, ?_, aW, q4⟩
  · show Q v T.heap so; rw [a1]; exact q
  · show CHr Z EL s.vm s.heap T.vm T.heap; rw [a1]; exact a5
  · show ∀ x ∈ so, n0 ≤ x ∧ x < T.heap.size ∧ Safe Z EL T.vm T.heap x; rw [a1]; exact fun x hx => a8 x (hso x hx)
theorem k_ret (W : WS p l e R s m args below meth c Z a0 EL nw n0 y code maxL ret T h sf cells slots) (d : D code pc .return_ 1 pc') (hr : ret = none) (so : List Addr) (hso : ∀ x ∈ so, x ∈ sf) (hc : cells ≤ rm.cells) (hs : slots ≤ rm.slots) (q : Q none h so) : WP p e below (Fne s n0 Z EL nw rm Q) T (mkF m pc L []) := by
  have hret : meth.sig.returnType = ret := by obtain ⟨_, _, _, _, _, _, _, _, _, _, _, _, _, _, q, -⟩ := W; exact q
  obtain ⟨fs, q1, q2, q3, q4⟩ := W.fin so hso (v := none) (fun _ => rfl) hc hs q
  obtain ⟨locs, X, -⟩ := id W
  exact ⟨_, _, X.returnOut W.hx (hret.trans hr) (W.hd d) q1, q2, q3, q4⟩
theorem k_ireturn (W : WS p l e R s m args below meth c Z a0 EL nw n0 y code maxL ret T h sf cells slots) {z : Int32} (d : D code pc .ireturn 1 pc') (hr : ret = some .int) (so : List Addr) (hso : ∀ x ∈ so, x ∈ sf) (hc : cells ≤ rm.cells) (hs : slots ≤ rm.slots) (q : Q (some (.int z)) h so) : WP p e below (Fne s n0 Z EL nw rm Q) T (mkF m pc L (.int z :: S)) := by
  have hret : meth.sig.returnType = ret := by obtain ⟨_, _, _, _, _, _, _, _, _, _, _, _, _, _, q, -⟩ := W; exact q
  obtain ⟨fs, q1, q2, q3, q4⟩ := W.fin so hso (v := some (.int z)) (fun u => by rw [hret, hr] at u; cases u) hc hs q
  obtain ⟨locs, X, -⟩ := id W
  exact ⟨_, _, retOut X W.hx (hret.trans hr) rfl (Or.inl ⟨rfl, Or.inl rfl, z, rfl⟩) (W.hd d) q1, q2, q3, q4⟩
theorem k_retN (W : WS p l e R s m args below meth c Z a0 EL nw n0 y code maxL ret T h sf cells slots) {z z' : Int32} {t : FieldType} (d : D code pc .ireturn 1 pc') (hr : ret = some t) (ht : t = .boolean ∨ t = .byte ∨ t = .char ∨ t = .short) (hz : nar t z = z') (so : List Addr) (hso : ∀ x ∈ so, x ∈ sf) (hc : cells ≤ rm.cells) (hs : slots ≤ rm.slots) (q : Q (some (.int z')) h so) : WP p e below (Fne s n0 Z EL nw rm Q) T (mkF m pc L (.int z :: S)) := by
  have hret : meth.sig.returnType = ret := by obtain ⟨_, _, _, _, _, _, _, _, _, _, _, _, _, _, q, -⟩ := W; exact q
  obtain ⟨fs, q1, q2, q3, q4⟩ := W.fin so hso (v := some (.int z')) (fun u => by rw [hret, hr] at u; cases u) hc hs q
  obtain ⟨locs, X, -⟩ := id W
  subst hz
  exact ⟨_, _, retN X W.hx (t := t) (hret.trans hr) ht (W.hd d) q1, q2, q3, q4⟩
theorem k_lreturn (W : WS p l e R s m args below meth c Z a0 EL nw n0 y code maxL ret T h sf cells slots) {z : Int64} (d : D code pc .lreturn 1 pc') (hr : ret = some .long) (so : List Addr) (hso : ∀ x ∈ so, x ∈ sf) (hc : cells ≤ rm.cells) (hs : slots ≤ rm.slots) (q : Q (some (.long z)) h so) : WP p e below (Fne s n0 Z EL nw rm Q) T (mkF m pc L (.long z :: S)) := by
  have hret : meth.sig.returnType = ret := by obtain ⟨_, _, _, _, _, _, _, _, _, _, _, _, _, _, q, -⟩ := W; exact q
  obtain ⟨fs, q1, q2, q3, q4⟩ := W.fin so hso (v := some (.long z)) (fun u => by rw [hret, hr] at u; cases u) hc hs q
  obtain ⟨locs, X, -⟩ := id W
  exact ⟨_, _, retOut X W.hx (hret.trans hr) rfl (Or.inr (Or.inl ⟨rfl, rfl, z, rfl⟩)) (W.hd d) q1, q2, q3, q4⟩
theorem k_areturn (W : WS p l e R s m args below meth c Z a0 EL nw n0 y code maxL ret T h sf cells slots) {v : Value} {t : FieldType} (d : D code pc .areturn 1 pc') (hr : ret = some t) (ht : t.isReference = true) (hv : v.isRef = true) (so : List Addr) (hso : ∀ x ∈ so, x ∈ sf) (hc : cells ≤ rm.cells) (hs : slots ≤ rm.slots) (q : Q (some v) h so) : WP p e below (Fne s n0 Z EL nw rm Q) T (mkF m pc L (v :: S)) := by
  have hret : meth.sig.returnType = ret := by obtain ⟨_, _, _, _, _, _, _, _, _, _, _, _, _, _, q, -⟩ := W; exact q
  obtain ⟨fs, q1, q2, q3, q4⟩ := W.fin so hso (v := some v) (fun u => by rw [hret, hr] at u; cases u) hc hs q
  obtain ⟨locs, X, -⟩ := id W
  have hn : narrow t v = v := by cases t <;> simp_all [narrow, FieldType.isReference]
  exact ⟨_, _, retOut X W.hx (hret.trans hr) hn (Or.inr (Or.inr (Or.inr (Or.inr ⟨rfl, ht, hv⟩)))) (W.hd d) q1, q2, q3, q4⟩
end Ends

/-! ## steps on the heap -/
section Steps
variable {p : Program} {l : Launch} {e : Env} {R : Room} {s : State} {m : MethodId} {args : Array Value} {below : List Frame} {meth : Method} {c : Code} {Z : State} {EL : List (String × Nat)} {nw : Bool} {n0 : Nat} {y : MethodName} {code : ByteArray} {maxL : Nat} {ret : Option FieldType} {T : State} {h : Heap} {sf : List Addr} {cells slots : Nat} {Φ : Outcome → State → Prop} {a0 : Array Value} {pc pc' : Nat} {L : Array Slot} {S : List Value}
abbrev catS (S : List Value) : Nat := (S.map fun v => v.category).sum
abbrev Ix (j : Int32) (i : Nat) : Prop := ¬ j < 0 ∧ j.toNatClampNeg = i
theorem Ix.ok {j : Int32} {i n : Nat} (q : Ix j i) (hi : i < n) : ¬ (j < 0 ∨ n ≤ j.toNatClampNeg) := by
  rintro (u | u)
  · exact q.1 u
  · rw [q.2] at u; omega

theorem k_getF (W : WS p l e R s m args below meth c Z a0 EL nw n0 y code maxL ret T h sf cells slots) {index : Nat} {R0 O n d host : String} (dd : D code pc (.getfield index) 3 pc') (w : (Cond.fieldLink y.cls index R0 n d).before a0 Z = true ∨ (Cond.fieldLinkNest y.cls index R0 n d host).before a0 Z = true) (via : Via Z R0 O n d) {a : Addr} {v : Value} (F : Fld Z h a O n d v)
    (k : ∀ T', WS p l e R s m args below meth c Z a0 EL nw n0 y code maxL ret T' h sf cells slots → WP p e below Φ T' (mkF m pc' L (v :: S))) : WP p e below Φ T (mkF m pc L (.ref a :: S)) := by
  obtain ⟨locs, X, eT, hS, hZ, hown, hC, hN, hn, hsf, hE, hWm, b1, b2, b3, b4, b5, b6⟩ := id W
  obtain ⟨T', X', e', st⟩ := getF X W.hx hZ hown w via eT F (g := mkF m pc L (.ref a :: S)) rfl rfl (W.hd dd)
  obtain ⟨hd, rfl⟩ := dd
  exact WP.st (fun t q => st t q) (k T' (W.pack X' e' hN (Nat.le_refl _) (fun H => ⟨H, fun _ q => q⟩) (fun x hx => Or.inl hx)))

theorem k_getS (W : WS p l e R s m args below meth c Z a0 EL nw n0 y code maxL ret T h sf cells slots) {index : Nat} {R0 O n d : String} (dd : D code pc (.getstatic index) 3 pc') (w : (Cond.fieldLink y.cls index R0 n d).before a0 Z = true) (via : Via Z R0 O n d) {v : Value} (F : Sta Z h O n d v)
    (k : ∀ T', WS p l e R s m args below meth c Z a0 EL nw n0 y code maxL ret T' h sf cells slots → WP p e below Φ T' (mkF m pc' L (v :: S))) : WP p e below Φ T (mkF m pc L (S)) := by
  obtain ⟨locs, X, eT, hS, hZ, hown, hC, hN, hn, hsf, hE, hWm, b1, b2, b3, b4, b5, b6⟩ := id W
  obtain ⟨T', X', e', st⟩ := getS X W.hx hZ (host := "") hown w via eT F (g := mkF m pc L S) rfl (W.hd dd)
  obtain ⟨hd, rfl⟩ := dd
  exact WP.st (fun t q => st t q) (k T' (W.pack X' e' hN (Nat.le_refl _) (fun H => ⟨H, fun _ q => q⟩) (fun x hx => Or.inl hx)))

theorem k_putF (W : WS p l e R s m args below meth c Z a0 EL nw n0 y code maxL ret T h sf cells slots) {index kk : Nat} {R0 O n d C : String} {ty : FieldType} (dd : D code pc (.putfield index) 3 pc') (w : (Cond.fieldLink y.cls index R0 n d).before a0 Z = true) (via : Via Z R0 O n d) {a : Addr} {v v' old : Value} (ha : a ∈ sf) (F : Fld Z h a O n d old) (E : Exa Z h a C)
    (Lw : (Cond.lays C O n d).before a0 Z = true ∨ ((Cond.laysFinal C O n d).before a0 Z = true ∧ y.cls = O ∧ y.name = "<init>")) (wi : (Cond.instantiable C kk).before a0 Z = true) (hty : parseFieldDescriptor d = some ty) (hnr : narrow ty v = v') (hf : fits ty v' = true)
    (k : ∀ T' h', WS p l e R s m args below meth c Z a0 EL nw n0 y code maxL ret T' h' sf cells slots → Wr h h' a (Jvm.RoadKit.slotOf Z O n d) v' → WP p e below Φ T' (mkF m pc' L (S))) : WP p e below Φ T (mkF m pc L (v :: .ref a :: S)) := by
  obtain ⟨locs, X, eT, hS, hZ, hown, hC, hN, hn, hsf, hE, hWm, b1, b2, b3, b4, b5, b6⟩ := id W
  obtain ⟨T', h', X', e', Wh, st⟩ := putFN X W.hx hZ hown w via eT F E (Lw.imp id fun q => ⟨q.1, q.2.1, b6.trans q.2.2⟩) wi hty hnr hf (g := mkF m pc L (v :: .ref a :: S)) rfl rfl (W.hd dd)
  obtain ⟨hd, rfl⟩ := dd
  exact WP.st (fun t q => st t q) (k T' h' (W.pack X' e' (Fr.snoc X' hN (hsf a ha).1) (Nat.le_of_eq Wh.size.symm) (fun H => H.wrStep Wh (hsf a ha).2.2) (fun x hx => Or.inl hx)) Wh)

theorem k_new (W : WS p l e R s m args below meth c Z a0 EL nw n0 y code maxL ret T h sf cells slots) {index n : Nat} {C : String} (c' s' : Nat) (dd : D code pc (.new index) 3 pc') (w : (Cond.classLink y.cls index C).before a0 Z = true) (wi : (Cond.instantiable C n).before a0 Z = true) (wz : (Cond.initialized C).before a0 Z = true) (hc : cells + 1 = c' ∧ c' ≤ R.cells) (hl : slots + n = s' ∧ s' ≤ R.slots)
    (k : ∀ T' h' a, a = h.size → WS p l e R s m args below meth c Z a0 EL nw n0 y code maxL ret T' h' (a :: sf) c' s' → Ext h h' → Exa Z h' a C → (∀ {O nm d : String} {ty : FieldType}, Laid Z a0 C O nm d → parseFieldDescriptor d = some ty → Fld Z h' a O nm d (defaultValue ty)) → WP p e below Φ T' (mkF m pc' L (.ref a :: S))) : WP p e below Φ T (mkF m pc L (S)) := by
  obtain ⟨locs, X, eT, hS, hZ, hown, hC, hN, hn, hsf, hE, hWm, b1, b2, b3, b4, b5, b6⟩ := id W
  obtain ⟨rfl, hc⟩ := hc
  obtain ⟨rfl, hl⟩ := hl
  obtain ⟨T', h', X', e', E, A, Dd, -, st⟩ := newO X W.hx hZ hown w wi wz eT (g := mkF m pc L S) rfl (W.hd dd) hc hl
  obtain ⟨hd, rfl⟩ := dd
  exact WP.st (fun t q => st t q) (k T' h' _ rfl (W.pack X' e' hN E.1 (fun H => H.step fun _ _ _ q => E.2 _ _ q) (fun x hx => (List.mem_cons.mp hx).elim (fun q => Or.inr (by subst q; exact ⟨Nat.le_refl _, A.lt⟩)) Or.inl)) E A Dd)

theorem k_newarr (W : WS p l e R s m args below meth c Z a0 EL nw n0 y code maxL ret T h sf cells slots) {aty : ArrayType} {z : Int32} (n c' s' : Nat) (dd : D code pc (.newarray aty) 2 pc') (w : (Cond.arrayClass (newarray.typeOf aty)).before a0 Z = true) (hz : Ix z n) (hb : n * 8 ≤ 536870912) (hc : cells + 1 = c' ∧ c' ≤ R.cells) (hl : slots + n = s' ∧ s' ≤ R.slots)
    (k : ∀ T' h' a, a = h.size → WS p l e R s m args below meth c Z a0 EL nw n0 y code maxL ret T' h' (a :: sf) c' s' → Ext h h' → Av Z h' a (newarray.typeOf aty) (List.replicate n (defaultValue (newarray.typeOf aty))) → WP p e below Φ T' (mkF m pc' L (.ref a :: S))) : WP p e below Φ T (mkF m pc L (.int z :: S)) := by
  obtain ⟨locs, X, eT, hS, hZ, hown, hC, hN, hn, hsf, hE, hWm, b1, b2, b3, b4, b5, b6⟩ := id W
  obtain ⟨rfl, hc⟩ := hc
  obtain ⟨rfl, hl⟩ := hl
  obtain ⟨T', h', cA, X', e', E, A, st⟩ := newP X W.hx hZ w eT (g := mkF m pc L (.int z :: S)) rfl (W.hd dd) rfl hz.1 (cap := n) (Nat.le_of_eq hz.2) hb hc hl
  obtain ⟨hd, rfl⟩ := dd
  exact WP.st (fun t q => st t q) (k T' h' _ rfl (W.pack X' e' hN E.1 (fun H => H.step fun _ _ _ q => E.2 _ _ q) (fun x hx => (List.mem_cons.mp hx).elim (fun q => Or.inr (by subst q; exact ⟨Nat.le_refl _, A.lt⟩)) Or.inl)) E (Av.new A n hz.2))

theorem k_castore (W : WS p l e R s m args below meth c Z a0 EL nw n0 y code maxL ret T h sf cells slots) {a : Addr} {vs : List Value} {j x z : Int32} (i : Nat) (dd : D code pc (.castore) 1 pc') (ha : a ∈ sf) (F : Av Z h a .char vs) (hj : Ix j i) (hi : i < vs.length) (hz : nar .char x = z) (hf : fits .char (.int z) = true)
    (k : ∀ T' h', WS p l e R s m args below meth c Z a0 EL nw n0 y code maxL ret T' h' sf cells slots → Wr h h' a i (.int z) → Av Z h' a .char (vs.set i (.int z)) → WP p e below Φ T' (mkF m pc' L (S))) : WP p e below Φ T (mkF m pc L (.int x :: .int j :: .ref a :: S)) := by
  obtain ⟨locs, X, eT, hS, hZ, hown, hC, hN, hn, hsf, hE, hWm, b1, b2, b3, b4, b5, b6⟩ := id W
  obtain ⟨cl, A, r1, r2, r3⟩ := id F
  have hsz : cl.slots.size = vs.length := by rw [← r1]; simp
  obtain ⟨T', h', X', e', Wh, st⟩ := stC X W.hx hZ eT A (j := j) (x := x) (hj.ok (by rw [hsz]; exact hi)) (g := mkF m pc L (.int x :: .int j :: .ref a :: S)) rfl rfl (W.hd dd)
  rw [hj.2] at X' Wh
  subst hz
  obtain ⟨hd, rfl⟩ := dd
  exact WP.st (fun t q => st t q) (k T' h' (W.pack X' e' (Fr.snoc X' hN (hsf a ha).1) (Nat.le_of_eq Wh.size.symm) (fun H => H.wrStep Wh (hsf a ha).2.2) (fun x hx => Or.inl hx)) Wh (F.set Wh hf))

theorem k_bastore (W : WS p l e R s m args below meth c Z a0 EL nw n0 y code maxL ret T h sf cells slots) {a : Addr} {vs : List Value} {j x z : Int32} (i : Nat) (dd : D code pc (.bastore) 1 pc') (ha : a ∈ sf) (F : Av Z h a .byte vs) (hj : Ix j i) (hi : i < vs.length) (hz : nar .byte x = z) (hf : fits .byte (.int z) = true)
    (k : ∀ T' h', WS p l e R s m args below meth c Z a0 EL nw n0 y code maxL ret T' h' sf cells slots → Wr h h' a i (.int z) → Av Z h' a .byte (vs.set i (.int z)) → WP p e below Φ T' (mkF m pc' L (S))) : WP p e below Φ T (mkF m pc L (.int x :: .int j :: .ref a :: S)) := by
  obtain ⟨locs, X, eT, hS, hZ, hown, hC, hN, hn, hsf, hE, hWm, b1, b2, b3, b4, b5, b6⟩ := id W
  obtain ⟨cl, A, r1, r2, r3⟩ := id F
  have hsz : cl.slots.size = vs.length := by rw [← r1]; simp
  obtain ⟨T', h', X', e', Wh, st⟩ := stB X W.hx hZ eT A (j := j) (x := x) (hj.ok (by rw [hsz]; exact hi)) (g := mkF m pc L (.int x :: .int j :: .ref a :: S)) rfl rfl (W.hd dd)
  rw [hj.2] at X' Wh
  subst hz
  obtain ⟨hd, rfl⟩ := dd
  exact WP.st (fun t q => st t q) (k T' h' (W.pack X' e' (Fr.snoc X' hN (hsf a ha).1) (Nat.le_of_eq Wh.size.symm) (fun H => H.wrStep Wh (hsf a ha).2.2) (fun x hx => Or.inl hx)) Wh (F.set Wh hf))

theorem k_iastore (W : WS p l e R s m args below meth c Z a0 EL nw n0 y code maxL ret T h sf cells slots) {a : Addr} {vs : List Value} {j x z : Int32} (i : Nat) (dd : D code pc (.iastore) 1 pc') (ha : a ∈ sf) (F : Av Z h a .int vs) (hj : Ix j i) (hi : i < vs.length) (hz : x = z) (hf : fits .int (.int z) = true)
    (k : ∀ T' h', WS p l e R s m args below meth c Z a0 EL nw n0 y code maxL ret T' h' sf cells slots → Wr h h' a i (.int z) → Av Z h' a .int (vs.set i (.int z)) → WP p e below Φ T' (mkF m pc' L (S))) : WP p e below Φ T (mkF m pc L (.int x :: .int j :: .ref a :: S)) := by
  obtain ⟨locs, X, eT, hS, hZ, hown, hC, hN, hn, hsf, hE, hWm, b1, b2, b3, b4, b5, b6⟩ := id W
  obtain ⟨cl, A, r1, r2, r3⟩ := id F
  have hsz : cl.slots.size = vs.length := by rw [← r1]; simp
  obtain ⟨T', h', X', e', Wh, st⟩ := stI X W.hx hZ eT A (j := j) (x := x) (hj.ok (by rw [hsz]; exact hi)) (g := mkF m pc L (.int x :: .int j :: .ref a :: S)) rfl rfl (W.hd dd)
  rw [hj.2] at X' Wh
  subst hz
  obtain ⟨hd, rfl⟩ := dd
  exact WP.st (fun t q => st t q) (k T' h' (W.pack X' e' (Fr.snoc X' hN (hsf a ha).1) (Nat.le_of_eq Wh.size.symm) (fun H => H.wrStep Wh (hsf a ha).2.2) (fun x hx => Or.inl hx)) Wh (F.set Wh hf))

theorem k_sastore (W : WS p l e R s m args below meth c Z a0 EL nw n0 y code maxL ret T h sf cells slots) {a : Addr} {vs : List Value} {j x z : Int32} (i : Nat) (dd : D code pc (.sastore) 1 pc') (ha : a ∈ sf) (F : Av Z h a .short vs) (hj : Ix j i) (hi : i < vs.length) (hz : nar .short x = z) (hf : fits .short (.int z) = true)
    (k : ∀ T' h', WS p l e R s m args below meth c Z a0 EL nw n0 y code maxL ret T' h' sf cells slots → Wr h h' a i (.int z) → Av Z h' a .short (vs.set i (.int z)) → WP p e below Φ T' (mkF m pc' L (S))) : WP p e below Φ T (mkF m pc L (.int x :: .int j :: .ref a :: S)) := by
  obtain ⟨locs, X, eT, hS, hZ, hown, hC, hN, hn, hsf, hE, hWm, b1, b2, b3, b4, b5, b6⟩ := id W
  obtain ⟨cl, A, r1, r2, r3⟩ := id F
  have hsz : cl.slots.size = vs.length := by rw [← r1]; simp
  obtain ⟨T', h', X', e', Wh, st⟩ := stS X W.hx hZ eT A (j := j) (x := x) (hj.ok (by rw [hsz]; exact hi)) (g := mkF m pc L (.int x :: .int j :: .ref a :: S)) rfl rfl (W.hd dd)
  rw [hj.2] at X' Wh
  subst hz
  obtain ⟨hd, rfl⟩ := dd
  exact WP.st (fun t q => st t q) (k T' h' (W.pack X' e' (Fr.snoc X' hN (hsf a ha).1) (Nat.le_of_eq Wh.size.symm) (fun H => H.wrStep Wh (hsf a ha).2.2) (fun x hx => Or.inl hx)) Wh (F.set Wh hf))

theorem k_zastore (W : WS p l e R s m args below meth c Z a0 EL nw n0 y code maxL ret T h sf cells slots) {a : Addr} {vs : List Value} {j x z : Int32} (i : Nat) (dd : D code pc (.bastore) 1 pc') (ha : a ∈ sf) (F : Av Z h a .boolean vs) (hj : Ix j i) (hi : i < vs.length) (hz : nar .boolean x = z) (hf : fits .boolean (.int z) = true)
    (k : ∀ T' h', WS p l e R s m args below meth c Z a0 EL nw n0 y code maxL ret T' h' sf cells slots → Wr h h' a i (.int z) → Av Z h' a .boolean (vs.set i (.int z)) → WP p e below Φ T' (mkF m pc' L (S))) : WP p e below Φ T (mkF m pc L (.int x :: .int j :: .ref a :: S)) := by
  obtain ⟨locs, X, eT, hS, hZ, hown, hC, hN, hn, hsf, hE, hWm, b1, b2, b3, b4, b5, b6⟩ := id W
  obtain ⟨cl, A, r1, r2, r3⟩ := id F
  have hsz : cl.slots.size = vs.length := by rw [← r1]; simp
  obtain ⟨T', h', X', e', Wh, st⟩ := stZ X W.hx hZ eT A (j := j) (x := x) (hj.ok (by rw [hsz]; exact hi)) (g := mkF m pc L (.int x :: .int j :: .ref a :: S)) rfl rfl (W.hd dd)
  rw [hj.2] at X' Wh
  subst hz
  obtain ⟨hd, rfl⟩ := dd
  exact WP.st (fun t q => st t q) (k T' h' (W.pack X' e' (Fr.snoc X' hN (hsf a ha).1) (Nat.le_of_eq Wh.size.symm) (fun H => H.wrStep Wh (hsf a ha).2.2) (fun x hx => Or.inl hx)) Wh (F.set Wh hf))

theorem k_caload (W : WS p l e R s m args below meth c Z a0 EL nw n0 y code maxL ret T h sf cells slots) {a : Addr} {vs : List Value} {j : Int32} {v : Value} (i : Nat) (dd : D code pc (.caload) 1 pc') (F : Av Z h a .char vs) (hj : Ix j i) (hi : vs[i]? = some v)
    (w : WP p e below Φ T (mkF m pc' L (v :: S))) : WP p e below Φ T (mkF m pc L (.int j :: .ref a :: S)) := by
  obtain ⟨locs, X, eT, hS, hZ, hown, hC, hN, hn, hsf, hE, hWm, b1, b2, b3, b4, b5, b6⟩ := id W
  obtain ⟨cl, A, r1, r2, r3⟩ := id F
  have hsz : cl.slots.size = vs.length := by rw [← r1]; simp
  have hlt : i < vs.length := (List.getElem?_eq_some_iff.mp hi).1
  have hv : cl.slots[j.toNatClampNeg]? = some v := by rw [hj.2, ← Array.getElem?_toList, r1]; exact hi
  have hA : (s.setVm T.vm).isArrayOf cl .char := State.isArrayOf_alike hZ.alike A.2.1
  obtain ⟨hd, rfl⟩ := id dd
  exact WP.st (fun t q => X.caload W.hx (by rw [eT]; exact A.1) hA A.2.2 (hj.ok (by rw [hsz]; exact hlt)) hv (g := mkF m pc L (.int j :: .ref a :: S)) rfl rfl (W.hd dd) _ q) w

theorem k_iaload (W : WS p l e R s m args below meth c Z a0 EL nw n0 y code maxL ret T h sf cells slots) {a : Addr} {vs : List Value} {j : Int32} {v : Value} (i : Nat) (dd : D code pc (.iaload) 1 pc') (F : Av Z h a .int vs) (hj : Ix j i) (hi : vs[i]? = some v)
    (w : WP p e below Φ T (mkF m pc' L (v :: S))) : WP p e below Φ T (mkF m pc L (.int j :: .ref a :: S)) := by
  obtain ⟨locs, X, eT, hS, hZ, hown, hC, hN, hn, hsf, hE, hWm, b1, b2, b3, b4, b5, b6⟩ := id W
  obtain ⟨cl, A, r1, r2, r3⟩ := id F
  have hsz : cl.slots.size = vs.length := by rw [← r1]; simp
  have hlt : i < vs.length := (List.getElem?_eq_some_iff.mp hi).1
  have hv : cl.slots[j.toNatClampNeg]? = some v := by rw [hj.2, ← Array.getElem?_toList, r1]; exact hi
  have hA : (s.setVm T.vm).isArrayOf cl .int := State.isArrayOf_alike hZ.alike A.2.1
  obtain ⟨hd, rfl⟩ := id dd
  exact WP.st (fun t q => X.iaload W.hx (by rw [eT]; exact A.1) hA A.2.2 (hj.ok (by rw [hsz]; exact hlt)) hv (g := mkF m pc L (.int j :: .ref a :: S)) rfl rfl (W.hd dd) _ q) w

theorem k_baload (W : WS p l e R s m args below meth c Z a0 EL nw n0 y code maxL ret T h sf cells slots) {a : Addr} {vs : List Value} {j : Int32} {v : Value} (i : Nat) (dd : D code pc (.baload) 1 pc') (F : Av Z h a .byte vs) (hj : Ix j i) (hi : vs[i]? = some v)
    (w : WP p e below Φ T (mkF m pc' L (v :: S))) : WP p e below Φ T (mkF m pc L (.int j :: .ref a :: S)) := by
  obtain ⟨locs, X, eT, hS, hZ, hown, hC, hN, hn, hsf, hE, hWm, b1, b2, b3, b4, b5, b6⟩ := id W
  obtain ⟨cl, A, r1, r2, r3⟩ := id F
  have hsz : cl.slots.size = vs.length := by rw [← r1]; simp
  have hlt : i < vs.length := (List.getElem?_eq_some_iff.mp hi).1
  have hv : cl.slots[j.toNatClampNeg]? = some v := by rw [hj.2, ← Array.getElem?_toList, r1]; exact hi
  have hA : (s.setVm T.vm).isArrayOf cl .byte := State.isArrayOf_alike hZ.alike A.2.1
  obtain ⟨hd, rfl⟩ := id dd
  exact WP.st (fun t q => X.baloadBytes W.hx (by rw [eT]; exact A.1) hA A.2.2 (hj.ok (by rw [hsz]; exact hlt)) hv (g := mkF m pc L (.int j :: .ref a :: S)) rfl rfl (W.hd dd) _ q) w

theorem k_aaload (W : WS p l e R s m args below meth c Z a0 EL nw n0 y code maxL ret T h sf cells slots) {a : Addr} {vs : List Value} {ty : FieldType} {j : Int32} {v : Value} (i : Nat) (dd : D code pc .aaload 1 pc') (F : Av Z h a ty vs) (hty : ty.isReference = true) (hj : Ix j i) (hi : vs[i]? = some v)
    (w : WP p e below Φ T (mkF m pc' L (v :: S))) : WP p e below Φ T (mkF m pc L (.int j :: .ref a :: S)) := by
  obtain ⟨locs, X, eT, hS, hZ, hown, hC, hN, hn, hsf, hE, hWm, b1, b2, b3, b4, b5, b6⟩ := id W
  obtain ⟨cl, A, r1, r2, r3⟩ := id F
  have hsz : cl.slots.size = vs.length := by rw [← r1]; simp
  have hlt : i < vs.length := (List.getElem?_eq_some_iff.mp hi).1
  have hv : cl.slots[j.toNatClampNeg]? = some v := by rw [hj.2, ← Array.getElem?_toList, r1]; exact hi
  have hA : (s.setVm T.vm).isArrayOf cl ty := State.isArrayOf_alike hZ.alike A.2.1
  obtain ⟨hd, rfl⟩ := id dd
  exact WP.st (fun t q => X.aaload W.hx (by rw [eT]; exact A.1) hA hty A.2.2 (hj.ok (by rw [hsz]; exact hlt)) hv (g := mkF m pc L (.int j :: .ref a :: S)) rfl rfl (W.hd dd) _ q) w

theorem k_arraylength (W : WS p l e R s m args below meth c Z a0 EL nw n0 y code maxL ret T h sf cells slots) {a : Addr} {ty : FieldType} {vs : List Value} {z : Int32} (dd : D code pc .arraylength 1 pc') (F : Av Z h a ty vs) (hz : vs.length.toInt32 = z) (w : WP p e below Φ T (mkF m pc' L (.int z :: S))) : WP p e below Φ T (mkF m pc L (.ref a :: S)) := by
  obtain ⟨locs, X, eT, hS, hZ, hown, hC, hN, hn, hsf, hE, hWm, b1, b2, b3, b4, b5, b6⟩ := id W
  obtain ⟨cl, A, r1, r2, r3⟩ := id F
  have hsz : cl.slots.size = vs.length := by rw [← r1]; simp
  have hA : (s.setVm T.vm).isArrayOf cl ty := State.isArrayOf_alike hZ.alike A.2.1
  obtain ⟨hd, rfl⟩ := id dd
  exact WP.st (fun t q => X.arraylength W.hx (by rw [eT]; exact A.1) hA (g := mkF m pc L (.ref a :: S)) rfl rfl (W.hd dd) _ (by rw [hsz, hz]; exact q)) w

theorem k_cast (W : WS p l e R s m args below meth c Z a0 EL nw n0 y code maxL ret T h sf cells slots) {index : Nat} {K : String} {a : Addr} (dd : D code pc (.checkcast index) 3 pc') (w : (Cond.classLink y.cls index K).before a0 Z = true) (F : Ins Z h a K true)
    (k : ∀ T', WS p l e R s m args below meth c Z a0 EL nw n0 y code maxL ret T' h sf cells slots → WP p e below Φ T' (mkF m pc' L (.ref a :: S))) : WP p e below Φ T (mkF m pc L (.ref a :: S)) := by
  obtain ⟨locs, X, eT, hS, hZ, hown, hC, hN, hn, hsf, hE, hWm, b1, b2, b3, b4, b5, b6⟩ := id W
  obtain ⟨T', X', e', st⟩ := castY X W.hx hZ hown w eT F (g := mkF m pc L (.ref a :: S)) rfl rfl (W.hd dd)
  obtain ⟨hd, rfl⟩ := dd
  exact WP.st (fun t q => st t q) (k T' (W.pack X' e' hN (Nat.le_refl _) (fun H => ⟨H, fun _ q => q⟩) (fun x hx => Or.inl hx)))
theorem k_instY (W : WS p l e R s m args below meth c Z a0 EL nw n0 y code maxL ret T h sf cells slots) {index : Nat} {K : String} {a : Addr} (dd : D code pc (.instanceof index) 3 pc') (w : (Cond.classLink y.cls index K).before a0 Z = true) (F : Ins Z h a K true)
    (k : ∀ T', WS p l e R s m args below meth c Z a0 EL nw n0 y code maxL ret T' h sf cells slots → WP p e below Φ T' (mkF m pc' L (.int 1 :: S))) : WP p e below Φ T (mkF m pc L (.ref a :: S)) := by
  obtain ⟨locs, X, eT, hS, hZ, hown, hC, hN, hn, hsf, hE, hWm, b1, b2, b3, b4, b5, b6⟩ := id W
  obtain ⟨T', X', e', st⟩ := instY X W.hx hZ hown w eT F (g := mkF m pc L (.ref a :: S)) rfl rfl (W.hd dd)
  obtain ⟨hd, rfl⟩ := dd
  exact WP.st (fun t q => st t q) (k T' (W.pack X' e' hN (Nat.le_refl _) (fun H => ⟨H, fun _ q => q⟩) (fun x hx => Or.inl hx)))

theorem k_ldcI (W : WS p l e R s m args below meth c Z a0 EL nw n0 y code maxL ret T h sf cells slots) {index : Nat} {v : Int32} (dd : D code pc (.ldc index) 2 pc') (w : (Cond.constant y.cls index v).before a0 Z = true) (k : WP p e below Φ T (mkF m pc' L (.int v :: S))) : WP p e below Φ T (mkF m pc L (S)) := by
  obtain ⟨locs, X, eT, hS, hZ, hown, hC, hN, hn, hsf, hE, hWm, b1, b2, b3, b4, b5, b6⟩ := id W
  obtain ⟨hd, rfl⟩ := id dd
  exact WP.st (fun t q => Jvm.Stand.ldcI X W.hx hown (mv (s := s.setVm T.vm) hZ w) (g := mkF m pc L S) rfl (W.hd dd) q) k
theorem k_ldc2J (W : WS p l e R s m args below meth c Z a0 EL nw n0 y code maxL ret T h sf cells slots) {index : Nat} {v : Int64} (dd : D code pc (.ldc2_w index) 3 pc') (w : (Cond.constantLong y.cls index v).before a0 Z = true) (k : WP p e below Φ T (mkF m pc' L (.long v :: S))) : WP p e below Φ T (mkF m pc L (S)) := by
  obtain ⟨locs, X, eT, hS, hZ, hown, hC, hN, hn, hsf, hE, hWm, b1, b2, b3, b4, b5, b6⟩ := id W
  obtain ⟨hd, rfl⟩ := id dd
  exact WP.st (fun t q => Jvm.Stand.ldc2J X W.hx hown (mv (s := s.setVm T.vm) hZ w) (g := mkF m pc L S) rfl (W.hd dd) q) k

theorem k_initO (W : WS p l e R s m args below meth c Z a0 EL nw n0 y code maxL ret T h sf cells slots) {index : Nat} {a : Addr} (Wd : Nat) (dd : D code pc (.invokespecial index) 3 pc') (w1 : (Cond.methodLink y.cls index Lib.objectInit).before a0 Z = true) (w2 : (Cond.instanceMethod Lib.objectInit).before a0 Z = true) (w3 : (Cond.code Lib.objectInit ⟨#[0xb1]⟩ 1 none).before a0 Z = true)
    (hL : L.size = maxL) (hW : catS S ≤ Wd) (hf : 1 ≤ R.frames) (hl : Wd + 12 ≤ R.locals) (k : ∀ T', WS p l e R s m args below meth c Z a0 EL nw n0 y code maxL ret T' h sf cells slots → WP p e below Φ T' (mkF m pc' L (S))) : WP p e below Φ T (mkF m pc L (.ref a :: S)) := by
  obtain ⟨locs, X, eT, hS, hZ, hown, hC, hN, hn, hsf, hE, hWm, b1, b2, b3, b4, b5, b6⟩ := id W
  obtain ⟨T', X', e', st⟩ := initO X W.hx hZ hown w1 w2 w3 eT (g := mkF m pc L (.ref a :: S)) rfl (hL.trans b5.symm) rfl (W.hd dd) hf (W := Wd) (by show 2 * 0 + _ ≤ _; rw [Nat.mul_zero, Nat.zero_add]; exact hW) hl
  obtain ⟨hd, rfl⟩ := dd
  exact WP.st (fun t q => st t q) (k T' (W.pack X' e' hN (Nat.le_refl _) (fun H => ⟨H, fun _ q => q⟩) (fun x hx => Or.inl hx)))

theorem k_ldcO (W : WS p l e R s m args below meth c Z a0 EL nw n0 y code maxL ret T h sf cells slots) {index : Nat} {text : String} (n c' s' : Nat) (hnw : nw = false) (dd : D code pc (.ldc index) 2 pc') (w : (Cond.stringLink y.cls index text).before a0 Z = true) (wS : ∀ a ∈ Bundle.stringAtoms, a.before a0 Z = true) (hn1 : 4 * text.toList.length ≤ n ∧ n ≤ 536870912) (hc : cells + 2 = c' ∧ c' ≤ R.cells) (hl : slots + (n + 4) = s' ∧ s' ≤ R.slots)
    (k : ∀ T' h' a, WS p l e R s m args below meth c Z a0 EL nw n0 y code maxL ret T' h' sf c' s' → Ext h h' → WP p e below Φ T' (mkF m pc' L (.ref a :: S))) : WP p e below Φ T (mkF m pc L (S)) := by
  obtain ⟨locs, X, eT, hS, hZ, hown, hC, hN, hn, hsf, hE, hWm, b1, b2, b3, b4, b5, b6⟩ := id W
  obtain ⟨rfl, hc⟩ := hc
  obtain ⟨rfl, hl⟩ := hl
  obtain ⟨a, T', h', k1, X', e', E, hS', hk', hW', hown', hC', -, st⟩ := ldcOH (EL := EL) X W.hx hZ hown w wS eT hS (Nat.le_refl _) hE hC.1 (g := mkF m pc L S) rfl (W.hd dd) hn1.1 hn1.2 hc hl
  obtain ⟨hd, rfl⟩ := dd
  refine WP.st (fun t q => st t q) (k T' h' a ⟨locs, X', e', ⟨hS'.1, fun j p u v => ⟨(hS'.2 j p u v).1, Nat.lt_of_lt_of_le (hS'.2 j p u v).2 hk'⟩⟩, hW', hown', hC.trans hC', hN, Nat.le_trans hn E.1, fun x hx => ?_, hE, fun u => by (rw [hnw] at u; cases u), b1, b2, b3, b4, b5, b6⟩ E)
  obtain ⟨g1, g2, g3⟩ := hsf x hx
  exact ⟨g1, Nat.lt_of_lt_of_le g2 E.1, hC'.safe g2 g3⟩
theorem k_ldcS (W : WS p l e R s m args below meth c Z a0 EL nw n0 y code maxL ret T h sf cells slots) {index : Nat} {text : String} (bs : List Int32) (n c' s' : Nat) (hnw : nw = false) (dd : D code pc (.ldc index) 2 pc') (w : (Cond.stringLink y.cls index text).before a0 Z = true) (wS : ∀ a ∈ Bundle.stringAtoms, a.before a0 Z = true) (hmem : (y.cls, index) ∈ EL)
    (ht : (∀ c ∈ text.toList, c.toNat < 256) ∧ text.toList.map (fun c => Value.int (Jvm.Lit.byteI c.toNat.toUInt16)) = bs.map Value.int) (hlen : bs.length < 2147483648) (hn1 : 4 * text.toList.length ≤ n ∧ n ≤ 536870912) (hc : cells + 2 = c' ∧ c' ≤ R.cells) (hl : slots + (n + 4) = s' ∧ s' ≤ R.slots)
    (k : ∀ T' h' a b, WS p l e R s m args below meth c Z a0 EL nw n0 y code maxL ret T' h' sf c' s' → Ext h h' → St Z h' a b bs → (∀ x ∈ sf, x ≠ a ∧ x ≠ b) → WP p e below Φ T' (mkF m pc' L (.ref a :: S))) : WP p e below Φ T (mkF m pc L (S)) := by
  obtain ⟨locs, X, eT, hS, hZ, hown, hC, hN, hn, hsf, hE, hWm, b1, b2, b3, b4, b5, b6⟩ := id W
  obtain ⟨rfl, hc⟩ := hc
  obtain ⟨rfl, hl⟩ := hl
  have hzz : (Int32.ofNat bs.length).toNatClampNeg = (bs.map Value.int).length := by
    rw [List.length_map]; unfold Int32.toNatClampNeg; rw [Int32.toInt_ofNat_of_lt (by simpa using hlen)]; rfl
  have hz0 : ¬ Int32.ofNat bs.length < 0 := by
    rw [Int32.lt_iff_toInt_lt, Int32.toInt_ofNat_of_lt (by simpa using hlen)]; simp
  obtain ⟨a, T', h', k1, b, kk, X', e', E, hS', hk', hW', hown', G1, G2, G3, G4, -, -, hC', -, hne, st⟩ := ldcCH (EL := EL) X W.hx hZ hown w wS eT hS (Nat.le_refl _) hE hmem hC.1 (vs := bs.map Value.int) (z := Int32.ofNat bs.length) ht hz0 hzz (g := mkF m pc L S) rfl (W.hd dd) hn1.1 hn1.2 hc hl
  obtain ⟨hd, rfl⟩ := dd
  have hsf' : ∀ x ∈ sf, n0 ≤ x ∧ x < h'.size ∧ Safe Z EL T'.vm h' x := fun x hx => by
    obtain ⟨g1, g2, g3⟩ := hsf x hx
    exact ⟨g1, Nat.lt_of_lt_of_le g2 E.1, hC'.safe g2 g3⟩
  exact WP.st (fun t q => st t q) (k T' h' a b ⟨locs, X', e', ⟨hS'.1, fun j p u v => ⟨(hS'.2 j p u v).1, Nat.lt_of_lt_of_le (hS'.2 j p u v).2 hk'⟩⟩, hW', hown', hC.trans hC', hN, Nat.le_trans hn E.1, hsf', hE, fun u => by (rw [hnw] at u; cases u), b1, b2, b3, b4, b5, b6⟩ E ⟨G1, G2, G3, Av.of_arv G4 hzz⟩ (fun x hx => hne x (hsf' x hx).2.2))
end Steps

/-! ## calls by contract -/
section Calls
variable {p : Program} {l : Launch} {e : Env} {R : Room} {s : State} {m : MethodId} {args : Array Value} {below : List Frame} {meth : Method} {c : Code} {Z : State} {EL : List (String × Nat)} {nw : Bool} {n0 : Nat} {y : MethodName} {code : ByteArray} {maxL : Nat} {ret : Option FieldType} {T : State} {h : Heap} {sf : List Addr} {cells slots : Nat} {Φ : Outcome → State → Prop} {a0 : Array Value} {pc pc' : Nat} {L : Array Slot} {S : List Value}
theorem backCt {z : MethodName} {bytes : ByteArray} {mL : Nat} {rt : Option FieldType} {rm : Room} {as' : Array Value} {sfc : List Addr} {Q : Option Value → Heap → List Addr → Prop} {len Wd : Nat} {vm0 : Vm}
    (hM : Ct l Z a0 EL nw z bytes mL rt rm as' h sfc n0 Q) (hZ : Z.Warmed39 vm0) (wc : (Cond.code z bytes mL rt).before a0 Z = true) (wz : (Cond.initialized z.cls).before a0 Z = true) (hf : rm.frames + 1 ≤ R.frames) (hl : Wd + (mL + 11) + rm.locals ≤ R.locals) (hE : EW Z a0 EL) (hn : n0 ≤ h.size) (H : CHv Z EL vm0 h) (hsf : ∀ x ∈ sfc, n0 ≤ x ∧ x < h.size ∧ Safe Z EL vm0 h x) :
    BackS l R p e below (s.setVm vm0) args z len Wd (fun A a => a = as' ∧ A.U.heap = h ∧ A.cells + rm.cells ≤ R.cells ∧ A.slots + rm.slots ≤ R.slots)
      (fun A _ v B => ∃ L so, Q v B.U.heap so ∧ Fr n0 L ∧ B.locs = A.locs ++ L ∧ B.cells = A.cells + rm.cells ∧ B.slots = A.slots + rm.slots ∧ CHr Z EL vm0 h B.U.vm B.U.heap ∧ (nw = true → (s.setVm vm0).WarmedH B.U.vm) ∧ ∀ x ∈ so, n0 ≤ x ∧ x < B.U.heap.size ∧ Safe Z EL B.U.vm B.U.heap x) := by
  refine BackS.of_freeW (bytes := bytes) (maxL := mL) (ret := rt) (E := fun _ first o t L k n => k = rm.cells ∧ n = rm.slots ∧ ∃ v so, o = .returned v ∧ Q v t.heap so ∧ Fr n0 L ∧ CHr Z EL first.vm first.heap t.vm t.heap ∧ (nw = true → first.WarmedH t.vm) ∧ ∀ x ∈ so, n0 ≤ x ∧ x < t.heap.size ∧ Safe Z EL t.vm t.heap x) (hM []) hf hl ?_ ?_ (fun _ _ _ _ _ _ _ _ _ => trivial) ?_ ?_
  · intro m meth c A a Y hp
    have hU : Z.Warmed39 A.U.vm := wtrans (s := s.setVm vm0) hZ Y.warmed
    exact ⟨by show (Cond.and _ .tt).before a A.U = true; rw [Cond.before_and, mv hU wc]; rfl, mv hU wc, mv hU wz, hp.2.2.1, hp.2.2.2⟩
  · intro m meth c A a g mk Y hp
    have C := CHv.at Y hZ hE H
    refine ⟨hp.1, wtrans (s := s.setVm vm0) hZ Y.warmed, hp.2.1, C.1, hn, hE, fun x hx => ?_⟩
    obtain ⟨q1, q2, q3⟩ := hsf x hx
    exact ⟨q1, q2, C.safe q2 q3⟩
  · rintro a first o t ⟨v, L, so, q1, q2, q3, q4, q5, qw, q6⟩
    exact ⟨L, _, _, q6, rfl, rfl, v, so, q1, q2, q3, q4, qw, q5⟩
  · rintro m meth c A a g mk v t L k n Y hp - - ⟨rfl, rfl, v', so, q1, q2, q3, q4, qw, q5⟩
    cases q1
    refine ⟨L, so, q2, q3, rfl, rfl, rfl, (CHv.at Y hZ hE H).trans ?_, fun u => State.WarmedH.trans Y.warmed (qw u), q5⟩
    rw [← hp.2.1]; exact q4

theorem k_callS (W : WS p l e R s m args below meth c Z a0 EL nw n0 y code maxL ret T h sf cells slots) {z : MethodName} {bytes : ByteArray} {mL : Nat} {rt : Option FieldType} {rm : Room} {sfc : List Addr} {Q : Option Value → Heap → List Addr → Prop} (Wd c' s' : Nat) {argsL rest : List Value} {index : Nat} (dd : D code pc (.invokestatic index) 3 pc') (w1 : (Cond.methodLink y.cls index z).before a0 Z = true) (w2 : (Cond.static z).before a0 Z = true) (hy : z.cls ≠ "java/lang/invoke/MethodHandle" ∧ z.cls ≠ "java/lang/invoke/VarHandle") (hlen : ∀ sig, parseMethodDescriptor z.desc = some sig → argsL.length = sig.parameters.length) (hC : Ct l Z a0 EL nw z bytes mL rt rm argsL.toArray h sfc n0 Q) (w4 : (Cond.code z bytes mL rt).before a0 Z = true) (w3 : (Cond.initialized z.cls).before a0 Z = true) (hsfc : ∀ x ∈ sfc, x ∈ sf) (hL : L.size = maxL) (hW : catS rest ≤ Wd) (hf : rm.frames + 1 ≤ R.frames) (hl : Wd + (mL + 11) + rm.locals ≤ R.locals) (hc : cells + rm.cells = c' ∧ c' ≤ R.cells) (hs : slots + rm.slots = s' ∧ s' ≤ R.slots) (hst : S = argsL.reverse ++ rest) (hnv : ∀ h so, ¬ Q none h so)
    (k : ∀ T' h' (v : Value) so, WS p l e R s m args below meth c Z a0 EL nw n0 y code maxL ret T' h' sf c' s' → Q (some v) h' so → WP p e below Φ T' (mkF m pc' L (v :: rest))) : WP p e below Φ T (mkF m pc L S) := by
  obtain ⟨locs, X, eT, hS, hZ, hown, hC0, hN, hn, hsf, hE, hWm, b1, b2, b3, b4, b5, b6⟩ := id W
  obtain ⟨rfl, hc⟩ := hc
  obtain ⟨rfl, hs⟩ := hs
  have hB := backCt (R := R) (p := p) (e := e) (below := below) (s := s) (args := args) (len := 3) (Wd := Wd) hC hZ w4 w3 hf hl hE hn hC0.1 (fun x hx => hsf x (hsfc x hx))
  obtain ⟨v, vm₁, ⟨U', L', c1, s1⟩, -, X', hS', hg, hpost, st⟩ := callSS X W.hx hown (mvT (s := s.setVm T.vm) hZ w1) (mvT (s := s.setVm T.vm) hZ w2) (mvT (s := s.setVm T.vm) hZ w3) (mvT (s := s.setVm T.vm) hZ w4) hy hB (g := mkF m pc L S) rfl (hL.trans b5.symm) (argsL := argsL) (rest := rest) hlen hst (by show 2 * 0 + _ ≤ _; rw [Nat.mul_zero, Nat.zero_add]; exact hW) (W.hd dd) (fun vm₁ _ => ⟨rfl, eT, hc, hs⟩)
  obtain ⟨L1, so, q1, q2, q3, q4, q5, q6, qw, q7⟩ := hpost
  dsimp only [Pt.U, Pt.locs, Pt.cells, Pt.slots] at X' hS' hg q1 q2 q3 q4 q5 q6 qw q7 st
  subst q3 q4 q5
  obtain ⟨hd, rfl⟩ := dd
  have WW : WS p l e R s m args below meth c Z a0 EL nw n0 y code maxL ret U' U'.heap (so ++ sf) (cells + rm.cells) (slots + rm.slots) := by
    refine ⟨_, X', rfl, hS.trans hS' (by rw [← eT]; exact hg), State.Warmed39.trans (t := s.setVm T.vm) hZ hS'.1, by rw [hS'.1.alike.findClass]; exact hown, hC0.trans q6, hN.app q2, Nat.le_trans hn (by rw [← eT]; exact hg), fun x hx => ?_, hE, fun u => State.WarmedH.trans (t := s.setVm T.vm) (hWm u) (qw u), b1, b2, b3, b4, b5, b6⟩
    rcases List.mem_append.mp hx with u | u
    · exact q7 x u
    · obtain ⟨g1, g2, g3⟩ := hsf x u
      exact ⟨g1, Nat.lt_of_lt_of_le g2 (by rw [← eT]; exact hg), q6.safe g2 g3⟩
  cases v with
  | none => exact absurd q1 (hnv _ _)
  | some v =>
  refine WP.steps st (k _ _ v so (WS.mono (sf' := sf) WW (Nat.le_refl _) (Nat.le_refl _) (fun x hx => List.mem_append_right _ hx)) q1)

theorem k_callS0 (W : WS p l e R s m args below meth c Z a0 EL nw n0 y code maxL ret T h sf cells slots) {z : MethodName} {bytes : ByteArray} {mL : Nat} {rt : Option FieldType} {rm : Room} {sfc : List Addr} {Q : Option Value → Heap → List Addr → Prop} (Wd c' s' : Nat) {argsL rest : List Value} {index : Nat} (dd : D code pc (.invokestatic index) 3 pc') (w1 : (Cond.methodLink y.cls index z).before a0 Z = true) (w2 : (Cond.static z).before a0 Z = true) (hy : z.cls ≠ "java/lang/invoke/MethodHandle" ∧ z.cls ≠ "java/lang/invoke/VarHandle") (hlen : ∀ sig, parseMethodDescriptor z.desc = some sig → argsL.length = sig.parameters.length) (hC : Ct l Z a0 EL nw z bytes mL rt rm argsL.toArray h sfc n0 Q) (w4 : (Cond.code z bytes mL rt).before a0 Z = true) (w3 : (Cond.initialized z.cls).before a0 Z = true) (hsfc : ∀ x ∈ sfc, x ∈ sf) (hL : L.size = maxL) (hW : catS rest ≤ Wd) (hf : rm.frames + 1 ≤ R.frames) (hl : Wd + (mL + 11) + rm.locals ≤ R.locals) (hc : cells + rm.cells = c' ∧ c' ≤ R.cells) (hs : slots + rm.slots = s' ∧ s' ≤ R.slots) (hst : S = argsL.reverse ++ rest) (hnv : ∀ v h so, ¬ Q (some v) h so)
    (k : ∀ T' h'  so, WS p l e R s m args below meth c Z a0 EL nw n0 y code maxL ret T' h' sf c' s' → Q none h' so → WP p e below Φ T' (mkF m pc' L rest)) : WP p e below Φ T (mkF m pc L S) := by
  obtain ⟨locs, X, eT, hS, hZ, hown, hC0, hN, hn, hsf, hE, hWm, b1, b2, b3, b4, b5, b6⟩ := id W
  obtain ⟨rfl, hc⟩ := hc
  obtain ⟨rfl, hs⟩ := hs
  have hB := backCt (R := R) (p := p) (e := e) (below := below) (s := s) (args := args) (len := 3) (Wd := Wd) hC hZ w4 w3 hf hl hE hn hC0.1 (fun x hx => hsf x (hsfc x hx))
  obtain ⟨v, vm₁, ⟨U', L', c1, s1⟩, -, X', hS', hg, hpost, st⟩ := callSS X W.hx hown (mvT (s := s.setVm T.vm) hZ w1) (mvT (s := s.setVm T.vm) hZ w2) (mvT (s := s.setVm T.vm) hZ w3) (mvT (s := s.setVm T.vm) hZ w4) hy hB (g := mkF m pc L S) rfl (hL.trans b5.symm) (argsL := argsL) (rest := rest) hlen hst (by show 2 * 0 + _ ≤ _; rw [Nat.mul_zero, Nat.zero_add]; exact hW) (W.hd dd) (fun vm₁ _ => ⟨rfl, eT, hc, hs⟩)
  obtain ⟨L1, so, q1, q2, q3, q4, q5, q6, qw, q7⟩ := hpost
  dsimp only [Pt.U, Pt.locs, Pt.cells, Pt.slots] at X' hS' hg q1 q2 q3 q4 q5 q6 qw q7 st
  subst q3 q4 q5
  obtain ⟨hd, rfl⟩ := dd
  have WW : WS p l e R s m args below meth c Z a0 EL nw n0 y code maxL ret U' U'.heap (so ++ sf) (cells + rm.cells) (slots + rm.slots) := by
    refine ⟨_, X', rfl, hS.trans hS' (by rw [← eT]; exact hg), State.Warmed39.trans (t := s.setVm T.vm) hZ hS'.1, by rw [hS'.1.alike.findClass]; exact hown, hC0.trans q6, hN.app q2, Nat.le_trans hn (by rw [← eT]; exact hg), fun x hx => ?_, hE, fun u => State.WarmedH.trans (t := s.setVm T.vm) (hWm u) (qw u), b1, b2, b3, b4, b5, b6⟩
    rcases List.mem_append.mp hx with u | u
    · exact q7 x u
    · obtain ⟨g1, g2, g3⟩ := hsf x u
      exact ⟨g1, Nat.lt_of_lt_of_le g2 (by rw [← eT]; exact hg), q6.safe g2 g3⟩
  cases v with
  | some v => exact absurd q1 (hnv _ _ _)
  | none =>
  refine WP.steps st (k _ _ so (WS.mono (sf' := sf) WW (Nat.le_refl _) (Nat.le_refl _) (fun x hx => List.mem_append_right _ hx)) q1)

theorem k_callSn (W : WS p l e R s m args below meth c Z a0 EL nw n0 y code maxL ret T h sf cells slots) {z : MethodName} {bytes : ByteArray} {mL : Nat} {rt : Option FieldType} {rm : Room} {sfc : List Addr} {Q : Option Value → Heap → List Addr → Prop} (Wd c' s' : Nat) {argsL rest : List Value} {index : Nat} (dd : D code pc (.invokestatic index) 3 pc') (w1 : (Cond.methodLink y.cls index z).before a0 Z = true) (w2 : (Cond.static z).before a0 Z = true) (hy : z.cls ≠ "java/lang/invoke/MethodHandle" ∧ z.cls ≠ "java/lang/invoke/VarHandle") (hlen : ∀ sig, parseMethodDescriptor z.desc = some sig → argsL.length = sig.parameters.length) (hC : Ct l Z a0 EL nw z bytes mL rt rm argsL.toArray h sfc n0 Q) (w4 : (Cond.code z bytes mL rt).before a0 Z = true) (w3 : (Cond.initialized z.cls).before a0 Z = true) (hsfc : ∀ x ∈ sfc, x ∈ sf) (hL : L.size = maxL) (hW : catS rest ≤ Wd) (hf : rm.frames + 1 ≤ R.frames) (hl : Wd + (mL + 11) + rm.locals ≤ R.locals) (hc : cells + rm.cells = c' ∧ c' ≤ R.cells) (hs : slots + rm.slots = s' ∧ s' ≤ R.slots) (hst : S = argsL.reverse ++ rest) (hnv : ∀ h so, ¬ Q none h so)
    (k : ∀ T' h' (v : Value) so, WS p l e R s m args below meth c Z a0 EL nw n0 y code maxL ret T' h' (so ++ sf) c' s' → Q (some v) h' so → WP p e below Φ T' (mkF m pc' L (v :: rest))) : WP p e below Φ T (mkF m pc L S) := by
  obtain ⟨locs, X, eT, hS, hZ, hown, hC0, hN, hn, hsf, hE, hWm, b1, b2, b3, b4, b5, b6⟩ := id W
  obtain ⟨rfl, hc⟩ := hc
  obtain ⟨rfl, hs⟩ := hs
  have hB := backCt (R := R) (p := p) (e := e) (below := below) (s := s) (args := args) (len := 3) (Wd := Wd) hC hZ w4 w3 hf hl hE hn hC0.1 (fun x hx => hsf x (hsfc x hx))
  obtain ⟨v, vm₁, ⟨U', L', c1, s1⟩, -, X', hS', hg, hpost, st⟩ := callSS X W.hx hown (mvT (s := s.setVm T.vm) hZ w1) (mvT (s := s.setVm T.vm) hZ w2) (mvT (s := s.setVm T.vm) hZ w3) (mvT (s := s.setVm T.vm) hZ w4) hy hB (g := mkF m pc L S) rfl (hL.trans b5.symm) (argsL := argsL) (rest := rest) hlen hst (by show 2 * 0 + _ ≤ _; rw [Nat.mul_zero, Nat.zero_add]; exact hW) (W.hd dd) (fun vm₁ _ => ⟨rfl, eT, hc, hs⟩)
  obtain ⟨L1, so, q1, q2, q3, q4, q5, q6, qw, q7⟩ := hpost
  dsimp only [Pt.U, Pt.locs, Pt.cells, Pt.slots] at X' hS' hg q1 q2 q3 q4 q5 q6 qw q7 st
  subst q3 q4 q5
  obtain ⟨hd, rfl⟩ := dd
  have WW : WS p l e R s m args below meth c Z a0 EL nw n0 y code maxL ret U' U'.heap (so ++ sf) (cells + rm.cells) (slots + rm.slots) := by
    refine ⟨_, X', rfl, hS.trans hS' (by rw [← eT]; exact hg), State.Warmed39.trans (t := s.setVm T.vm) hZ hS'.1, by rw [hS'.1.alike.findClass]; exact hown, hC0.trans q6, hN.app q2, Nat.le_trans hn (by rw [← eT]; exact hg), fun x hx => ?_, hE, fun u => State.WarmedH.trans (t := s.setVm T.vm) (hWm u) (qw u), b1, b2, b3, b4, b5, b6⟩
    rcases List.mem_append.mp hx with u | u
    · exact q7 x u
    · obtain ⟨g1, g2, g3⟩ := hsf x u
      exact ⟨g1, Nat.lt_of_lt_of_le g2 (by rw [← eT]; exact hg), q6.safe g2 g3⟩
  cases v with
  | none => exact absurd q1 (hnv _ _)
  | some v =>
  refine WP.steps st (k _ _ v so WW q1)

theorem k_callI0 (W : WS p l e R s m args below meth c Z a0 EL nw n0 y code maxL ret T h sf cells slots) {z : MethodName} {bytes : ByteArray} {mL : Nat} {rt : Option FieldType} {rm : Room} {sfc : List Addr} {Q : Option Value → Heap → List Addr → Prop} (Wd c' s' : Nat) {argsL rest : List Value} {index : Nat} {a : Addr} (dd : D code pc (.invokespecial index) 3 pc') (hrt : rt = none) (hz : z.name = "<init>") (w1 : (Cond.methodLink y.cls index z).before a0 Z = true) (w2 : (Cond.instanceMethod z).before a0 Z = true) (hy : z.cls ≠ "java/lang/invoke/MethodHandle" ∧ z.cls ≠ "java/lang/invoke/VarHandle") (hlen : ∀ sig, parseMethodDescriptor z.desc = some sig → argsL.length = sig.parameters.length) (hC : Ct l Z a0 EL nw z bytes mL rt rm (.ref a :: argsL).toArray h sfc n0 Q) (w4 : (Cond.code z bytes mL rt).before a0 Z = true) (w3 : (Cond.initialized z.cls).before a0 Z = true) (hsfc : ∀ x ∈ sfc, x ∈ sf) (hL : L.size = maxL) (hW : catS rest ≤ Wd) (hf : rm.frames + 1 ≤ R.frames) (hl : Wd + (mL + 11) + rm.locals ≤ R.locals) (hc : cells + rm.cells = c' ∧ c' ≤ R.cells) (hs : slots + rm.slots = s' ∧ s' ≤ R.slots) (hst : S = argsL.reverse ++ .ref a :: rest) (hnv : ∀ v h so, ¬ Q (some v) h so)
    (k : ∀ T' h'  so, WS p l e R s m args below meth c Z a0 EL nw n0 y code maxL ret T' h' sf c' s' → Q none h' so → WP p e below Φ T' (mkF m pc' L rest)) : WP p e below Φ T (mkF m pc L S) := by
  obtain ⟨locs, X, eT, hS, hZ, hown, hC0, hN, hn, hsf, hE, hWm, b1, b2, b3, b4, b5, b6⟩ := id W
  obtain ⟨rfl, hc⟩ := hc
  obtain ⟨rfl, hs⟩ := hs
  have hB := backCt (R := R) (p := p) (e := e) (below := below) (s := s) (args := args) (len := 3) (Wd := Wd) hC hZ w4 w3 hf hl hE hn hC0.1 (fun x hx => hsf x (hsfc x hx))
  subst hrt
  obtain ⟨v, vm₁, ⟨U', L', c1, s1⟩, -, X', hS', hg, hpost, st⟩ := X.specialBackS W.hx (y := z) hz hown (mvT (s := s.setVm T.vm) hZ w1) (mvT (s := s.setVm T.vm) hZ w2) (mvT (s := s.setVm T.vm) hZ w4) hy hB (g := mkF m pc L S) rfl (hL.trans b5.symm) (Steps.refl _) (a := a) (argsL := argsL) (rest := rest) hlen hst (by show 2 * 0 + _ ≤ _; rw [Nat.mul_zero, Nat.zero_add]; exact hW) (W.hd dd) (fun vm₁ _ => ⟨rfl, eT, hc, hs⟩)
  obtain ⟨L1, so, q1, q2, q3, q4, q5, q6, qw, q7⟩ := hpost
  dsimp only [Pt.U, Pt.locs, Pt.cells, Pt.slots] at X' hS' hg q1 q2 q3 q4 q5 q6 qw q7 st
  subst q3 q4 q5
  obtain ⟨hd, rfl⟩ := dd
  have WW : WS p l e R s m args below meth c Z a0 EL nw n0 y code maxL ret U' U'.heap (so ++ sf) (cells + rm.cells) (slots + rm.slots) := by
    refine ⟨_, X', rfl, hS.trans hS' (by rw [← eT]; exact hg), State.Warmed39.trans (t := s.setVm T.vm) hZ hS'.1, by rw [hS'.1.alike.findClass]; exact hown, hC0.trans q6, hN.app q2, Nat.le_trans hn (by rw [← eT]; exact hg), fun x hx => ?_, hE, fun u => State.WarmedH.trans (t := s.setVm T.vm) (hWm u) (qw u), b1, b2, b3, b4, b5, b6⟩
    rcases List.mem_append.mp hx with u | u
    · exact q7 x u
    · obtain ⟨g1, g2, g3⟩ := hsf x u
      exact ⟨g1, Nat.lt_of_lt_of_le g2 (by rw [← eT]; exact hg), q6.safe g2 g3⟩
  cases v with
  | some v => exact absurd q1 (hnv _ _ _)
  | none =>
  refine WP.steps st (k _ _ so (WS.mono (sf' := sf) WW (Nat.le_refl _) (Nat.le_refl _) (fun x hx => List.mem_append_right _ hx)) q1)

theorem k_callV (W : WS p l e R s m args below meth c Z a0 EL nw n0 y code maxL ret T h sf cells slots) {z : MethodName} {bytes : ByteArray} {mL : Nat} {rt : Option FieldType} {rm : Room} {sfc : List Addr} {Q : Option Value → Heap → List Addr → Prop} (Wd c' s' : Nat) {argsL rest : List Value} {index : Nat} {a : Addr} {C : String} {z0 : MethodName} (dd : D code pc (.invokevirtual index) 3 pc') (w1 : (Cond.methodLink y.cls index z0).before a0 Z = true) (w2 : (Cond.declares z0).before a0 Z = true) (nf : ∀ s' : State, Z.Warmed39 s'.vm → NotFace s' z0) (w5 : (Cond.selects C z0 z).before a0 Z = true) (w6 : (Cond.instanceMethod z).before a0 Z = true) (hy : z0.cls ≠ "java/lang/invoke/MethodHandle" ∧ z0.cls ≠ "java/lang/invoke/VarHandle") (hlen : ∀ sig, parseMethodDescriptor z0.desc = some sig → argsL.length = sig.parameters.length) (E : Exa Z h a C) (hC : Ct l Z a0 EL nw z bytes mL rt rm (.ref a :: argsL).toArray h sfc n0 Q) (w4 : (Cond.code z bytes mL rt).before a0 Z = true) (w3 : (Cond.initialized z.cls).before a0 Z = true) (hsfc : ∀ x ∈ sfc, x ∈ sf) (hL : L.size = maxL) (hW : catS rest ≤ Wd) (hf : rm.frames + 1 ≤ R.frames) (hl : Wd + (mL + 11) + rm.locals ≤ R.locals) (hc : cells + rm.cells = c' ∧ c' ≤ R.cells) (hs : slots + rm.slots = s' ∧ s' ≤ R.slots) (hst : S = argsL.reverse ++ .ref a :: rest) (hnv : ∀ h so, ¬ Q none h so)
    (k : ∀ T' h' (v : Value) so, WS p l e R s m args below meth c Z a0 EL nw n0 y code maxL ret T' h' sf c' s' → Q (some v) h' so → WP p e below Φ T' (mkF m pc' L (v :: rest))) : WP p e below Φ T (mkF m pc L S) := by
  obtain ⟨locs, X, eT, hS, hZ, hown, hC0, hN, hn, hsf, hE, hWm, b1, b2, b3, b4, b5, b6⟩ := id W
  obtain ⟨rfl, hc⟩ := hc
  obtain ⟨rfl, hs⟩ := hs
  have hB := backCt (R := R) (p := p) (e := e) (below := below) (s := s) (args := args) (len := 3) (Wd := Wd) hC hZ w4 w3 hf hl hE hn hC0.1 (fun x hx => hsf x (hsfc x hx))
  obtain ⟨cq, kq, qa, qb, qc⟩ := isOf (s := s.setVm T.vm) hZ eT E
  obtain ⟨v, vm₁, ⟨U', L', c1, s1⟩, -, X', hS', hg, hpost, st⟩ := X.virtualBackS W.hx (y := z0) (z := z) hown (mvT (s := s.setVm T.vm) hZ w1) (mvT (s := s.setVm T.vm) hZ w2) (nf (s.setVm T.vm) hZ) (mvT (s := s.setVm T.vm) hZ w5) (mvT (s := s.setVm T.vm) hZ w6) hy hB qa qc (g := mkF m pc L S) rfl (hL.trans b5.symm) (Steps.refl _) (argsL := argsL) (rest := rest) hlen hst (by show 2 * 0 + _ ≤ _; rw [Nat.mul_zero, Nat.zero_add]; exact hW) (W.hd dd) (fun vm₁ _ => ⟨rfl, eT, hc, hs⟩)
  obtain ⟨L1, so, q1, q2, q3, q4, q5, q6, qw, q7⟩ := hpost
  dsimp only [Pt.U, Pt.locs, Pt.cells, Pt.slots] at X' hS' hg q1 q2 q3 q4 q5 q6 qw q7 st
  subst q3 q4 q5
  obtain ⟨hd, rfl⟩ := dd
  have WW : WS p l e R s m args below meth c Z a0 EL nw n0 y code maxL ret U' U'.heap (so ++ sf) (cells + rm.cells) (slots + rm.slots) := by
    refine ⟨_, X', rfl, hS.trans hS' (by rw [← eT]; exact hg), State.Warmed39.trans (t := s.setVm T.vm) hZ hS'.1, by rw [hS'.1.alike.findClass]; exact hown, hC0.trans q6, hN.app q2, Nat.le_trans hn (by rw [← eT]; exact hg), fun x hx => ?_, hE, fun u => State.WarmedH.trans (t := s.setVm T.vm) (hWm u) (qw u), b1, b2, b3, b4, b5, b6⟩
    rcases List.mem_append.mp hx with u | u
    · exact q7 x u
    · obtain ⟨g1, g2, g3⟩ := hsf x u
      exact ⟨g1, Nat.lt_of_lt_of_le g2 (by rw [← eT]; exact hg), q6.safe g2 g3⟩
  cases v with
  | none => exact absurd q1 (hnv _ _)
  | some v =>
  refine WP.steps st (k _ _ v so (WS.mono (sf' := sf) WW (Nat.le_refl _) (Nat.le_refl _) (fun x hx => List.mem_append_right _ hx)) q1)

theorem k_callV0 (W : WS p l e R s m args below meth c Z a0 EL nw n0 y code maxL ret T h sf cells slots) {z : MethodName} {bytes : ByteArray} {mL : Nat} {rt : Option FieldType} {rm : Room} {sfc : List Addr} {Q : Option Value → Heap → List Addr → Prop} (Wd c' s' : Nat) {argsL rest : List Value} {index : Nat} {a : Addr} {C : String} {z0 : MethodName} (dd : D code pc (.invokevirtual index) 3 pc') (w1 : (Cond.methodLink y.cls index z0).before a0 Z = true) (w2 : (Cond.declares z0).before a0 Z = true) (nf : ∀ s' : State, Z.Warmed39 s'.vm → NotFace s' z0) (w5 : (Cond.selects C z0 z).before a0 Z = true) (w6 : (Cond.instanceMethod z).before a0 Z = true) (hy : z0.cls ≠ "java/lang/invoke/MethodHandle" ∧ z0.cls ≠ "java/lang/invoke/VarHandle") (hlen : ∀ sig, parseMethodDescriptor z0.desc = some sig → argsL.length = sig.parameters.length) (E : Exa Z h a C) (hC : Ct l Z a0 EL nw z bytes mL rt rm (.ref a :: argsL).toArray h sfc n0 Q) (w4 : (Cond.code z bytes mL rt).before a0 Z = true) (w3 : (Cond.initialized z.cls).before a0 Z = true) (hsfc : ∀ x ∈ sfc, x ∈ sf) (hL : L.size = maxL) (hW : catS rest ≤ Wd) (hf : rm.frames + 1 ≤ R.frames) (hl : Wd + (mL + 11) + rm.locals ≤ R.locals) (hc : cells + rm.cells = c' ∧ c' ≤ R.cells) (hs : slots + rm.slots = s' ∧ s' ≤ R.slots) (hst : S = argsL.reverse ++ .ref a :: rest) (hnv : ∀ v h so, ¬ Q (some v) h so)
    (k : ∀ T' h'  so, WS p l e R s m args below meth c Z a0 EL nw n0 y code maxL ret T' h' sf c' s' → Q none h' so → WP p e below Φ T' (mkF m pc' L rest)) : WP p e below Φ T (mkF m pc L S) := by
  obtain ⟨locs, X, eT, hS, hZ, hown, hC0, hN, hn, hsf, hE, hWm, b1, b2, b3, b4, b5, b6⟩ := id W
  obtain ⟨rfl, hc⟩ := hc
  obtain ⟨rfl, hs⟩ := hs
  have hB := backCt (R := R) (p := p) (e := e) (below := below) (s := s) (args := args) (len := 3) (Wd := Wd) hC hZ w4 w3 hf hl hE hn hC0.1 (fun x hx => hsf x (hsfc x hx))
  obtain ⟨cq, kq, qa, qb, qc⟩ := isOf (s := s.setVm T.vm) hZ eT E
  obtain ⟨v, vm₁, ⟨U', L', c1, s1⟩, -, X', hS', hg, hpost, st⟩ := X.virtualBackS W.hx (y := z0) (z := z) hown (mvT (s := s.setVm T.vm) hZ w1) (mvT (s := s.setVm T.vm) hZ w2) (nf (s.setVm T.vm) hZ) (mvT (s := s.setVm T.vm) hZ w5) (mvT (s := s.setVm T.vm) hZ w6) hy hB qa qc (g := mkF m pc L S) rfl (hL.trans b5.symm) (Steps.refl _) (argsL := argsL) (rest := rest) hlen hst (by show 2 * 0 + _ ≤ _; rw [Nat.mul_zero, Nat.zero_add]; exact hW) (W.hd dd) (fun vm₁ _ => ⟨rfl, eT, hc, hs⟩)
  obtain ⟨L1, so, q1, q2, q3, q4, q5, q6, qw, q7⟩ := hpost
  dsimp only [Pt.U, Pt.locs, Pt.cells, Pt.slots] at X' hS' hg q1 q2 q3 q4 q5 q6 qw q7 st
  subst q3 q4 q5
  obtain ⟨hd, rfl⟩ := dd
  have WW : WS p l e R s m args below meth c Z a0 EL nw n0 y code maxL ret U' U'.heap (so ++ sf) (cells + rm.cells) (slots + rm.slots) := by
    refine ⟨_, X', rfl, hS.trans hS' (by rw [← eT]; exact hg), State.Warmed39.trans (t := s.setVm T.vm) hZ hS'.1, by rw [hS'.1.alike.findClass]; exact hown, hC0.trans q6, hN.app q2, Nat.le_trans hn (by rw [← eT]; exact hg), fun x hx => ?_, hE, fun u => State.WarmedH.trans (t := s.setVm T.vm) (hWm u) (qw u), b1, b2, b3, b4, b5, b6⟩
    rcases List.mem_append.mp hx with u | u
    · exact q7 x u
    · obtain ⟨g1, g2, g3⟩ := hsf x u
      exact ⟨g1, Nat.lt_of_lt_of_le g2 (by rw [← eT]; exact hg), q6.safe g2 g3⟩
  cases v with
  | some v => exact absurd q1 (hnv _ _ _)
  | none =>
  refine WP.steps st (k _ _ so (WS.mono (sf' := sf) WW (Nat.le_refl _) (Nat.le_refl _) (fun x hx => List.mem_append_right _ hx)) q1)

theorem k_callVn (W : WS p l e R s m args below meth c Z a0 EL nw n0 y code maxL ret T h sf cells slots) {z : MethodName} {bytes : ByteArray} {mL : Nat} {rt : Option FieldType} {rm : Room} {sfc : List Addr} {Q : Option Value → Heap → List Addr → Prop} (Wd c' s' : Nat) {argsL rest : List Value} {index : Nat} {a : Addr} {C : String} {z0 : MethodName} (dd : D code pc (.invokevirtual index) 3 pc') (w1 : (Cond.methodLink y.cls index z0).before a0 Z = true) (w2 : (Cond.declares z0).before a0 Z = true) (nf : ∀ s' : State, Z.Warmed39 s'.vm → NotFace s' z0) (w5 : (Cond.selects C z0 z).before a0 Z = true) (w6 : (Cond.instanceMethod z).before a0 Z = true) (hy : z0.cls ≠ "java/lang/invoke/MethodHandle" ∧ z0.cls ≠ "java/lang/invoke/VarHandle") (hlen : ∀ sig, parseMethodDescriptor z0.desc = some sig → argsL.length = sig.parameters.length) (E : Exa Z h a C) (hC : Ct l Z a0 EL nw z bytes mL rt rm (.ref a :: argsL).toArray h sfc n0 Q) (w4 : (Cond.code z bytes mL rt).before a0 Z = true) (w3 : (Cond.initialized z.cls).before a0 Z = true) (hsfc : ∀ x ∈ sfc, x ∈ sf) (hL : L.size = maxL) (hW : catS rest ≤ Wd) (hf : rm.frames + 1 ≤ R.frames) (hl : Wd + (mL + 11) + rm.locals ≤ R.locals) (hc : cells + rm.cells = c' ∧ c' ≤ R.cells) (hs : slots + rm.slots = s' ∧ s' ≤ R.slots) (hst : S = argsL.reverse ++ .ref a :: rest) (hnv : ∀ h so, ¬ Q none h so)
    (k : ∀ T' h' (v : Value) so, WS p l e R s m args below meth c Z a0 EL nw n0 y code maxL ret T' h' (so ++ sf) c' s' → Q (some v) h' so → WP p e below Φ T' (mkF m pc' L (v :: rest))) : WP p e below Φ T (mkF m pc L S) := by
  obtain ⟨locs, X, eT, hS, hZ, hown, hC0, hN, hn, hsf, hE, hWm, b1, b2, b3, b4, b5, b6⟩ := id W
  obtain ⟨rfl, hc⟩ := hc
  obtain ⟨rfl, hs⟩ := hs
  have hB := backCt (R := R) (p := p) (e := e) (below := below) (s := s) (args := args) (len := 3) (Wd := Wd) hC hZ w4 w3 hf hl hE hn hC0.1 (fun x hx => hsf x (hsfc x hx))
  obtain ⟨cq, kq, qa, qb, qc⟩ := isOf (s := s.setVm T.vm) hZ eT E
  obtain ⟨v, vm₁, ⟨U', L', c1, s1⟩, -, X', hS', hg, hpost, st⟩ := X.virtualBackS W.hx (y := z0) (z := z) hown (mvT (s := s.setVm T.vm) hZ w1) (mvT (s := s.setVm T.vm) hZ w2) (nf (s.setVm T.vm) hZ) (mvT (s := s.setVm T.vm) hZ w5) (mvT (s := s.setVm T.vm) hZ w6) hy hB qa qc (g := mkF m pc L S) rfl (hL.trans b5.symm) (Steps.refl _) (argsL := argsL) (rest := rest) hlen hst (by show 2 * 0 + _ ≤ _; rw [Nat.mul_zero, Nat.zero_add]; exact hW) (W.hd dd) (fun vm₁ _ => ⟨rfl, eT, hc, hs⟩)
  obtain ⟨L1, so, q1, q2, q3, q4, q5, q6, qw, q7⟩ := hpost
  dsimp only [Pt.U, Pt.locs, Pt.cells, Pt.slots] at X' hS' hg q1 q2 q3 q4 q5 q6 qw q7 st
  subst q3 q4 q5
  obtain ⟨hd, rfl⟩ := dd
  have WW : WS p l e R s m args below meth c Z a0 EL nw n0 y code maxL ret U' U'.heap (so ++ sf) (cells + rm.cells) (slots + rm.slots) := by
    refine ⟨_, X', rfl, hS.trans hS' (by rw [← eT]; exact hg), State.Warmed39.trans (t := s.setVm T.vm) hZ hS'.1, by rw [hS'.1.alike.findClass]; exact hown, hC0.trans q6, hN.app q2, Nat.le_trans hn (by rw [← eT]; exact hg), fun x hx => ?_, hE, fun u => State.WarmedH.trans (t := s.setVm T.vm) (hWm u) (qw u), b1, b2, b3, b4, b5, b6⟩
    rcases List.mem_append.mp hx with u | u
    · exact q7 x u
    · obtain ⟨g1, g2, g3⟩ := hsf x u
      exact ⟨g1, Nat.lt_of_lt_of_le g2 (by rw [← eT]; exact hg), q6.safe g2 g3⟩
  cases v with
  | none => exact absurd q1 (hnv _ _)
  | some v =>
  refine WP.steps st (k _ _ v so WW q1)

theorem k_callP (W : WS p l e R s m args below meth c Z a0 EL nw n0 y code maxL ret T h sf cells slots) {z : MethodName} {bytes : ByteArray} {mL : Nat} {rt : Option FieldType} {rm : Room} {sfc : List Addr} {Q : Option Value → Heap → List Addr → Prop} (Wd c' s' : Nat) {argsL rest : List Value} {index : Nat} {a : Addr} {C : String} (dd : D code pc (.invokevirtual index) 3 pc') (w1 : (Cond.methodLink y.cls index z).before a0 Z = true) (w2 : (Cond.instanceMethod z).before a0 Z = true) (w5 : (Cond.selects z.cls z z).before a0 Z = true) (w6 : (Cond.privateMethod z).before a0 Z = true) (hy : z.cls ≠ "java/lang/invoke/MethodHandle" ∧ z.cls ≠ "java/lang/invoke/VarHandle") (hlen : ∀ sig, parseMethodDescriptor z.desc = some sig → argsL.length = sig.parameters.length) (E : Exa Z h a C) (hC : Ct l Z a0 EL nw z bytes mL rt rm (.ref a :: argsL).toArray h sfc n0 Q) (w4 : (Cond.code z bytes mL rt).before a0 Z = true) (w3 : (Cond.initialized z.cls).before a0 Z = true) (hsfc : ∀ x ∈ sfc, x ∈ sf) (hL : L.size = maxL) (hW : catS rest ≤ Wd) (hf : rm.frames + 1 ≤ R.frames) (hl : Wd + (mL + 11) + rm.locals ≤ R.locals) (hc : cells + rm.cells = c' ∧ c' ≤ R.cells) (hs : slots + rm.slots = s' ∧ s' ≤ R.slots) (hst : S = argsL.reverse ++ .ref a :: rest) (hnv : ∀ h so, ¬ Q none h so)
    (k : ∀ T' h' (v : Value) so, WS p l e R s m args below meth c Z a0 EL nw n0 y code maxL ret T' h' sf c' s' → Q (some v) h' so → WP p e below Φ T' (mkF m pc' L (v :: rest))) : WP p e below Φ T (mkF m pc L S) := by
  obtain ⟨locs, X, eT, hS, hZ, hown, hC0, hN, hn, hsf, hE, hWm, b1, b2, b3, b4, b5, b6⟩ := id W
  obtain ⟨rfl, hc⟩ := hc
  obtain ⟨rfl, hs⟩ := hs
  have hB := backCt (R := R) (p := p) (e := e) (below := below) (s := s) (args := args) (len := 3) (Wd := Wd) hC hZ w4 w3 hf hl hE hn hC0.1 (fun x hx => hsf x (hsfc x hx))
  obtain ⟨cc, hc1, hc2⟩ := E.cell
  obtain ⟨v, vm₁, ⟨U', L', c1, s1⟩, -, X', hS', hg, hpost, st⟩ := X.privateBackS W.hx (y := z) hown (mvT (s := s.setVm T.vm) hZ w1) (mvT (s := s.setVm T.vm) hZ w2) (mvT (s := s.setVm T.vm) hZ w5) (Cond.privateMethod_at (mvP (s := s.setVm T.vm) hZ w6 (args := #[]))) (mvT (s := s.setVm T.vm) hZ w4) hy hB (g := mkF m pc L S) rfl (hL.trans b5.symm) (Steps.refl _) (a := a) (by rw [eT]; exact hc1) hc2 (argsL := argsL) (rest := rest) hlen hst (by show 2 * 0 + _ ≤ _; rw [Nat.mul_zero, Nat.zero_add]; exact hW) (W.hd dd) (fun vm₁ _ => ⟨rfl, eT, hc, hs⟩)
  obtain ⟨L1, so, q1, q2, q3, q4, q5, q6, qw, q7⟩ := hpost
  dsimp only [Pt.U, Pt.locs, Pt.cells, Pt.slots] at X' hS' hg q1 q2 q3 q4 q5 q6 qw q7 st
  subst q3 q4 q5
  obtain ⟨hd, rfl⟩ := dd
  have WW : WS p l e R s m args below meth c Z a0 EL nw n0 y code maxL ret U' U'.heap (so ++ sf) (cells + rm.cells) (slots + rm.slots) := by
    refine ⟨_, X', rfl, hS.trans hS' (by rw [← eT]; exact hg), State.Warmed39.trans (t := s.setVm T.vm) hZ hS'.1, by rw [hS'.1.alike.findClass]; exact hown, hC0.trans q6, hN.app q2, Nat.le_trans hn (by rw [← eT]; exact hg), fun x hx => ?_, hE, fun u => State.WarmedH.trans (t := s.setVm T.vm) (hWm u) (qw u), b1, b2, b3, b4, b5, b6⟩
    rcases List.mem_append.mp hx with u | u
    · exact q7 x u
    · obtain ⟨g1, g2, g3⟩ := hsf x u
      exact ⟨g1, Nat.lt_of_lt_of_le g2 (by rw [← eT]; exact hg), q6.safe g2 g3⟩
  cases v with
  | none => exact absurd q1 (hnv _ _)
  | some v =>
  refine WP.steps st (k _ _ v so (WS.mono (sf' := sf) WW (Nat.le_refl _) (Nat.le_refl _) (fun x hx => List.mem_append_right _ hx)) q1)

theorem k_callP0 (W : WS p l e R s m args below meth c Z a0 EL nw n0 y code maxL ret T h sf cells slots) {z : MethodName} {bytes : ByteArray} {mL : Nat} {rt : Option FieldType} {rm : Room} {sfc : List Addr} {Q : Option Value → Heap → List Addr → Prop} (Wd c' s' : Nat) {argsL rest : List Value} {index : Nat} {a : Addr} {C : String} (dd : D code pc (.invokevirtual index) 3 pc') (w1 : (Cond.methodLink y.cls index z).before a0 Z = true) (w2 : (Cond.instanceMethod z).before a0 Z = true) (w5 : (Cond.selects z.cls z z).before a0 Z = true) (w6 : (Cond.privateMethod z).before a0 Z = true) (hy : z.cls ≠ "java/lang/invoke/MethodHandle" ∧ z.cls ≠ "java/lang/invoke/VarHandle") (hlen : ∀ sig, parseMethodDescriptor z.desc = some sig → argsL.length = sig.parameters.length) (E : Exa Z h a C) (hC : Ct l Z a0 EL nw z bytes mL rt rm (.ref a :: argsL).toArray h sfc n0 Q) (w4 : (Cond.code z bytes mL rt).before a0 Z = true) (w3 : (Cond.initialized z.cls).before a0 Z = true) (hsfc : ∀ x ∈ sfc, x ∈ sf) (hL : L.size = maxL) (hW : catS rest ≤ Wd) (hf : rm.frames + 1 ≤ R.frames) (hl : Wd + (mL + 11) + rm.locals ≤ R.locals) (hc : cells + rm.cells = c' ∧ c' ≤ R.cells) (hs : slots + rm.slots = s' ∧ s' ≤ R.slots) (hst : S = argsL.reverse ++ .ref a :: rest) (hnv : ∀ v h so, ¬ Q (some v) h so)
    (k : ∀ T' h'  so, WS p l e R s m args below meth c Z a0 EL nw n0 y code maxL ret T' h' sf c' s' → Q none h' so → WP p e below Φ T' (mkF m pc' L rest)) : WP p e below Φ T (mkF m pc L S) := by
  obtain ⟨locs, X, eT, hS, hZ, hown, hC0, hN, hn, hsf, hE, hWm, b1, b2, b3, b4, b5, b6⟩ := id W
  obtain ⟨rfl, hc⟩ := hc
  obtain ⟨rfl, hs⟩ := hs
  have hB := backCt (R := R) (p := p) (e := e) (below := below) (s := s) (args := args) (len := 3) (Wd := Wd) hC hZ w4 w3 hf hl hE hn hC0.1 (fun x hx => hsf x (hsfc x hx))
  obtain ⟨cc, hc1, hc2⟩ := E.cell
  obtain ⟨v, vm₁, ⟨U', L', c1, s1⟩, -, X', hS', hg, hpost, st⟩ := X.privateBackS W.hx (y := z) hown (mvT (s := s.setVm T.vm) hZ w1) (mvT (s := s.setVm T.vm) hZ w2) (mvT (s := s.setVm T.vm) hZ w5) (Cond.privateMethod_at (mvP (s := s.setVm T.vm) hZ w6 (args := #[]))) (mvT (s := s.setVm T.vm) hZ w4) hy hB (g := mkF m pc L S) rfl (hL.trans b5.symm) (Steps.refl _) (a := a) (by rw [eT]; exact hc1) hc2 (argsL := argsL) (rest := rest) hlen hst (by show 2 * 0 + _ ≤ _; rw [Nat.mul_zero, Nat.zero_add]; exact hW) (W.hd dd) (fun vm₁ _ => ⟨rfl, eT, hc, hs⟩)
  obtain ⟨L1, so, q1, q2, q3, q4, q5, q6, qw, q7⟩ := hpost
  dsimp only [Pt.U, Pt.locs, Pt.cells, Pt.slots] at X' hS' hg q1 q2 q3 q4 q5 q6 qw q7 st
  subst q3 q4 q5
  obtain ⟨hd, rfl⟩ := dd
  have WW : WS p l e R s m args below meth c Z a0 EL nw n0 y code maxL ret U' U'.heap (so ++ sf) (cells + rm.cells) (slots + rm.slots) := by
    refine ⟨_, X', rfl, hS.trans hS' (by rw [← eT]; exact hg), State.Warmed39.trans (t := s.setVm T.vm) hZ hS'.1, by rw [hS'.1.alike.findClass]; exact hown, hC0.trans q6, hN.app q2, Nat.le_trans hn (by rw [← eT]; exact hg), fun x hx => ?_, hE, fun u => State.WarmedH.trans (t := s.setVm T.vm) (hWm u) (qw u), b1, b2, b3, b4, b5, b6⟩
    rcases List.mem_append.mp hx with u | u
    · exact q7 x u
    · obtain ⟨g1, g2, g3⟩ := hsf x u
      exact ⟨g1, Nat.lt_of_lt_of_le g2 (by rw [← eT]; exact hg), q6.safe g2 g3⟩
  cases v with
  | some v => exact absurd q1 (hnv _ _ _)
  | none =>
  refine WP.steps st (k _ _ so (WS.mono (sf' := sf) WW (Nat.le_refl _) (Nat.le_refl _) (fun x hx => List.mem_append_right _ hx)) q1)

theorem k_callPn (W : WS p l e R s m args below meth c Z a0 EL nw n0 y code maxL ret T h sf cells slots) {z : MethodName} {bytes : ByteArray} {mL : Nat} {rt : Option FieldType} {rm : Room} {sfc : List Addr} {Q : Option Value → Heap → List Addr → Prop} (Wd c' s' : Nat) {argsL rest : List Value} {index : Nat} {a : Addr} {C : String} (dd : D code pc (.invokevirtual index) 3 pc') (w1 : (Cond.methodLink y.cls index z).before a0 Z = true) (w2 : (Cond.instanceMethod z).before a0 Z = true) (w5 : (Cond.selects z.cls z z).before a0 Z = true) (w6 : (Cond.privateMethod z).before a0 Z = true) (hy : z.cls ≠ "java/lang/invoke/MethodHandle" ∧ z.cls ≠ "java/lang/invoke/VarHandle") (hlen : ∀ sig, parseMethodDescriptor z.desc = some sig → argsL.length = sig.parameters.length) (E : Exa Z h a C) (hC : Ct l Z a0 EL nw z bytes mL rt rm (.ref a :: argsL).toArray h sfc n0 Q) (w4 : (Cond.code z bytes mL rt).before a0 Z = true) (w3 : (Cond.initialized z.cls).before a0 Z = true) (hsfc : ∀ x ∈ sfc, x ∈ sf) (hL : L.size = maxL) (hW : catS rest ≤ Wd) (hf : rm.frames + 1 ≤ R.frames) (hl : Wd + (mL + 11) + rm.locals ≤ R.locals) (hc : cells + rm.cells = c' ∧ c' ≤ R.cells) (hs : slots + rm.slots = s' ∧ s' ≤ R.slots) (hst : S = argsL.reverse ++ .ref a :: rest) (hnv : ∀ h so, ¬ Q none h so)
    (k : ∀ T' h' (v : Value) so, WS p l e R s m args below meth c Z a0 EL nw n0 y code maxL ret T' h' (so ++ sf) c' s' → Q (some v) h' so → WP p e below Φ T' (mkF m pc' L (v :: rest))) : WP p e below Φ T (mkF m pc L S) := by
  obtain ⟨locs, X, eT, hS, hZ, hown, hC0, hN, hn, hsf, hE, hWm, b1, b2, b3, b4, b5, b6⟩ := id W
  obtain ⟨rfl, hc⟩ := hc
  obtain ⟨rfl, hs⟩ := hs
  have hB := backCt (R := R) (p := p) (e := e) (below := below) (s := s) (args := args) (len := 3) (Wd := Wd) hC hZ w4 w3 hf hl hE hn hC0.1 (fun x hx => hsf x (hsfc x hx))
  obtain ⟨cc, hc1, hc2⟩ := E.cell
  obtain ⟨v, vm₁, ⟨U', L', c1, s1⟩, -, X', hS', hg, hpost, st⟩ := X.privateBackS W.hx (y := z) hown (mvT (s := s.setVm T.vm) hZ w1) (mvT (s := s.setVm T.vm) hZ w2) (mvT (s := s.setVm T.vm) hZ w5) (Cond.privateMethod_at (mvP (s := s.setVm T.vm) hZ w6 (args := #[]))) (mvT (s := s.setVm T.vm) hZ w4) hy hB (g := mkF m pc L S) rfl (hL.trans b5.symm) (Steps.refl _) (a := a) (by rw [eT]; exact hc1) hc2 (argsL := argsL) (rest := rest) hlen hst (by show 2 * 0 + _ ≤ _; rw [Nat.mul_zero, Nat.zero_add]; exact hW) (W.hd dd) (fun vm₁ _ => ⟨rfl, eT, hc, hs⟩)
  obtain ⟨L1, so, q1, q2, q3, q4, q5, q6, qw, q7⟩ := hpost
  dsimp only [Pt.U, Pt.locs, Pt.cells, Pt.slots] at X' hS' hg q1 q2 q3 q4 q5 q6 qw q7 st
  subst q3 q4 q5
  obtain ⟨hd, rfl⟩ := dd
  have WW : WS p l e R s m args below meth c Z a0 EL nw n0 y code maxL ret U' U'.heap (so ++ sf) (cells + rm.cells) (slots + rm.slots) := by
    refine ⟨_, X', rfl, hS.trans hS' (by rw [← eT]; exact hg), State.Warmed39.trans (t := s.setVm T.vm) hZ hS'.1, by rw [hS'.1.alike.findClass]; exact hown, hC0.trans q6, hN.app q2, Nat.le_trans hn (by rw [← eT]; exact hg), fun x hx => ?_, hE, fun u => State.WarmedH.trans (t := s.setVm T.vm) (hWm u) (qw u), b1, b2, b3, b4, b5, b6⟩
    rcases List.mem_append.mp hx with u | u
    · exact q7 x u
    · obtain ⟨g1, g2, g3⟩ := hsf x u
      exact ⟨g1, Nat.lt_of_lt_of_le g2 (by rw [← eT]; exact hg), q6.safe g2 g3⟩
  cases v with
  | none => exact absurd q1 (hnv _ _)
  | some v =>
  refine WP.steps st (k _ _ v so WW q1)

theorem nfSel {C : String} {z0 : MethodName} (w : (Cond.selects C z0 z0).before a0 Z = true) (s' : State) (hZ : Z.Warmed39 s'.vm) : NotFace s' z0 := notFace_of_selects (args := #[]) (mvT hZ w)
end Calls

/-! ## facts out of the case's words -/
section Start
variable {args : Array Value} {Z : State} {t u : Term} {a : Addr} {C n d : String} {v : Value} {ty : FieldType} {z : Int32} {vs : List Value}
theorem eq_start (h : (Cond.eq t (Term.int z)).value args Z none Z [] = some true) : t.eval args Z none [] Z = some (.int z) := by
  have hz : (Term.int z).eval args Z none [] Z = some (.int z) := rfl
  simp only [Cond.value, hz] at h
  cases ht : t.eval args Z none [] Z with
  | none => rw [ht] at h; cases h
  | some w => cases w <;> simp [ht] at h; rw [h]
theorem eqR_start (h : (Cond.eq t u).value args Z none Z [] = some true) (hu : u.eval args Z none [] Z = some (.ref a)) : t.eval args Z none [] Z = some (.ref a) := by
  simp only [Cond.value, hu] at h
  cases ht : t.eval args Z none [] Z with
  | none => rw [ht] at h; cases h
  | some w => cases w <;> simp [ht] at h; rw [h]
theorem exa_start (h : (Cond.exactly t C).value args Z none Z [] = some true) : ∃ a, t.eval args Z none [] Z = some (.ref a) ∧ Exa Z Z.heap a C := by
  obtain ⟨a', c', cell, k, e1, e2, e3, e4, e5, rfl, e7⟩ := Cond.exactly_spec (Cond.before_iff.mpr h)
  exact ⟨a', e1, cell, k, e3, e2, e4, e5, e7⟩
theorem fld_start (ht : t.eval args Z none [] Z = some (.ref a)) (hf : (Term.field t C n d).eval args Z none [] Z = some v) : Fld Z Z.heap a C n d v := Fld.start (by simpa [Term.eval, ht] using hf)
def Els (t : Term) (args : Array Value) (Z : State) : Nat → List Value → Prop
  | _, [] => True
  | i, v :: vs => (Term.elem t (Term.int (Int32.ofNat i))).eval args Z none [] Z = some v ∧ Els t args Z (i + 1) vs
theorem Els.get : ∀ {vs : List Value} {k : Nat}, Els t args Z k vs → ∀ i, i < vs.length → (Term.elem t (Term.int (Int32.ofNat (k + i)))).eval args Z none [] Z = vs[i]?
  | [], _, _, i, hi => by simp at hi
  | v :: vs, k, h, 0, _ => by simpa using h.1
  | v :: vs, k, h, i + 1, hi => by
    have := Els.get h.2 i (by simpa using hi)
    rw [show k + (i + 1) = k + 1 + i by omega]; simpa using this
theorem ref_of_arr (h : (Cond.arrayOf t ty).value args Z none Z [] = some true) : ∃ a, t.eval args Z none [] Z = some (.ref a) := by
  simp only [Cond.value] at h
  split at h
  · cases h
  · cases ht : t.eval args Z none [] Z with
    | none => rw [ht] at h; cases h
    | some w => cases w <;> simp [ht] at h <;> exact ⟨_, rfl⟩
theorem av_start (hf : Fit Z) (ht : t.eval args Z none [] Z = some (.ref a)) (h : (Cond.arrayOf t ty).value args Z none Z [] = some true) (hl : (Term.length t).eval args Z none [] Z = some (.int z)) (hz : Int32.ofNat vs.length = z) (hv : vs.length < 2147483648) (he : Els t args Z 0 vs) : Av Z Z.heap a ty vs := by
  obtain ⟨c, A⟩ := Arr.start ht h
  have hA : Z.arrayAt? a = some c := A.fin (Vm.Alike.refl _)
  have hs : c.slots.size = vs.length := by
    simp only [Term.eval, ht, Option.bind_eq_bind, Option.bind_some, hA, Option.pure_def] at hl
    split at hl
    · rename_i hlt
      have e1 : c.slots.size.toInt32 = z := by simpa using hl
      exact of_inj (by simpa using hlt) hv (e1.trans hz.symm)
    · cases hl
  have hg : ∀ i, i < vs.length → c.slots[i]? = vs[i]? := fun i hi => by
    have q := he.get i hi
    have hx := ix_of (i := i) (by omega)
    rw [Nat.zero_add] at q
    simp only [Term.eval, ht, Option.bind_eq_bind, Option.bind_some, hA, if_neg hx.1, hx.2] at q
    exact q
  have e : c.slots.toList = vs := by
    apply List.ext_getElem?; intro i
    by_cases hi : i < vs.length
    · rw [Array.getElem?_toList]; exact hg i hi
    · rw [Array.getElem?_toList, Array.getElem?_eq_none (by omega), List.getElem?_eq_none (by omega)]
  refine ⟨c, A, e, hv, fun w hw => ?_⟩
  obtain ⟨i, hi, rfl⟩ := List.mem_iff_getElem.mp hw
  have hx := ix_of (i := i) (by omega)
  obtain ⟨w', q1, q2⟩ := elem_fit hf A (j := Int32.ofNat i) (by rintro (u | u); exact hx.1 u; rw [hx.2] at u; omega)
  rw [hx.2, hg i hi, List.getElem?_eq_getElem hi] at q1
  cases q1; exact q2
end Start

end Jvm.OwnK
namespace Jvm.Pilot.@@N@@
open Jvm Jvm.ClassFile Sem Op Lib Jvm.Free Jvm.Stand Jvm.LawKit Jvm.RoadKit Bundle Jvm.OwnK Jvm.Pilot.@@N@@.Jvm.D
def own_EL : List (String × Nat) := [("java/lang/String", 7)]
theorem w0 {Z : State} {a0 : Array Value} (hw : ∀ d ∈ tables_1, d.before a0 Z = true) : (Jvm.Cond.classLink "com/example/proofs_for_datalog/proofsfordatalog/kernel/VerdictValidPinLaw" (12 : Nat) "com/example/proofs_for_datalog/proofsfordatalog/kernel/Verdict").before a0 Z = true := hw _ (List.mem_of_getElem? (i := 0) rfl)
theorem w1 {Z : State} {a0 : Array Value} (hw : ∀ d ∈ tables_1, d.before a0 Z = true) : (Jvm.Cond.instantiable "com/example/proofs_for_datalog/proofsfordatalog/kernel/Verdict" (5 : Nat)).before a0 Z = true := hw _ (List.mem_of_getElem? (i := 1) rfl)
theorem w2 {Z : State} {a0 : Array Value} (hw : ∀ d ∈ tables_1, d.before a0 Z = true) : (Jvm.Cond.initialized "com/example/proofs_for_datalog/proofsfordatalog/kernel/Verdict").before a0 Z = true := hw _ (List.mem_of_getElem? (i := 2) rfl)
theorem w3 {Z : State} {a0 : Array Value} (hw : ∀ d ∈ tables_1, d.before a0 Z = true) : (Jvm.Cond.methodLink "com/example/proofs_for_datalog/proofsfordatalog/kernel/VerdictValidPinLaw" (14 : Nat) ({ cls := "com/example/proofs_for_datalog/proofsfordatalog/kernel/Verdict", name := "<init>", desc := "(Ljava/lang/String;JJJJ)V" } : Jvm.MethodName)).before a0 Z = true := hw _ (List.mem_of_getElem? (i := 3) rfl)
theorem w4 {Z : State} {a0 : Array Value} (hw : ∀ d ∈ tables_1, d.before a0 Z = true) : (Jvm.Cond.instanceMethod ({ cls := "com/example/proofs_for_datalog/proofsfordatalog/kernel/Verdict", name := "<init>", desc := "(Ljava/lang/String;JJJJ)V" } : Jvm.MethodName)).before a0 Z = true := hw _ (List.mem_of_getElem? (i := 4) rfl)
theorem w5 {Z : State} {a0 : Array Value} (hw : ∀ d ∈ tables_1, d.before a0 Z = true) : (Jvm.Cond.code ({ cls := "com/example/proofs_for_datalog/proofsfordatalog/kernel/Verdict", name := "<init>", desc := "(Ljava/lang/String;JJJJ)V" } : Jvm.MethodName) prog_34_method_1_code (10 : Nat) (Option.none : Option Jvm.ClassFile.FieldType)).before a0 Z = true := hw _ (List.mem_of_getElem? (i := 5) rfl)
theorem w6 {Z : State} {a0 : Array Value} (hw : ∀ d ∈ tables_1, d.before a0 Z = true) : (Jvm.Cond.methodLink "com/example/proofs_for_datalog/proofsfordatalog/kernel/Verdict" (1 : Nat) ({ cls := "java/lang/Record", name := "<init>", desc := "()V" } : Jvm.MethodName)).before a0 Z = true := hw _ (List.mem_of_getElem? (i := 6) rfl)
theorem w7 {Z : State} {a0 : Array Value} (hw : ∀ d ∈ tables_1, d.before a0 Z = true) : (Jvm.Cond.instanceMethod ({ cls := "java/lang/Record", name := "<init>", desc := "()V" } : Jvm.MethodName)).before a0 Z = true := hw _ (List.mem_of_getElem? (i := 7) rfl)
theorem w9 {Z : State} {a0 : Array Value} (hw : ∀ d ∈ tables_1, d.before a0 Z = true) : (Jvm.Cond.initialized "java/lang/Record").before a0 Z = true := hw _ (List.mem_of_getElem? (i := 9) rfl)
theorem w10 {Z : State} {a0 : Array Value} (hw : ∀ d ∈ tables_1, d.before a0 Z = true) : (Jvm.Cond.code ({ cls := "java/lang/Record", name := "<init>", desc := "()V" } : Jvm.MethodName) jdk_30_method_1_code (1 : Nat) (Option.none : Option Jvm.ClassFile.FieldType)).before a0 Z = true := hw _ (List.mem_of_getElem? (i := 10) rfl)
theorem w11 {Z : State} {a0 : Array Value} (hw : ∀ d ∈ tables_1, d.before a0 Z = true) : (Jvm.Cond.methodLink "java/lang/Record" (1 : Nat) ({ cls := "java/lang/Object", name := "<init>", desc := "()V" } : Jvm.MethodName)).before a0 Z = true := hw _ (List.mem_of_getElem? (i := 11) rfl)
theorem w12 {Z : State} {a0 : Array Value} (hw : ∀ d ∈ tables_1, d.before a0 Z = true) : (Jvm.Cond.instanceMethod ({ cls := "java/lang/Object", name := "<init>", desc := "()V" } : Jvm.MethodName)).before a0 Z = true := hw _ (List.mem_of_getElem? (i := 12) rfl)
theorem w13 {Z : State} {a0 : Array Value} (hw : ∀ d ∈ tables_1, d.before a0 Z = true) : (Jvm.Cond.code ({ cls := "java/lang/Object", name := "<init>", desc := "()V" } : Jvm.MethodName) object_method_1_code (1 : Nat) (Option.none : Option Jvm.ClassFile.FieldType)).before a0 Z = true := hw _ (List.mem_of_getElem? (i := 13) rfl)
theorem w14 {Z : State} {a0 : Array Value} (hw : ∀ d ∈ tables_1, d.before a0 Z = true) : (Jvm.Cond.fieldLink "com/example/proofs_for_datalog/proofsfordatalog/kernel/Verdict" (7 : Nat) "com/example/proofs_for_datalog/proofsfordatalog/kernel/Verdict" "reason" "Ljava/lang/String;").before a0 Z = true := hw _ (List.mem_of_getElem? (i := 14) rfl)
theorem w15 {Z : State} {a0 : Array Value} (hw : ∀ d ∈ tables_1, d.before a0 Z = true) : (Jvm.Cond.laysFinal "com/example/proofs_for_datalog/proofsfordatalog/kernel/Verdict" "com/example/proofs_for_datalog/proofsfordatalog/kernel/Verdict" "reason" "Ljava/lang/String;").before a0 Z = true := hw _ (List.mem_of_getElem? (i := 15) rfl)
theorem w16 {Z : State} {a0 : Array Value} (hw : ∀ d ∈ tables_1, d.before a0 Z = true) : (Jvm.Cond.fieldLink "com/example/proofs_for_datalog/proofsfordatalog/kernel/Verdict" (13 : Nat) "com/example/proofs_for_datalog/proofsfordatalog/kernel/Verdict" "conclusions" "J").before a0 Z = true := hw _ (List.mem_of_getElem? (i := 16) rfl)
theorem w17 {Z : State} {a0 : Array Value} (hw : ∀ d ∈ tables_1, d.before a0 Z = true) : (Jvm.Cond.laysFinal "com/example/proofs_for_datalog/proofsfordatalog/kernel/Verdict" "com/example/proofs_for_datalog/proofsfordatalog/kernel/Verdict" "conclusions" "J").before a0 Z = true := hw _ (List.mem_of_getElem? (i := 17) rfl)
theorem w18 {Z : State} {a0 : Array Value} (hw : ∀ d ∈ tables_1, d.before a0 Z = true) : (Jvm.Cond.fieldLink "com/example/proofs_for_datalog/proofsfordatalog/kernel/Verdict" (17 : Nat) "com/example/proofs_for_datalog/proofsfordatalog/kernel/Verdict" "derived" "J").before a0 Z = true := hw _ (List.mem_of_getElem? (i := 18) rfl)
theorem w19 {Z : State} {a0 : Array Value} (hw : ∀ d ∈ tables_1, d.before a0 Z = true) : (Jvm.Cond.laysFinal "com/example/proofs_for_datalog/proofsfordatalog/kernel/Verdict" "com/example/proofs_for_datalog/proofsfordatalog/kernel/Verdict" "derived" "J").before a0 Z = true := hw _ (List.mem_of_getElem? (i := 19) rfl)
theorem w20 {Z : State} {a0 : Array Value} (hw : ∀ d ∈ tables_1, d.before a0 Z = true) : (Jvm.Cond.fieldLink "com/example/proofs_for_datalog/proofsfordatalog/kernel/Verdict" (20 : Nat) "com/example/proofs_for_datalog/proofsfordatalog/kernel/Verdict" "leaves" "J").before a0 Z = true := hw _ (List.mem_of_getElem? (i := 20) rfl)
theorem w21 {Z : State} {a0 : Array Value} (hw : ∀ d ∈ tables_1, d.before a0 Z = true) : (Jvm.Cond.laysFinal "com/example/proofs_for_datalog/proofsfordatalog/kernel/Verdict" "com/example/proofs_for_datalog/proofsfordatalog/kernel/Verdict" "leaves" "J").before a0 Z = true := hw _ (List.mem_of_getElem? (i := 21) rfl)
theorem w22 {Z : State} {a0 : Array Value} (hw : ∀ d ∈ tables_1, d.before a0 Z = true) : (Jvm.Cond.fieldLink "com/example/proofs_for_datalog/proofsfordatalog/kernel/Verdict" (23 : Nat) "com/example/proofs_for_datalog/proofsfordatalog/kernel/Verdict" "assumed" "J").before a0 Z = true := hw _ (List.mem_of_getElem? (i := 22) rfl)
theorem w23 {Z : State} {a0 : Array Value} (hw : ∀ d ∈ tables_1, d.before a0 Z = true) : (Jvm.Cond.laysFinal "com/example/proofs_for_datalog/proofsfordatalog/kernel/Verdict" "com/example/proofs_for_datalog/proofsfordatalog/kernel/Verdict" "assumed" "J").before a0 Z = true := hw _ (List.mem_of_getElem? (i := 23) rfl)
theorem w24 {Z : State} {a0 : Array Value} (hw : ∀ d ∈ tables_1, d.before a0 Z = true) : (Jvm.Cond.methodLink "com/example/proofs_for_datalog/proofsfordatalog/kernel/VerdictValidPinLaw" (17 : Nat) ({ cls := "com/example/proofs_for_datalog/proofsfordatalog/kernel/Verdict", name := "valid", desc := "()Z" } : Jvm.MethodName)).before a0 Z = true := hw _ (List.mem_of_getElem? (i := 24) rfl)
theorem w25 {Z : State} {a0 : Array Value} (hw : ∀ d ∈ tables_1, d.before a0 Z = true) : (Jvm.Cond.declares ({ cls := "com/example/proofs_for_datalog/proofsfordatalog/kernel/Verdict", name := "valid", desc := "()Z" } : Jvm.MethodName)).before a0 Z = true := hw _ (List.mem_of_getElem? (i := 25) rfl)
theorem w26 {Z : State} {a0 : Array Value} (hw : ∀ d ∈ tables_1, d.before a0 Z = true) : (Jvm.Cond.instanceMethod ({ cls := "com/example/proofs_for_datalog/proofsfordatalog/kernel/Verdict", name := "valid", desc := "()Z" } : Jvm.MethodName)).before a0 Z = true := hw _ (List.mem_of_getElem? (i := 26) rfl)
theorem w27 {Z : State} {a0 : Array Value} (hw : ∀ d ∈ tables_1, d.before a0 Z = true) : (Jvm.Cond.selects "com/example/proofs_for_datalog/proofsfordatalog/kernel/Verdict" ({ cls := "com/example/proofs_for_datalog/proofsfordatalog/kernel/Verdict", name := "valid", desc := "()Z" } : Jvm.MethodName) ({ cls := "com/example/proofs_for_datalog/proofsfordatalog/kernel/Verdict", name := "valid", desc := "()Z" } : Jvm.MethodName)).before a0 Z = true := hw _ (List.mem_of_getElem? (i := 27) rfl)
theorem w28 {Z : State} {a0 : Array Value} (hw : ∀ d ∈ tables_1, d.before a0 Z = true) : (Jvm.Cond.code ({ cls := "com/example/proofs_for_datalog/proofsfordatalog/kernel/Verdict", name := "valid", desc := "()Z" } : Jvm.MethodName) prog_34_method_2_code (1 : Nat) (Option.some Jvm.ClassFile.FieldType.boolean)).before a0 Z = true := hw _ (List.mem_of_getElem? (i := 28) rfl)
theorem w29 {Z : State} {a0 : Array Value} (hw : ∀ d ∈ tables_1, d.before a0 Z = true) : (Jvm.Cond.arrayClass Jvm.ClassFile.FieldType.char).before a0 Z = true := hw _ (List.mem_of_getElem? (i := 29) rfl)
theorem w30 {Z : State} {a0 : Array Value} (hw : ∀ d ∈ tables_1, d.before a0 Z = true) : (Jvm.Cond.classLink "com/example/proofs_for_datalog/proofsfordatalog/kernel/VerdictValidPinLaw" (7 : Nat) "java/lang/String").before a0 Z = true := hw _ (List.mem_of_getElem? (i := 30) rfl)
theorem w31 {Z : State} {a0 : Array Value} (hw : ∀ d ∈ tables_1, d.before a0 Z = true) : (Jvm.Cond.instantiable "java/lang/String" (4 : Nat)).before a0 Z = true := hw _ (List.mem_of_getElem? (i := 31) rfl)
theorem w32 {Z : State} {a0 : Array Value} (hw : ∀ d ∈ tables_1, d.before a0 Z = true) : (Jvm.Cond.initialized "java/lang/String").before a0 Z = true := hw _ (List.mem_of_getElem? (i := 32) rfl)
theorem w33 {Z : State} {a0 : Array Value} (hw : ∀ d ∈ tables_1, d.before a0 Z = true) : (Jvm.Cond.methodLink "com/example/proofs_for_datalog/proofsfordatalog/kernel/VerdictValidPinLaw" (9 : Nat) ({ cls := "java/lang/String", name := "<init>", desc := "([C)V" } : Jvm.MethodName)).before a0 Z = true := hw _ (List.mem_of_getElem? (i := 33) rfl)
theorem w34 {Z : State} {a0 : Array Value} (hw : ∀ d ∈ tables_1, d.before a0 Z = true) : (Jvm.Cond.instanceMethod ({ cls := "java/lang/String", name := "<init>", desc := "([C)V" } : Jvm.MethodName)).before a0 Z = true := hw _ (List.mem_of_getElem? (i := 34) rfl)
theorem w35 {Z : State} {a0 : Array Value} (hw : ∀ d ∈ tables_1, d.before a0 Z = true) : (Jvm.Cond.code ({ cls := "java/lang/String", name := "<init>", desc := "([C)V" } : Jvm.MethodName) jdk_42_method_3_code (2 : Nat) (Option.none : Option Jvm.ClassFile.FieldType)).before a0 Z = true := hw _ (List.mem_of_getElem? (i := 35) rfl)
theorem w36 {Z : State} {a0 : Array Value} (hw : ∀ d ∈ tables_1, d.before a0 Z = true) : (Jvm.Cond.methodLink "java/lang/String" (27 : Nat) ({ cls := "java/lang/String", name := "<init>", desc := "([CIILjava/lang/Void;)V" } : Jvm.MethodName)).before a0 Z = true := hw _ (List.mem_of_getElem? (i := 36) rfl)
theorem w37 {Z : State} {a0 : Array Value} (hw : ∀ d ∈ tables_1, d.before a0 Z = true) : (Jvm.Cond.instanceMethod ({ cls := "java/lang/String", name := "<init>", desc := "([CIILjava/lang/Void;)V" } : Jvm.MethodName)).before a0 Z = true := hw _ (List.mem_of_getElem? (i := 37) rfl)
theorem w39 {Z : State} {a0 : Array Value} (hw : ∀ d ∈ tables_1, d.before a0 Z = true) : (Jvm.Cond.code ({ cls := "java/lang/String", name := "<init>", desc := "([CIILjava/lang/Void;)V" } : Jvm.MethodName) jdk_42_method_149_code (6 : Nat) (Option.none : Option Jvm.ClassFile.FieldType)).before a0 Z = true := hw _ (List.mem_of_getElem? (i := 39) rfl)
theorem w40 {Z : State} {a0 : Array Value} (hw : ∀ d ∈ tables_1, d.before a0 Z = true) : (Jvm.Cond.methodLink "java/lang/String" (1 : Nat) ({ cls := "java/lang/Object", name := "<init>", desc := "()V" } : Jvm.MethodName)).before a0 Z = true := hw _ (List.mem_of_getElem? (i := 40) rfl)
theorem w41 {Z : State} {a0 : Array Value} (hw : ∀ d ∈ tables_1, d.before a0 Z = true) : (Jvm.Cond.fieldLink "java/lang/String" (38 : Nat) "java/lang/String" "COMPACT_STRINGS" "Z").before a0 Z = true := hw _ (List.mem_of_getElem? (i := 41) rfl)
theorem w42 {Z : State} {a0 : Array Value} (hw : ∀ d ∈ tables_1, d.before a0 Z = true) : (Jvm.Cond.methodLink "java/lang/String" (177 : Nat) ({ cls := "java/lang/StringUTF16", name := "compress", desc := "([CII)[B" } : Jvm.MethodName)).before a0 Z = true := hw _ (List.mem_of_getElem? (i := 42) rfl)
theorem w43 {Z : State} {a0 : Array Value} (hw : ∀ d ∈ tables_1, d.before a0 Z = true) : (Jvm.Cond.static ({ cls := "java/lang/StringUTF16", name := "compress", desc := "([CII)[B" } : Jvm.MethodName)).before a0 Z = true := hw _ (List.mem_of_getElem? (i := 43) rfl)
theorem w44 {Z : State} {a0 : Array Value} (hw : ∀ d ∈ tables_1, d.before a0 Z = true) : (Jvm.Cond.initialized "java/lang/StringUTF16").before a0 Z = true := hw _ (List.mem_of_getElem? (i := 44) rfl)
theorem w45 {Z : State} {a0 : Array Value} (hw : ∀ d ∈ tables_1, d.before a0 Z = true) : (Jvm.Cond.code ({ cls := "java/lang/StringUTF16", name := "compress", desc := "([CII)[B" } : Jvm.MethodName) jdk_52_method_16_code (6 : Nat) (Option.some (Jvm.ClassFile.FieldType.array Jvm.ClassFile.FieldType.byte))).before a0 Z = true := hw _ (List.mem_of_getElem? (i := 45) rfl)
theorem w46 {Z : State} {a0 : Array Value} (hw : ∀ d ∈ tables_1, d.before a0 Z = true) : (Jvm.Cond.arrayClass Jvm.ClassFile.FieldType.byte).before a0 Z = true := hw _ (List.mem_of_getElem? (i := 46) rfl)
theorem w47 {Z : State} {a0 : Array Value} (hw : ∀ d ∈ tables_1, d.before a0 Z = true) : (Jvm.Cond.methodLink "java/lang/StringUTF16" (115 : Nat) ({ cls := "java/lang/StringUTF16", name := "compress", desc := "([CI[BII)I" } : Jvm.MethodName)).before a0 Z = true := hw _ (List.mem_of_getElem? (i := 47) rfl)
theorem w48 {Z : State} {a0 : Array Value} (hw : ∀ d ∈ tables_1, d.before a0 Z = true) : (Jvm.Cond.static ({ cls := "java/lang/StringUTF16", name := "compress", desc := "([CI[BII)I" } : Jvm.MethodName)).before a0 Z = true := hw _ (List.mem_of_getElem? (i := 48) rfl)
theorem w49 {Z : State} {a0 : Array Value} (hw : ∀ d ∈ tables_1, d.before a0 Z = true) : (Jvm.Cond.code ({ cls := "java/lang/StringUTF16", name := "compress", desc := "([CI[BII)I" } : Jvm.MethodName) jdk_52_method_21_code (7 : Nat) (Option.some Jvm.ClassFile.FieldType.int)).before a0 Z = true := hw _ (List.mem_of_getElem? (i := 49) rfl)
theorem w50 {Z : State} {a0 : Array Value} (hw : ∀ d ∈ tables_1, d.before a0 Z = true) : (Jvm.Cond.methodLink "java/lang/String" (47 : Nat) ({ cls := "java/lang/StringUTF16", name := "coderFromArrayLen", desc := "([BI)B" } : Jvm.MethodName)).before a0 Z = true := hw _ (List.mem_of_getElem? (i := 50) rfl)
theorem w51 {Z : State} {a0 : Array Value} (hw : ∀ d ∈ tables_1, d.before a0 Z = true) : (Jvm.Cond.static ({ cls := "java/lang/StringUTF16", name := "coderFromArrayLen", desc := "([BI)B" } : Jvm.MethodName)).before a0 Z = true := hw _ (List.mem_of_getElem? (i := 51) rfl)
theorem w52 {Z : State} {a0 : Array Value} (hw : ∀ d ∈ tables_1, d.before a0 Z = true) : (Jvm.Cond.code ({ cls := "java/lang/StringUTF16", name := "coderFromArrayLen", desc := "([BI)B" } : Jvm.MethodName) jdk_52_method_15_code (2 : Nat) (Option.some Jvm.ClassFile.FieldType.byte)).before a0 Z = true := hw _ (List.mem_of_getElem? (i := 52) rfl)
theorem w53 {Z : State} {a0 : Array Value} (hw : ∀ d ∈ tables_1, d.before a0 Z = true) : (Jvm.Cond.fieldLink "java/lang/String" (15 : Nat) "java/lang/String" "coder" "B").before a0 Z = true := hw _ (List.mem_of_getElem? (i := 53) rfl)
theorem w54 {Z : State} {a0 : Array Value} (hw : ∀ d ∈ tables_1, d.before a0 Z = true) : (Jvm.Cond.laysFinal "java/lang/String" "java/lang/String" "coder" "B").before a0 Z = true := hw _ (List.mem_of_getElem? (i := 54) rfl)
theorem w55 {Z : State} {a0 : Array Value} (hw : ∀ d ∈ tables_1, d.before a0 Z = true) : (Jvm.Cond.fieldLink "java/lang/String" (9 : Nat) "java/lang/String" "value" "[B").before a0 Z = true := hw _ (List.mem_of_getElem? (i := 55) rfl)
theorem w56 {Z : State} {a0 : Array Value} (hw : ∀ d ∈ tables_1, d.before a0 Z = true) : (Jvm.Cond.laysFinal "java/lang/String" "java/lang/String" "value" "[B").before a0 Z = true := hw _ (List.mem_of_getElem? (i := 56) rfl)
theorem w57 {Z : State} {a0 : Array Value} (hw : ∀ d ∈ tables_1, d.before a0 Z = true) : (Jvm.Cond.stringLink "java/lang/String" (7 : Nat) "").before a0 Z = true := hw _ (List.mem_of_getElem? (i := 57) rfl)
theorem d_jdk_52_21_0 : D jdk_52_method_21_code 0 (.iconst 0) 1 1 := And.intro (by decide +kernel) rfl
theorem d_jdk_52_21_1 : D jdk_52_method_21_code 1 (.istore 5) 2 3 := And.intro (by decide +kernel) rfl
theorem d_jdk_52_21_3 : D jdk_52_method_21_code 3 (.iload 5) 2 5 := And.intro (by decide +kernel) rfl
theorem d_jdk_52_21_5 : D jdk_52_method_21_code 5 (.iload 4) 2 7 := And.intro (by decide +kernel) rfl
theorem d_jdk_52_21_7 : D jdk_52_method_21_code 7 (.if_icmp .ge 37) 3 10 := And.intro (by decide +kernel) rfl
theorem d_jdk_52_21_44 : D jdk_52_method_21_code 44 (.iload 4) 2 46 := And.intro (by decide +kernel) rfl
theorem d_jdk_52_21_46 : D jdk_52_method_21_code 46 (.ireturn) 1 47 := And.intro (by decide +kernel) rfl
theorem d_jdk_52_21_10 : D jdk_52_method_21_code 10 (.aload_n 0) 1 11 := And.intro (by decide +kernel) rfl
theorem d_jdk_52_21_11 : D jdk_52_method_21_code 11 (.iload_n 1) 1 12 := And.intro (by decide +kernel) rfl
theorem d_jdk_52_21_12 : D jdk_52_method_21_code 12 (.caload) 1 13 := And.intro (by decide +kernel) rfl
theorem d_jdk_52_21_13 : D jdk_52_method_21_code 13 (.istore 6) 2 15 := And.intro (by decide +kernel) rfl
theorem d_jdk_52_21_15 : D jdk_52_method_21_code 15 (.iload 6) 2 17 := And.intro (by decide +kernel) rfl
theorem d_jdk_52_21_17 : D jdk_52_method_21_code 17 (.sipush 255) 3 20 := And.intro (by decide +kernel) rfl
theorem d_jdk_52_21_20 : D jdk_52_method_21_code 20 (.if_icmp .le 6) 3 23 := And.intro (by decide +kernel) rfl
theorem d_jdk_52_21_26 : D jdk_52_method_21_code 26 (.aload_n 2) 1 27 := And.intro (by decide +kernel) rfl
theorem d_jdk_52_21_27 : D jdk_52_method_21_code 27 (.iload_n 3) 1 28 := And.intro (by decide +kernel) rfl
theorem d_jdk_52_21_28 : D jdk_52_method_21_code 28 (.iload 6) 2 30 := And.intro (by decide +kernel) rfl
theorem d_jdk_52_21_30 : D jdk_52_method_21_code 30 (.i2b) 1 31 := And.intro (by decide +kernel) rfl
theorem d_jdk_52_21_31 : D jdk_52_method_21_code 31 (.bastore) 1 32 := And.intro (by decide +kernel) rfl
theorem d_jdk_52_21_32 : D jdk_52_method_21_code 32 (.iinc 1 1) 3 35 := And.intro (by decide +kernel) rfl
theorem d_jdk_52_21_35 : D jdk_52_method_21_code 35 (.iinc 3 1) 3 38 := And.intro (by decide +kernel) rfl
theorem d_jdk_52_21_38 : D jdk_52_method_21_code 38 (.iinc 5 1) 3 41 := And.intro (by decide +kernel) rfl
theorem d_jdk_52_21_41 : D jdk_52_method_21_code 41 (.goto (-38)) 3 44 := And.intro (by decide +kernel) rfl
theorem pn0 : plainName "java/lang/StringUTF16" = true := by first | (simp [plainName, overriddenIn]; done) | decide +kernel
theorem d_jdk_52_16_0 : D jdk_52_method_16_code 0 (.iload_n 2) 1 1 := And.intro (by decide +kernel) rfl
theorem d_jdk_52_16_1 : D jdk_52_method_16_code 1 (.newarray .byte) 2 3 := And.intro (by decide +kernel) rfl
theorem d_jdk_52_16_3 : D jdk_52_method_16_code 3 (.astore_n 3) 1 4 := And.intro (by decide +kernel) rfl
theorem d_jdk_52_16_4 : D jdk_52_method_16_code 4 (.aload_n 0) 1 5 := And.intro (by decide +kernel) rfl
theorem d_jdk_52_16_5 : D jdk_52_method_16_code 5 (.iload_n 1) 1 6 := And.intro (by decide +kernel) rfl
theorem d_jdk_52_16_6 : D jdk_52_method_16_code 6 (.aload_n 3) 1 7 := And.intro (by decide +kernel) rfl
theorem d_jdk_52_16_7 : D jdk_52_method_16_code 7 (.iconst 0) 1 8 := And.intro (by decide +kernel) rfl
theorem d_jdk_52_16_8 : D jdk_52_method_16_code 8 (.iload_n 2) 1 9 := And.intro (by decide +kernel) rfl
theorem d_jdk_52_16_9 : D jdk_52_method_16_code 9 (.invokestatic 115) 3 12 := And.intro (by decide +kernel) rfl
theorem pd0 : parseMethodDescriptor "([CI[BII)I" = some ⟨[(.array .char), .int, (.array .byte), .int, .int], some .int⟩ := by decide +kernel
theorem d_jdk_52_16_12 : D jdk_52_method_16_code 12 (.istore 4) 2 14 := And.intro (by decide +kernel) rfl
theorem d_jdk_52_16_14 : D jdk_52_method_16_code 14 (.iload 4) 2 16 := And.intro (by decide +kernel) rfl
theorem d_jdk_52_16_16 : D jdk_52_method_16_code 16 (.iload_n 2) 1 17 := And.intro (by decide +kernel) rfl
theorem d_jdk_52_16_17 : D jdk_52_method_16_code 17 (.if_icmp .eq 40) 3 20 := And.intro (by decide +kernel) rfl
theorem d_jdk_52_16_57 : D jdk_52_method_16_code 57 (.aload_n 3) 1 58 := And.intro (by decide +kernel) rfl
theorem d_jdk_52_16_58 : D jdk_52_method_16_code 58 (.areturn) 1 59 := And.intro (by decide +kernel) rfl
theorem d_jdk_52_15_0 : D jdk_52_method_15_code 0 (.iload_n 1) 1 1 := And.intro (by decide +kernel) rfl
theorem d_jdk_52_15_1 : D jdk_52_method_15_code 1 (.aload_n 0) 1 2 := And.intro (by decide +kernel) rfl
theorem d_jdk_52_15_2 : D jdk_52_method_15_code 2 (.arraylength) 1 3 := And.intro (by decide +kernel) rfl
theorem d_jdk_52_15_3 : D jdk_52_method_15_code 3 (.isub) 1 4 := And.intro (by decide +kernel) rfl
theorem d_jdk_52_15_4 : D jdk_52_method_15_code 4 (.bipush 31) 2 6 := And.intro (by decide +kernel) rfl
theorem d_jdk_52_15_6 : D jdk_52_method_15_code 6 (.iushr) 1 7 := And.intro (by decide +kernel) rfl
theorem d_jdk_52_15_7 : D jdk_52_method_15_code 7 (.i2b) 1 8 := And.intro (by decide +kernel) rfl
theorem d_jdk_52_15_8 : D jdk_52_method_15_code 8 (.ireturn) 1 9 := And.intro (by decide +kernel) rfl
theorem d_jdk_42_149_0 : D jdk_42_method_149_code 0 (.aload_n 0) 1 1 := And.intro (by decide +kernel) rfl
theorem d_jdk_42_149_1 : D jdk_42_method_149_code 1 (.invokespecial 1) 3 4 := And.intro (by decide +kernel) rfl
theorem d_jdk_42_149_4 : D jdk_42_method_149_code 4 (.iload_n 3) 1 5 := And.intro (by decide +kernel) rfl
theorem d_jdk_42_149_5 : D jdk_42_method_149_code 5 (.ifCond .ne 22) 3 8 := And.intro (by decide +kernel) rfl
theorem d_jdk_42_149_27 : D jdk_42_method_149_code 27 (.getstatic 38) 3 30 := And.intro (by decide +kernel) rfl
theorem d_jdk_42_149_30 : D jdk_42_method_149_code 30 (.ifCond .eq 28) 3 33 := And.intro (by decide +kernel) rfl
theorem d_jdk_42_149_33 : D jdk_42_method_149_code 33 (.aload_n 1) 1 34 := And.intro (by decide +kernel) rfl
theorem d_jdk_42_149_34 : D jdk_42_method_149_code 34 (.iload_n 2) 1 35 := And.intro (by decide +kernel) rfl
theorem d_jdk_42_149_35 : D jdk_42_method_149_code 35 (.iload_n 3) 1 36 := And.intro (by decide +kernel) rfl
theorem d_jdk_42_149_36 : D jdk_42_method_149_code 36 (.invokestatic 177) 3 39 := And.intro (by decide +kernel) rfl
theorem pd1 : parseMethodDescriptor "([CII)[B" = some ⟨[(.array .char), .int, .int], some (.array .byte)⟩ := by decide +kernel
theorem d_jdk_42_149_39 : D jdk_42_method_149_code 39 (.astore 5) 2 41 := And.intro (by decide +kernel) rfl
theorem d_jdk_42_149_41 : D jdk_42_method_149_code 41 (.aload_n 0) 1 42 := And.intro (by decide +kernel) rfl
theorem d_jdk_42_149_42 : D jdk_42_method_149_code 42 (.aload 5) 2 44 := And.intro (by decide +kernel) rfl
theorem d_jdk_42_149_44 : D jdk_42_method_149_code 44 (.iload_n 3) 1 45 := And.intro (by decide +kernel) rfl
theorem d_jdk_42_149_45 : D jdk_42_method_149_code 45 (.invokestatic 47) 3 48 := And.intro (by decide +kernel) rfl
theorem pd2 : parseMethodDescriptor "([BI)B" = some ⟨[(.array .byte), .int], some .byte⟩ := by decide +kernel
theorem d_jdk_42_149_48 : D jdk_42_method_149_code 48 (.putfield 15) 3 51 := And.intro (by decide +kernel) rfl
theorem d_jdk_42_149_51 : D jdk_42_method_149_code 51 (.aload_n 0) 1 52 := And.intro (by decide +kernel) rfl
theorem d_jdk_42_149_52 : D jdk_42_method_149_code 52 (.aload 5) 2 54 := And.intro (by decide +kernel) rfl
theorem d_jdk_42_149_54 : D jdk_42_method_149_code 54 (.putfield 9) 3 57 := And.intro (by decide +kernel) rfl
theorem d_jdk_42_149_57 : D jdk_42_method_149_code 57 (.return_) 1 58 := And.intro (by decide +kernel) rfl
theorem pn1 : plainName "java/lang/String" = true := by first | (simp [plainName, overriddenIn]; done) | decide +kernel
theorem d_jdk_42_3_0 : D jdk_42_method_3_code 0 (.aload_n 0) 1 1 := And.intro (by decide +kernel) rfl
theorem d_jdk_42_3_1 : D jdk_42_method_3_code 1 (.aload_n 1) 1 2 := And.intro (by decide +kernel) rfl
theorem d_jdk_42_3_2 : D jdk_42_method_3_code 2 (.iconst 0) 1 3 := And.intro (by decide +kernel) rfl
theorem d_jdk_42_3_3 : D jdk_42_method_3_code 3 (.aload_n 1) 1 4 := And.intro (by decide +kernel) rfl
theorem d_jdk_42_3_4 : D jdk_42_method_3_code 4 (.arraylength) 1 5 := And.intro (by decide +kernel) rfl
theorem d_jdk_42_3_5 : D jdk_42_method_3_code 5 (.aconst_null) 1 6 := And.intro (by decide +kernel) rfl
theorem d_jdk_42_3_6 : D jdk_42_method_3_code 6 (.invokespecial 27) 3 9 := And.intro (by decide +kernel) rfl
theorem pd3 : parseMethodDescriptor "([CIILjava/lang/Void;)V" = some ⟨[(.array .char), .int, .int, (.object "java/lang/Void")], none⟩ := by decide +kernel
theorem d_jdk_42_3_9 : D jdk_42_method_3_code 9 (.return_) 1 10 := And.intro (by decide +kernel) rfl
theorem d_jdk_42_149_8 : D jdk_42_method_149_code 8 (.aload_n 0) 1 9 := And.intro (by decide +kernel) rfl
theorem d_jdk_42_149_9 : D jdk_42_method_149_code 9 (.ldc 7) 2 11 := And.intro (by decide +kernel) rfl
theorem d_jdk_42_149_11 : D jdk_42_method_149_code 11 (.getfield 9) 3 14 := And.intro (by decide +kernel) rfl
theorem d_jdk_42_149_14 : D jdk_42_method_149_code 14 (.putfield 9) 3 17 := And.intro (by decide +kernel) rfl
theorem d_jdk_42_149_17 : D jdk_42_method_149_code 17 (.aload_n 0) 1 18 := And.intro (by decide +kernel) rfl
theorem d_jdk_42_149_18 : D jdk_42_method_149_code 18 (.ldc 7) 2 20 := And.intro (by decide +kernel) rfl
theorem d_jdk_42_149_20 : D jdk_42_method_149_code 20 (.getfield 15) 3 23 := And.intro (by decide +kernel) rfl
theorem d_jdk_42_149_23 : D jdk_42_method_149_code 23 (.putfield 15) 3 26 := And.intro (by decide +kernel) rfl
theorem d_jdk_42_149_26 : D jdk_42_method_149_code 26 (.return_) 1 27 := And.intro (by decide +kernel) rfl
theorem d_jdk_30_1_0 : D jdk_30_method_1_code 0 (.aload_n 0) 1 1 := And.intro (by decide +kernel) rfl
theorem d_jdk_30_1_1 : D jdk_30_method_1_code 1 (.invokespecial 1) 3 4 := And.intro (by decide +kernel) rfl
theorem d_jdk_30_1_4 : D jdk_30_method_1_code 4 (.return_) 1 5 := And.intro (by decide +kernel) rfl
theorem pn2 : plainName "java/lang/Record" = true := by first | (simp [plainName, overriddenIn]; done) | decide +kernel
theorem d_prog_34_1_0 : D prog_34_method_1_code 0 (.aload_n 0) 1 1 := And.intro (by decide +kernel) rfl
theorem d_prog_34_1_1 : D prog_34_method_1_code 1 (.invokespecial 1) 3 4 := And.intro (by decide +kernel) rfl
theorem pd4 : parseMethodDescriptor "()V" = some ⟨[], none⟩ := by decide +kernel
theorem d_prog_34_1_4 : D prog_34_method_1_code 4 (.aload_n 0) 1 5 := And.intro (by decide +kernel) rfl
theorem d_prog_34_1_5 : D prog_34_method_1_code 5 (.aload_n 1) 1 6 := And.intro (by decide +kernel) rfl
theorem d_prog_34_1_6 : D prog_34_method_1_code 6 (.putfield 7) 3 9 := And.intro (by decide +kernel) rfl
theorem d_prog_34_1_9 : D prog_34_method_1_code 9 (.aload_n 0) 1 10 := And.intro (by decide +kernel) rfl
theorem d_prog_34_1_10 : D prog_34_method_1_code 10 (.lload_n 2) 1 11 := And.intro (by decide +kernel) rfl
theorem d_prog_34_1_11 : D prog_34_method_1_code 11 (.putfield 13) 3 14 := And.intro (by decide +kernel) rfl
theorem d_prog_34_1_14 : D prog_34_method_1_code 14 (.aload_n 0) 1 15 := And.intro (by decide +kernel) rfl
theorem d_prog_34_1_15 : D prog_34_method_1_code 15 (.lload 4) 2 17 := And.intro (by decide +kernel) rfl
theorem d_prog_34_1_17 : D prog_34_method_1_code 17 (.putfield 17) 3 20 := And.intro (by decide +kernel) rfl
theorem d_prog_34_1_20 : D prog_34_method_1_code 20 (.aload_n 0) 1 21 := And.intro (by decide +kernel) rfl
theorem d_prog_34_1_21 : D prog_34_method_1_code 21 (.lload 6) 2 23 := And.intro (by decide +kernel) rfl
theorem d_prog_34_1_23 : D prog_34_method_1_code 23 (.putfield 20) 3 26 := And.intro (by decide +kernel) rfl
theorem d_prog_34_1_26 : D prog_34_method_1_code 26 (.aload_n 0) 1 27 := And.intro (by decide +kernel) rfl
theorem d_prog_34_1_27 : D prog_34_method_1_code 27 (.lload 8) 2 29 := And.intro (by decide +kernel) rfl
theorem d_prog_34_1_29 : D prog_34_method_1_code 29 (.putfield 23) 3 32 := And.intro (by decide +kernel) rfl
theorem d_prog_34_1_32 : D prog_34_method_1_code 32 (.return_) 1 33 := And.intro (by decide +kernel) rfl
theorem pn3 : plainName "com/example/proofs_for_datalog/proofsfordatalog/kernel/Verdict" = true := by first | (simp [plainName, overriddenIn]; done) | decide +kernel
theorem d_prog_34_2_0 : D prog_34_method_2_code 0 (.aload_n 0) 1 1 := And.intro (by decide +kernel) rfl
theorem d_prog_34_2_1 : D prog_34_method_2_code 1 (.getfield 7) 3 4 := And.intro (by decide +kernel) rfl
theorem d_prog_34_2_4 : D prog_34_method_2_code 4 (.ifnonnull 7) 3 7 := And.intro (by decide +kernel) rfl
theorem d_prog_34_2_7 : D prog_34_method_2_code 7 (.iconst 1) 1 8 := And.intro (by decide +kernel) rfl
theorem d_prog_34_2_8 : D prog_34_method_2_code 8 (.goto 4) 3 11 := And.intro (by decide +kernel) rfl
theorem d_prog_34_2_12 : D prog_34_method_2_code 12 (.ireturn) 1 13 := And.intro (by decide +kernel) rfl
theorem d_prog_34_2_11 : D prog_34_method_2_code 11 (.iconst 0) 1 12 := And.intro (by decide +kernel) rfl
theorem d_code_0 : D code 0 (.iload_n 0) 1 1 := And.intro at_0 rfl
theorem d_code_1 : D code 1 (.iconst 3) 1 2 := And.intro at_1 rfl
theorem d_code_2 : D code 2 (.iand) 1 3 := And.intro at_2 rfl
theorem d_code_3 : D code 3 (.istore 10) 2 5 := And.intro at_3 rfl
theorem d_code_5 : D code 5 (.iload 10) 2 7 := And.intro at_5 rfl
theorem d_code_7 : D code 7 (.ifCond .ne 9) 3 10 := And.intro at_7 rfl
theorem d_code_16 : D code 16 (.iload 10) 2 18 := And.intro at_16 rfl
theorem d_code_18 : D code 18 (.iconst 1) 1 19 := And.intro at_18 rfl
theorem d_code_19 : D code 19 (.if_icmp .ne 18) 3 22 := And.intro at_19 rfl
theorem d_code_37 : D code 37 (.iload 10) 2 39 := And.intro at_37 rfl
theorem d_code_39 : D code 39 (.iconst 2) 1 40 := And.intro at_39 rfl
theorem d_code_40 : D code 40 (.if_icmp .ne 32) 3 43 := And.intro at_40 rfl
theorem d_code_72 : D code 72 (.iconst 2) 1 73 := And.intro at_72 rfl
theorem d_code_73 : D code 73 (.newarray .char) 2 75 := And.intro at_73 rfl
theorem d_code_75 : D code 75 (.astore 12) 2 77 := And.intro at_75 rfl
theorem d_code_77 : D code 77 (.aload 12) 2 79 := And.intro at_77 rfl
theorem d_code_79 : D code 79 (.iconst 0) 1 80 := And.intro at_79 rfl
theorem d_code_80 : D code 80 (.iload_n 1) 1 81 := And.intro at_80 rfl
theorem d_code_81 : D code 81 (.sipush 255) 3 84 := And.intro at_81 rfl
theorem d_code_84 : D code 84 (.iand) 1 85 := And.intro at_84 rfl
theorem d_code_85 : D code 85 (.i2c) 1 86 := And.intro at_85 rfl
theorem d_code_86 : D code 86 (.castore) 1 87 := And.intro at_86 rfl
theorem d_code_87 : D code 87 (.aload 12) 2 89 := And.intro at_87 rfl
theorem d_code_89 : D code 89 (.iconst 1) 1 90 := And.intro at_89 rfl
theorem d_code_90 : D code 90 (.iload_n 1) 1 91 := And.intro at_90 rfl
theorem d_code_91 : D code 91 (.bipush 8) 2 93 := And.intro at_91 rfl
theorem d_code_93 : D code 93 (.iushr) 1 94 := And.intro at_93 rfl
theorem d_code_94 : D code 94 (.sipush 255) 3 97 := And.intro at_94 rfl
theorem d_code_97 : D code 97 (.iand) 1 98 := And.intro at_97 rfl
theorem d_code_98 : D code 98 (.i2c) 1 99 := And.intro at_98 rfl
theorem d_code_99 : D code 99 (.castore) 1 100 := And.intro at_99 rfl
theorem d_code_100 : D code 100 (.new 7) 3 103 := And.intro at_100 rfl
theorem d_code_103 : D code 103 (.dup) 1 104 := And.intro at_103 rfl
theorem d_code_104 : D code 104 (.aload 12) 2 106 := And.intro at_104 rfl
theorem d_code_106 : D code 106 (.invokespecial 9) 3 109 := And.intro at_106 rfl
theorem pd5 : parseMethodDescriptor "([C)V" = some ⟨[(.array .char)], none⟩ := by decide +kernel
theorem d_code_109 : D code 109 (.astore 11) 2 111 := And.intro at_109 rfl
theorem d_code_111 : D code 111 (.new 12) 3 114 := And.intro at_111 rfl
theorem d_code_114 : D code 114 (.dup) 1 115 := And.intro at_114 rfl
theorem d_code_115 : D code 115 (.aload 11) 2 117 := And.intro at_115 rfl
theorem d_code_117 : D code 117 (.lload_n 2) 1 118 := And.intro at_117 rfl
theorem d_code_118 : D code 118 (.lload 4) 2 120 := And.intro at_118 rfl
theorem d_code_120 : D code 120 (.lload 6) 2 122 := And.intro at_120 rfl
theorem d_code_122 : D code 122 (.lload 8) 2 124 := And.intro at_122 rfl
theorem d_code_124 : D code 124 (.invokespecial 14) 3 127 := And.intro at_124 rfl
theorem pd6 : parseMethodDescriptor "(Ljava/lang/String;JJJJ)V" = some ⟨[(.object "java/lang/String"), .long, .long, .long, .long], none⟩ := by decide +kernel
theorem d_code_127 : D code 127 (.astore 12) 2 129 := And.intro at_127 rfl
theorem d_code_129 : D code 129 (.aload 12) 2 131 := And.intro at_129 rfl
theorem d_code_131 : D code 131 (.invokevirtual 17) 3 134 := And.intro at_131 rfl
theorem pd7 : parseMethodDescriptor "()Z" = some ⟨[], some .boolean⟩ := by decide +kernel
theorem d_code_134 : D code 134 (.iload 10) 2 136 := And.intro at_134 rfl
theorem d_code_136 : D code 136 (.ifCond .ne 7) 3 139 := And.intro at_136 rfl
theorem d_code_143 : D code 143 (.iconst 0) 1 144 := And.intro at_143 rfl
theorem d_code_144 : D code 144 (.if_icmp .ne 7) 3 147 := And.intro at_144 rfl
theorem d_code_147 : D code 147 (.iconst 1) 1 148 := And.intro at_147 rfl
theorem d_code_148 : D code 148 (.goto 4) 3 151 := And.intro at_148 rfl
theorem d_code_152 : D code 152 (.ireturn) 1 153 := And.intro at_152 rfl
theorem d_code_43 : D code 43 (.iconst 1) 1 44 := And.intro at_43 rfl
theorem d_code_44 : D code 44 (.newarray .char) 2 46 := And.intro at_44 rfl
theorem d_code_46 : D code 46 (.astore 12) 2 48 := And.intro at_46 rfl
theorem d_code_48 : D code 48 (.aload 12) 2 50 := And.intro at_48 rfl
theorem d_code_50 : D code 50 (.iconst 0) 1 51 := And.intro at_50 rfl
theorem d_code_51 : D code 51 (.iload_n 1) 1 52 := And.intro at_51 rfl
theorem d_code_52 : D code 52 (.sipush 255) 3 55 := And.intro at_52 rfl
theorem d_code_55 : D code 55 (.iand) 1 56 := And.intro at_55 rfl
theorem d_code_56 : D code 56 (.i2c) 1 57 := And.intro at_56 rfl
theorem d_code_57 : D code 57 (.castore) 1 58 := And.intro at_57 rfl
theorem d_code_58 : D code 58 (.new 7) 3 61 := And.intro at_58 rfl
theorem d_code_61 : D code 61 (.dup) 1 62 := And.intro at_61 rfl
theorem d_code_62 : D code 62 (.aload 12) 2 64 := And.intro at_62 rfl
theorem d_code_64 : D code 64 (.invokespecial 9) 3 67 := And.intro at_64 rfl
theorem d_code_67 : D code 67 (.astore 11) 2 69 := And.intro at_67 rfl
theorem d_code_69 : D code 69 (.goto 42) 3 72 := And.intro at_69 rfl
theorem d_code_22 : D code 22 (.new 7) 3 25 := And.intro at_22 rfl
theorem d_code_25 : D code 25 (.dup) 1 26 := And.intro at_25 rfl
theorem d_code_26 : D code 26 (.iconst 0) 1 27 := And.intro at_26 rfl
theorem d_code_27 : D code 27 (.newarray .char) 2 29 := And.intro at_27 rfl
theorem d_code_29 : D code 29 (.invokespecial 9) 3 32 := And.intro at_29 rfl
theorem d_code_32 : D code 32 (.astore 11) 2 34 := And.intro at_32 rfl
theorem d_code_34 : D code 34 (.goto 77) 3 37 := And.intro at_34 rfl
theorem d_code_10 : D code 10 (.aconst_null) 1 11 := And.intro at_10 rfl
theorem d_code_11 : D code 11 (.astore 11) 2 13 := And.intro at_11 rfl
theorem d_code_13 : D code 13 (.goto 98) 3 16 := And.intro at_13 rfl
theorem d_code_139 : D code 139 (.iconst 1) 1 140 := And.intro at_139 rfl
theorem d_code_140 : D code 140 (.goto 4) 3 143 := And.intro at_140 rfl
theorem pn4 : plainName "com/example/proofs_for_datalog/proofsfordatalog/kernel/VerdictValidPinLaw" = true := by first | (simp [plainName, overriddenIn]; done) | decide +kernel
theorem own_EW {Z : State} {a0 : Array Value} (hw : ∀ d ∈ tables_1, d.before a0 Z = true) : EW Z a0 own_EL := (EW.cons (w57 hw) (by decide) EW.nil)
theorem wS {Z : State} {a0 : Array Value} (hw : ∀ d ∈ tables_1, d.before a0 Z = true) : ∀ a ∈ Bundle.stringAtoms, a.before a0 Z = true := fun a ha => hw a ((by decide +kernel : ∀ a ∈ Bundle.stringAtoms, a ∈ tables_1) a ha)
set_option maxRecDepth 65536 in
set_option maxHeartbeats 40000000 in
theorem ct_cmp5 (l : Launch) (Z : State) (a0 : Array Value) (hw : ∀ d ∈ tables_1, d.before a0 Z = true) (n0 : Nat) (h0 : Heap) (a b : Addr) (cs : List Int32) (vs : List Value) (A0 : Av Z h0 a .char (cs.map Value.int)) (B0 : Av Z h0 b .byte vs) (hlen : vs.length = cs.length) (hR : ∀ c ∈ cs, Rg c 256) : Ct l Z a0 own_EL false (⟨"java/lang/StringUTF16", "compress", "([CI[BII)I"⟩ : MethodName) jdk_52_method_21_code 7 (Option.some Jvm.ClassFile.FieldType.int) ({ frames := 0, cells := 0, slots := 0, locals := 0 } : Room) #[(.ref a), (.int (0 : Int32)), (.ref b), (.int (0 : Int32)), (.int (Int32.ofNat cs.length))] h0 [b] n0 (fun v h so => v = some (.int (Int32.ofNat cs.length)) ∧ Keep h0 h [b] ∧ Av Z h b .byte ((cs.map i2b).map Value.int)) := by
  refine Ct.body (plainFor_of_name pn0) ?_
  intro p e s m below meth c T W
  refine WP.cast (g' := (mkF m 0 #[.val (.ref a), .val (.int (0 : Int32)), .val (.ref b), .val (.int (0 : Int32)), .val (.int (Int32.ofNat cs.length)), .unset, .unset] [])) (by simp [entryFrame, mkF, argsToLocals, cat_i, cat_l, cat_r, cat_n]) ?_
  have hN : cs.length < 2147483648 := by have := A0.len; simpa using this
  have hab : a ≠ b := ne_av A0 B0 (by decide)
  refine k_iconst W d_jdk_52_21_0 (z := (0 : Int32)) rfl ?_
  refine k_istore W d_jdk_52_21_1 (L' := #[.val (.ref a), .val (.int (0 : Int32)), .val (.ref b), .val (.int (0 : Int32)), .val (.int (Int32.ofNat cs.length)), .val (.int (0 : Int32)), .unset]) rfl ?_
  have loop : ∀ (k i : Nat) (T : State) (h : Heap) (s6 : Slot), i + k = cs.length → (s6 = .unset ∨ ∃ w, s6 = .val w ∧ w.category = 1) → WS p l e ({ frames := 0, cells := 0, slots := 0, locals := 0 } : Room) s m #[(.ref a), (.int (0 : Int32)), (.ref b), (.int (0 : Int32)), (.int (Int32.ofNat cs.length))] below meth c Z a0 own_EL false n0 (⟨"java/lang/StringUTF16", "compress", "([CI[BII)I"⟩ : MethodName) jdk_52_method_21_code 7 (Option.some Jvm.ClassFile.FieldType.int) T h [b] 0 0 → Keep h0 h [b] → Av Z h b .byte (((cs.take i).map i2b).map Value.int ++ vs.drop i) → WP p e below (Fne s n0 Z own_EL false ({ frames := 0, cells := 0, slots := 0, locals := 0 } : Room) (fun v h so => v = some (.int (Int32.ofNat cs.length)) ∧ Keep h0 h [b] ∧ Av Z h b .byte ((cs.map i2b).map Value.int))) T (mkF m 3 #[.val (.ref a), .val (.int (Int32.ofNat i)), .val (.ref b), .val (.int (Int32.ofNat i)), .val (.int (Int32.ofNat cs.length)), .val (.int (Int32.ofNat i)), s6] []) := by
    intro k
    induction k with
    | zero =>
      intro i T h s6 hi h6 W KB AB
      obtain rfl : i = cs.length := by omega
      refine k_iload W d_jdk_52_21_3 rfl ?_
      refine k_iload W d_jdk_52_21_5 rfl ?_
      refine k_icY W 44 d_jdk_52_21_7 (by decide) (show ¬ (Int32.ofNat cs.length) < (Int32.ofNat cs.length) from (of_ge (Nat.le_refl _) hN)) ?_
      refine k_iload W d_jdk_52_21_44 rfl ?_
      exact k_ireturn W d_jdk_52_21_46 rfl [] (fun x hx => nomatch hx) (Nat.le_of_ble_eq_true rfl) (Nat.le_of_ble_eq_true rfl) ⟨rfl, KB, by rw [List.take_length, List.drop_eq_nil_of_le (by omega), List.append_nil] at AB; exact AB⟩
    | succ k ih =>
      intro i T h s6 hi h6 W KB AB
      have hlt : i < cs.length := by omega
      obtain ⟨ci, hci⟩ : ∃ c, cs[i]? = some c := ⟨_, List.getElem?_eq_getElem hlt⟩
      have hRi : Rg ci 256 := hR _ (List.mem_of_getElem? hci)
      refine k_iload W d_jdk_52_21_3 rfl ?_
      refine k_iload W d_jdk_52_21_5 rfl ?_
      refine k_icN W d_jdk_52_21_7 (show ¬ (¬ (Int32.ofNat i) < (Int32.ofNat cs.length)) from (fun q => q (of_lt hlt hN))) ?_
      refine k_aloadN W d_jdk_52_21_10 rfl rfl ?_
      refine k_iloadN W d_jdk_52_21_11 rfl ?_
      refine k_caload W (v := (.int ci)) i d_jdk_52_21_12 (A0.keep KB (nin1 hab)) (ix_of (by omega)) (by simp [hci]) ?_
      refine k_istore W d_jdk_52_21_13 (L' := #[.val (.ref a), .val (.int (Int32.ofNat i)), .val (.ref b), .val (.int (Int32.ofNat i)), .val (.int (Int32.ofNat cs.length)), .val (.int (Int32.ofNat i)), .val (.int ci)]) (XS.store1 rfl h6 rfl) ?_
      refine k_iload W d_jdk_52_21_15 rfl ?_
      refine k_sipush W d_jdk_52_21_17 (z := (255 : Int32)) rfl ?_
      refine k_icY W 26 d_jdk_52_21_20 (by decide) (show ¬ (255 : Int32) < ci from (Rg.le255 hRi)) ?_
      refine k_aloadN W d_jdk_52_21_26 rfl rfl ?_
      refine k_iloadN W d_jdk_52_21_27 rfl ?_
      refine k_iload W d_jdk_52_21_28 rfl ?_
      refine k_i2b W d_jdk_52_21_30 (z := (i2b ci)) rfl ?_
      refine k_bastore W (z := (i2b ci)) i d_jdk_52_21_31 (List.mem_of_getElem? (i := 0) rfl) AB (ix_of (by omega)) (by simp; omega) (nar_i2b _) (fits_i2b _) fun T h1 W Wr1 A1 => ?_
      have K1 : Keep h h1 [b] := Keep.of_wr Wr1
      refine k_iinc W d_jdk_52_21_32 rfl (z := (Int32.ofNat (i + 1))) (of_succ i) (L' := #[.val (.ref a), .val (.int (Int32.ofNat (i + 1))), .val (.ref b), .val (.int (Int32.ofNat i)), .val (.int (Int32.ofNat cs.length)), .val (.int (Int32.ofNat i)), .val (.int ci)]) rfl ?_
      refine k_iinc W d_jdk_52_21_35 rfl (z := (Int32.ofNat (i + 1))) (of_succ i) (L' := #[.val (.ref a), .val (.int (Int32.ofNat (i + 1))), .val (.ref b), .val (.int (Int32.ofNat (i + 1))), .val (.int (Int32.ofNat cs.length)), .val (.int (Int32.ofNat i)), .val (.int ci)]) rfl ?_
      refine k_iinc W d_jdk_52_21_38 rfl (z := (Int32.ofNat (i + 1))) (of_succ i) (L' := #[.val (.ref a), .val (.int (Int32.ofNat (i + 1))), .val (.ref b), .val (.int (Int32.ofNat (i + 1))), .val (.int (Int32.ofNat cs.length)), .val (.int (Int32.ofNat (i + 1))), .val (.int ci)]) rfl ?_
      refine k_goto W 3 d_jdk_52_21_41 (by decide) ?_
      refine ih (i + 1) T h1 _ (by omega) (Or.inr ⟨_, rfl, rfl⟩) W (KB.trans K1 (fun x hx => Or.inl hx)) ?_
      have hh := A1
      rw [cmp_step hci hlen] at hh; exact hh
  exact loop cs.length 0 T h0 .unset (by omega) (Or.inl rfl) W (Keep.refl _ _) (by simpa using B0)
set_option maxRecDepth 65536 in
set_option maxHeartbeats 40000000 in
theorem ct_cmp3 (l : Launch) (Z : State) (a0 : Array Value) (hw : ∀ d ∈ tables_1, d.before a0 Z = true) (n0 : Nat) (h0 : Heap) (a : Addr) (cs : List Int32) (N : Nat) (A0 : Av Z h0 a .char (cs.map Value.int)) (hR : ∀ c ∈ cs, Rg c 256) (hN : cs.length ≤ N) (hN2 : N ≤ 67108864) : Ct l Z a0 own_EL false (⟨"java/lang/StringUTF16", "compress", "([CII)[B"⟩ : MethodName) jdk_52_method_16_code 6 (Option.some (Jvm.ClassFile.FieldType.array Jvm.ClassFile.FieldType.byte)) ({ frames := 1, cells := 1, slots := N, locals := 18 } : Room) #[(.ref a), (.int (0 : Int32)), (.int (Int32.ofNat cs.length))] h0 [] n0 (fun v h so => ∃ b, v = some (.ref b) ∧ h0.size ≤ b ∧ Keep h0 h [] ∧ Av Z h b .byte ((cs.map i2b).map Value.int)) := by
  refine Ct.body (plainFor_of_name pn0) ?_
  intro p e s m below meth c T W
  refine WP.cast (g' := (mkF m 0 #[.val (.ref a), .val (.int (0 : Int32)), .val (.int (Int32.ofNat cs.length)), .unset, .unset, .unset] [])) (by simp [entryFrame, mkF, argsToLocals, cat_i, cat_l, cat_r, cat_n]) ?_
  refine k_iloadN W d_jdk_52_16_0 rfl ?_
  refine k_newarr W cs.length 1 (0 + cs.length) d_jdk_52_16_1 (w46 hw) (ix_of (by omega)) (by omega) ⟨rfl, Nat.le_of_ble_eq_true rfl⟩ ⟨rfl, (by show 0 + cs.length ≤ N; omega)⟩ fun T h2 a3 g3 W E3 A3 => ?_
  have K3 : Keep h0 h2 [] := keep_ext E3 []
  have A3 : Av Z h2 a3 .byte (List.replicate cs.length (defaultValue .byte)) := A3
  refine k_astoreN W d_jdk_52_16_3 rfl (L' := #[.val (.ref a), .val (.int (0 : Int32)), .val (.int (Int32.ofNat cs.length)), .val (.ref a3), .unset, .unset]) rfl ?_
  refine k_aloadN W d_jdk_52_16_4 rfl rfl ?_
  refine k_iloadN W d_jdk_52_16_5 rfl ?_
  refine k_aloadN W d_jdk_52_16_6 rfl rfl ?_
  refine k_iconst W d_jdk_52_16_7 (z := (0 : Int32)) rfl ?_
  refine k_iloadN W d_jdk_52_16_8 rfl ?_
  have f4 := (A0.keep K3 nin0)
  refine k_callS W 0 1 ((0 + cs.length) + 0) (argsL := [(.ref a), (.int (0 : Int32)), (.ref a3), (.int (0 : Int32)), (.int (Int32.ofNat cs.length))]) (rest := []) d_jdk_52_16_9 (w47 hw) (w48 hw) (by decide) (lenOf pd0 rfl) (ct_cmp5 l Z a0 hw n0 h2 a a3 cs (List.replicate cs.length (defaultValue .byte)) f4 A3 (by simp) hR) (w49 hw) (w44 hw) (fun x hx => hx) rfl (Nat.le_of_eq rfl) (Nat.le_of_ble_eq_true rfl) (Nat.le_of_ble_eq_true rfl) ⟨rfl, Nat.le_of_ble_eq_true rfl⟩ ⟨rfl, (by show 0 + cs.length ≤ N; omega)⟩ rfl (fun _ _ q => nomatch q.1) fun T h5 v so W hQ => ?_
  obtain ⟨hv, K5, B5⟩ := hQ
  obtain rfl := Option.some.inj hv
  refine k_istore W d_jdk_52_16_12 (L' := #[.val (.ref a), .val (.int (0 : Int32)), .val (.int (Int32.ofNat cs.length)), .val (.ref a3), .val (.int (Int32.ofNat cs.length)), .unset]) rfl ?_
  refine k_iload W d_jdk_52_16_14 rfl ?_
  refine k_iloadN W d_jdk_52_16_16 rfl ?_
  refine k_icY W 57 d_jdk_52_16_17 (by decide) (show (Int32.ofNat cs.length) = (Int32.ofNat cs.length) from rfl) ?_
  refine k_aloadN W d_jdk_52_16_57 rfl rfl ?_
  have KK6 : Keep h0 h2 [] := (Keep.refl h0 []).trans K3 all0
  have KK7 : Keep h0 h5 [] := KK6.trans K5 (allS (Or.inr (Nat.le_of_eq g3.symm)) all0)
  exact k_areturn W d_jdk_52_16_58 rfl rfl rfl [] (fun x hx => nomatch hx) (Nat.le_of_ble_eq_true rfl) (by show 0 + cs.length + 0 ≤ N; omega) ⟨_, rfl, (Nat.le_of_eq g3.symm), KK7, B5⟩
set_option maxRecDepth 65536 in
set_option maxHeartbeats 40000000 in
theorem ct_cfal (l : Launch) (Z : State) (a0 : Array Value) (hw : ∀ d ∈ tables_1, d.before a0 Z = true) (n0 : Nat) (h0 : Heap) (b : Addr) (vs : List Value) (B0 : Av Z h0 b .byte vs) : Ct l Z a0 own_EL false (⟨"java/lang/StringUTF16", "coderFromArrayLen", "([BI)B"⟩ : MethodName) jdk_52_method_15_code 2 (Option.some Jvm.ClassFile.FieldType.byte) ({ frames := 0, cells := 0, slots := 0, locals := 0 } : Room) #[(.ref b), (.int (Int32.ofNat vs.length))] h0 [] n0 (fun v h so => v = some (.int (0 : Int32)) ∧ h0 = h ∧ so = []) := by
  refine Ct.body (plainFor_of_name pn0) ?_
  intro p e s m below meth c T W
  refine WP.cast (g' := (mkF m 0 #[.val (.ref b), .val (.int (Int32.ofNat vs.length))] [])) (by simp [entryFrame, mkF, argsToLocals, cat_i, cat_l, cat_r, cat_n]) ?_
  refine k_iloadN W d_jdk_52_15_0 rfl ?_
  refine k_aloadN W d_jdk_52_15_1 rfl rfl ?_
  refine k_arraylength W (z := (Int32.ofNat vs.length)) d_jdk_52_15_2 B0 rfl ?_
  refine k_isub W d_jdk_52_15_3 (z := ((Int32.ofNat vs.length) - (Int32.ofNat vs.length))) rfl ?_
  refine k_bipush W d_jdk_52_15_4 (z := (31 : Int32)) rfl ?_
  obtain ⟨v8, ev8⟩ : ∃ z : Int32, z = (XT.ushr ((Int32.ofNat vs.length) - (Int32.ofNat vs.length)) (31 : Int32)) := ⟨_, rfl⟩
  refine k_iushr W d_jdk_52_15_6 ev8.symm ?_
  refine k_i2b W d_jdk_52_15_7 (z := (i2b v8)) rfl ?_
  exact k_retN W (t := .byte) (z' := (0 : Int32)) d_jdk_52_15_8 rfl (by simp) (by subst_vars; rw [Int32.sub_self]; decide) [] (fun x hx => nomatch hx) (Nat.le_of_ble_eq_true rfl) (Nat.le_of_ble_eq_true rfl) ⟨rfl, rfl, rfl⟩
set_option maxRecDepth 65536 in
set_option maxHeartbeats 40000000 in
theorem ct_sinit4 (l : Launch) (Z : State) (a0 : Array Value) (hw : ∀ d ∈ tables_1, d.before a0 Z = true) (n0 : Nat) (h0 : Heap) (x a : Addr) (cs : List Int32) (N : Nat) (zc : Int32) (v0 c0 : Value) (E0 : Exa Z h0 x "java/lang/String") (V0 : Fld Z h0 x "java/lang/String" "value" "[B" v0) (C0 : Fld Z h0 x "java/lang/String" "coder" "B" c0) (A0 : Av Z h0 a .char (cs.map Value.int)) (P0 : Sta Z h0 "java/lang/String" "COMPACT_STRINGS" "Z" (.int zc)) (hzc : zc ≠ 0) (hR : ∀ c ∈ cs, Rg c 256) (hp : 0 < cs.length) (hN : cs.length ≤ N) (hN2 : N ≤ 67108864) : Ct l Z a0 own_EL false (⟨"java/lang/String", "<init>", "([CIILjava/lang/Void;)V"⟩ : MethodName) jdk_42_method_149_code 6 (Option.none : Option Jvm.ClassFile.FieldType) ({ frames := 2, cells := 1, slots := N, locals := 35 } : Room) #[(.ref x), (.ref a), (.int (0 : Int32)), (.int (Int32.ofNat cs.length)), .null] h0 [x] n0 (fun v h so => v = none ∧ ∃ b, h0.size ≤ b ∧ Keep h0 h [x] ∧ St Z h x b (cs.map i2b)) := by
  refine Ct.body (plainFor_of_name pn1) ?_
  intro p e s m below meth c T W
  refine WP.cast (g' := (mkF m 0 #[.val (.ref x), .val (.ref a), .val (.int (0 : Int32)), .val (.int (Int32.ofNat cs.length)), .val .null, .unset] [])) (by simp [entryFrame, mkF, argsToLocals, cat_i, cat_l, cat_r, cat_n]) ?_
  have hL : cs.length < 2147483648 := by omega
  have hnz : ¬ Int32.ofNat cs.length = 0 := of_ne0 hp hL
  refine k_aloadN W d_jdk_42_149_0 rfl rfl ?_
  refine k_initO W 0 d_jdk_42_149_1 (w40 hw) (w12 hw) (w13 hw) rfl (Nat.le_of_eq rfl) (Nat.le_of_ble_eq_true rfl) (Nat.le_of_ble_eq_true rfl) fun T W => ?_
  refine k_iloadN W d_jdk_42_149_4 rfl ?_
  refine k_ifY W 27 d_jdk_42_149_5 (by decide) (show ¬ (Int32.ofNat cs.length) = 0 from hnz) ?_
  refine k_getS W d_jdk_42_149_27 (w41 hw) Via.refl P0 fun T W => ?_
  refine k_ifN W d_jdk_42_149_30 (show ¬ (zc = 0) from hzc) ?_
  refine k_aloadN W d_jdk_42_149_33 rfl rfl ?_
  refine k_iloadN W d_jdk_42_149_34 rfl ?_
  refine k_iloadN W d_jdk_42_149_35 rfl ?_
  refine k_callS W 0 1 (0 + N) (argsL := [(.ref a), (.int (0 : Int32)), (.int (Int32.ofNat cs.length))]) (rest := []) d_jdk_42_149_36 (w42 hw) (w43 hw) (by decide) (lenOf pd1 rfl) (ct_cmp3 l Z a0 hw n0 h0 a cs N A0 hR hN hN2) (w45 hw) (w44 hw) (fun x hx => nomatch hx) rfl (Nat.le_of_eq rfl) (Nat.le_of_ble_eq_true rfl) (Nat.le_of_ble_eq_true rfl) ⟨rfl, Nat.le_of_ble_eq_true rfl⟩ ⟨rfl, (by show 0 + N ≤ N; omega)⟩ rfl (fun _ _ ⟨_, q, _⟩ => nomatch q) fun T h9 v so W hQ => ?_
  obtain ⟨b9, hv, g9, K9, B9⟩ := hQ
  obtain rfl := Option.some.inj hv
  refine k_astore W d_jdk_42_149_39 rfl (L' := #[.val (.ref x), .val (.ref a), .val (.int (0 : Int32)), .val (.int (Int32.ofNat cs.length)), .val .null, .val (.ref b9)]) rfl ?_
  refine k_aloadN W d_jdk_42_149_41 rfl rfl ?_
  refine k_aload W d_jdk_42_149_42 rfl rfl ?_
  refine k_iloadN W d_jdk_42_149_44 rfl ?_
  have hvl : ((cs.map i2b).map Value.int).length = cs.length := by simp
  have hqc := ct_cfal l Z a0 hw n0 h9 b9 ((cs.map i2b).map Value.int) B9
  rw [hvl] at hqc
  refine k_callS W 1 1 ((0 + N) + 0) (argsL := [(.ref b9), (.int (Int32.ofNat cs.length))]) (rest := [(.ref x)]) d_jdk_42_149_45 (w50 hw) (w51 hw) (by decide) (lenOf pd2 rfl) hqc (w52 hw) (w44 hw) (fun x hx => nomatch hx) rfl (Nat.le_of_eq rfl) (Nat.le_of_ble_eq_true rfl) (Nat.le_of_ble_eq_true rfl) ⟨rfl, Nat.le_of_ble_eq_true rfl⟩ ⟨rfl, (by show 0 + N ≤ N; omega)⟩ rfl (fun _ _ q => nomatch q.1) fun T h10 v so W hQ => ?_
  obtain ⟨hv, rfl, -⟩ := hQ
  obtain rfl := Option.some.inj hv
  have f11 := (C0.keep K9 nin0)
  have f12 := (E0.keep K9)
  refine k_putF W d_jdk_42_149_48 (w53 hw) Via.refl (v' := (.int (0 : Int32))) (List.mem_of_getElem? (i := 0) rfl) f11 f12 (Or.inr ⟨(w54 hw), rfl, rfl⟩) (w31 hw) (ty := .byte) (by decide) (by decide) (by decide) fun T h13 W Wr13 => ?_
  have K13 : Keep h9 h13 [x] := Keep.of_wr Wr13
  refine k_aloadN W d_jdk_42_149_51 rfl rfl ?_
  refine k_aload W d_jdk_42_149_52 rfl rfl ?_
  have f14 := ((V0.keep K9 nin0).other Wr13 (Or.inr (slot_ne (Or.inr (w56 hw)) (Or.inr (w54 hw)) (by decide) (t := (.array .byte)) (t' := .byte) (by decide) (by decide))))
  have f15 := (f12.keep K13)
  refine k_putF W d_jdk_42_149_54 (w55 hw) Via.refl (v' := (.ref b9)) (List.mem_of_getElem? (i := 0) rfl) f14 f15 (Or.inr ⟨(w56 hw), rfl, rfl⟩) (w31 hw) (ty := (.array .byte)) (by decide) rfl rfl fun T h16 W Wr16 => ?_
  have K16 : Keep h13 h16 [x] := Keep.of_wr Wr16
  have KK17 : Keep h0 h9 [x] := (Keep.refl h0 [x]).trans K9 all0
  have KK18 : Keep h0 h13 [x] := KK17.trans K13 (allS (Or.inl (List.mem_of_getElem? (i := 0) rfl)) all0)
  have KK19 : Keep h0 h16 [x] := KK18.trans K16 (allS (Or.inl (List.mem_of_getElem? (i := 0) rfl)) all0)
  have f20 := (f15.keep K16)
  have f21 := ((Fld.same Wr13 f11).other Wr16 (Or.inr (slot_ne (Or.inr (w54 hw)) (Or.inr (w56 hw)) (by decide) (t := .byte) (t' := (.array .byte)) (by decide) (by decide))))
  have ne22 : b9 ≠ x := (Ne.symm (Nat.ne_of_lt (Nat.lt_of_lt_of_le E0.lt g9)))
  have f23 := ((B9.keep K13 (ninS ne22 nin0)).keep K16 (ninS ne22 nin0))
  exact k_ret W d_jdk_42_149_57 rfl [] (fun x hx => nomatch hx) (Nat.le_of_ble_eq_true rfl) (by show 0 + N ≤ N; omega) ⟨rfl, _, g9, KK19, f20, f21, (Fld.same Wr16 f14), f23⟩
set_option maxRecDepth 65536 in
set_option maxHeartbeats 40000000 in
theorem ct_sinit (l : Launch) (Z : State) (a0 : Array Value) (hw : ∀ d ∈ tables_1, d.before a0 Z = true) (n0 : Nat) (h0 : Heap) (x a : Addr) (cs : List Int32) (N : Nat) (zc : Int32) (v0 c0 : Value) (E0 : Exa Z h0 x "java/lang/String") (V0 : Fld Z h0 x "java/lang/String" "value" "[B" v0) (C0 : Fld Z h0 x "java/lang/String" "coder" "B" c0) (A0 : Av Z h0 a .char (cs.map Value.int)) (P0 : Sta Z h0 "java/lang/String" "COMPACT_STRINGS" "Z" (.int zc)) (hzc : zc ≠ 0) (hR : ∀ c ∈ cs, Rg c 256) (hp : 0 < cs.length) (hN : cs.length ≤ N) (hN2 : N ≤ 67108864) : Ct l Z a0 own_EL false (⟨"java/lang/String", "<init>", "([C)V"⟩ : MethodName) jdk_42_method_3_code 2 (Option.none : Option Jvm.ClassFile.FieldType) ({ frames := 3, cells := 1, slots := N, locals := 52 } : Room) #[(.ref x), (.ref a)] h0 [x] n0 (fun v h so => v = none ∧ ∃ b, h0.size ≤ b ∧ Keep h0 h [x] ∧ St Z h x b (cs.map i2b)) := by
  refine Ct.body (plainFor_of_name pn1) ?_
  intro p e s m below meth c T W
  refine WP.cast (g' := (mkF m 0 #[.val (.ref x), .val (.ref a)] [])) (by simp [entryFrame, mkF, argsToLocals, cat_i, cat_l, cat_r, cat_n]) ?_
  refine k_aloadN W d_jdk_42_3_0 rfl rfl ?_
  refine k_aloadN W d_jdk_42_3_1 rfl rfl ?_
  refine k_iconst W d_jdk_42_3_2 (z := (0 : Int32)) rfl ?_
  refine k_aloadN W d_jdk_42_3_3 rfl rfl ?_
  refine k_arraylength W (z := (Int32.ofNat cs.length)) d_jdk_42_3_4 A0 (by first | (rw [List.length_map]; done) | (rw [List.length_map]; rfl)) ?_
  refine k_aconst W d_jdk_42_3_5 ?_
  refine k_callI0 W 0 1 (0 + N) (argsL := [(.ref a), (.int (0 : Int32)), (.int (Int32.ofNat cs.length)), .null]) (rest := []) (a := x) d_jdk_42_3_6 rfl rfl (w36 hw) (w37 hw) (by decide) (lenOf pd3 rfl) (ct_sinit4 l Z a0 hw n0 h0 x a cs N zc v0 c0 E0 V0 C0 A0 P0 hzc hR hp hN hN2) (w39 hw) (w32 hw) (fun x hx => hx) rfl (Nat.le_of_eq rfl) (Nat.le_of_ble_eq_true rfl) (Nat.le_of_ble_eq_true rfl) ⟨rfl, Nat.le_of_ble_eq_true rfl⟩ ⟨rfl, (by show 0 + N ≤ N; omega)⟩ rfl (fun _ _ _ q => nomatch q.1) fun T h24 so W hQ => ?_
  have hq24 := hQ.2
  exact k_ret W d_jdk_42_3_9 rfl [] (fun x hx => nomatch hx) (Nat.le_of_ble_eq_true rfl) (by show 0 + N ≤ N; omega) ⟨rfl, hq24⟩
set_option maxRecDepth 65536 in
set_option maxHeartbeats 40000000 in
theorem ct_sinitE4 (l : Launch) (Z : State) (a0 : Array Value) (hw : ∀ d ∈ tables_1, d.before a0 Z = true) (n0 : Nat) (h0 : Heap) (x a : Addr) (sfx : List Addr) (v0 c0 : Value) (E0 : Exa Z h0 x "java/lang/String") (V0 : Fld Z h0 x "java/lang/String" "value" "[B" v0) (C0 : Fld Z h0 x "java/lang/String" "coder" "B" c0) : Ct l Z a0 own_EL false (⟨"java/lang/String", "<init>", "([CIILjava/lang/Void;)V"⟩ : MethodName) jdk_42_method_149_code 6 (Option.none : Option Jvm.ClassFile.FieldType) ({ frames := 1, cells := 4, slots := 8, locals := 12 } : Room) #[(.ref x), (.ref a), (.int (0 : Int32)), (.int (0 : Int32)), .null] h0 (x :: sfx) n0 (fun v h so => v = none ∧ ∃ b, Keep h0 h [x] ∧ St Z h x b [] ∧ ∀ z ∈ x :: sfx, z ≠ b) := by
  refine Ct.body (plainFor_of_name pn1) ?_
  intro p e s m below meth c T W
  refine WP.cast (g' := (mkF m 0 #[.val (.ref x), .val (.ref a), .val (.int (0 : Int32)), .val (.int (0 : Int32)), .val .null, .unset] [])) (by simp [entryFrame, mkF, argsToLocals, cat_i, cat_l, cat_r, cat_n]) ?_
  refine k_aloadN W d_jdk_42_149_0 rfl rfl ?_
  refine k_initO W 0 d_jdk_42_149_1 (w40 hw) (w12 hw) (w13 hw) rfl (Nat.le_of_eq rfl) (Nat.le_of_ble_eq_true rfl) (Nat.le_of_ble_eq_true rfl) fun T W => ?_
  refine k_iloadN W d_jdk_42_149_4 rfl ?_
  refine k_ifN W d_jdk_42_149_5 (show ¬ (¬ (0 : Int32) = 0) by decide) ?_
  refine k_aloadN W d_jdk_42_149_8 rfl rfl ?_
  refine k_ldcS W [] 0 2 4 rfl d_jdk_42_149_9 (w57 hw) (wS hw) (by decide) ⟨by decide, by decide⟩ (by decide) ⟨by decide, by decide⟩ ⟨rfl, Nat.le_of_ble_eq_true rfl⟩ ⟨rfl, Nat.le_of_ble_eq_true rfl⟩ fun T h25 a25 b25 W E25 S25 N25 => ?_
  have K25 : Keep h0 h25 [] := keep_ext E25 []
  refine k_getF W d_jdk_42_149_11 (host := "") (Or.inl (w55 hw)) Via.refl S25.2.2.1 fun T W => ?_
  have f26 := (V0.keep K25 nin0)
  have f27 := (E0.keep K25)
  refine k_putF W d_jdk_42_149_14 (w55 hw) Via.refl (v' := (.ref b25)) (List.mem_of_getElem? (i := 0) rfl) f26 f27 (Or.inr ⟨(w56 hw), rfl, rfl⟩) (w31 hw) (ty := (.array .byte)) (by decide) rfl rfl fun T h28 W Wr28 => ?_
  have K28 : Keep h25 h28 [x] := Keep.of_wr Wr28
  refine k_aloadN W d_jdk_42_149_17 rfl rfl ?_
  refine k_ldcS W [] 0 4 8 rfl d_jdk_42_149_18 (w57 hw) (wS hw) (by decide) ⟨by decide, by decide⟩ (by decide) ⟨by decide, by decide⟩ ⟨rfl, Nat.le_of_ble_eq_true rfl⟩ ⟨rfl, Nat.le_of_ble_eq_true rfl⟩ fun T h29 a29 b29 W E29 S29 N29 => ?_
  have K29 : Keep h28 h29 [] := keep_ext E29 []
  refine k_getF W d_jdk_42_149_20 (host := "") (Or.inl (w53 hw)) Via.refl S29.2.1 fun T W => ?_
  have f30 := (((C0.keep K25 nin0).other Wr28 (Or.inr (slot_ne (Or.inr (w54 hw)) (Or.inr (w56 hw)) (by decide) (t := .byte) (t' := (.array .byte)) (by decide) (by decide)))).keep K29 nin0)
  have f31 := ((f27.keep K28).keep K29)
  refine k_putF W d_jdk_42_149_23 (w53 hw) Via.refl (v' := (.int (0 : Int32))) (List.mem_of_getElem? (i := 0) rfl) f30 f31 (Or.inr ⟨(w54 hw), rfl, rfl⟩) (w31 hw) (ty := .byte) (by decide) (by decide) (by decide) fun T h32 W Wr32 => ?_
  have K32 : Keep h29 h32 [x] := Keep.of_wr Wr32
  have KK33 : Keep h0 h25 [x] := (Keep.refl h0 [x]).trans K25 all0
  have KK34 : Keep h0 h28 [x] := KK33.trans K28 (allS (Or.inl (List.mem_of_getElem? (i := 0) rfl)) all0)
  have KK35 : Keep h0 h29 [x] := KK34.trans K29 all0
  have KK36 : Keep h0 h32 [x] := KK35.trans K32 (allS (Or.inl (List.mem_of_getElem? (i := 0) rfl)) all0)
  have f37 := (f31.keep K32)
  have f38 := (((Fld.same Wr28 f26).keep K29 nin0).other Wr32 (Or.inr (slot_ne (Or.inr (w56 hw)) (Or.inr (w54 hw)) (by decide) (t := (.array .byte)) (t' := .byte) (by decide) (by decide))))
  have ne39 : a25 ≠ x := (Ne.symm (N25 _ (List.mem_of_getElem? (i := 0) rfl)).1)
  have ne40 : b25 ≠ x := (Ne.symm (N25 _ (List.mem_of_getElem? (i := 0) rfl)).2)
  have f41 := (((S25.keep K28 (ninS ne39 nin0) (ninS ne40 nin0)).keep K29 nin0 nin0).keep K32 (ninS ne39 nin0) (ninS ne40 nin0))
  exact k_ret W d_jdk_42_149_26 rfl [] (fun x hx => nomatch hx) (Nat.le_of_ble_eq_true rfl) (Nat.le_of_ble_eq_true rfl) ⟨rfl, b25, KK36, ⟨f37, (Fld.same Wr32 f30), f38, f41.2.2.2⟩, fun z hz => (N25 z hz).2⟩
set_option maxRecDepth 65536 in
set_option maxHeartbeats 40000000 in
theorem ct_sinitE (l : Launch) (Z : State) (a0 : Array Value) (hw : ∀ d ∈ tables_1, d.before a0 Z = true) (n0 : Nat) (h0 : Heap) (x a : Addr) (sfx : List Addr) (v0 c0 : Value) (E0 : Exa Z h0 x "java/lang/String") (V0 : Fld Z h0 x "java/lang/String" "value" "[B" v0) (C0 : Fld Z h0 x "java/lang/String" "coder" "B" c0) (A0 : Av Z h0 a .char []) : Ct l Z a0 own_EL false (⟨"java/lang/String", "<init>", "([C)V"⟩ : MethodName) jdk_42_method_3_code 2 (Option.none : Option Jvm.ClassFile.FieldType) ({ frames := 2, cells := 4, slots := 8, locals := 29 } : Room) #[(.ref x), (.ref a)] h0 (x :: sfx) n0 (fun v h so => v = none ∧ ∃ b, Keep h0 h [x] ∧ St Z h x b [] ∧ ∀ z ∈ x :: sfx, z ≠ b) := by
  refine Ct.body (plainFor_of_name pn1) ?_
  intro p e s m below meth c T W
  refine WP.cast (g' := (mkF m 0 #[.val (.ref x), .val (.ref a)] [])) (by simp [entryFrame, mkF, argsToLocals, cat_i, cat_l, cat_r, cat_n]) ?_
  refine k_aloadN W d_jdk_42_3_0 rfl rfl ?_
  refine k_aloadN W d_jdk_42_3_1 rfl rfl ?_
  refine k_iconst W d_jdk_42_3_2 (z := (0 : Int32)) rfl ?_
  refine k_aloadN W d_jdk_42_3_3 rfl rfl ?_
  refine k_arraylength W (z := (0 : Int32)) d_jdk_42_3_4 A0 rfl ?_
  refine k_aconst W d_jdk_42_3_5 ?_
  refine k_callI0 W 0 4 8 (argsL := [(.ref a), (.int (0 : Int32)), (.int (0 : Int32)), .null]) (rest := []) (a := x) d_jdk_42_3_6 rfl rfl (w36 hw) (w37 hw) (by decide) (lenOf pd3 rfl) (ct_sinitE4 l Z a0 hw n0 h0 x a sfx v0 c0 E0 V0 C0) (w39 hw) (w32 hw) (fun x hx => hx) rfl (Nat.le_of_eq rfl) (Nat.le_of_ble_eq_true rfl) (Nat.le_of_ble_eq_true rfl) ⟨rfl, Nat.le_of_ble_eq_true rfl⟩ ⟨rfl, Nat.le_of_ble_eq_true rfl⟩ rfl (fun _ _ _ q => nomatch q.1) fun T h42 so W hQ => ?_
  have hq42 := hQ.2
  exact k_ret W d_jdk_42_3_9 rfl [] (fun x hx => nomatch hx) (Nat.le_of_ble_eq_true rfl) (Nat.le_of_ble_eq_true rfl) ⟨rfl, hq42⟩
set_option maxRecDepth 65536 in
set_option maxHeartbeats 40000000 in
theorem ct_rec (l : Launch) (Z : State) (a0 : Array Value) (hw : ∀ d ∈ tables_1, d.before a0 Z = true) (n0 : Nat) (h0 : Heap) (x : Addr) : Ct l Z a0 own_EL false (⟨"java/lang/Record", "<init>", "()V"⟩ : MethodName) jdk_30_method_1_code 1 (Option.none : Option Jvm.ClassFile.FieldType) ({ frames := 1, cells := 0, slots := 0, locals := 12 } : Room) #[(.ref x)] h0 [] n0 (fun v h so => v = none ∧ h0 = h ∧ so = []) := by
  refine Ct.body (plainFor_of_name pn2) ?_
  intro p e s m below meth c T W
  refine WP.cast (g' := (mkF m 0 #[.val (.ref x)] [])) (by simp [entryFrame, mkF, argsToLocals, cat_i, cat_l, cat_r, cat_n]) ?_
  refine k_aloadN W d_jdk_30_1_0 rfl rfl ?_
  refine k_initO W 0 d_jdk_30_1_1 (w11 hw) (w12 hw) (w13 hw) rfl (Nat.le_of_eq rfl) (Nat.le_of_ble_eq_true rfl) (Nat.le_of_ble_eq_true rfl) fun T W => ?_
  exact k_ret W d_jdk_30_1_4 rfl [] (fun x hx => nomatch hx) (Nat.le_of_ble_eq_true rfl) (Nat.le_of_ble_eq_true rfl) ⟨rfl, rfl, rfl⟩
set_option maxRecDepth 65536 in
set_option maxHeartbeats 40000000 in
theorem ct_vinit (l : Launch) (Z : State) (a0 : Array Value) (hw : ∀ d ∈ tables_1, d.before a0 Z = true) (n0 : Nat) (h0 : Heap) (x : Addr) (r : Value) (hr : r.isRef = true) (j1 j2 j3 j4 : Int64) (E0 : Exa Z h0 x "com/example/proofs_for_datalog/proofsfordatalog/kernel/Verdict") (F0 : Fld Z h0 x "com/example/proofs_for_datalog/proofsfordatalog/kernel/Verdict" "reason" "Ljava/lang/String;" .null) (F1 : Fld Z h0 x "com/example/proofs_for_datalog/proofsfordatalog/kernel/Verdict" "conclusions" "J" (.long 0)) (F2 : Fld Z h0 x "com/example/proofs_for_datalog/proofsfordatalog/kernel/Verdict" "derived" "J" (.long 0)) (F3 : Fld Z h0 x "com/example/proofs_for_datalog/proofsfordatalog/kernel/Verdict" "leaves" "J" (.long 0)) (F4 : Fld Z h0 x "com/example/proofs_for_datalog/proofsfordatalog/kernel/Verdict" "assumed" "J" (.long 0)) : Ct l Z a0 own_EL false (⟨"com/example/proofs_for_datalog/proofsfordatalog/kernel/Verdict", "<init>", "(Ljava/lang/String;JJJJ)V"⟩ : MethodName) prog_34_method_1_code 10 (Option.none : Option Jvm.ClassFile.FieldType) ({ frames := 2, cells := 0, slots := 0, locals := 24 } : Room) #[(.ref x), r, (.long j1), (.long j2), (.long j3), (.long j4)] h0 [x] n0 (fun v h so => v = none ∧ Keep h0 h [x] ∧ Fld Z h x "com/example/proofs_for_datalog/proofsfordatalog/kernel/Verdict" "reason" "Ljava/lang/String;" r) := by
  refine Ct.body (plainFor_of_name pn3) ?_
  intro p e s m below meth c T W
  refine WP.cast (g' := (mkF m 0 #[.val (.ref x), .val r, .val (.long j1), .second, .val (.long j2), .second, .val (.long j3), .second, .val (.long j4), .second] [])) (by simp [entryFrame, mkF, argsToLocals, cat_i, cat_l, cat_r, cat_n, cat_ref hr]) ?_
  refine k_aloadN W d_prog_34_1_0 rfl rfl ?_
  refine k_callI0 W 0 0 0 (argsL := []) (rest := []) (a := x) d_prog_34_1_1 rfl rfl (w6 hw) (w7 hw) (by decide) (lenOf pd4 rfl) (ct_rec l Z a0 hw n0 h0 x) (w10 hw) (w9 hw) (fun x hx => nomatch hx) rfl (Nat.le_of_eq rfl) (Nat.le_of_ble_eq_true rfl) (Nat.le_of_ble_eq_true rfl) ⟨rfl, Nat.le_of_ble_eq_true rfl⟩ ⟨rfl, Nat.le_of_ble_eq_true rfl⟩ rfl (fun _ _ _ q => nomatch q.1) fun T h43 so W hQ => ?_
  obtain ⟨-, rfl, -⟩ := hQ
  refine k_aloadN W d_prog_34_1_4 rfl rfl ?_
  refine k_aloadN W d_prog_34_1_5 rfl hr ?_
  refine k_putF W d_prog_34_1_6 (w14 hw) Via.refl (v' := r) (List.mem_of_getElem? (i := 0) rfl) F0 E0 (Or.inr ⟨(w15 hw), rfl, rfl⟩) (w1 hw) (ty := (.object "java/lang/String")) (by decide) (nar_refv hr rfl) (fits_refv hr rfl) fun T h44 W Wr44 => ?_
  have K44 : Keep h0 h44 [x] := Keep.of_wr Wr44
  refine k_aloadN W d_prog_34_1_9 rfl rfl ?_
  refine k_lloadN W d_prog_34_1_10 rfl ?_
  have f45 := (F1.other Wr44 (Or.inr (slot_ne (Or.inr (w17 hw)) (Or.inr (w15 hw)) (by decide) (t := .long) (t' := (.object "java/lang/String")) (by decide) (by decide))))
  have f46 := (E0.keep K44)
  refine k_putF W d_prog_34_1_11 (w16 hw) Via.refl (v' := (.long j1)) (List.mem_of_getElem? (i := 0) rfl) f45 f46 (Or.inr ⟨(w17 hw), rfl, rfl⟩) (w1 hw) (ty := .long) (by decide) rfl rfl fun T h47 W Wr47 => ?_
  have K47 : Keep h44 h47 [x] := Keep.of_wr Wr47
  refine k_aloadN W d_prog_34_1_14 rfl rfl ?_
  refine k_lload W d_prog_34_1_15 rfl ?_
  have f48 := ((F2.other Wr44 (Or.inr (slot_ne (Or.inr (w19 hw)) (Or.inr (w15 hw)) (by decide) (t := .long) (t' := (.object "java/lang/String")) (by decide) (by decide)))).other Wr47 (Or.inr (slot_ne (Or.inr (w19 hw)) (Or.inr (w17 hw)) (by decide) (t := .long) (t' := .long) (by decide) (by decide))))
  have f49 := (f46.keep K47)
  refine k_putF W d_prog_34_1_17 (w18 hw) Via.refl (v' := (.long j2)) (List.mem_of_getElem? (i := 0) rfl) f48 f49 (Or.inr ⟨(w19 hw), rfl, rfl⟩) (w1 hw) (ty := .long) (by decide) rfl rfl fun T h50 W Wr50 => ?_
  have K50 : Keep h47 h50 [x] := Keep.of_wr Wr50
  refine k_aloadN W d_prog_34_1_20 rfl rfl ?_
  refine k_lload W d_prog_34_1_21 rfl ?_
  have f51 := (((F3.other Wr44 (Or.inr (slot_ne (Or.inr (w21 hw)) (Or.inr (w15 hw)) (by decide) (t := .long) (t' := (.object "java/lang/String")) (by decide) (by decide)))).other Wr47 (Or.inr (slot_ne (Or.inr (w21 hw)) (Or.inr (w17 hw)) (by decide) (t := .long) (t' := .long) (by decide) (by decide)))).other Wr50 (Or.inr (slot_ne (Or.inr (w21 hw)) (Or.inr (w19 hw)) (by decide) (t := .long) (t' := .long) (by decide) (by decide))))
  have f52 := (f49.keep K50)
  refine k_putF W d_prog_34_1_23 (w20 hw) Via.refl (v' := (.long j3)) (List.mem_of_getElem? (i := 0) rfl) f51 f52 (Or.inr ⟨(w21 hw), rfl, rfl⟩) (w1 hw) (ty := .long) (by decide) rfl rfl fun T h53 W Wr53 => ?_
  have K53 : Keep h50 h53 [x] := Keep.of_wr Wr53
  refine k_aloadN W d_prog_34_1_26 rfl rfl ?_
  refine k_lload W d_prog_34_1_27 rfl ?_
  have f54 := ((((F4.other Wr44 (Or.inr (slot_ne (Or.inr (w23 hw)) (Or.inr (w15 hw)) (by decide) (t := .long) (t' := (.object "java/lang/String")) (by decide) (by decide)))).other Wr47 (Or.inr (slot_ne (Or.inr (w23 hw)) (Or.inr (w17 hw)) (by decide) (t := .long) (t' := .long) (by decide) (by decide)))).other Wr50 (Or.inr (slot_ne (Or.inr (w23 hw)) (Or.inr (w19 hw)) (by decide) (t := .long) (t' := .long) (by decide) (by decide)))).other Wr53 (Or.inr (slot_ne (Or.inr (w23 hw)) (Or.inr (w21 hw)) (by decide) (t := .long) (t' := .long) (by decide) (by decide))))
  have f55 := (f52.keep K53)
  refine k_putF W d_prog_34_1_29 (w22 hw) Via.refl (v' := (.long j4)) (List.mem_of_getElem? (i := 0) rfl) f54 f55 (Or.inr ⟨(w23 hw), rfl, rfl⟩) (w1 hw) (ty := .long) (by decide) rfl rfl fun T h56 W Wr56 => ?_
  have K56 : Keep h53 h56 [x] := Keep.of_wr Wr56
  have KK57 : Keep h0 h44 [x] := (Keep.refl h0 [x]).trans K44 (allS (Or.inl (List.mem_of_getElem? (i := 0) rfl)) all0)
  have KK58 : Keep h0 h47 [x] := KK57.trans K47 (allS (Or.inl (List.mem_of_getElem? (i := 0) rfl)) all0)
  have KK59 : Keep h0 h50 [x] := KK58.trans K50 (allS (Or.inl (List.mem_of_getElem? (i := 0) rfl)) all0)
  have KK60 : Keep h0 h53 [x] := KK59.trans K53 (allS (Or.inl (List.mem_of_getElem? (i := 0) rfl)) all0)
  have KK61 : Keep h0 h56 [x] := KK60.trans K56 (allS (Or.inl (List.mem_of_getElem? (i := 0) rfl)) all0)
  have f62 := (((((Fld.same Wr44 F0).other Wr47 (Or.inr (slot_ne (Or.inr (w15 hw)) (Or.inr (w17 hw)) (by decide) (t := (.object "java/lang/String")) (t' := .long) (by decide) (by decide)))).other Wr50 (Or.inr (slot_ne (Or.inr (w15 hw)) (Or.inr (w19 hw)) (by decide) (t := (.object "java/lang/String")) (t' := .long) (by decide) (by decide)))).other Wr53 (Or.inr (slot_ne (Or.inr (w15 hw)) (Or.inr (w21 hw)) (by decide) (t := (.object "java/lang/String")) (t' := .long) (by decide) (by decide)))).other Wr56 (Or.inr (slot_ne (Or.inr (w15 hw)) (Or.inr (w23 hw)) (by decide) (t := (.object "java/lang/String")) (t' := .long) (by decide) (by decide))))
  exact k_ret W d_prog_34_1_32 rfl [] (fun x hx => nomatch hx) (Nat.le_of_ble_eq_true rfl) (Nat.le_of_ble_eq_true rfl) ⟨rfl, KK61, f62⟩
set_option maxRecDepth 65536 in
set_option maxHeartbeats 40000000 in
theorem ct_validN (l : Launch) (Z : State) (a0 : Array Value) (hw : ∀ d ∈ tables_1, d.before a0 Z = true) (n0 : Nat) (h0 : Heap) (x : Addr) (F0 : Fld Z h0 x "com/example/proofs_for_datalog/proofsfordatalog/kernel/Verdict" "reason" "Ljava/lang/String;" .null) : Ct l Z a0 own_EL false (⟨"com/example/proofs_for_datalog/proofsfordatalog/kernel/Verdict", "valid", "()Z"⟩ : MethodName) prog_34_method_2_code 1 (Option.some Jvm.ClassFile.FieldType.boolean) ({ frames := 0, cells := 0, slots := 0, locals := 0 } : Room) #[(.ref x)] h0 [] n0 (fun v h so => v = some (.int (1 : Int32)) ∧ h0 = h ∧ so = []) := by
  refine Ct.body (plainFor_of_name pn3) ?_
  intro p e s m below meth c T W
  refine WP.cast (g' := (mkF m 0 #[.val (.ref x)] [])) (by simp [entryFrame, mkF, argsToLocals, cat_i, cat_l, cat_r, cat_n]) ?_
  refine k_aloadN W d_prog_34_2_0 rfl rfl ?_
  refine k_getF W d_prog_34_2_1 (host := "") (Or.inl (w14 hw)) Via.refl F0 fun T W => ?_
  refine k_nnN W d_prog_34_2_4 ?_
  refine k_iconst W d_prog_34_2_7 (z := (1 : Int32)) rfl ?_
  refine k_goto W 12 d_prog_34_2_8 (by decide) ?_
  exact k_retN W (t := .boolean) (z' := (1 : Int32)) d_prog_34_2_12 rfl (by simp) (by decide) [] (fun x hx => nomatch hx) (Nat.le_of_ble_eq_true rfl) (Nat.le_of_ble_eq_true rfl) ⟨rfl, rfl, rfl⟩
set_option maxRecDepth 65536 in
set_option maxHeartbeats 40000000 in
theorem ct_validR (l : Launch) (Z : State) (a0 : Array Value) (hw : ∀ d ∈ tables_1, d.before a0 Z = true) (n0 : Nat) (h0 : Heap) (x : Addr) (q : Addr) (F0 : Fld Z h0 x "com/example/proofs_for_datalog/proofsfordatalog/kernel/Verdict" "reason" "Ljava/lang/String;" (.ref q)) : Ct l Z a0 own_EL false (⟨"com/example/proofs_for_datalog/proofsfordatalog/kernel/Verdict", "valid", "()Z"⟩ : MethodName) prog_34_method_2_code 1 (Option.some Jvm.ClassFile.FieldType.boolean) ({ frames := 0, cells := 0, slots := 0, locals := 0 } : Room) #[(.ref x)] h0 [] n0 (fun v h so => v = some (.int (0 : Int32)) ∧ h0 = h ∧ so = []) := by
  refine Ct.body (plainFor_of_name pn3) ?_
  intro p e s m below meth c T W
  refine WP.cast (g' := (mkF m 0 #[.val (.ref x)] [])) (by simp [entryFrame, mkF, argsToLocals, cat_i, cat_l, cat_r, cat_n]) ?_
  refine k_aloadN W d_prog_34_2_0 rfl rfl ?_
  refine k_getF W d_prog_34_2_1 (host := "") (Or.inl (w14 hw)) Via.refl F0 fun T W => ?_
  refine k_nnY W 11 d_prog_34_2_4 (by decide) ?_
  refine k_iconst W d_prog_34_2_11 (z := (0 : Int32)) rfl ?_
  exact k_retN W (t := .boolean) (z' := (0 : Int32)) d_prog_34_2_12 rfl (by simp) (by decide) [] (fun x hx => nomatch hx) (Nat.le_of_ble_eq_true rfl) (Nat.le_of_ble_eq_true rfl) ⟨rfl, rfl, rfl⟩
set_option maxRecDepth 65536 in
set_option maxHeartbeats 40000000 in
theorem rm0 (l : Launch) (Z : State) (a0 : Array Value) (hw : ∀ d ∈ tables_1, d.before a0 Z = true) (n0 : Nat) (h0 : Heap) (p0 p1 : Int32) (q2 q3 q4 q5 : Int64) (zc : Int32) (hzc : zc ≠ 0) (P0 : Sta Z h0 "java/lang/String" "COMPACT_STRINGS" "Z" (.int zc)) : Ct l Z a0 own_EL false x code maxLocals ret room_1 #[(.int p0), (.int p1), (.long q2), (.long q3), (.long q4), (.long q5)] h0 [] n0 (fun v h so => v = some (.int 1)) := by
  refine Ct.body (plainFor_of_name pn4) ?_
  intro p e s m below meth c T W
  refine WP.cast (g' := (mkF m 0 #[.val (.int p0), .val (.int p1), .val (.long q2), .second, .val (.long q3), .second, .val (.long q4), .second, .val (.long q5), .second, .unset, .unset, .unset] [])) (by simp [entryFrame, mkF, argsToLocals, cat_i, cat_l, cat_r, cat_n, maxLocals]) ?_
  refine k_iloadN W d_code_0 rfl ?_
  refine k_iconst W d_code_1 (z := (3 : Int32)) rfl ?_
  refine k_iand W d_code_2 (z := (p0 &&& (3 : Int32))) rfl ?_
  refine k_istore W d_code_3 (L' := #[.val (.int p0), .val (.int p1), .val (.long q2), .second, .val (.long q3), .second, .val (.long q4), .second, .val (.long q5), .second, .val (.int (p0 &&& (3 : Int32))), .unset, .unset]) rfl ?_
  refine k_iload W d_code_5 rfl ?_
  refine k_if W 16 d_code_7 (by decide) (fun (hc63 : ¬ (p0 &&& (3 : Int32)) = 0) => ?_) (fun (hc63 : ¬ (¬ (p0 &&& (3 : Int32)) = 0)) => ?_)
  · -- pc 16
    refine k_iload W d_code_16 rfl ?_
    refine k_iconst W d_code_18 (z := (1 : Int32)) rfl ?_
    refine k_ic W 37 d_code_19 (by decide) (fun (hc64 : ¬ (p0 &&& (3 : Int32)) = (1 : Int32)) => ?_) (fun (hc64 : ¬ (¬ (p0 &&& (3 : Int32)) = (1 : Int32))) => ?_)
    · -- pc 37
      refine k_iload W d_code_37 rfl ?_
      refine k_iconst W d_code_39 (z := (2 : Int32)) rfl ?_
      refine k_ic W 72 d_code_40 (by decide) (fun (hc65 : ¬ (p0 &&& (3 : Int32)) = (2 : Int32)) => ?_) (fun (hc65 : ¬ (¬ (p0 &&& (3 : Int32)) = (2 : Int32))) => ?_)
      · -- pc 72
        refine k_iconst W d_code_72 (z := (2 : Int32)) rfl ?_
        refine k_newarr W 2 1 2 d_code_73 (w29 hw) (by decide) (by decide) ⟨rfl, Nat.le_of_ble_eq_true rfl⟩ ⟨rfl, Nat.le_of_ble_eq_true rfl⟩ fun T h66 a67 g67 W E67 A67 => ?_
        have K67 : Keep h0 h66 [] := keep_ext E67 []
        have A67 : Av Z h66 a67 .char [(.int (0 : Int32)), (.int (0 : Int32))] := A67
        refine k_astore W d_code_75 rfl (L' := #[.val (.int p0), .val (.int p1), .val (.long q2), .second, .val (.long q3), .second, .val (.long q4), .second, .val (.long q5), .second, .val (.int (p0 &&& (3 : Int32))), .unset, .val (.ref a67)]) rfl ?_
        refine k_aload W d_code_77 rfl rfl ?_
        refine k_iconst W d_code_79 (z := (0 : Int32)) rfl ?_
        refine k_iloadN W d_code_80 rfl ?_
        refine k_sipush W d_code_81 (z := (255 : Int32)) rfl ?_
        refine k_iand W d_code_84 (z := (p1 &&& (255 : Int32))) rfl ?_
        refine k_i2c W d_code_85 (z := (p1 &&& (255 : Int32))) (Rg.c (Rg.mono (Rg.and (n := 256) p1 (255 : Int32) (by decide)) (by decide))) ?_
        refine k_castore W (z := (p1 &&& (255 : Int32))) 0 d_code_86 (List.mem_of_getElem? (i := 0) rfl) A67 (by decide) (Nat.le_of_ble_eq_true rfl) (Rg.nar (Rg.mono (Rg.and (n := 256) p1 (255 : Int32) (by decide)) (by decide))) (Rg.fits (Rg.mono (Rg.and (n := 256) p1 (255 : Int32) (by decide)) (by decide))) fun T h68 W Wr68 A68 => ?_
        have K68 : Keep h66 h68 [a67] := Keep.of_wr Wr68
        have A68 : Av Z h68 a67 .char [(.int (p1 &&& (255 : Int32))), (.int (0 : Int32))] := A68
        refine k_aload W d_code_87 rfl rfl ?_
        refine k_iconst W d_code_89 (z := (1 : Int32)) rfl ?_
        refine k_iloadN W d_code_90 rfl ?_
        refine k_bipush W d_code_91 (z := (8 : Int32)) rfl ?_
        refine k_iushr W d_code_93 (z := (XT.ushr p1 (8 : Int32))) rfl ?_
        refine k_sipush W d_code_94 (z := (255 : Int32)) rfl ?_
        refine k_iand W d_code_97 (z := ((XT.ushr p1 (8 : Int32)) &&& (255 : Int32))) rfl ?_
        refine k_i2c W d_code_98 (z := ((XT.ushr p1 (8 : Int32)) &&& (255 : Int32))) (Rg.c (Rg.mono (Rg.and (n := 256) (XT.ushr p1 (8 : Int32)) (255 : Int32) (by decide)) (by decide))) ?_
        refine k_castore W (z := ((XT.ushr p1 (8 : Int32)) &&& (255 : Int32))) 1 d_code_99 (List.mem_of_getElem? (i := 0) rfl) A68 (by decide) (Nat.le_of_ble_eq_true rfl) (Rg.nar (Rg.mono (Rg.and (n := 256) (XT.ushr p1 (8 : Int32)) (255 : Int32) (by decide)) (by decide))) (Rg.fits (Rg.mono (Rg.and (n := 256) (XT.ushr p1 (8 : Int32)) (255 : Int32) (by decide)) (by decide))) fun T h69 W Wr69 A69 => ?_
        have K69 : Keep h68 h69 [a67] := Keep.of_wr Wr69
        have A69 : Av Z h69 a67 .char [(.int (p1 &&& (255 : Int32))), (.int ((XT.ushr p1 (8 : Int32)) &&& (255 : Int32)))] := A69
        refine k_new W 2 6 d_code_100 (w30 hw) (w31 hw) (w32 hw) ⟨rfl, Nat.le_of_ble_eq_true rfl⟩ ⟨rfl, Nat.le_of_ble_eq_true rfl⟩ fun T h70 a71 g71 W E71 X71 D71 => ?_
        have K71 : Keep h69 h70 [] := keep_ext E71 []
        refine k_dup W d_code_103 rfl ?_
        refine k_aload W d_code_104 rfl rfl ?_
        have f72 := (A69.keep K71 nin0)
        have f73 := (Sta.keep (Sta.keep (Sta.keep (Sta.keep P0 K67 ns0) K68 (nsS (Av.plain A67) ns0)) K69 (nsS (Av.plain A68) ns0)) K71 ns0)
        refine k_callI0 W 1 3 8 (argsL := [(.ref a67)]) (rest := [(.ref a71)]) (a := a71) d_code_106 rfl rfl (w33 hw) (w34 hw) (by decide) (lenOf pd5 rfl) (ct_sinit l Z a0 hw n0 h70 a71 a67 [(p1 &&& (255 : Int32)), ((XT.ushr p1 (8 : Int32)) &&& (255 : Int32))] 2 zc .null (.int (0 : Int32)) X71 (D71 (Or.inr (w56 hw)) (ty := (.array .byte)) (by decide)) (D71 (Or.inr (w54 hw)) (ty := .byte) (by decide)) f72 f73 hzc (rgS (Rg.and (n := 256) p1 (255 : Int32) (by decide)) (rgS (Rg.and (n := 256) (XT.ushr p1 (8 : Int32)) (255 : Int32) (by decide)) (fun _ q => nomatch q))) (Nat.le_of_ble_eq_true rfl) (Nat.le_of_ble_eq_true rfl) (by decide)) (w35 hw) (w32 hw) (fun x hx => by simp only [List.mem_cons, List.not_mem_nil, or_false] at hx; rcases hx with rfl; all_goals first | exact (List.mem_of_getElem? (i := 0) rfl)) rfl (Nat.le_of_eq rfl) (Nat.le_of_ble_eq_true rfl) (Nat.le_of_ble_eq_true rfl) ⟨rfl, Nat.le_of_ble_eq_true rfl⟩ ⟨rfl, Nat.le_of_ble_eq_true rfl⟩ rfl (fun _ _ _ q => nomatch q.1) fun T h74 so W hQ => ?_
        obtain ⟨-, b74, g74, K74, S74⟩ := hQ
        have S74 : St Z h74 a71 b74 [(i2b (p1 &&& (255 : Int32))), (i2b ((XT.ushr p1 (8 : Int32)) &&& (255 : Int32)))] := S74
        refine k_astore W d_code_109 rfl (L' := #[.val (.int p0), .val (.int p1), .val (.long q2), .second, .val (.long q3), .second, .val (.long q4), .second, .val (.long q5), .second, .val (.int (p0 &&& (3 : Int32))), .val (.ref a71), .val (.ref a67)]) rfl ?_
        refine k_new W 4 13 d_code_111 (w0 hw) (w1 hw) (w2 hw) ⟨rfl, Nat.le_of_ble_eq_true rfl⟩ ⟨rfl, Nat.le_of_ble_eq_true rfl⟩ fun T h75 a76 g76 W E76 X76 D76 => ?_
        have K76 : Keep h74 h75 [] := keep_ext E76 []
        refine k_dup W d_code_114 rfl ?_
        refine k_aload W d_code_115 rfl rfl ?_
        refine k_lloadN W d_code_117 rfl ?_
        refine k_lload W d_code_118 rfl ?_
        refine k_lload W d_code_120 rfl ?_
        refine k_lload W d_code_122 rfl ?_
        refine k_callI0 W 1 4 13 (argsL := [(.ref a71), (.long q2), (.long q3), (.long q4), (.long q5)]) (rest := [(.ref a76)]) (a := a76) d_code_124 rfl rfl (w3 hw) (w4 hw) (by decide) (lenOf pd6 rfl) (ct_vinit l Z a0 hw n0 h75 a76 (.ref a71) rfl q2 q3 q4 q5 X76 (D76 (Or.inr (w15 hw)) (ty := (.object "java/lang/String")) (by decide)) (D76 (Or.inr (w17 hw)) (ty := .long) (by decide)) (D76 (Or.inr (w19 hw)) (ty := .long) (by decide)) (D76 (Or.inr (w21 hw)) (ty := .long) (by decide)) (D76 (Or.inr (w23 hw)) (ty := .long) (by decide))) (w5 hw) (w2 hw) (fun x hx => by simp only [List.mem_cons, List.not_mem_nil, or_false] at hx; rcases hx with rfl; all_goals first | exact (List.mem_of_getElem? (i := 0) rfl)) rfl (Nat.le_of_eq rfl) (Nat.le_of_ble_eq_true rfl) (Nat.le_of_ble_eq_true rfl) ⟨rfl, Nat.le_of_ble_eq_true rfl⟩ ⟨rfl, Nat.le_of_ble_eq_true rfl⟩ rfl (fun _ _ _ q => nomatch q.1) fun T h77 so W hQ => ?_
        obtain ⟨-, K77, F77⟩ := hQ
        refine k_astore W d_code_127 rfl (L' := #[.val (.int p0), .val (.int p1), .val (.long q2), .second, .val (.long q3), .second, .val (.long q4), .second, .val (.long q5), .second, .val (.int (p0 &&& (3 : Int32))), .val (.ref a71), .val (.ref a76)]) rfl ?_
        refine k_aload W d_code_129 rfl rfl ?_
        have f79 := (X76.keep K77)
        refine k_callV W 0 4 13 (argsL := []) (rest := []) (a := a76) (C := "com/example/proofs_for_datalog/proofsfordatalog/kernel/Verdict") (z0 := (⟨"com/example/proofs_for_datalog/proofsfordatalog/kernel/Verdict", "valid", "()Z"⟩ : MethodName)) (z := (⟨"com/example/proofs_for_datalog/proofsfordatalog/kernel/Verdict", "valid", "()Z"⟩ : MethodName)) d_code_131 (w24 hw) (w25 hw) (nfSel (w27 hw)) (w27 hw) (w26 hw) (by decide) (lenOf pd7 rfl) f79 (ct_validR l Z a0 hw n0 h77 a76 a71 F77) (w28 hw) (w2 hw) (fun x hx => nomatch hx) rfl (Nat.le_of_eq rfl) (Nat.le_of_ble_eq_true rfl) (Nat.le_of_ble_eq_true rfl) ⟨rfl, Nat.le_of_ble_eq_true rfl⟩ ⟨rfl, Nat.le_of_ble_eq_true rfl⟩ rfl (fun _ _ q => nomatch q.1) fun T h78 v so W hQ => ?_
        obtain ⟨hv, rfl, -⟩ := hQ
        obtain rfl := Option.some.inj hv
        refine k_iload W d_code_134 rfl ?_
        refine k_ifY W 143 d_code_136 (by decide) (show ¬ (p0 &&& (3 : Int32)) = 0 from hc63) ?_
        refine k_iconst W d_code_143 (z := (0 : Int32)) rfl ?_
        refine k_icN W d_code_144 (show ¬ (¬ (0 : Int32) = (0 : Int32)) by decide) ?_
        refine k_iconst W d_code_147 (z := (1 : Int32)) rfl ?_
        refine k_goto W 152 d_code_148 (by decide) ?_
        exact k_retN W (t := .boolean) (z' := (1 : Int32)) d_code_152 rfl (by simp) (by decide) [] (fun x hx => nomatch hx) (Nat.le_of_ble_eq_true rfl) (Nat.le_of_ble_eq_true rfl) rfl
      · -- pc 43
        refine k_iconst W d_code_43 (z := (1 : Int32)) rfl ?_
        refine k_newarr W 1 1 1 d_code_44 (w29 hw) (by decide) (by decide) ⟨rfl, Nat.le_of_ble_eq_true rfl⟩ ⟨rfl, Nat.le_of_ble_eq_true rfl⟩ fun T h80 a81 g81 W E81 A81 => ?_
        have K81 : Keep h0 h80 [] := keep_ext E81 []
        have A81 : Av Z h80 a81 .char [(.int (0 : Int32))] := A81
        refine k_astore W d_code_46 rfl (L' := #[.val (.int p0), .val (.int p1), .val (.long q2), .second, .val (.long q3), .second, .val (.long q4), .second, .val (.long q5), .second, .val (.int (p0 &&& (3 : Int32))), .unset, .val (.ref a81)]) rfl ?_
        refine k_aload W d_code_48 rfl rfl ?_
        refine k_iconst W d_code_50 (z := (0 : Int32)) rfl ?_
        refine k_iloadN W d_code_51 rfl ?_
        refine k_sipush W d_code_52 (z := (255 : Int32)) rfl ?_
        refine k_iand W d_code_55 (z := (p1 &&& (255 : Int32))) rfl ?_
        refine k_i2c W d_code_56 (z := (p1 &&& (255 : Int32))) (Rg.c (Rg.mono (Rg.and (n := 256) p1 (255 : Int32) (by decide)) (by decide))) ?_
        refine k_castore W (z := (p1 &&& (255 : Int32))) 0 d_code_57 (List.mem_of_getElem? (i := 0) rfl) A81 (by decide) (Nat.le_of_ble_eq_true rfl) (Rg.nar (Rg.mono (Rg.and (n := 256) p1 (255 : Int32) (by decide)) (by decide))) (Rg.fits (Rg.mono (Rg.and (n := 256) p1 (255 : Int32) (by decide)) (by decide))) fun T h82 W Wr82 A82 => ?_
        have K82 : Keep h80 h82 [a81] := Keep.of_wr Wr82
        have A82 : Av Z h82 a81 .char [(.int (p1 &&& (255 : Int32)))] := A82
        refine k_new W 2 5 d_code_58 (w30 hw) (w31 hw) (w32 hw) ⟨rfl, Nat.le_of_ble_eq_true rfl⟩ ⟨rfl, Nat.le_of_ble_eq_true rfl⟩ fun T h83 a84 g84 W E84 X84 D84 => ?_
        have K84 : Keep h82 h83 [] := keep_ext E84 []
        refine k_dup W d_code_61 rfl ?_
        refine k_aload W d_code_62 rfl rfl ?_
        have f85 := (A82.keep K84 nin0)
        have f86 := (Sta.keep (Sta.keep (Sta.keep P0 K81 ns0) K82 (nsS (Av.plain A81) ns0)) K84 ns0)
        refine k_callI0 W 1 3 6 (argsL := [(.ref a81)]) (rest := [(.ref a84)]) (a := a84) d_code_64 rfl rfl (w33 hw) (w34 hw) (by decide) (lenOf pd5 rfl) (ct_sinit l Z a0 hw n0 h83 a84 a81 [(p1 &&& (255 : Int32))] 1 zc .null (.int (0 : Int32)) X84 (D84 (Or.inr (w56 hw)) (ty := (.array .byte)) (by decide)) (D84 (Or.inr (w54 hw)) (ty := .byte) (by decide)) f85 f86 hzc (rgS (Rg.and (n := 256) p1 (255 : Int32) (by decide)) (fun _ q => nomatch q)) (Nat.le_of_ble_eq_true rfl) (Nat.le_of_ble_eq_true rfl) (by decide)) (w35 hw) (w32 hw) (fun x hx => by simp only [List.mem_cons, List.not_mem_nil, or_false] at hx; rcases hx with rfl; all_goals first | exact (List.mem_of_getElem? (i := 0) rfl)) rfl (Nat.le_of_eq rfl) (Nat.le_of_ble_eq_true rfl) (Nat.le_of_ble_eq_true rfl) ⟨rfl, Nat.le_of_ble_eq_true rfl⟩ ⟨rfl, Nat.le_of_ble_eq_true rfl⟩ rfl (fun _ _ _ q => nomatch q.1) fun T h87 so W hQ => ?_
        obtain ⟨-, b87, g87, K87, S87⟩ := hQ
        have S87 : St Z h87 a84 b87 [(i2b (p1 &&& (255 : Int32)))] := S87
        refine k_astore W d_code_67 rfl (L' := #[.val (.int p0), .val (.int p1), .val (.long q2), .second, .val (.long q3), .second, .val (.long q4), .second, .val (.long q5), .second, .val (.int (p0 &&& (3 : Int32))), .val (.ref a84), .val (.ref a81)]) rfl ?_
        refine k_goto W 111 d_code_69 (by decide) ?_
        refine k_new W 4 11 d_code_111 (w0 hw) (w1 hw) (w2 hw) ⟨rfl, Nat.le_of_ble_eq_true rfl⟩ ⟨rfl, Nat.le_of_ble_eq_true rfl⟩ fun T h88 a89 g89 W E89 X89 D89 => ?_
        have K89 : Keep h87 h88 [] := keep_ext E89 []
        refine k_dup W d_code_114 rfl ?_
        refine k_aload W d_code_115 rfl rfl ?_
        refine k_lloadN W d_code_117 rfl ?_
        refine k_lload W d_code_118 rfl ?_
        refine k_lload W d_code_120 rfl ?_
        refine k_lload W d_code_122 rfl ?_
        refine k_callI0 W 1 4 11 (argsL := [(.ref a84), (.long q2), (.long q3), (.long q4), (.long q5)]) (rest := [(.ref a89)]) (a := a89) d_code_124 rfl rfl (w3 hw) (w4 hw) (by decide) (lenOf pd6 rfl) (ct_vinit l Z a0 hw n0 h88 a89 (.ref a84) rfl q2 q3 q4 q5 X89 (D89 (Or.inr (w15 hw)) (ty := (.object "java/lang/String")) (by decide)) (D89 (Or.inr (w17 hw)) (ty := .long) (by decide)) (D89 (Or.inr (w19 hw)) (ty := .long) (by decide)) (D89 (Or.inr (w21 hw)) (ty := .long) (by decide)) (D89 (Or.inr (w23 hw)) (ty := .long) (by decide))) (w5 hw) (w2 hw) (fun x hx => by simp only [List.mem_cons, List.not_mem_nil, or_false] at hx; rcases hx with rfl; all_goals first | exact (List.mem_of_getElem? (i := 0) rfl)) rfl (Nat.le_of_eq rfl) (Nat.le_of_ble_eq_true rfl) (Nat.le_of_ble_eq_true rfl) ⟨rfl, Nat.le_of_ble_eq_true rfl⟩ ⟨rfl, Nat.le_of_ble_eq_true rfl⟩ rfl (fun _ _ _ q => nomatch q.1) fun T h90 so W hQ => ?_
        obtain ⟨-, K90, F90⟩ := hQ
        refine k_astore W d_code_127 rfl (L' := #[.val (.int p0), .val (.int p1), .val (.long q2), .second, .val (.long q3), .second, .val (.long q4), .second, .val (.long q5), .second, .val (.int (p0 &&& (3 : Int32))), .val (.ref a84), .val (.ref a89)]) rfl ?_
        refine k_aload W d_code_129 rfl rfl ?_
        have f92 := (X89.keep K90)
        refine k_callV W 0 4 11 (argsL := []) (rest := []) (a := a89) (C := "com/example/proofs_for_datalog/proofsfordatalog/kernel/Verdict") (z0 := (⟨"com/example/proofs_for_datalog/proofsfordatalog/kernel/Verdict", "valid", "()Z"⟩ : MethodName)) (z := (⟨"com/example/proofs_for_datalog/proofsfordatalog/kernel/Verdict", "valid", "()Z"⟩ : MethodName)) d_code_131 (w24 hw) (w25 hw) (nfSel (w27 hw)) (w27 hw) (w26 hw) (by decide) (lenOf pd7 rfl) f92 (ct_validR l Z a0 hw n0 h90 a89 a84 F90) (w28 hw) (w2 hw) (fun x hx => nomatch hx) rfl (Nat.le_of_eq rfl) (Nat.le_of_ble_eq_true rfl) (Nat.le_of_ble_eq_true rfl) ⟨rfl, Nat.le_of_ble_eq_true rfl⟩ ⟨rfl, Nat.le_of_ble_eq_true rfl⟩ rfl (fun _ _ q => nomatch q.1) fun T h91 v so W hQ => ?_
        obtain ⟨hv, rfl, -⟩ := hQ
        obtain rfl := Option.some.inj hv
        refine k_iload W d_code_134 rfl ?_
        refine k_ifY W 143 d_code_136 (by decide) (show ¬ (p0 &&& (3 : Int32)) = 0 from hc63) ?_
        refine k_iconst W d_code_143 (z := (0 : Int32)) rfl ?_
        refine k_icN W d_code_144 (show ¬ (¬ (0 : Int32) = (0 : Int32)) by decide) ?_
        refine k_iconst W d_code_147 (z := (1 : Int32)) rfl ?_
        refine k_goto W 152 d_code_148 (by decide) ?_
        exact k_retN W (t := .boolean) (z' := (1 : Int32)) d_code_152 rfl (by simp) (by decide) [] (fun x hx => nomatch hx) (Nat.le_of_ble_eq_true rfl) (Nat.le_of_ble_eq_true rfl) rfl
    · -- pc 22
      refine k_new W 1 4 d_code_22 (w30 hw) (w31 hw) (w32 hw) ⟨rfl, Nat.le_of_ble_eq_true rfl⟩ ⟨rfl, Nat.le_of_ble_eq_true rfl⟩ fun T h93 a94 g94 W E94 X94 D94 => ?_
      have K94 : Keep h0 h93 [] := keep_ext E94 []
      refine k_dup W d_code_25 rfl ?_
      refine k_iconst W d_code_26 (z := (0 : Int32)) rfl ?_
      refine k_newarr W 0 2 4 d_code_27 (w29 hw) (by decide) (by decide) ⟨rfl, Nat.le_of_ble_eq_true rfl⟩ ⟨rfl, Nat.le_of_ble_eq_true rfl⟩ fun T h95 a96 g96 W E96 A96 => ?_
      have K96 : Keep h93 h95 [] := keep_ext E96 []
      have A96 : Av Z h95 a96 .char [] := A96
      have f97 := (X94.keep K96)
      have f98 := ((D94 (Or.inr (w56 hw)) (ty := (.array .byte)) (by decide)).keep K96 nin0)
      have f99 := ((D94 (Or.inr (w54 hw)) (ty := .byte) (by decide)).keep K96 nin0)
      have f100 := (Sta.keep (Sta.keep P0 K94 ns0) K96 ns0)
      refine k_callI0 W 1 6 12 (argsL := [(.ref a96)]) (rest := [(.ref a94)]) (a := a94) d_code_29 rfl rfl (w33 hw) (w34 hw) (by decide) (lenOf pd5 rfl) (ct_sinitE l Z a0 hw n0 h95 a94 a96 [a96] .null (.int (0 : Int32)) f97 f98 f99 A96) (w35 hw) (w32 hw) (fun x hx => by simp only [List.mem_cons, List.not_mem_nil, or_false] at hx; rcases hx with rfl | rfl; all_goals first | exact (List.mem_of_getElem? (i := 1) rfl) | exact (List.mem_of_getElem? (i := 0) rfl)) rfl (Nat.le_of_eq rfl) (Nat.le_of_ble_eq_true rfl) (Nat.le_of_ble_eq_true rfl) ⟨rfl, Nat.le_of_ble_eq_true rfl⟩ ⟨rfl, Nat.le_of_ble_eq_true rfl⟩ rfl (fun _ _ _ q => nomatch q.1) fun T h102 so W hQ => ?_
      obtain ⟨-, b102, K102, S102, N102⟩ := hQ
      refine k_astore W d_code_32 rfl (L' := #[.val (.int p0), .val (.int p1), .val (.long q2), .second, .val (.long q3), .second, .val (.long q4), .second, .val (.long q5), .second, .val (.int (p0 &&& (3 : Int32))), .val (.ref a94), .unset]) rfl ?_
      refine k_goto W 111 d_code_34 (by decide) ?_
      refine k_new W 7 17 d_code_111 (w0 hw) (w1 hw) (w2 hw) ⟨rfl, Nat.le_of_ble_eq_true rfl⟩ ⟨rfl, Nat.le_of_ble_eq_true rfl⟩ fun T h103 a104 g104 W E104 X104 D104 => ?_
      have K104 : Keep h102 h103 [] := keep_ext E104 []
      refine k_dup W d_code_114 rfl ?_
      refine k_aload W d_code_115 rfl rfl ?_
      refine k_lloadN W d_code_117 rfl ?_
      refine k_lload W d_code_118 rfl ?_
      refine k_lload W d_code_120 rfl ?_
      refine k_lload W d_code_122 rfl ?_
      refine k_callI0 W 1 7 17 (argsL := [(.ref a94), (.long q2), (.long q3), (.long q4), (.long q5)]) (rest := [(.ref a104)]) (a := a104) d_code_124 rfl rfl (w3 hw) (w4 hw) (by decide) (lenOf pd6 rfl) (ct_vinit l Z a0 hw n0 h103 a104 (.ref a94) rfl q2 q3 q4 q5 X104 (D104 (Or.inr (w15 hw)) (ty := (.object "java/lang/String")) (by decide)) (D104 (Or.inr (w17 hw)) (ty := .long) (by decide)) (D104 (Or.inr (w19 hw)) (ty := .long) (by decide)) (D104 (Or.inr (w21 hw)) (ty := .long) (by decide)) (D104 (Or.inr (w23 hw)) (ty := .long) (by decide))) (w5 hw) (w2 hw) (fun x hx => by simp only [List.mem_cons, List.not_mem_nil, or_false] at hx; rcases hx with rfl; all_goals first | exact (List.mem_of_getElem? (i := 0) rfl)) rfl (Nat.le_of_eq rfl) (Nat.le_of_ble_eq_true rfl) (Nat.le_of_ble_eq_true rfl) ⟨rfl, Nat.le_of_ble_eq_true rfl⟩ ⟨rfl, Nat.le_of_ble_eq_true rfl⟩ rfl (fun _ _ _ q => nomatch q.1) fun T h105 so W hQ => ?_
      obtain ⟨-, K105, F105⟩ := hQ
      refine k_astore W d_code_127 rfl (L' := #[.val (.int p0), .val (.int p1), .val (.long q2), .second, .val (.long q3), .second, .val (.long q4), .second, .val (.long q5), .second, .val (.int (p0 &&& (3 : Int32))), .val (.ref a94), .val (.ref a104)]) rfl ?_
      refine k_aload W d_code_129 rfl rfl ?_
      have f107 := (X104.keep K105)
      refine k_callV W 0 7 17 (argsL := []) (rest := []) (a := a104) (C := "com/example/proofs_for_datalog/proofsfordatalog/kernel/Verdict") (z0 := (⟨"com/example/proofs_for_datalog/proofsfordatalog/kernel/Verdict", "valid", "()Z"⟩ : MethodName)) (z := (⟨"com/example/proofs_for_datalog/proofsfordatalog/kernel/Verdict", "valid", "()Z"⟩ : MethodName)) d_code_131 (w24 hw) (w25 hw) (nfSel (w27 hw)) (w27 hw) (w26 hw) (by decide) (lenOf pd7 rfl) f107 (ct_validR l Z a0 hw n0 h105 a104 a94 F105) (w28 hw) (w2 hw) (fun x hx => nomatch hx) rfl (Nat.le_of_eq rfl) (Nat.le_of_ble_eq_true rfl) (Nat.le_of_ble_eq_true rfl) ⟨rfl, Nat.le_of_ble_eq_true rfl⟩ ⟨rfl, Nat.le_of_ble_eq_true rfl⟩ rfl (fun _ _ q => nomatch q.1) fun T h106 v so W hQ => ?_
      obtain ⟨hv, rfl, -⟩ := hQ
      obtain rfl := Option.some.inj hv
      refine k_iload W d_code_134 rfl ?_
      refine k_ifY W 143 d_code_136 (by decide) (show ¬ (p0 &&& (3 : Int32)) = 0 from hc63) ?_
      refine k_iconst W d_code_143 (z := (0 : Int32)) rfl ?_
      refine k_icN W d_code_144 (show ¬ (¬ (0 : Int32) = (0 : Int32)) by decide) ?_
      refine k_iconst W d_code_147 (z := (1 : Int32)) rfl ?_
      refine k_goto W 152 d_code_148 (by decide) ?_
      exact k_retN W (t := .boolean) (z' := (1 : Int32)) d_code_152 rfl (by simp) (by decide) [] (fun x hx => nomatch hx) (Nat.le_of_ble_eq_true rfl) (Nat.le_of_ble_eq_true rfl) rfl
  · -- pc 10
    refine k_aconst W d_code_10 ?_
    refine k_astore W d_code_11 rfl (L' := #[.val (.int p0), .val (.int p1), .val (.long q2), .second, .val (.long q3), .second, .val (.long q4), .second, .val (.long q5), .second, .val (.int (p0 &&& (3 : Int32))), .val .null, .unset]) rfl ?_
    refine k_goto W 111 d_code_13 (by decide) ?_
    refine k_new W 1 5 d_code_111 (w0 hw) (w1 hw) (w2 hw) ⟨rfl, Nat.le_of_ble_eq_true rfl⟩ ⟨rfl, Nat.le_of_ble_eq_true rfl⟩ fun T h108 a109 g109 W E109 X109 D109 => ?_
    have K109 : Keep h0 h108 [] := keep_ext E109 []
    refine k_dup W d_code_114 rfl ?_
    refine k_aload W d_code_115 rfl rfl ?_
    refine k_lloadN W d_code_117 rfl ?_
    refine k_lload W d_code_118 rfl ?_
    refine k_lload W d_code_120 rfl ?_
    refine k_lload W d_code_122 rfl ?_
    refine k_callI0 W 1 1 5 (argsL := [.null, (.long q2), (.long q3), (.long q4), (.long q5)]) (rest := [(.ref a109)]) (a := a109) d_code_124 rfl rfl (w3 hw) (w4 hw) (by decide) (lenOf pd6 rfl) (ct_vinit l Z a0 hw n0 h108 a109 .null rfl q2 q3 q4 q5 X109 (D109 (Or.inr (w15 hw)) (ty := (.object "java/lang/String")) (by decide)) (D109 (Or.inr (w17 hw)) (ty := .long) (by decide)) (D109 (Or.inr (w19 hw)) (ty := .long) (by decide)) (D109 (Or.inr (w21 hw)) (ty := .long) (by decide)) (D109 (Or.inr (w23 hw)) (ty := .long) (by decide))) (w5 hw) (w2 hw) (fun x hx => hx) rfl (Nat.le_of_eq rfl) (Nat.le_of_ble_eq_true rfl) (Nat.le_of_ble_eq_true rfl) ⟨rfl, Nat.le_of_ble_eq_true rfl⟩ ⟨rfl, Nat.le_of_ble_eq_true rfl⟩ rfl (fun _ _ _ q => nomatch q.1) fun T h110 so W hQ => ?_
    obtain ⟨-, K110, F110⟩ := hQ
    refine k_astore W d_code_127 rfl (L' := #[.val (.int p0), .val (.int p1), .val (.long q2), .second, .val (.long q3), .second, .val (.long q4), .second, .val (.long q5), .second, .val (.int (p0 &&& (3 : Int32))), .val .null, .val (.ref a109)]) rfl ?_
    refine k_aload W d_code_129 rfl rfl ?_
    have f112 := (X109.keep K110)
    refine k_callV W 0 1 5 (argsL := []) (rest := []) (a := a109) (C := "com/example/proofs_for_datalog/proofsfordatalog/kernel/Verdict") (z0 := (⟨"com/example/proofs_for_datalog/proofsfordatalog/kernel/Verdict", "valid", "()Z"⟩ : MethodName)) (z := (⟨"com/example/proofs_for_datalog/proofsfordatalog/kernel/Verdict", "valid", "()Z"⟩ : MethodName)) d_code_131 (w24 hw) (w25 hw) (nfSel (w27 hw)) (w27 hw) (w26 hw) (by decide) (lenOf pd7 rfl) f112 (ct_validN l Z a0 hw n0 h110 a109 F110) (w28 hw) (w2 hw) (fun x hx => nomatch hx) rfl (Nat.le_of_eq rfl) (Nat.le_of_ble_eq_true rfl) (Nat.le_of_ble_eq_true rfl) ⟨rfl, Nat.le_of_ble_eq_true rfl⟩ ⟨rfl, Nat.le_of_ble_eq_true rfl⟩ rfl (fun _ _ q => nomatch q.1) fun T h111 v so W hQ => ?_
    obtain ⟨hv, rfl, -⟩ := hQ
    obtain rfl := Option.some.inj hv
    refine k_iload W d_code_134 rfl ?_
    refine k_ifN W d_code_136 (show ¬ (¬ (p0 &&& (3 : Int32)) = 0) from hc63) ?_
    refine k_iconst W d_code_139 (z := (1 : Int32)) rfl ?_
    refine k_goto W 144 d_code_140 (by decide) ?_
    refine k_icN W d_code_144 (show ¬ (¬ (1 : Int32) = (1 : Int32)) by decide) ?_
    refine k_iconst W d_code_147 (z := (1 : Int32)) rfl ?_
    refine k_goto W 152 d_code_148 (by decide) ?_
    exact k_retN W (t := .boolean) (z' := (1 : Int32)) d_code_152 rfl (by simp) (by decide) [] (fun x hx => nomatch hx) (Nat.le_of_ble_eq_true rfl) (Nat.le_of_ble_eq_true rfl) rfl
set_option maxRecDepth 65536 in
set_option maxHeartbeats 40000000 in
theorem comes_1 {Post : Tables → Env → Array Value → State → Outcome → State → Prop} (hpost : ∀ tb e args s v u, (limb_1_1.after args s (.returned v) u = true ∧ limb_1_2.after args s (.returned v) u = true ∧ True) → FramedW s (.returned v) u (Jvm.fieldLocs frame_1_writes args s ++ Jvm.arrayLocs frame_1_arrays args s ++ Jvm.staticLocs frame_1_statics s) 24 1152 → Post tb e args s (.returned v) u) :
    ArmFor flags0 classFile x code maxLocals ret World_1 tables_1 room_1 Calls_1 rest_1 Pre_1 Post := by
  intro l hfl _ _ p e ha hc hk s m args below hf hA hF happ hP
  obtain ⟨hcalls, hrest, hpre⟩ := hP
  obtain ⟨-, -, -, hnamed, -, -, -, hat⟩ := (Spec.applies_iff hf).mp happ
  obtain ⟨hg, hnarrow⟩ := and_e (Cond.before_iff.mp (show (Jvm.Cond.and given_1 narrow_1).before args s = true from hpre))
  obtain ⟨h1, h2⟩ := and_e hg
  obtain ⟨ga0, h2⟩ := and_e h2
  obtain ⟨ga1, h2⟩ := and_e h2
  obtain ⟨ga2, h2⟩ := and_e h2
  obtain ⟨ga3, h2⟩ := and_e h2
  obtain ⟨ga4, h2⟩ := and_e h2
  have ga5 := h2
  obtain ⟨w0, w1, w2, w3, w4, w5, rfl⟩ : ∃ w0 w1 w2 w3 w4 w5 : Value, args = #[w0, w1, w2, w3, w4, w5] := by
    have hs : args.size = 6 := by simpa [Cond.value, given_1] using h1
    obtain ⟨L⟩ := args
    match L, hs with
    | [w0, w1, w2, w3, w4, w5], _ => exact ⟨w0, w1, w2, w3, w4, w5, rfl⟩
  have hw := fun d (hd : d ∈ tables_1) => atoms_spec (ws := Jvm.Cond.code x code maxLocals ret :: tables_1) hat d (List.mem_cons_of_mem _ hd)
  obtain ⟨hsets, hown0⟩ := atoms_of _ (rest_1_c_eq ▸ (show rest_1_c.before _ s = true from hrest))
  have hfit : Fit s := fun {y c} hc i hi => by
    obtain ⟨ha, rfl⟩ := Array.getElem?_eq_some_iff.mp hc
    have q := List.all_eq_true.mp ((Array.all_eq_true_iff_forall_mem.mp hF) _ (Array.getElem_mem ha)) i (List.mem_range.mpr hi)
    simpa [Array.getElem?_eq_getElem hi] using q
  obtain ⟨i0, ei0⟩ := is_v ga0
  obtain rfl : w0 = (.int i0) := Option.some.inj ei0
  obtain ⟨i1, ei1⟩ := is_v ga1
  obtain rfl : w1 = (.int i1) := Option.some.inj ei1
  obtain ⟨i2, ei2⟩ := isL_v ga2
  obtain rfl : w2 = (.long i2) := Option.some.inj ei2
  obtain ⟨i3, ei3⟩ := isL_v ga3
  obtain rfl : w3 = (.long i3) := Option.some.inj ei3
  obtain ⟨i4, ei4⟩ := isL_v ga4
  obtain rfl : w4 = (.long i4) := Option.some.inj ei4
  obtain ⟨i5, ei5⟩ := isL_v ga5
  obtain rfl : w5 = (.long i5) := Option.some.inj ei5
  have n5 := not_v (Cond.before_iff.mp (hsets _ (List.mem_of_getElem? (i := 2) rfl)))
  obtain ⟨zc, ezc⟩ := is_v (Cond.before_iff.mp (hsets _ (List.mem_of_getElem? (i := 1) rfl)))
  have Szc : Sta s s.heap "java/lang/String" "COMPACT_STRINGS" "Z" (.int zc) := Sta.start ezc (Or.inl (hsets _ (List.mem_of_getElem? (i := 0) rfl)))
  have hzc : ¬ (zc = (0 : Int32)) := gotF (Cond.eq_ints ezc (Term.int_eval (0))) n5
  obtain ⟨n, o, k1, k2, k3, v, L, so, rfl, hQ, N, -, -, hnw, hq⟩ := rm0 l s _ hw s.heap.size s.heap i0 i1 i2 i3 i4 i5 zc hzc Szc tables_1 p e ha hc hk s m _ below hf ((Spec.applies_iff_loose hf).mp happ).1 ⟨rfl, State.Warmed39.refl s, rfl, (CHv.start (own_EW hw) (fun p hp => hcalls.1 p hp) (hsets _ (List.mem_of_getElem? (i := 2) rfl)) (w46 hw) (w31 hw)), Nat.le_refl _, own_EW hw, fun x hx => nomatch hx⟩ trivial
  subst hQ
  refine ⟨n, _, k1, k2, k3, hpost _ _ _ _ _ _ ⟨Cond.after_iff.mpr rfl, Cond.after_iff.mpr (eq_i res_at (Term.int_eval (1)) rfl), trivial⟩ ⟨hq.1, hq.2.1, hq.2.2.1, (hq.2.2.2.sift fun y hy => Or.inr (N y hy)).mono (by decide) (by decide)⟩⟩
theorem main_1_1 : Claimed_1_1 := comes_1 fun _ _ _ _ _ _ h hF => ⟨h.1, hF⟩
theorem main_1_2 : Claimed_1_2 := comes_1 fun _ _ _ _ _ _ h hF => ⟨h.2.1, hF⟩
end Jvm.Pilot.@@N@@
namespace Jvm.Pilot.@@N@@
open Jvm Jvm.ClassFile Sem Op Lib Jvm.Free Jvm.Stand Jvm.Pilot.@@N@@.Jvm.D
/-! MADE BY PROGRAM (witnessworld.py) out of the Statement's table words and the real class files: 21 classes; the members and pool entries that the words name. The judged class is class 1, her method 1. -/
namespace start1
open Jvm.ClassFile
def u (s : String) : CpInfo := .utf8 (stringToUtf16 s)
/-- a pool by its gaps: so many unusable entries, then the entry; so many at the end -/
def gap : Nat → List CpInfo → List CpInfo
  | 0, r => r
  | n + 1, r => .unusable :: gap n r
def poolList (es : List (Nat × CpInfo)) (last : Nat) : List CpInfo := es.foldr (fun e r => gap e.1 (e.2 :: r)) (gap last [])
def pool (es : List (Nat × CpInfo)) (last : Nat) : Array CpInfo := ⟨poolList es last⟩
def fileOf (pool : Array CpInfo) (this : Nat) (attrs : Array Attribute := #[]) (ms : Array MethodInfo := #[]) (fl : Nat := 33) (sup : Nat := 0) (ifs : Array Nat := #[]) (fds : Array FieldInfo := #[]) : ClassFile where
  minorVersion := 0
  majorVersion := 65
  constantPool := pool
  accessFlags := fl
  thisClass := this
  superClass := sup
  interfaces := ifs
  fields := fds
  methods := ms
  attributes := attrs
def plain (name : String) (sup : Option ClassId) : Class where
  name := name
  kind := .ordinary
  loader := none
  accessFlags := 33
  super := sup
  interfaces := #[]
  cf := none
  fields := #[]
  methods := #[]
  instanceTypes := #[]
  staticTypes := #[]
  resolved := #[]
  callSites := []
  init := .initialized
  statics := none
  mirror := none

def pool0 : Array CpInfo := pool [(5, u "<init>"), (0, u "()V"), (1, .class_ 10), (1, u "java/lang/Object")] 113

def k0c0 : Code := { maxStack := 0, maxLocals := 1, code := object_method_1_code, exceptionTable := #[], attributes := #[] }
def k0m0 : Method := { name := "<init>", desc := "()V", sig := { parameters := [], returnType := none }, accessFlags := 1, code := some k0c0 }
/-- java/lang/Object -/
def k0 : Class := { plain "java/lang/Object" none with
  accessFlags := 33
  interfaces := #[]
  cf := some (fileOf pool0 8 #[] #[{ accessFlags := 1, nameIndex := 5, descriptorIndex := 6, attributes := #[] }] 33 0 #[] #[])
  fields := #[]
  methods := #[k0m0]
  instanceTypes := #[]
  staticTypes := #[]
  resolved := Array.replicate 124 none
  statics := none }

def pool1 : Array CpInfo := pool [(2, .class_ 4), (1, u "java/lang/Object"), (0, u "<init>"), (0, u "()V"), (0, .class_ 8), (0, u "java/lang/String"), (0, .methodref 7 10), (0, .nameAndType 5 11), (0, u "([C)V"), (0, .class_ 13), (0, u "com/example/proofs_for_datalog/proofsfordatalog/kernel/Verdict"), (0, .methodref 12 15), (0, .nameAndType 5 16), (0, u "(Ljava/lang/String;JJJJ)V"), (0, .methodref 12 18), (0, .nameAndType 19 20), (0, u "valid"), (0, u "()Z"), (0, .class_ 22), (0, u "com/example/proofs_for_datalog/proofsfordatalog/kernel/VerdictValidPinLaw"), (2, u "law"), (0, u "(IIJJJJ)Z")] 3

def k1m0 : Method := { name := "<init>", desc := "()V", sig := { parameters := [], returnType := none }, accessFlags := 1, code := none }
def k1c1 : Code := { maxStack := 11, maxLocals := 13, code := code, exceptionTable := #[], attributes := #[] }
def k1m1 : Method := { name := "law", desc := "(IIJJJJ)Z", sig := { parameters := [.int, .int, .long, .long, .long, .long], returnType := some .boolean }, accessFlags := 9, code := some k1c1 }
/-- com/example/proofs_for_datalog/proofsfordatalog/kernel/VerdictValidPinLaw -/
def k1 : Class := { plain "com/example/proofs_for_datalog/proofsfordatalog/kernel/VerdictValidPinLaw" (some 0) with
  accessFlags := 49
  interfaces := #[]
  cf := some (fileOf pool1 21 #[] #[{ accessFlags := 1, nameIndex := 5, descriptorIndex := 6, attributes := #[] }, { accessFlags := 9, nameIndex := 25, descriptorIndex := 26, attributes := #[] }] 49 2 #[] #[])
  fields := #[]
  methods := #[k1m0, k1m1]
  instanceTypes := #[]
  staticTypes := #[]
  resolved := Array.replicate 30 none
  statics := none }

def pool2 : Array CpInfo := pool [(1, .methodref 2 3), (0, .class_ 4), (0, .nameAndType 5 6), (0, u "java/lang/Object"), (0, u "<init>"), (0, u "()V"), (0, .class_ 8), (0, u "java/lang/Record")] 13

def k2c0 : Code := { maxStack := 1, maxLocals := 1, code := jdk_30_method_1_code, exceptionTable := #[], attributes := #[] }
def k2m0 : Method := { name := "<init>", desc := "()V", sig := { parameters := [], returnType := none }, accessFlags := 4, code := some k2c0 }
/-- java/lang/Record -/
def k2 : Class := { plain "java/lang/Record" (some 0) with
  accessFlags := 1057
  interfaces := #[]
  cf := some (fileOf pool2 7 #[] #[{ accessFlags := 4, nameIndex := 5, descriptorIndex := 6, attributes := #[] }] 1057 2 #[] #[])
  fields := #[]
  methods := #[k2m0]
  instanceTypes := #[]
  staticTypes := #[]
  resolved := Array.replicate 22 none
  statics := none }

def pool3 : Array CpInfo := pool [(1, .methodref 2 3), (0, .class_ 4), (0, .nameAndType 5 6), (0, u "java/lang/Record"), (0, u "<init>"), (0, u "()V"), (0, .fieldref 8 9), (0, .class_ 10), (0, .nameAndType 11 12), (0, u "com/example/proofs_for_datalog/proofsfordatalog/kernel/Verdict"), (0, u "reason"), (0, u "Ljava/lang/String;"), (0, .fieldref 8 14), (0, .nameAndType 15 16), (0, u "conclusions"), (0, u "J"), (0, .fieldref 8 18), (0, .nameAndType 19 16), (0, u "derived"), (0, .fieldref 8 21), (0, .nameAndType 22 16), (0, u "leaves"), (0, .fieldref 8 24), (0, .nameAndType 25 16), (0, u "assumed"), (12, u "(Ljava/lang/String;JJJJ)V"), (3, u "valid"), (0, u "()Z")] 29

def k3c0 : Code := { maxStack := 3, maxLocals := 10, code := prog_34_method_1_code, exceptionTable := #[], attributes := #[] }
def k3m0 : Method := { name := "<init>", desc := "(Ljava/lang/String;JJJJ)V", sig := { parameters := [(.object "java/lang/String"), .long, .long, .long, .long], returnType := none }, accessFlags := 1, code := some k3c0 }
def k3c1 : Code := { maxStack := 1, maxLocals := 1, code := prog_34_method_2_code, exceptionTable := #[], attributes := #[] }
def k3m1 : Method := { name := "valid", desc := "()Z", sig := { parameters := [], returnType := some .boolean }, accessFlags := 1, code := some k3c1 }
/-- com/example/proofs_for_datalog/proofsfordatalog/kernel/Verdict -/
def k3 : Class := { plain "com/example/proofs_for_datalog/proofsfordatalog/kernel/Verdict" (some 2) with
  accessFlags := 49
  interfaces := #[]
  cf := some (fileOf pool3 8 #[] #[{ accessFlags := 1, nameIndex := 5, descriptorIndex := 38, attributes := #[] }, { accessFlags := 1, nameIndex := 42, descriptorIndex := 43, attributes := #[] }] 49 2 #[] #[{ accessFlags := 18, nameIndex := 11, descriptorIndex := 12, attributes := #[] }, { accessFlags := 18, nameIndex := 15, descriptorIndex := 16, attributes := #[] }, { accessFlags := 18, nameIndex := 19, descriptorIndex := 16, attributes := #[] }, { accessFlags := 18, nameIndex := 22, descriptorIndex := 16, attributes := #[] }, { accessFlags := 18, nameIndex := 25, descriptorIndex := 16, attributes := #[] }])
  fields := #[{ name := "reason", type := (.object "java/lang/String"), accessFlags := 18, slot := 0, constantValue := 0 }, { name := "conclusions", type := .long, accessFlags := 18, slot := 1, constantValue := 0 }, { name := "derived", type := .long, accessFlags := 18, slot := 2, constantValue := 0 }, { name := "leaves", type := .long, accessFlags := 18, slot := 3, constantValue := 0 }, { name := "assumed", type := .long, accessFlags := 18, slot := 4, constantValue := 0 }]
  methods := #[k3m0, k3m1]
  instanceTypes := #[(.object "java/lang/String"), .long, .long, .long, .long]
  staticTypes := #[]
  resolved := Array.replicate 73 none
  statics := none }

def pool4 : Array CpInfo := pool [(1, .class_ 2), (0, u "java/io/Serializable"), (0, .class_ 4), (0, u "java/lang/Object")] 2

/-- java/io/Serializable -/
def k4 : Class := { plain "java/io/Serializable" (some 0) with
  accessFlags := 1537
  interfaces := #[]
  cf := some (fileOf pool4 1 #[] #[] 1537 3 #[] #[])
  fields := #[]
  methods := #[]
  instanceTypes := #[]
  staticTypes := #[]
  resolved := Array.replicate 7 none
  statics := none }

def pool5 : Array CpInfo := pool [(1, .class_ 2), (0, u "java/lang/Comparable"), (0, .class_ 4), (0, u "java/lang/Object")] 7

/-- java/lang/Comparable -/
def k5 : Class := { plain "java/lang/Comparable" (some 0) with
  accessFlags := 1537
  interfaces := #[]
  cf := some (fileOf pool5 1 #[] #[] 1537 3 #[] #[])
  fields := #[]
  methods := #[]
  instanceTypes := #[]
  staticTypes := #[]
  resolved := Array.replicate 12 none
  statics := none }

def pool6 : Array CpInfo := pool [(2, .class_ 4), (1, u "java/lang/CharSequence"), (42, .class_ 48), (0, u "java/lang/CharSequence$1CodePointIterator"), (10, .class_ 60), (0, u "java/lang/CharSequence$1CharIterator"), (5, .class_ 67), (0, u "java/lang/Object")] 63

/-- java/lang/CharSequence -/
def k6 : Class := { plain "java/lang/CharSequence" (some 0) with
  accessFlags := 1537
  interfaces := #[]
  cf := some (fileOf pool6 2 #[.nestMembers #[47, 59]] #[] 1537 66 #[] #[])
  fields := #[]
  methods := #[]
  instanceTypes := #[]
  staticTypes := #[]
  resolved := Array.replicate 131 none
  statics := none }

def pool7 : Array CpInfo := pool [(1, .class_ 2), (0, u "java/lang/constant/Constable"), (0, .class_ 4), (0, u "java/lang/Object")] 6

/-- java/lang/constant/Constable -/
def k7 : Class := { plain "java/lang/constant/Constable" (some 0) with
  accessFlags := 1537
  interfaces := #[]
  cf := some (fileOf pool7 1 #[] #[] 1537 3 #[] #[])
  fields := #[]
  methods := #[]
  instanceTypes := #[]
  staticTypes := #[]
  resolved := Array.replicate 11 none
  statics := none }

def pool8 : Array CpInfo := pool [(1, .class_ 2), (0, u "java/lang/constant/ConstantDesc"), (0, .class_ 4), (0, u "java/lang/Object")] 32

/-- java/lang/constant/ConstantDesc -/
def k8 : Class := { plain "java/lang/constant/ConstantDesc" (some 0) with
  accessFlags := 1537
  interfaces := #[]
  cf := some (fileOf pool8 1 #[] #[] 1537 3 #[] #[])
  fields := #[]
  methods := #[]
  instanceTypes := #[]
  staticTypes := #[]
  resolved := Array.replicate 37 none
  statics := none }

def pool9 : Array CpInfo := pool [(1, .methodref 2 3), (0, .class_ 4), (0, .nameAndType 5 6), (0, u "java/lang/Object"), (0, u "<init>"), (0, u "()V"), (0, .string 8), (0, u ""), (0, .fieldref 10 11), (0, .class_ 12), (0, .nameAndType 13 14), (0, u "java/lang/String"), (0, u "value"), (0, u "[B"), (0, .fieldref 10 16), (0, .nameAndType 17 18), (0, u "coder"), (0, u "B"), (2, u "hash"), (0, u "I"), (2, u "hashIsZero"), (0, u "Z"), (0, .methodref 10 28), (0, .nameAndType 5 29), (0, u "([CIILjava/lang/Void;)V"), (8, .fieldref 10 39), (0, .nameAndType 40 26), (0, u "COMPACT_STRINGS"), (1, .class_ 44), (1, u "java/lang/StringUTF16"), (0, u "compress"), (1, .methodref 42 48), (0, .nameAndType 49 50), (0, u "coderFromArrayLen"), (0, u "([BI)B"), (126, .methodref 42 178), (0, .nameAndType 45 179), (0, u "([CII)[B"), (395, .class_ 576), (0, u "java/lang/CharSequence"), (22, u "CASE_INSENSITIVE_ORDER"), (0, u "Ljava/util/Comparator;"), (409, u "([C)V"), (90, u "serialPersistentFields"), (0, u "[Ljava/io/ObjectStreamField;"), (0, .class_ 1104), (0, u "java/lang/String$CaseInsensitiveComparator"), (1, .class_ 1107), (0, u "java/io/Serializable"), (0, .class_ 1109), (0, u "java/lang/Comparable"), (0, .class_ 1111), (0, u "java/lang/constant/Constable"), (0, .class_ 1113), (0, u "java/lang/constant/ConstantDesc"), (2, u "serialVersionUID"), (0, u "J"), (3, u "REPL"), (0, u "C"), (2, u "LATIN1"), (1, u "UTF16")] 323

def k9m0 : Method := { name := "<init>", desc := "()V", sig := { parameters := [], returnType := none }, accessFlags := 1, code := none }
def k9c1 : Code := { maxStack := 5, maxLocals := 2, code := jdk_42_method_3_code, exceptionTable := #[], attributes := #[] }
def k9m1 : Method := { name := "<init>", desc := "([C)V", sig := { parameters := [(.array .char)], returnType := none }, accessFlags := 1, code := some k9c1 }
def k9c2 : Code := { maxStack := 4, maxLocals := 6, code := jdk_42_method_149_code, exceptionTable := #[], attributes := #[] }
def k9m2 : Method := { name := "<init>", desc := "([CIILjava/lang/Void;)V", sig := { parameters := [(.array .char), .int, .int, (.object "java/lang/Void")], returnType := none }, accessFlags := 2, code := some k9c2 }
/-- java/lang/String -/
def k9 : Class := { plain "java/lang/String" (some 0) with
  accessFlags := 49
  interfaces := #[4, 5, 6, 7, 8]
  cf := some (fileOf pool9 10 #[.nestMembers #[1103]] #[{ accessFlags := 1, nameIndex := 5, descriptorIndex := 6, attributes := #[] }, { accessFlags := 1, nameIndex := 5, descriptorIndex := 1010, attributes := #[] }, { accessFlags := 2, nameIndex := 5, descriptorIndex := 29, attributes := #[] }] 49 2 #[1106, 1108, 575, 1110, 1112] #[{ accessFlags := 18, nameIndex := 13, descriptorIndex := 14, attributes := #[] }, { accessFlags := 18, nameIndex := 17, descriptorIndex := 18, attributes := #[] }, { accessFlags := 2, nameIndex := 21, descriptorIndex := 22, attributes := #[] }, { accessFlags := 2, nameIndex := 25, descriptorIndex := 26, attributes := #[] }, { accessFlags := 26, nameIndex := 1116, descriptorIndex := 1117, attributes := #[] }, { accessFlags := 24, nameIndex := 40, descriptorIndex := 26, attributes := #[] }, { accessFlags := 26, nameIndex := 1101, descriptorIndex := 1102, attributes := #[] }, { accessFlags := 26, nameIndex := 1121, descriptorIndex := 1122, attributes := #[] }, { accessFlags := 25, nameIndex := 599, descriptorIndex := 600, attributes := #[] }, { accessFlags := 24, nameIndex := 1125, descriptorIndex := 18, attributes := #[] }, { accessFlags := 24, nameIndex := 1127, descriptorIndex := 18, attributes := #[] }])
  fields := #[{ name := "value", type := (.array .byte), accessFlags := 18, slot := 0, constantValue := 0 }, { name := "coder", type := .byte, accessFlags := 18, slot := 1, constantValue := 0 }, { name := "hash", type := .int, accessFlags := 2, slot := 2, constantValue := 0 }, { name := "hashIsZero", type := .boolean, accessFlags := 2, slot := 3, constantValue := 0 }, { name := "serialVersionUID", type := .long, accessFlags := 26, slot := 0, constantValue := 0 }, { name := "COMPACT_STRINGS", type := .boolean, accessFlags := 24, slot := 1, constantValue := 0 }, { name := "serialPersistentFields", type := (.array (.object "java/io/ObjectStreamField")), accessFlags := 26, slot := 2, constantValue := 0 }, { name := "REPL", type := .char, accessFlags := 26, slot := 3, constantValue := 0 }, { name := "CASE_INSENSITIVE_ORDER", type := (.object "java/util/Comparator"), accessFlags := 25, slot := 4, constantValue := 0 }, { name := "LATIN1", type := .byte, accessFlags := 24, slot := 5, constantValue := 0 }, { name := "UTF16", type := .byte, accessFlags := 24, slot := 6, constantValue := 0 }]
  methods := #[k9m0, k9m1, k9m2]
  instanceTypes := #[(.array .byte), .byte, .int, .boolean]
  staticTypes := #[.long, .boolean, (.array (.object "java/io/ObjectStreamField")), .char, (.object "java/util/Comparator"), .byte, .byte]
  resolved := Array.replicate 1451 none
  statics := some 0 }

def pool10 : Array CpInfo := pool [(6, .class_ 8), (1, u "java/lang/Object"), (0, u "<init>"), (0, u "()V"), (1, .class_ 14), (1, u "java/lang/StringUTF16"), (31, u "$assertionsDisabled"), (0, u "Z"), (13, u "HI_BYTE_SHIFT"), (0, u "I"), (2, u "LO_BYTE_SHIFT"), (49, .methodref 12 116), (0, .nameAndType 117 118), (0, u "compress"), (0, u "([CI[BII)I"), (3, u "([CII)[B"), (138, u "coderFromArrayLen"), (0, u "([BI)B"), (106, .class_ 371), (1, u "java/lang/StringUTF16$LinesSpliterator"), (58, u "MAX_LENGTH"), (196, .class_ 628), (0, u "java/lang/StringUTF16$CodePointsSpliterator"), (0, .class_ 630), (0, u "java/lang/StringUTF16$CharsSpliterator")] 4

def k10m0 : Method := { name := "<init>", desc := "()V", sig := { parameters := [], returnType := none }, accessFlags := 0, code := none }
def k10c1 : Code := { maxStack := 2, maxLocals := 2, code := jdk_52_method_15_code, exceptionTable := #[], attributes := #[] }
def k10m1 : Method := { name := "coderFromArrayLen", desc := "([BI)B", sig := { parameters := [(.array .byte), .int], returnType := some .byte }, accessFlags := 8, code := some k10c1 }
def k10c2 : Code := { maxStack := 5, maxLocals := 6, code := jdk_52_method_16_code, exceptionTable := #[], attributes := #[] }
def k10m2 : Method := { name := "compress", desc := "([CII)[B", sig := { parameters := [(.array .char), .int, .int], returnType := some (.array .byte) }, accessFlags := 9, code := some k10c2 }
def k10c3 : Code := { maxStack := 3, maxLocals := 7, code := jdk_52_method_21_code, exceptionTable := #[], attributes := #[] }
def k10m3 : Method := { name := "compress", desc := "([CI[BII)I", sig := { parameters := [(.array .char), .int, (.array .byte), .int, .int], returnType := some .int }, accessFlags := 9, code := some k10c3 }
/-- java/lang/StringUTF16 -/
def k10 : Class := { plain "java/lang/StringUTF16" (some 0) with
  accessFlags := 48
  interfaces := #[]
  cf := some (fileOf pool10 12 #[.nestMembers #[627, 629, 369]] #[{ accessFlags := 0, nameIndex := 9, descriptorIndex := 10, attributes := #[] }, { accessFlags := 8, nameIndex := 261, descriptorIndex := 262, attributes := #[] }, { accessFlags := 9, nameIndex := 117, descriptorIndex := 122, attributes := #[] }, { accessFlags := 9, nameIndex := 117, descriptorIndex := 118, attributes := #[] }] 48 6 #[] #[{ accessFlags := 26, nameIndex := 61, descriptorIndex := 62, attributes := #[] }, { accessFlags := 26, nameIndex := 65, descriptorIndex := 62, attributes := #[] }, { accessFlags := 24, nameIndex := 430, descriptorIndex := 62, attributes := #[] }, { accessFlags := 4120, nameIndex := 46, descriptorIndex := 47, attributes := #[] }])
  fields := #[{ name := "HI_BYTE_SHIFT", type := .int, accessFlags := 26, slot := 0, constantValue := 0 }, { name := "LO_BYTE_SHIFT", type := .int, accessFlags := 26, slot := 1, constantValue := 0 }, { name := "MAX_LENGTH", type := .int, accessFlags := 24, slot := 2, constantValue := 0 }, { name := "$assertionsDisabled", type := .boolean, accessFlags := 4120, slot := 3, constantValue := 0 }]
  methods := #[k10m0, k10m1, k10m2, k10m3]
  instanceTypes := #[]
  staticTypes := #[.int, .int, .int, .boolean]
  resolved := Array.replicate 635 none
  statics := none }

def pool11 : Array CpInfo := pool [(4, .class_ 6), (1, u "java/lang/Object"), (0, u "<init>"), (0, u "()V"), (5, .class_ 16), (1, u "java/lang/StringLatin1"), (104, u "$assertionsDisabled"), (0, u "Z"), (98, .class_ 223), (1, u "java/lang/StringLatin1$LinesSpliterator"), (166, .class_ 391), (0, u "java/lang/StringLatin1$CharsSpliterator")] 3

def k11m0 : Method := { name := "<init>", desc := "()V", sig := { parameters := [], returnType := none }, accessFlags := 0, code := none }
/-- java/lang/StringLatin1 -/
def k11 : Class := { plain "java/lang/StringLatin1" (some 0) with
  accessFlags := 48
  interfaces := #[]
  cf := some (fileOf pool11 14 #[.nestMembers #[390, 221]] #[{ accessFlags := 0, nameIndex := 7, descriptorIndex := 8, attributes := #[] }] 48 4 #[] #[{ accessFlags := 4120, nameIndex := 121, descriptorIndex := 122, attributes := #[] }])
  fields := #[{ name := "$assertionsDisabled", type := .boolean, accessFlags := 4120, slot := 0, constantValue := 0 }]
  methods := #[k11m0]
  instanceTypes := #[]
  staticTypes := #[.boolean]
  resolved := Array.replicate 395 none
  statics := none }

def pool12 : Array CpInfo := pool [(2, .class_ 4), (1, u "java/lang/Object"), (0, u "<init>"), (0, u "()V"), (17, .class_ 26), (1, u "jdk/internal/util/Preconditions"), (28, .class_ 56), (0, u "jdk/internal/util/Preconditions$4"), (57, .class_ 115), (0, u "jdk/internal/util/Preconditions$1"), (7, u "SIOOBE_FORMATTER"), (0, u "Ljava/util/function/BiFunction;"), (0, .class_ 126), (0, u "jdk/internal/util/Preconditions$2"), (3, u "AIOOBE_FORMATTER"), (0, .class_ 132), (0, u "jdk/internal/util/Preconditions$3"), (3, u "IOOBE_FORMATTER")] 57

def k12m0 : Method := { name := "<init>", desc := "()V", sig := { parameters := [], returnType := none }, accessFlags := 1, code := none }
/-- jdk/internal/util/Preconditions -/
def k12 : Class := { plain "jdk/internal/util/Preconditions" (some 0) with
  accessFlags := 33
  interfaces := #[]
  cf := some (fileOf pool12 24 #[.nestMembers #[55, 131, 125, 114]] #[{ accessFlags := 1, nameIndex := 5, descriptorIndex := 6, attributes := #[] }] 33 2 #[] #[{ accessFlags := 25, nameIndex := 123, descriptorIndex := 124, attributes := #[] }, { accessFlags := 25, nameIndex := 130, descriptorIndex := 124, attributes := #[] }, { accessFlags := 25, nameIndex := 136, descriptorIndex := 124, attributes := #[] }])
  fields := #[{ name := "SIOOBE_FORMATTER", type := (.object "java/util/function/BiFunction"), accessFlags := 25, slot := 0, constantValue := 0 }, { name := "AIOOBE_FORMATTER", type := (.object "java/util/function/BiFunction"), accessFlags := 25, slot := 1, constantValue := 0 }, { name := "IOOBE_FORMATTER", type := (.object "java/util/function/BiFunction"), accessFlags := 25, slot := 2, constantValue := 0 }]
  methods := #[k12m0]
  instanceTypes := #[]
  staticTypes := #[(.object "java/util/function/BiFunction"), (.object "java/util/function/BiFunction"), (.object "java/util/function/BiFunction")]
  resolved := Array.replicate 194 none
  statics := some 1 }

def pool13 : Array CpInfo := pool [(9, u "<init>"), (6, .class_ 18), (1, u "java/lang/Object"), (0, u "()V"), (1, .class_ 23), (1, u "jdk/internal/util/ArraysSupport"), (0, u "LOG2_ARRAY_LONG_INDEX_SCALE"), (0, u "I"), (2, u "U"), (0, u "Ljdk/internal/misc/Unsafe;"), (8, u "BIG_ENDIAN"), (0, u "Z"), (8, u "LOG2_BYTE_BIT_SIZE"), (4, u "LOG2_ARRAY_INT_INDEX_SCALE"), (54, u "JLA"), (0, u "Ljdk/internal/access/JavaLangAccess;"), (11, u "LOG2_ARRAY_BOOLEAN_INDEX_SCALE"), (9, u "LOG2_ARRAY_BYTE_INDEX_SCALE"), (5, u "LOG2_ARRAY_CHAR_INDEX_SCALE"), (5, u "LOG2_ARRAY_SHORT_INDEX_SCALE"), (18, u "LOG2_ARRAY_FLOAT_INDEX_SCALE"), (24, u "LOG2_ARRAY_DOUBLE_INDEX_SCALE"), (89, u "T_BOOLEAN"), (2, u "T_CHAR"), (1, u "T_FLOAT"), (1, u "T_DOUBLE"), (1, u "T_BYTE"), (1, u "T_SHORT"), (1, u "T_INT"), (1, u "T_LONG"), (1, u "SOFT_MAX_ARRAY_LENGTH")] 83

def k13m0 : Method := { name := "<init>", desc := "()V", sig := { parameters := [], returnType := none }, accessFlags := 2, code := none }
/-- jdk/internal/util/ArraysSupport -/
def k13 : Class := { plain "jdk/internal/util/ArraysSupport" (some 0) with
  accessFlags := 33
  interfaces := #[]
  cf := some (fileOf pool13 21 #[] #[{ accessFlags := 2, nameIndex := 9, descriptorIndex := 19, attributes := #[] }] 33 16 #[] #[{ accessFlags := 24, nameIndex := 28, descriptorIndex := 29, attributes := #[] }, { accessFlags := 26, nameIndex := 38, descriptorIndex := 39, attributes := #[] }, { accessFlags := 25, nameIndex := 121, descriptorIndex := 25, attributes := #[] }, { accessFlags := 25, nameIndex := 131, descriptorIndex := 25, attributes := #[] }, { accessFlags := 25, nameIndex := 137, descriptorIndex := 25, attributes := #[] }, { accessFlags := 25, nameIndex := 143, descriptorIndex := 25, attributes := #[] }, { accessFlags := 25, nameIndex := 53, descriptorIndex := 25, attributes := #[] }, { accessFlags := 25, nameIndex := 24, descriptorIndex := 25, attributes := #[] }, { accessFlags := 25, nameIndex := 162, descriptorIndex := 25, attributes := #[] }, { accessFlags := 25, nameIndex := 187, descriptorIndex := 25, attributes := #[] }, { accessFlags := 26, nameIndex := 48, descriptorIndex := 25, attributes := #[] }, { accessFlags := 25, nameIndex := 277, descriptorIndex := 25, attributes := #[] }, { accessFlags := 25, nameIndex := 280, descriptorIndex := 25, attributes := #[] }, { accessFlags := 25, nameIndex := 282, descriptorIndex := 25, attributes := #[] }, { accessFlags := 25, nameIndex := 284, descriptorIndex := 25, attributes := #[] }, { accessFlags := 25, nameIndex := 286, descriptorIndex := 25, attributes := #[] }, { accessFlags := 25, nameIndex := 288, descriptorIndex := 25, attributes := #[] }, { accessFlags := 25, nameIndex := 290, descriptorIndex := 25, attributes := #[] }, { accessFlags := 25, nameIndex := 292, descriptorIndex := 25, attributes := #[] }, { accessFlags := 26, nameIndex := 108, descriptorIndex := 109, attributes := #[] }, { accessFlags := 25, nameIndex := 294, descriptorIndex := 25, attributes := #[] }])
  fields := #[{ name := "U", type := (.object "jdk/internal/misc/Unsafe"), accessFlags := 24, slot := 0, constantValue := 0 }, { name := "BIG_ENDIAN", type := .boolean, accessFlags := 26, slot := 1, constantValue := 0 }, { name := "LOG2_ARRAY_BOOLEAN_INDEX_SCALE", type := .int, accessFlags := 25, slot := 2, constantValue := 0 }, { name := "LOG2_ARRAY_BYTE_INDEX_SCALE", type := .int, accessFlags := 25, slot := 3, constantValue := 0 }, { name := "LOG2_ARRAY_CHAR_INDEX_SCALE", type := .int, accessFlags := 25, slot := 4, constantValue := 0 }, { name := "LOG2_ARRAY_SHORT_INDEX_SCALE", type := .int, accessFlags := 25, slot := 5, constantValue := 0 }, { name := "LOG2_ARRAY_INT_INDEX_SCALE", type := .int, accessFlags := 25, slot := 6, constantValue := 0 }, { name := "LOG2_ARRAY_LONG_INDEX_SCALE", type := .int, accessFlags := 25, slot := 7, constantValue := 0 }, { name := "LOG2_ARRAY_FLOAT_INDEX_SCALE", type := .int, accessFlags := 25, slot := 8, constantValue := 0 }, { name := "LOG2_ARRAY_DOUBLE_INDEX_SCALE", type := .int, accessFlags := 25, slot := 9, constantValue := 0 }, { name := "LOG2_BYTE_BIT_SIZE", type := .int, accessFlags := 26, slot := 10, constantValue := 0 }, { name := "T_BOOLEAN", type := .int, accessFlags := 25, slot := 11, constantValue := 0 }, { name := "T_CHAR", type := .int, accessFlags := 25, slot := 12, constantValue := 0 }, { name := "T_FLOAT", type := .int, accessFlags := 25, slot := 13, constantValue := 0 }, { name := "T_DOUBLE", type := .int, accessFlags := 25, slot := 14, constantValue := 0 }, { name := "T_BYTE", type := .int, accessFlags := 25, slot := 15, constantValue := 0 }, { name := "T_SHORT", type := .int, accessFlags := 25, slot := 16, constantValue := 0 }, { name := "T_INT", type := .int, accessFlags := 25, slot := 17, constantValue := 0 }, { name := "T_LONG", type := .int, accessFlags := 25, slot := 18, constantValue := 0 }, { name := "JLA", type := (.object "jdk/internal/access/JavaLangAccess"), accessFlags := 26, slot := 19, constantValue := 0 }, { name := "SOFT_MAX_ARRAY_LENGTH", type := .int, accessFlags := 25, slot := 20, constantValue := 0 }]
  methods := #[k13m0]
  instanceTypes := #[]
  staticTypes := #[(.object "jdk/internal/misc/Unsafe"), .boolean, .int, .int, .int, .int, .int, .int, .int, .int, .int, .int, .int, .int, .int, .int, .int, .int, .int, (.object "jdk/internal/access/JavaLangAccess"), .int]
  resolved := Array.replicate 378 none
  statics := none }

def pool14 : Array CpInfo := pool [(1, u "java/lang/Cloneable"), (0, .class_ 1), (0, u "java/lang/Object"), (0, .class_ 3)] 3

/-- java/lang/Cloneable -/
def k14 : Class := { plain "java/lang/Cloneable" (some 0) with
  accessFlags := 1537
  interfaces := #[]
  cf := some (fileOf pool14 2 #[] #[] 1537 4 #[] #[])
  fields := #[]
  methods := #[]
  instanceTypes := #[]
  staticTypes := #[]
  resolved := Array.replicate 8 none
  statics := none }

/-- the primitive byte -/
def k15 : Class := { plain "byte" none with kind := .primitive 'B', accessFlags := 0x411 }
/-- [B -/
def k16 : Class := { plain "[B" (some 0) with kind := .array 15 .byte, interfaces := #[14, 4], accessFlags := 1041 }

/-- the primitive char -/
def k17 : Class := { plain "char" none with kind := .primitive 'C', accessFlags := 0x411 }
/-- [C -/
def k18 : Class := { plain "[C" (some 0) with kind := .array 17 .char, interfaces := #[14, 4], accessFlags := 1041 }

/-- the primitive int -/
def k19 : Class := { plain "int" none with kind := .primitive 'I', accessFlags := 0x411 }
/-- [I -/
def k20 : Class := { plain "[I" (some 0) with kind := .array 19 .int, interfaces := #[14, 4], accessFlags := 1041 }

def heap : Heap := #[{ cls := 9, slots := #[.long 0, .int 1, .null, .int 0, .null, .int 0, .int 0], vm := .statics 9 },
  { cls := 12, slots := #[.null, .null, .null], vm := .statics 12 }]
def classes : Array Class := #[k0, k1, k2, k3, k4, k5, k6, k7, k8, k9, k10, k11, k12, k13, k14, k15, k16, k17, k18, k19, k20]
def interned : List (Array UInt16 × Addr) := []
def slotsUsed : Nat := 10
def theMethod : MethodId := ⟨1, 1⟩
def args0 : Array Value := #[.int 5, .int 6, .long 1, .long 2, .long 3, .long 4]
def aboutOver (below : List Frame) : State where
  vm := { classes := classes, interned := interned.toArray }
  heap := heap
  slotsUsed := slotsUsed
  threads := #[{ frames := .invoking theMethod args0 :: below }]
def below0 : List Frame := [.native { method := ⟨0, 0⟩, args := #[] }]
def about1 : State := aboutOver below0
def p0 : Program := .bare "" "" ""
def e0 : Env := launch0.env 0 0 0
theorem w_frames : about1.frames = Frame.invoking theMethod args0 :: below0 := rfl
set_option maxRecDepth 65536 in
theorem w_args : argsFit about1.vm theMethod args0 = true := by decide +kernel
set_option maxRecDepth 65536 in
theorem w_heap : heapFits about1 = true := by decide +kernel
set_option maxRecDepth 65536 in
theorem w_runnable : about1.curStatus? = some .runnable := by decide +kernel
set_option maxRecDepth 65536 in
theorem w_alone : about1.alone = true := by decide +kernel
set_option maxRecDepth 65536 in
theorem w_named : about1.methodNamed? x = some theMethod := by decide +kernel
set_option maxRecDepth 65536 in
theorem w_hears : about1.hears theMethod below0 = true := by decide +kernel
set_option maxRecDepth 65536 in
theorem w_ripe : about1.ripe theMethod args0 below0 = true := by decide +kernel
theorem w_running : about1.status = .running := rfl
set_option maxRecDepth 65536 in
theorem w_room : about1.hasRoom e0.platform room_1 = true :=
  launch0.hasRoom_least _ room_1 (by decide +kernel) (by decide +kernel) (by decide +kernel) (by decide +kernel) (by decide +kernel) (by decide +kernel)
theorem allAtoms_all (ts : List Jvm.Cond) (a : Array Jvm.Value) (st : Jvm.State) : (allAtoms ts).before a st = ts.all (fun c => c.before a st) := by
  induction ts with
  | nil => rfl
  | cons c t ih =>
    show (Jvm.Cond.and c (allAtoms t)).before a st = _
    rw [Jvm.Cond.before_and, ih, List.all_cons]
def words1 : List Jvm.Cond := Jvm.Cond.code x code maxLocals ret :: tables_1
/-- a 'code' word, met by the world's own term for the bytes: nothing is compared byte by byte -/
theorem code_word {y : MethodName} {bytes : ByteArray} {mx : Nat} {rt : Option FieldType} {a : Array Value} {s : State} {m : MethodId} {meth : Method} {c : Code} (h1 : s.methodNamed? y = some m) (h2 : s.vm.method? m = some meth) (h3 : meth.code = some c) (h4 : c.code = bytes)
    (h5 : (c.maxLocals == mx && c.exceptionTable.isEmpty && decide (c.maxStack ≤ mostOperands) && decide (meth.sig.returnType = rt) && !meth.locks && decide (parseMethodDescriptor y.desc = some meth.sig)) = true) : (Jvm.Cond.code y bytes mx rt).before a s = true := by
  simp only [Bool.and_eq_true, beq_iff_eq, Bool.not_eq_true', decide_eq_true_eq] at h5
  obtain ⟨⟨⟨⟨⟨g1, g2⟩, g3⟩, g4⟩, g5⟩, g6⟩ := h5
  simp [Cond.before, Cond.holds, Cond.value, h1, h2, h3, h4, g1, g2, g3, g4, g5, g6]
def isCode : Jvm.Cond → Bool
  | .code _ _ _ _ => true
  | _ => false
theorem all_split {L : List Jvm.Cond} {P : Jvm.Cond → Bool} (h1 : L.all (fun c => isCode c || P c) = true) (h2 : ∀ c ∈ L.filter isCode, P c = true) : L.all P = true := by
  refine List.all_eq_true.mpr fun c hc => ?_
  have h := List.all_eq_true.mp h1 c hc
  rcases Bool.eq_false_or_eq_true (isCode c) with hi | hi
  · exact h2 c (List.mem_filter.mpr ⟨hc, hi⟩)
  · simpa [hi] using h
set_option maxRecDepth 65536 in
theorem w_c0 : (Jvm.Cond.code x code maxLocals ret).before args0 about1 = true := code_word (m := ⟨1, 1⟩) (meth := k1m1) (c := k1c1) (by decide +kernel) rfl rfl rfl (by decide +kernel)
set_option maxRecDepth 65536 in
theorem w_c1 : (Jvm.Cond.code ({ cls := "com/example/proofs_for_datalog/proofsfordatalog/kernel/Verdict", name := "<init>", desc := "(Ljava/lang/String;JJJJ)V" } : Jvm.MethodName) prog_34_method_1_code (10 : Nat) (Option.none : Option Jvm.ClassFile.FieldType)).before args0 about1 = true := code_word (m := ⟨3, 0⟩) (meth := k3m0) (c := k3c0) (by decide +kernel) rfl rfl rfl (by decide +kernel)
set_option maxRecDepth 65536 in
theorem w_c2 : (Jvm.Cond.code ({ cls := "java/lang/Record", name := "<init>", desc := "()V" } : Jvm.MethodName) jdk_30_method_1_code (1 : Nat) (Option.none : Option Jvm.ClassFile.FieldType)).before args0 about1 = true := code_word (m := ⟨2, 0⟩) (meth := k2m0) (c := k2c0) (by decide +kernel) rfl rfl rfl (by decide +kernel)
set_option maxRecDepth 65536 in
theorem w_c3 : (Jvm.Cond.code ({ cls := "java/lang/Object", name := "<init>", desc := "()V" } : Jvm.MethodName) object_method_1_code (1 : Nat) (Option.none : Option Jvm.ClassFile.FieldType)).before args0 about1 = true := code_word (m := ⟨0, 0⟩) (meth := k0m0) (c := k0c0) (by decide +kernel) rfl rfl rfl (by decide +kernel)
set_option maxRecDepth 65536 in
theorem w_c4 : (Jvm.Cond.code ({ cls := "com/example/proofs_for_datalog/proofsfordatalog/kernel/Verdict", name := "valid", desc := "()Z" } : Jvm.MethodName) prog_34_method_2_code (1 : Nat) (Option.some Jvm.ClassFile.FieldType.boolean)).before args0 about1 = true := code_word (m := ⟨3, 1⟩) (meth := k3m1) (c := k3c1) (by decide +kernel) rfl rfl rfl (by decide +kernel)
set_option maxRecDepth 65536 in
theorem w_c5 : (Jvm.Cond.code ({ cls := "java/lang/String", name := "<init>", desc := "([C)V" } : Jvm.MethodName) jdk_42_method_3_code (2 : Nat) (Option.none : Option Jvm.ClassFile.FieldType)).before args0 about1 = true := code_word (m := ⟨9, 1⟩) (meth := k9m1) (c := k9c1) (by decide +kernel) rfl rfl rfl (by decide +kernel)
set_option maxRecDepth 65536 in
theorem w_c6 : (Jvm.Cond.code ({ cls := "java/lang/String", name := "<init>", desc := "([CIILjava/lang/Void;)V" } : Jvm.MethodName) jdk_42_method_149_code (6 : Nat) (Option.none : Option Jvm.ClassFile.FieldType)).before args0 about1 = true := code_word (m := ⟨9, 2⟩) (meth := k9m2) (c := k9c2) (by decide +kernel) rfl rfl rfl (by decide +kernel)
set_option maxRecDepth 65536 in
theorem w_c7 : (Jvm.Cond.code ({ cls := "java/lang/StringUTF16", name := "compress", desc := "([CII)[B" } : Jvm.MethodName) jdk_52_method_16_code (6 : Nat) (Option.some (Jvm.ClassFile.FieldType.array Jvm.ClassFile.FieldType.byte))).before args0 about1 = true := code_word (m := ⟨10, 2⟩) (meth := k10m2) (c := k10c2) (by decide +kernel) rfl rfl rfl (by decide +kernel)
set_option maxRecDepth 65536 in
theorem w_c8 : (Jvm.Cond.code ({ cls := "java/lang/StringUTF16", name := "compress", desc := "([CI[BII)I" } : Jvm.MethodName) jdk_52_method_21_code (7 : Nat) (Option.some Jvm.ClassFile.FieldType.int)).before args0 about1 = true := code_word (m := ⟨10, 3⟩) (meth := k10m3) (c := k10c3) (by decide +kernel) rfl rfl rfl (by decide +kernel)
set_option maxRecDepth 65536 in
theorem w_c9 : (Jvm.Cond.code ({ cls := "java/lang/StringUTF16", name := "coderFromArrayLen", desc := "([BI)B" } : Jvm.MethodName) jdk_52_method_15_code (2 : Nat) (Option.some Jvm.ClassFile.FieldType.byte)).before args0 about1 = true := code_word (m := ⟨10, 1⟩) (meth := k10m1) (c := k10c1) (by decide +kernel) rfl rfl rfl (by decide +kernel)
def codes1 : List Jvm.Cond := [Jvm.Cond.code x code maxLocals ret, Jvm.Cond.code ({ cls := "com/example/proofs_for_datalog/proofsfordatalog/kernel/Verdict", name := "<init>", desc := "(Ljava/lang/String;JJJJ)V" } : Jvm.MethodName) prog_34_method_1_code (10 : Nat) (Option.none : Option Jvm.ClassFile.FieldType), Jvm.Cond.code ({ cls := "java/lang/Record", name := "<init>", desc := "()V" } : Jvm.MethodName) jdk_30_method_1_code (1 : Nat) (Option.none : Option Jvm.ClassFile.FieldType), Jvm.Cond.code ({ cls := "java/lang/Object", name := "<init>", desc := "()V" } : Jvm.MethodName) object_method_1_code (1 : Nat) (Option.none : Option Jvm.ClassFile.FieldType), Jvm.Cond.code ({ cls := "com/example/proofs_for_datalog/proofsfordatalog/kernel/Verdict", name := "valid", desc := "()Z" } : Jvm.MethodName) prog_34_method_2_code (1 : Nat) (Option.some Jvm.ClassFile.FieldType.boolean), Jvm.Cond.code ({ cls := "java/lang/String", name := "<init>", desc := "([C)V" } : Jvm.MethodName) jdk_42_method_3_code (2 : Nat) (Option.none : Option Jvm.ClassFile.FieldType), Jvm.Cond.code ({ cls := "java/lang/String", name := "<init>", desc := "([CIILjava/lang/Void;)V" } : Jvm.MethodName) jdk_42_method_149_code (6 : Nat) (Option.none : Option Jvm.ClassFile.FieldType), Jvm.Cond.code ({ cls := "java/lang/StringUTF16", name := "compress", desc := "([CII)[B" } : Jvm.MethodName) jdk_52_method_16_code (6 : Nat) (Option.some (Jvm.ClassFile.FieldType.array Jvm.ClassFile.FieldType.byte)), Jvm.Cond.code ({ cls := "java/lang/StringUTF16", name := "compress", desc := "([CI[BII)I" } : Jvm.MethodName) jdk_52_method_21_code (7 : Nat) (Option.some Jvm.ClassFile.FieldType.int), Jvm.Cond.code ({ cls := "java/lang/StringUTF16", name := "coderFromArrayLen", desc := "([BI)B" } : Jvm.MethodName) jdk_52_method_15_code (2 : Nat) (Option.some Jvm.ClassFile.FieldType.byte)]
set_option maxRecDepth 65536 in
theorem codes_eq : words1.filter isCode = codes1 := rfl
theorem w_codes : ∀ c ∈ words1.filter isCode, c.before args0 about1 = true := by
  rw [codes_eq]
  intro c hc
  simp only [codes1, List.mem_cons, List.not_mem_nil, or_false] at hc
  rcases hc with rfl | rfl | rfl | rfl | rfl | rfl | rfl | rfl | rfl | rfl
  · exact w_c0
  · exact w_c1
  · exact w_c2
  · exact w_c3
  · exact w_c4
  · exact w_c5
  · exact w_c6
  · exact w_c7
  · exact w_c8
  · exact w_c9
set_option maxRecDepth 65536 in
theorem w_t1 : (words1.take 24).all (fun c => isCode c || c.before args0 about1) = true := by decide +kernel
set_option maxRecDepth 65536 in
theorem w_t2 : ((words1.drop 24).take 24).all (fun c => isCode c || c.before args0 about1) = true := by decide +kernel
set_option maxRecDepth 65536 in
theorem w_t3 : ((words1.drop 24).drop 24).all (fun c => isCode c || c.before args0 about1) = true := by decide +kernel
theorem w_tables : (allAtoms (Jvm.Cond.code x code maxLocals ret :: tables_1)).before args0 about1 = true := by
  rw [allAtoms_all]
  show words1.all (fun c => c.before args0 about1) = true
  refine all_split ?_ w_codes
  rw [← List.take_append_drop 24 words1, List.all_append, w_t1, ← List.take_append_drop 24 (words1.drop 24), List.all_append, w_t2, w_t3]
  rfl
set_option maxRecDepth 65536 in
theorem w_rest : rest_1_c.before args0 about1 = true := by decide +kernel
set_option maxRecDepth 65536 in
theorem w_case : (Jvm.Cond.and given_1 narrow_1).before args0 about1 = true := by decide +kernel
set_option maxRecDepth 65536 in
theorem w_consts : constsHeld consts_1 about1 := Jvm.Lit.constsHeldB_iff.mp (by decide +kernel)
theorem w_applies : (headSpec (Jvm.Cond.code x code maxLocals ret :: tables_1) room_1).applies x e0.platform about1 = true :=
  (Spec.applies_iff w_frames).mpr ⟨w_running, w_runnable, w_alone, w_named, w_hears, w_ripe, w_room, w_tables⟩
theorem atStart : AtStart classFile x code maxLocals ret World_1 tables_1 room_1 Calls_1 rest_1 Pre_1 launch0 p0 e0 about1 theMethod args0 below0 :=
  ⟨lists_1, trivial, launch0.admits_env _ _ _, launch0.least_env, fairChoices_fair.cas, fairChoices_fair.clock, w_frames, w_args, w_heap, w_applies, ⟨w_consts, trivial⟩, w_rest, w_case⟩
end start1
theorem witness_1 : WitnessClaimed_1 := ⟨start1.p0, start1.e0, start1.about1, start1.theMethod, start1.args0, start1.below0, start1.atStart⟩
end Jvm.Pilot.@@N@@
