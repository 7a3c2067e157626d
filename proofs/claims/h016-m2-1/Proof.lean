import JvmDerived
import JvmDerived.Pilot.@@N@@Statement
import JvmDerived.Pilot.@@N@@Code
set_option linter.unusedVariables false
set_option linter.unusedSimpArgs false
namespace Jvm.RoadKit
open Sem ClassFile Op Lib Jvm.Stand Jvm.Free Jvm.LawKit
section New
variable {p : Program} {l : Launch} {e : Env} {R : Room} {s : State} {m : MethodId} {args : Array Value} {below : List Frame} {meth : Method} {c : Code} {T : State} {locs : List Loc} {cells slots : Nat}
theorem retI (X : Stand p l e R s m args below meth c T locs cells slots) (hx : p.tables.exec = Jvm.exec) {pc : Nat} {Ls : Array Slot} {z : Int32} {rest : List Value} (hret : meth.sig.returnType = some .int) (hd : decode c.code pc = .ok (.ireturn, 1)) {fs : List Frame}
    (hl : ∀ (f : JFrame) (acts : List Action), f.method = m → f.locked = none → f.entered = [] → (doReturn e (T.setTop f) acts (some (.int z))).1 = T.setFrames fs) : Steps p.tables e below (T.setTop (mkF m pc Ls (.int z :: rest))) (T.setFrames fs) := by
  have hm' : T.vm.method? m = some meth := X.method'
  have hn : narrow .int (.int z) = .int z := rfl
  show Steps p.tables e below (T.setTop { method := m, pc := pc, locals := Ls, stack := _ :: rest, locked := none }) _
  jvm_step X.here [X.here.top, hx, hd, hm', hret, hn]
  first | (intro acts; rw [hl _ acts rfl rfl rfl]) | rw [hl _ _ rfl rfl rfl]
  exact Steps.refl _
end New
end Jvm.RoadKit
namespace Jvm.Pilot.@@N@@
open Jvm Jvm.ClassFile Sem Op Lib Jvm.Free Jvm.Stand Jvm.LawKit Jvm.RoadKit Bundle Jvm.Pilot.@@N@@.Jvm.D
section OwnKit
variable {p : Program} {l : Launch} {e : Env} {R : Room} {s : State} {m : MethodId} {args : Array Value} {below : List Frame} {meth : Method} {c : Code} {Z : State} {a0 : Array Value} {cd : ByteArray} {ml : Nat} {ret : Option FieldType} {own nm : String} {n0 : Nat} {Q : Option Value → Heap → Prop} {h : Heap} {k n : Nat}
/-- what stands fast while one body runs -/
def Cx (p : Program) (s : State) (m : MethodId) (meth : Method) (c : Code) (Z : State) (cd : ByteArray) (ml : Nat) (ret : Option FieldType) (own nm : String) : Prop :=
  p.tables.exec = Jvm.exec ∧ Z.Warmed39 s.vm ∧ c.code = cd ∧ c.maxLocals = ml ∧ s.vm.findClass own = some m.cls ∧ meth.sig.returnType = ret ∧ meth.locks = false ∧ meth.name = nm
/-- from this frame, over this heap, the body returns and Q holds -/
def Wp (p : Program) (l : Launch) (e : Env) (R : Room) (s : State) (m : MethodId) (args : Array Value) (below : List Frame) (meth : Method) (c : Code) (n0 : Nat) (Q : Option Value → Heap → Prop) (h : Heap) (k n : Nat) (g : JFrame) : Prop :=
  ∀ (T : State) (locs : List Loc), Stand p l e R s m args below meth c T locs k n → T.heap = h → Fr n0 locs →
    ∃ s₂ o, Steps p.tables e below (T.setTop g) s₂ ∧ s₂.status = .running ∧ Ended s₂ below o ∧ ∃ v L, o = .returned v ∧ (Q v s₂.heap ∧ Fr n0 L) ∧ FrameEnd s o s₂ L R.cells R.slots
/-- a callee's contract: called with these arguments over this heap it returns, and Q holds -/
def Met (l : Launch) (y : MethodName) (bytes : ByteArray) (mL : Nat) (rt : Option FieldType) (ws : List Jvm.Cond) (rm : Room) (Z : State) (n0 : Nat) (as : Array Value) (h : Heap) (Q : Option Value → Heap → Prop) : Prop :=
  MetFree l y (head1 (Jvm.Cond.code y bytes mL rt :: ws) rm) (fun a U => a = as ∧ Z.Warmed39 U.vm ∧ U.heap = h) (fun _ _ _ _ _ => True) (fun _ U o U' => ∃ v L, o = .returned v ∧ (Q v U'.heap ∧ Fr n0 L) ∧ FrameEnd U o U' L rm.cells rm.slots)
theorem own_met {y : MethodName} {bytes : ByteArray} {mL : Nat} {rt : Option FieldType} {ws : List Jvm.Cond} {rm : Room} {as : Array Value} {Ls : Array Slot} (hpn : plainName y.cls = true) (hef : ∀ m, entryFrame m as mL = mkF m 0 Ls [])
    (H : ∀ p e s m below meth c, Cx p s m meth c Z bytes mL rt y.cls y.name → Wp p l e rm s m as below meth c n0 Q h 0 0 (mkF m 0 Ls [])) : Met l y bytes mL rt ws rm Z n0 as h Q := by
  refine MetFree.of_bodySF (plainFor_of_name hpn) hisR ?_
  intro p e s m args below meth c s₁ Bd hml0 hP hK
  obtain ⟨rfl, hZ, hh⟩ := hP
  have hown : s.vm.findClass y.cls = some m.cls := findClass_of_methodNamed Bd.named
  have hnm := (name_of_methodNamed Bd.named Bd.method).1
  have X0 : Stand p l e rm s m args below meth c s₁ [] 0 0 := Stand.of_body Bd
  have e0 : s₁.heap = h := by rw [← hh, Bd.state]; rfl
  obtain ⟨s₂, o, st, r⟩ := H p e s m below meth c ⟨Bd.exec, hZ, Bd.bytes, hml0, hown, Bd.returns, Bd.notSynchronized, hnm⟩ s₁ [] X0 e0 (Fr.nil n0)
  exact ⟨s₂, o, castTop (hef m) st, r⟩
/-! single steps -/
theorem own_lift {g g' : JFrame} (H : ∀ T, At T m c below → ∀ t, Steps p.tables e below (T.setTop g') t → Steps p.tables e below (T.setTop g) t) (W : Wp p l e R s m args below meth c n0 Q h k n g') : Wp p l e R s m args below meth c n0 Q h k n g := fun T locs X eT N => by
  obtain ⟨s₂, o, st, r⟩ := W T locs X eT N
  exact ⟨s₂, o, H T X.here _ st, r⟩
theorem own_liftX {g g' : JFrame} (H : ∀ T locs, Stand p l e R s m args below meth c T locs k n → T.heap = h → ∀ t, Steps p.tables e below (T.setTop g') t → Steps p.tables e below (T.setTop g) t) (W : Wp p l e R s m args below meth c n0 Q h k n g') : Wp p l e R s m args below meth c n0 Q h k n g := fun T locs X eT N => by
  obtain ⟨s₂, o, st, r⟩ := W T locs X eT N
  exact ⟨s₂, o, H T locs X eT _ st, r⟩
theorem own_cast {g g' : JFrame} (q : g = g') (W : Wp p l e R s m args below meth c n0 Q h k n g') : Wp p l e R s m args below meth c n0 Q h k n g := q ▸ W
theorem own_seq {g g' : JFrame} (t : Wp p l e R s m args below meth c n0 Q h k n g' → Wp p l e R s m args below meth c n0 Q h k n g) (w : Wp p l e R s m args below meth c n0 Q h k n g') : Wp p l e R s m args below meth c n0 Q h k n g := t w
theorem own_seq1 {g : JFrame} {F : Slot → JFrame} (t : (∀ u, RoadKit.One u → Wp p l e R s m args below meth c n0 Q h k n (F u)) → Wp p l e R s m args below meth c n0 Q h k n g) (w : ∀ u, RoadKit.One u → Wp p l e R s m args below meth c n0 Q h k n (F u)) : Wp p l e R s m args below meth c n0 Q h k n g := t w
theorem own_seq2 {g : JFrame} {F : Slot → Slot → JFrame} (t : (∀ u, RoadKit.One u → ∀ v, RoadKit.One v → Wp p l e R s m args below meth c n0 Q h k n (F u v)) → Wp p l e R s m args below meth c n0 Q h k n g) (w : ∀ u, RoadKit.One u → ∀ v, RoadKit.One v → Wp p l e R s m args below meth c n0 Q h k n (F u v)) : Wp p l e R s m args below meth c n0 Q h k n g := t w
theorem own_seqH {g g' : JFrame} {P : Heap → Prop} {k' n' : Nat} (t : (∀ h', P h' → Wp p l e R s m args below meth c n0 Q h' k' n' g') → Wp p l e R s m args below meth c n0 Q h k n g) (w : ∀ h', P h' → Wp p l e R s m args below meth c n0 Q h' k' n' g') : Wp p l e R s m args below meth c n0 Q h k n g := t w
variable {pc pc' : Nat} {Ls Ls' : Array Slot} {st : List Value}
theorem own_iload (C : Cx p s m meth c Z cd ml ret own nm) {i : Nat} {v : Int32} (hd : decode cd pc = .ok (.iload i, 2)) (hl : Ls[i]? = some (.val (.int v))) (hp : pc + 2 = pc') (W : Wp p l e R s m args below meth c n0 Q h k n (mkF m pc' Ls (.int v :: st))) : Wp p l e R s m args below meth c n0 Q h k n (mkF m pc Ls st) := by
  subst hp; exact own_lift (fun T A t q => XS.iload A C.1 rfl (hb C.2.2.1 hd) hl q) W
theorem own_iloadN (C : Cx p s m meth c Z cd ml ret own nm) {i : Fin 4} {v : Int32} (hd : decode cd pc = .ok (.iload_n i, 1)) (hl : Ls[i.val]? = some (.val (.int v))) (hp : pc + 1 = pc') (W : Wp p l e R s m args below meth c n0 Q h k n (mkF m pc' Ls (.int v :: st))) : Wp p l e R s m args below meth c n0 Q h k n (mkF m pc Ls st) := by
  subst hp; exact own_lift (fun T A t q => XS.iloadN A C.1 rfl (hb C.2.2.1 hd) hl q) W
theorem own_lload (C : Cx p s m meth c Z cd ml ret own nm) {i : Nat} {v : Int64} (hd : decode cd pc = .ok (.lload i, 2)) (hl : Ls[i]? = some (.val (.long v))) (hp : pc + 2 = pc') (W : Wp p l e R s m args below meth c n0 Q h k n (mkF m pc' Ls (.long v :: st))) : Wp p l e R s m args below meth c n0 Q h k n (mkF m pc Ls st) := by
  subst hp; exact own_lift (fun T A t q => XS.lload A C.1 rfl (hb C.2.2.1 hd) hl q) W
theorem own_lloadN (C : Cx p s m meth c Z cd ml ret own nm) {i : Fin 4} {v : Int64} (hd : decode cd pc = .ok (.lload_n i, 1)) (hl : Ls[i.val]? = some (.val (.long v))) (hp : pc + 1 = pc') (W : Wp p l e R s m args below meth c n0 Q h k n (mkF m pc' Ls (.long v :: st))) : Wp p l e R s m args below meth c n0 Q h k n (mkF m pc Ls st) := by
  subst hp; exact own_lift (fun T A t q => XS.lloadN A C.1 rfl (hb C.2.2.1 hd) hl q) W
theorem own_aload (C : Cx p s m meth c Z cd ml ret own nm) {i : Nat} {v : Value} (hd : decode cd pc = .ok (.aload i, 2)) (hl : Ls[i]? = some (.val v)) (hv : v.isRef = true) (hp : pc + 2 = pc') (W : Wp p l e R s m args below meth c n0 Q h k n (mkF m pc' Ls (v :: st))) : Wp p l e R s m args below meth c n0 Q h k n (mkF m pc Ls st) := by
  subst hp; exact own_lift (fun T A t q => XS.aload A C.1 rfl (hb C.2.2.1 hd) hl hv q) W
theorem own_aloadN (C : Cx p s m meth c Z cd ml ret own nm) {i : Fin 4} {v : Value} (hd : decode cd pc = .ok (.aload_n i, 1)) (hl : Ls[i.val]? = some (.val v)) (hv : v.isRef = true) (hp : pc + 1 = pc') (W : Wp p l e R s m args below meth c n0 Q h k n (mkF m pc' Ls (v :: st))) : Wp p l e R s m args below meth c n0 Q h k n (mkF m pc Ls st) := by
  subst hp; exact own_lift (fun T A t q => XS.aloadN A C.1 rfl (hb C.2.2.1 hd) hl hv q) W
theorem own_istore (C : Cx p s m meth c Z cd ml ret own nm) {i : Nat} {x y : Int32} (hd : decode cd pc = .ok (.istore i, 2)) (hy : x = y) (hl : storeLocals Ls i (.int y) = some Ls') (hp : pc + 2 = pc') (W : Wp p l e R s m args below meth c n0 Q h k n (mkF m pc' Ls' st)) : Wp p l e R s m args below meth c n0 Q h k n (mkF m pc Ls (.int x :: st)) := by
  subst hp hy; exact own_lift (fun T A t q => XS.istore A C.1 rfl (hb C.2.2.1 hd) rfl hl q) W
theorem own_istoreN (C : Cx p s m meth c Z cd ml ret own nm) {i : Fin 4} {x y : Int32} (hd : decode cd pc = .ok (.istore_n i, 1)) (hy : x = y) (hl : storeLocals Ls i.val (.int y) = some Ls') (hp : pc + 1 = pc') (W : Wp p l e R s m args below meth c n0 Q h k n (mkF m pc' Ls' st)) : Wp p l e R s m args below meth c n0 Q h k n (mkF m pc Ls (.int x :: st)) := by
  subst hp hy; exact own_lift (fun T A t q => XS.istoreN A C.1 rfl (hb C.2.2.1 hd) rfl hl q) W
theorem own_lstore (C : Cx p s m meth c Z cd ml ret own nm) {i : Nat} {x y : Int64} (hd : decode cd pc = .ok (.lstore i, 2)) (hy : x = y) (hl : storeLocals Ls i (.long y) = some Ls') (hp : pc + 2 = pc') (W : Wp p l e R s m args below meth c n0 Q h k n (mkF m pc' Ls' st)) : Wp p l e R s m args below meth c n0 Q h k n (mkF m pc Ls (.long x :: st)) := by
  subst hp hy; exact own_lift (fun T A t q => XS.lstore A C.1 rfl (hb C.2.2.1 hd) rfl hl q) W
theorem own_lstoreN (C : Cx p s m meth c Z cd ml ret own nm) {i : Fin 4} {x y : Int64} (hd : decode cd pc = .ok (.lstore_n i, 1)) (hy : x = y) (hl : storeLocals Ls i.val (.long y) = some Ls') (hp : pc + 1 = pc') (W : Wp p l e R s m args below meth c n0 Q h k n (mkF m pc' Ls' st)) : Wp p l e R s m args below meth c n0 Q h k n (mkF m pc Ls (.long x :: st)) := by
  subst hp hy; exact own_lift (fun T A t q => XS.lstoreN A C.1 rfl (hb C.2.2.1 hd) rfl hl q) W
theorem own_astore (C : Cx p s m meth c Z cd ml ret own nm) {i : Nat} {x : Value} (hd : decode cd pc = .ok (.astore i, 2)) (hv : x.isRef = true) (hl : storeLocals Ls i x = some Ls') (hp : pc + 2 = pc') (W : Wp p l e R s m args below meth c n0 Q h k n (mkF m pc' Ls' st)) : Wp p l e R s m args below meth c n0 Q h k n (mkF m pc Ls (x :: st)) := by
  subst hp; exact own_lift (fun T A t q => XS.astore A C.1 rfl (hb C.2.2.1 hd) rfl hv hl q) W
theorem own_astoreN (C : Cx p s m meth c Z cd ml ret own nm) {i : Fin 4} {x : Value} (hd : decode cd pc = .ok (.astore_n i, 1)) (hv : x.isRef = true) (hl : storeLocals Ls i.val x = some Ls') (hp : pc + 1 = pc') (W : Wp p l e R s m args below meth c n0 Q h k n (mkF m pc' Ls' st)) : Wp p l e R s m args below meth c n0 Q h k n (mkF m pc Ls (x :: st)) := by
  subst hp; exact own_lift (fun T A t q => XS.astoreN A C.1 rfl (hb C.2.2.1 hd) rfl hv hl q) W
theorem own_iconst (C : Cx p s m meth c Z cd ml ret own nm) {i : Int} {v : Int32} (hd : decode cd pc = .ok (.iconst i, 1)) (hv : Int32.ofInt i = v) (hp : pc + 1 = pc') (W : Wp p l e R s m args below meth c n0 Q h k n (mkF m pc' Ls (.int v :: st))) : Wp p l e R s m args below meth c n0 Q h k n (mkF m pc Ls st) := by
  subst hp hv; exact own_lift (fun T A t q => XS.iconst A C.1 rfl (hb C.2.2.1 hd) q) W
theorem own_bipush (C : Cx p s m meth c Z cd ml ret own nm) {i : Int} {v : Int32} (hd : decode cd pc = .ok (.bipush i, 2)) (hv : (Int8.ofInt i).toInt32 = v) (hp : pc + 2 = pc') (W : Wp p l e R s m args below meth c n0 Q h k n (mkF m pc' Ls (.int v :: st))) : Wp p l e R s m args below meth c n0 Q h k n (mkF m pc Ls st) := by
  subst hp hv; exact own_lift (fun T A t q => XS.bipush A C.1 rfl (hb C.2.2.1 hd) q) W
theorem own_sipush (C : Cx p s m meth c Z cd ml ret own nm) {i : Int} {v : Int32} (hd : decode cd pc = .ok (.sipush i, 3)) (hv : (Int16.ofInt i).toInt32 = v) (hp : pc + 3 = pc') (W : Wp p l e R s m args below meth c n0 Q h k n (mkF m pc' Ls (.int v :: st))) : Wp p l e R s m args below meth c n0 Q h k n (mkF m pc Ls st) := by
  subst hp hv; exact own_lift (fun T A t q => XS.sipush A C.1 rfl (hb C.2.2.1 hd) q) W
theorem own_lconst (C : Cx p s m meth c Z cd ml ret own nm) {i : Fin 2} {v : Int64} (hd : decode cd pc = .ok (.lconst i, 1)) (hv : Int64.ofNat i.val = v) (hp : pc + 1 = pc') (W : Wp p l e R s m args below meth c n0 Q h k n (mkF m pc' Ls (.long v :: st))) : Wp p l e R s m args below meth c n0 Q h k n (mkF m pc Ls st) := by
  subst hp hv; exact own_lift (fun T A t q => XS.lconst A C.1 rfl (hb C.2.2.1 hd) q) W
theorem own_null (C : Cx p s m meth c Z cd ml ret own nm) (hd : decode cd pc = .ok (.aconst_null, 1)) (hp : pc + 1 = pc') (W : Wp p l e R s m args below meth c n0 Q h k n (mkF m pc' Ls (.null :: st))) : Wp p l e R s m args below meth c n0 Q h k n (mkF m pc Ls st) := by
  subst hp; exact own_lift (fun T A t q => XS.aconstNull A C.1 rfl (hb C.2.2.1 hd) q) W
/-! returns -/
theorem own_vret (C : Cx p s m meth c Z cd ml none own nm) (hd : decode cd pc = .ok (.return_, 1)) (hk : k ≤ R.cells) (hn : n ≤ R.slots) (hq : Q none h) : Wp p l e R s m args below meth c n0 Q h k n (mkF m pc Ls []) := fun T locs X eT N => by
  obtain ⟨hx, hZ, hby, hml, hown, hret, hlk, hnm⟩ := C
  obtain ⟨fs, hr, hrun, hended, hW, hsame⟩ := X.leave (v := none) (fun _ => rfl) hlk
  exact ⟨_, _, X.returnOut hx hret (hb hby hd) hr, hrun, hended, _, _, rfl, ⟨by rw [show (T.setFrames fs).heap = T.heap from rfl, eT]; exact hq, N⟩, ⟨_, rfl⟩, hW, hsame.mono hk hn⟩
theorem own_iret {z : Int32} (C : Cx p s m meth c Z cd ml (some .int) own nm) (hd : decode cd pc = .ok (.ireturn, 1)) (hk : k ≤ R.cells) (hn : n ≤ R.slots) (hq : Q (some (.int z)) h) : Wp p l e R s m args below meth c n0 Q h k n (mkF m pc Ls (.int z :: st)) := fun T locs X eT N => by
  obtain ⟨hx, hZ, hby, hml, hown, hret, hlk, hnm⟩ := C
  obtain ⟨fs, hr, hrun, hended, hW, hsame⟩ := X.leave (v := some (.int z)) (fun q => by rw [hret] at q; cases q) hlk
  exact ⟨_, _, retI X hx hret (hb hby hd) hr, hrun, hended, _, _, rfl, ⟨by rw [show (T.setFrames fs).heap = T.heap from rfl, eT]; exact hq, N⟩, ⟨_, rfl⟩, hW, hsame.mono hk hn⟩
theorem own_nret {z : Int32} {t : FieldType} (C : Cx p s m meth c Z cd ml (some t) own nm) (ht : t = .boolean ∨ t = .byte ∨ t = .char ∨ t = .short) (hd : decode cd pc = .ok (.ireturn, 1)) (hk : k ≤ R.cells) (hn : n ≤ R.slots) (hq : Q (some (.int (nar t z))) h) : Wp p l e R s m args below meth c n0 Q h k n (mkF m pc Ls (.int z :: st)) := fun T locs X eT N => by
  obtain ⟨hx, hZ, hby, hml, hown, hret, hlk, hnm⟩ := C
  obtain ⟨fs, hr, hrun, hended, hW, hsame⟩ := X.leave (v := some (.int (nar t z))) (fun q => by rw [hret] at q; cases q) hlk
  exact ⟨_, _, retN X hx hret ht (hb hby hd) hr, hrun, hended, _, _, rfl, ⟨by rw [show (T.setFrames fs).heap = T.heap from rfl, eT]; exact hq, N⟩, ⟨_, rfl⟩, hW, hsame.mono hk hn⟩
theorem own_zret {z : Int32} (C : Cx p s m meth c Z cd ml (some .boolean) own nm) (hd : decode cd pc = .ok (.ireturn, 1)) (hk : k ≤ R.cells) (hn : n ≤ R.slots) (hz : z = 0 ∨ z = 1) (hq : Q (some (.int z)) h) : Wp p l e R s m args below meth c n0 Q h k n (mkF m pc Ls (.int z :: st)) :=
  own_nret C (Or.inl rfl) hd hk hn (by rcases hz with rfl | rfl <;> exact hq)
theorem own_lret {z : Int64} (C : Cx p s m meth c Z cd ml (some .long) own nm) (hd : decode cd pc = .ok (.lreturn, 1)) (hk : k ≤ R.cells) (hn : n ≤ R.slots) (hq : Q (some (.long z)) h) : Wp p l e R s m args below meth c n0 Q h k n (mkF m pc Ls [.long z]) := fun T locs X eT N => by
  obtain ⟨hx, hZ, hby, hml, hown, hret, hlk, hnm⟩ := C
  obtain ⟨fs, hr, hrun, hended, hW, hsame⟩ := X.leave (v := some (.long z)) (fun q => by rw [hret] at q; cases q) hlk
  exact ⟨_, _, X.lreturnOut hx hret (hb hby hd) hr, hrun, hended, _, _, rfl, ⟨by rw [show (T.setFrames fs).heap = T.heap from rfl, eT]; exact hq, N⟩, ⟨_, rfl⟩, hW, hsame.mono hk hn⟩
theorem own_aret {z : Value} {t : FieldType} (C : Cx p s m meth c Z cd ml (some t) own nm) (hv : z.isRef = true) (ht : t.isReference = true) (hd : decode cd pc = .ok (.areturn, 1)) (hk : k ≤ R.cells) (hn : n ≤ R.slots) (hq : Q (some z) h) : Wp p l e R s m args below meth c n0 Q h k n (mkF m pc Ls (z :: st)) := fun T locs X eT N => by
  obtain ⟨hx, hZ, hby, hml, hown, hret, hlk, hnm⟩ := C
  obtain ⟨fs, hr, hrun, hended, hW, hsame⟩ := X.leave (v := some z) (fun q => by rw [hret] at q; cases q) hlk
  have hd' := hb hby hd
  refine ⟨_, _, ?_, hrun, hended, _, _, rfl, ⟨by rw [show (T.setFrames fs).heap = T.heap from rfl, eT]; exact hq, N⟩, ⟨_, rfl⟩, hW, hsame.mono hk hn⟩
  jvm_step X.here [X.here.top, hx, hd', X.method', hret, hv, ht]
  first | (intro acts; rw [hr _ acts rfl rfl rfl]) | rw [hr _ _ rfl rfl rfl]
  exact Steps.refl _
theorem own_iadd (C : Cx p s m meth c Z cd ml ret own nm) {x y v : Int32} (hd : decode cd pc = .ok (.iadd, 1)) (hv : x + y = v) (hp : pc + 1 = pc') (W : Wp p l e R s m args below meth c n0 Q h k n (mkF m pc' Ls (.int v :: st))) : Wp p l e R s m args below meth c n0 Q h k n (mkF m pc Ls (.int y :: .int x :: st)) := by
  subst hp hv; exact own_lift (fun T A t q => XS.iadd A C.1 rfl (hb C.2.2.1 hd) rfl q) W
theorem own_isub (C : Cx p s m meth c Z cd ml ret own nm) {x y v : Int32} (hd : decode cd pc = .ok (.isub, 1)) (hv : x - y = v) (hp : pc + 1 = pc') (W : Wp p l e R s m args below meth c n0 Q h k n (mkF m pc' Ls (.int v :: st))) : Wp p l e R s m args below meth c n0 Q h k n (mkF m pc Ls (.int y :: .int x :: st)) := by
  subst hp hv; exact own_lift (fun T A t q => XS.isub A C.1 rfl (hb C.2.2.1 hd) rfl q) W
theorem own_imul (C : Cx p s m meth c Z cd ml ret own nm) {x y v : Int32} (hd : decode cd pc = .ok (.imul, 1)) (hv : x * y = v) (hp : pc + 1 = pc') (W : Wp p l e R s m args below meth c n0 Q h k n (mkF m pc' Ls (.int v :: st))) : Wp p l e R s m args below meth c n0 Q h k n (mkF m pc Ls (.int y :: .int x :: st)) := by
  subst hp hv; exact own_lift (fun T A t q => XS.imul A C.1 rfl (hb C.2.2.1 hd) rfl q) W
theorem own_iand (C : Cx p s m meth c Z cd ml ret own nm) {x y v : Int32} (hd : decode cd pc = .ok (.iand, 1)) (hv : x &&& y = v) (hp : pc + 1 = pc') (W : Wp p l e R s m args below meth c n0 Q h k n (mkF m pc' Ls (.int v :: st))) : Wp p l e R s m args below meth c n0 Q h k n (mkF m pc Ls (.int y :: .int x :: st)) := by
  subst hp hv; exact own_lift (fun T A t q => XS.iand A C.1 rfl (hb C.2.2.1 hd) rfl q) W
theorem own_ior (C : Cx p s m meth c Z cd ml ret own nm) {x y v : Int32} (hd : decode cd pc = .ok (.ior, 1)) (hv : x ||| y = v) (hp : pc + 1 = pc') (W : Wp p l e R s m args below meth c n0 Q h k n (mkF m pc' Ls (.int v :: st))) : Wp p l e R s m args below meth c n0 Q h k n (mkF m pc Ls (.int y :: .int x :: st)) := by
  subst hp hv; exact own_lift (fun T A t q => XS.ior A C.1 rfl (hb C.2.2.1 hd) rfl q) W
theorem own_ixor (C : Cx p s m meth c Z cd ml ret own nm) {x y v : Int32} (hd : decode cd pc = .ok (.ixor, 1)) (hv : x ^^^ y = v) (hp : pc + 1 = pc') (W : Wp p l e R s m args below meth c n0 Q h k n (mkF m pc' Ls (.int v :: st))) : Wp p l e R s m args below meth c n0 Q h k n (mkF m pc Ls (.int y :: .int x :: st)) := by
  subst hp hv; exact own_lift (fun T A t q => XS.ixor A C.1 rfl (hb C.2.2.1 hd) rfl q) W
theorem own_ishl (C : Cx p s m meth c Z cd ml ret own nm) {x y v : Int32} (hd : decode cd pc = .ok (.ishl, 1)) (hv : x <<< (y &&& 31) = v) (hp : pc + 1 = pc') (W : Wp p l e R s m args below meth c n0 Q h k n (mkF m pc' Ls (.int v :: st))) : Wp p l e R s m args below meth c n0 Q h k n (mkF m pc Ls (.int y :: .int x :: st)) := by
  subst hp hv; exact own_lift (fun T A t q => XS.ishl A C.1 rfl (hb C.2.2.1 hd) rfl q) W
theorem own_ishr (C : Cx p s m meth c Z cd ml ret own nm) {x y v : Int32} (hd : decode cd pc = .ok (.ishr, 1)) (hv : x >>> (y &&& 31) = v) (hp : pc + 1 = pc') (W : Wp p l e R s m args below meth c n0 Q h k n (mkF m pc' Ls (.int v :: st))) : Wp p l e R s m args below meth c n0 Q h k n (mkF m pc Ls (.int y :: .int x :: st)) := by
  subst hp hv; exact own_lift (fun T A t q => XS.ishr A C.1 rfl (hb C.2.2.1 hd) rfl q) W
theorem own_iushr (C : Cx p s m meth c Z cd ml ret own nm) {x y v : Int32} (hd : decode cd pc = .ok (.iushr, 1)) (hv : (x.toUInt32 >>> (y &&& 31).toUInt32).toInt32 = v) (hp : pc + 1 = pc') (W : Wp p l e R s m args below meth c n0 Q h k n (mkF m pc' Ls (.int v :: st))) : Wp p l e R s m args below meth c n0 Q h k n (mkF m pc Ls (.int y :: .int x :: st)) := by
  subst hp hv; exact own_lift (fun T A t q => XS.iushr A C.1 rfl (hb C.2.2.1 hd) rfl q) W
theorem own_idiv (C : Cx p s m meth c Z cd ml ret own nm) {x y v : Int32} (hd : decode cd pc = .ok (.idiv, 1)) (hy : y ≠ 0) (hv : x / y = v) (hp : pc + 1 = pc') (W : Wp p l e R s m args below meth c n0 Q h k n (mkF m pc' Ls (.int v :: st))) : Wp p l e R s m args below meth c n0 Q h k n (mkF m pc Ls (.int y :: .int x :: st)) := by
  subst hp hv; exact own_lift (fun T A t q => XS.idiv A C.1 rfl (hb C.2.2.1 hd) rfl hy q) W
theorem own_ladd (C : Cx p s m meth c Z cd ml ret own nm) {x y v : Int64} (hd : decode cd pc = .ok (.ladd, 1)) (hv : x + y = v) (hp : pc + 1 = pc') (W : Wp p l e R s m args below meth c n0 Q h k n (mkF m pc' Ls (.long v :: st))) : Wp p l e R s m args below meth c n0 Q h k n (mkF m pc Ls (.long y :: .long x :: st)) := by
  subst hp hv; exact own_lift (fun T A t q => XS.ladd A C.1 rfl (hb C.2.2.1 hd) rfl q) W
theorem own_lsub (C : Cx p s m meth c Z cd ml ret own nm) {x y v : Int64} (hd : decode cd pc = .ok (.lsub, 1)) (hv : x - y = v) (hp : pc + 1 = pc') (W : Wp p l e R s m args below meth c n0 Q h k n (mkF m pc' Ls (.long v :: st))) : Wp p l e R s m args below meth c n0 Q h k n (mkF m pc Ls (.long y :: .long x :: st)) := by
  subst hp hv; exact own_lift (fun T A t q => XS.lsub A C.1 rfl (hb C.2.2.1 hd) rfl q) W
theorem own_lmul (C : Cx p s m meth c Z cd ml ret own nm) {x y v : Int64} (hd : decode cd pc = .ok (.lmul, 1)) (hv : x * y = v) (hp : pc + 1 = pc') (W : Wp p l e R s m args below meth c n0 Q h k n (mkF m pc' Ls (.long v :: st))) : Wp p l e R s m args below meth c n0 Q h k n (mkF m pc Ls (.long y :: .long x :: st)) := by
  subst hp hv; exact own_lift (fun T A t q => XS.lmul A C.1 rfl (hb C.2.2.1 hd) rfl q) W
theorem own_land (C : Cx p s m meth c Z cd ml ret own nm) {x y v : Int64} (hd : decode cd pc = .ok (.land, 1)) (hv : x &&& y = v) (hp : pc + 1 = pc') (W : Wp p l e R s m args below meth c n0 Q h k n (mkF m pc' Ls (.long v :: st))) : Wp p l e R s m args below meth c n0 Q h k n (mkF m pc Ls (.long y :: .long x :: st)) := by
  subst hp hv; exact own_lift (fun T A t q => XS.land A C.1 rfl (hb C.2.2.1 hd) rfl q) W
theorem own_lor (C : Cx p s m meth c Z cd ml ret own nm) {x y v : Int64} (hd : decode cd pc = .ok (.lor, 1)) (hv : x ||| y = v) (hp : pc + 1 = pc') (W : Wp p l e R s m args below meth c n0 Q h k n (mkF m pc' Ls (.long v :: st))) : Wp p l e R s m args below meth c n0 Q h k n (mkF m pc Ls (.long y :: .long x :: st)) := by
  subst hp hv; exact own_lift (fun T A t q => XS.lor A C.1 rfl (hb C.2.2.1 hd) rfl q) W
theorem own_lxor (C : Cx p s m meth c Z cd ml ret own nm) {x y v : Int64} (hd : decode cd pc = .ok (.lxor, 1)) (hv : x ^^^ y = v) (hp : pc + 1 = pc') (W : Wp p l e R s m args below meth c n0 Q h k n (mkF m pc' Ls (.long v :: st))) : Wp p l e R s m args below meth c n0 Q h k n (mkF m pc Ls (.long y :: .long x :: st)) := by
  subst hp hv; exact own_lift (fun T A t q => XS.lxor A C.1 rfl (hb C.2.2.1 hd) rfl q) W
theorem own_ldiv (C : Cx p s m meth c Z cd ml ret own nm) {x y v : Int64} (hd : decode cd pc = .ok (.ldiv, 1)) (hy : y ≠ 0) (hv : x / y = v) (hp : pc + 1 = pc') (W : Wp p l e R s m args below meth c n0 Q h k n (mkF m pc' Ls (.long v :: st))) : Wp p l e R s m args below meth c n0 Q h k n (mkF m pc Ls (.long y :: .long x :: st)) := by
  subst hp hv; exact own_lift (fun T A t q => XS.ldiv A C.1 rfl (hb C.2.2.1 hd) rfl hy q) W
theorem own_irem (C : Cx p s m meth c Z cd ml ret own nm) {x y v : Int32} (hd : decode cd pc = .ok (.irem, 1)) (hy : y ≠ 0) (hv : x % y = v) (hp : pc + 1 = pc') (W : Wp p l e R s m args below meth c n0 Q h k n (mkF m pc' Ls (.int v :: st))) : Wp p l e R s m args below meth c n0 Q h k n (mkF m pc Ls (.int y :: .int x :: st)) := by
  subst hp hv; exact own_liftX (fun T locs X eT t q => iremM X C.1 rfl (hb C.2.2.1 hd) rfl hy q) W
theorem own_lrem (C : Cx p s m meth c Z cd ml ret own nm) {x y v : Int64} (hd : decode cd pc = .ok (.lrem, 1)) (hy : y ≠ 0) (hv : x % y = v) (hp : pc + 1 = pc') (W : Wp p l e R s m args below meth c n0 Q h k n (mkF m pc' Ls (.long v :: st))) : Wp p l e R s m args below meth c n0 Q h k n (mkF m pc Ls (.long y :: .long x :: st)) := by
  subst hp; rw [← lrem_mod] at hv; subst hv; exact own_lift (fun T A t q => XS.lrem A C.1 rfl (hb C.2.2.1 hd) rfl hy q) W
theorem own_lshl (C : Cx p s m meth c Z cd ml ret own nm) {x v : Int64} {y : Int32} (hd : decode cd pc = .ok (.lshl, 1)) (hv : x <<< (y &&& 0x3f).toInt64 = v) (hp : pc + 1 = pc') (W : Wp p l e R s m args below meth c n0 Q h k n (mkF m pc' Ls (.long v :: st))) : Wp p l e R s m args below meth c n0 Q h k n (mkF m pc Ls (.int y :: .long x :: st)) := by
  subst hp hv; exact own_lift (fun T A t q => XS.lshl A C.1 rfl (hb C.2.2.1 hd) rfl q) W
theorem own_lshr (C : Cx p s m meth c Z cd ml ret own nm) {x v : Int64} {y : Int32} (hd : decode cd pc = .ok (.lshr, 1)) (hv : x >>> (y &&& 0x3f).toInt64 = v) (hp : pc + 1 = pc') (W : Wp p l e R s m args below meth c n0 Q h k n (mkF m pc' Ls (.long v :: st))) : Wp p l e R s m args below meth c n0 Q h k n (mkF m pc Ls (.int y :: .long x :: st)) := by
  subst hp hv; exact own_lift (fun T A t q => XS.lshr A C.1 rfl (hb C.2.2.1 hd) rfl q) W
theorem own_lushr (C : Cx p s m meth c Z cd ml ret own nm) {x v : Int64} {y : Int32} (hd : decode cd pc = .ok (.lushr, 1)) (hv : (x.toUInt64 >>> (y &&& 0x3f).toInt64.toUInt64).toInt64 = v) (hp : pc + 1 = pc') (W : Wp p l e R s m args below meth c n0 Q h k n (mkF m pc' Ls (.long v :: st))) : Wp p l e R s m args below meth c n0 Q h k n (mkF m pc Ls (.int y :: .long x :: st)) := by
  subst hp hv; exact own_lift (fun T A t q => XS.lushr A C.1 rfl (hb C.2.2.1 hd) rfl q) W
theorem own_ineg (C : Cx p s m meth c Z cd ml ret own nm) {x : Int32} {v : Int32} (hd : decode cd pc = .ok (.ineg, 1)) (hv : -x = v) (hp : pc + 1 = pc') (W : Wp p l e R s m args below meth c n0 Q h k n (mkF m pc' Ls (.int v :: st))) : Wp p l e R s m args below meth c n0 Q h k n (mkF m pc Ls (.int x :: st)) := by
  subst hp hv; exact own_lift (fun T A t q => XS.ineg A C.1 rfl (hb C.2.2.1 hd) rfl q) W
theorem own_lneg (C : Cx p s m meth c Z cd ml ret own nm) {x : Int64} {v : Int64} (hd : decode cd pc = .ok (.lneg, 1)) (hv : -x = v) (hp : pc + 1 = pc') (W : Wp p l e R s m args below meth c n0 Q h k n (mkF m pc' Ls (.long v :: st))) : Wp p l e R s m args below meth c n0 Q h k n (mkF m pc Ls (.long x :: st)) := by
  subst hp hv; exact own_lift (fun T A t q => XS.lneg A C.1 rfl (hb C.2.2.1 hd) rfl q) W
theorem own_i2l (C : Cx p s m meth c Z cd ml ret own nm) {x : Int32} {v : Int64} (hd : decode cd pc = .ok (.i2l, 1)) (hv : x.toInt64 = v) (hp : pc + 1 = pc') (W : Wp p l e R s m args below meth c n0 Q h k n (mkF m pc' Ls (.long v :: st))) : Wp p l e R s m args below meth c n0 Q h k n (mkF m pc Ls (.int x :: st)) := by
  subst hp hv; exact own_lift (fun T A t q => XS.i2l A C.1 rfl (hb C.2.2.1 hd) rfl q) W
theorem own_l2i (C : Cx p s m meth c Z cd ml ret own nm) {x : Int64} {v : Int32} (hd : decode cd pc = .ok (.l2i, 1)) (hv : x.toInt32 = v) (hp : pc + 1 = pc') (W : Wp p l e R s m args below meth c n0 Q h k n (mkF m pc' Ls (.int v :: st))) : Wp p l e R s m args below meth c n0 Q h k n (mkF m pc Ls (.long x :: st)) := by
  subst hp hv; exact own_lift (fun T A t q => XS.l2i A C.1 rfl (hb C.2.2.1 hd) rfl q) W
theorem own_i2b (C : Cx p s m meth c Z cd ml ret own nm) {x : Int32} {v : Int32} (hd : decode cd pc = .ok (.i2b, 1)) (hv : x.toInt8.toInt32 = v) (hp : pc + 1 = pc') (W : Wp p l e R s m args below meth c n0 Q h k n (mkF m pc' Ls (.int v :: st))) : Wp p l e R s m args below meth c n0 Q h k n (mkF m pc Ls (.int x :: st)) := by
  subst hp hv; exact own_lift (fun T A t q => XS.i2b A C.1 rfl (hb C.2.2.1 hd) rfl q) W
theorem own_i2s (C : Cx p s m meth c Z cd ml ret own nm) {x : Int32} {v : Int32} (hd : decode cd pc = .ok (.i2s, 1)) (hv : x.toInt16.toInt32 = v) (hp : pc + 1 = pc') (W : Wp p l e R s m args below meth c n0 Q h k n (mkF m pc' Ls (.int v :: st))) : Wp p l e R s m args below meth c n0 Q h k n (mkF m pc Ls (.int x :: st)) := by
  subst hp hv; exact own_lift (fun T A t q => XS.i2s A C.1 rfl (hb C.2.2.1 hd) rfl q) W
theorem own_i2c (C : Cx p s m meth c Z cd ml ret own nm) {x : Int32} {v : Int32} (hd : decode cd pc = .ok (.i2c, 1)) (hv : x.toUInt32.toUInt16.toUInt32.toInt32 = v) (hp : pc + 1 = pc') (W : Wp p l e R s m args below meth c n0 Q h k n (mkF m pc' Ls (.int v :: st))) : Wp p l e R s m args below meth c n0 Q h k n (mkF m pc Ls (.int x :: st)) := by
  subst hp hv; exact own_lift (fun T A t q => XS.i2c A C.1 rfl (hb C.2.2.1 hd) rfl q) W
theorem own_lcmp (C : Cx p s m meth c Z cd ml ret own nm) {x y : Int64} (hd : decode cd pc = .ok (.lcmp, 1)) (hp : pc + 1 = pc') (W : Wp p l e R s m args below meth c n0 Q h k n (mkF m pc' Ls (.int (lcmpW x y) :: st))) : Wp p l e R s m args below meth c n0 Q h k n (mkF m pc Ls (.long y :: .long x :: st)) := by
  subst hp; exact own_lift (fun T A t q => XS.lcmp A C.1 rfl (hb C.2.2.1 hd) rfl q) W
theorem own_dup (C : Cx p s m meth c Z cd ml ret own nm) {x : Value} (hd : decode cd pc = .ok (.dup, 1)) (hc : x.category = 1) (hp : pc + 1 = pc') (W : Wp p l e R s m args below meth c n0 Q h k n (mkF m pc' Ls (x :: x :: st))) : Wp p l e R s m args below meth c n0 Q h k n (mkF m pc Ls (x :: st)) := by
  subst hp; exact own_lift (fun T A t q => XS.dup A C.1 rfl (hb C.2.2.1 hd) rfl hc q) W
theorem own_pop (C : Cx p s m meth c Z cd ml ret own nm) {x : Value} (hd : decode cd pc = .ok (.pop, 1)) (hc : x.category = 1) (hp : pc + 1 = pc') (W : Wp p l e R s m args below meth c n0 Q h k n (mkF m pc' Ls st)) : Wp p l e R s m args below meth c n0 Q h k n (mkF m pc Ls (x :: st)) := by
  subst hp; exact own_lift (fun T A t q => XS.pop A C.1 rfl (hb C.2.2.1 hd) rfl hc q) W
theorem own_dupX1 (C : Cx p s m meth c Z cd ml ret own nm) {x y : Value} (hd : decode cd pc = .ok (.dup_x1, 1)) (hc : x.category = 1) (hc' : y.category = 1) (hp : pc + 1 = pc') (W : Wp p l e R s m args below meth c n0 Q h k n (mkF m pc' Ls (x :: y :: x :: st))) : Wp p l e R s m args below meth c n0 Q h k n (mkF m pc Ls (x :: y :: st)) := by
  subst hp; exact own_lift (fun T A t q => XS.dupX1 A C.1 rfl (hb C.2.2.1 hd) rfl hc hc' q) W
theorem own_dup2 (C : Cx p s m meth c Z cd ml ret own nm) {x y : Value} (hd : decode cd pc = .ok (.dup2, 1)) (hc : x.category = 1) (hc' : y.category = 1) (hp : pc + 1 = pc') (W : Wp p l e R s m args below meth c n0 Q h k n (mkF m pc' Ls (x :: y :: x :: y :: st))) : Wp p l e R s m args below meth c n0 Q h k n (mkF m pc Ls (x :: y :: st)) := by
  subst hp; exact own_lift (fun T A t q => Jvm.Free.XT.dup2 A C.1 rfl (hb C.2.2.1 hd) rfl hc hc' q) W
theorem own_iinc (C : Cx p s m meth c Z cd ml ret own nm) {i : Nat} {d : Int} {x v : Int32} (hd : decode cd pc = .ok (.iinc i d, 3)) (hl : Ls[i]? = some (.val (.int x))) (hv : x + Int32.ofInt d = v) (hl' : storeLocals Ls i (.int v) = some Ls') (hp : pc + 3 = pc') (W : Wp p l e R s m args below meth c n0 Q h k n (mkF m pc' Ls' st)) : Wp p l e R s m args below meth c n0 Q h k n (mkF m pc Ls st) := by
  subst hp hv; exact own_lift (fun T A t q => XS.iinc A C.1 rfl (hb C.2.2.1 hd) hl hl' q) W
theorem own_goto (C : Cx p s m meth c Z cd ml ret own nm) {o : Int} (hd : decode cd pc = .ok (.goto o, 3)) (ho : 0 ≤ (pc : Int) + o) (hp : ((pc : Int) + o).toNat = pc') (W : Wp p l e R s m args below meth c n0 Q h k n (mkF m pc' Ls st)) : Wp p l e R s m args below meth c n0 Q h k n (mkF m pc Ls st) :=
  own_lift (fun T A t q => XS.goto A C.1 rfl (pc0 := pc) (pc' := pc') rfl (hb C.2.2.1 hd) ho hp q) W
theorem own_icmp_lt (C : Cx p s m meth c Z cd ml ret own nm) {o : Int} {x y : Int32} {pt pf : Nat} (hd : decode cd pc = .ok (.if_icmp .lt o, 3)) (ho : 0 ≤ (pc : Int) + o) (hp : ((pc : Int) + o).toNat = pt) (hf : pc + 3 = pf) (WT : x < y → Wp p l e R s m args below meth c n0 Q h k n (mkF m pt Ls st)) (WF : ¬ x < y → Wp p l e R s m args below meth c n0 Q h k n (mkF m pf Ls st)) : Wp p l e R s m args below meth c n0 Q h k n (mkF m pc Ls (.int y :: .int x :: st)) := by
  subst hf
  by_cases g : x < y
  · exact own_lift (fun T A t q => XS.icmpYes A C.1 rfl (pc0 := pc) (pc' := pt) rfl (hb C.2.2.1 hd) rfl (tlt g).1 ho hp q) (WT g)
  · exact own_lift (fun T A t q => XS.icmpNo A C.1 rfl (hb C.2.2.1 hd) rfl (flt g).1 q) (WF g)
theorem own_if_lt (C : Cx p s m meth c Z cd ml ret own nm) {o : Int} {x : Int32} {pt pf : Nat} (hd : decode cd pc = .ok (.ifCond .lt o, 3)) (ho : 0 ≤ (pc : Int) + o) (hp : ((pc : Int) + o).toNat = pt) (hf : pc + 3 = pf) (WT : x < 0 → Wp p l e R s m args below meth c n0 Q h k n (mkF m pt Ls st)) (WF : ¬ x < 0 → Wp p l e R s m args below meth c n0 Q h k n (mkF m pf Ls st)) : Wp p l e R s m args below meth c n0 Q h k n (mkF m pc Ls (.int x :: st)) := by
  subst hf
  by_cases g : x < 0
  · exact own_lift (fun T A t q => XS.ifYes A C.1 rfl (pc0 := pc) (pc' := pt) rfl (hb C.2.2.1 hd) rfl ((if0 _ _).trans (tlt g).1) ho hp q) (WT g)
  · exact own_lift (fun T A t q => XS.ifNo A C.1 rfl (hb C.2.2.1 hd) rfl ((if0 _ _).trans (flt g).1) q) (WF g)
theorem own_lcmp_lt (C : Cx p s m meth c Z cd ml ret own nm) {o : Int} {x y : Int64} {p1 pt pf : Nat} (hd0 : decode cd pc = .ok (.lcmp, 1)) (h1 : pc + 1 = p1) (hd : decode cd p1 = .ok (.ifCond .lt o, 3)) (ho : 0 ≤ (p1 : Int) + o) (hp : ((p1 : Int) + o).toNat = pt) (hf : p1 + 3 = pf) (WT : x < y → Wp p l e R s m args below meth c n0 Q h k n (mkF m pt Ls st)) (WF : ¬ x < y → Wp p l e R s m args below meth c n0 Q h k n (mkF m pf Ls st)) : Wp p l e R s m args below meth c n0 Q h k n (mkF m pc Ls (.long y :: .long x :: st)) :=
  own_lcmp C hd0 h1 (own_if_lt C hd ho hp hf (fun g => WT ((lw_lt x y).mp g)) (fun g => WF (fun q => g ((lw_lt x y).mpr q))))
theorem own_icmp_ge (C : Cx p s m meth c Z cd ml ret own nm) {o : Int} {x y : Int32} {pt pf : Nat} (hd : decode cd pc = .ok (.if_icmp .ge o, 3)) (ho : 0 ≤ (pc : Int) + o) (hp : ((pc : Int) + o).toNat = pt) (hf : pc + 3 = pf) (WT : ¬ x < y → Wp p l e R s m args below meth c n0 Q h k n (mkF m pt Ls st)) (WF : x < y → Wp p l e R s m args below meth c n0 Q h k n (mkF m pf Ls st)) : Wp p l e R s m args below meth c n0 Q h k n (mkF m pc Ls (.int y :: .int x :: st)) := by
  subst hf
  by_cases g : x < y
  · exact own_lift (fun T A t q => XS.icmpNo A C.1 rfl (hb C.2.2.1 hd) rfl (tlt g).2.1 q) (WF g)
  · exact own_lift (fun T A t q => XS.icmpYes A C.1 rfl (pc0 := pc) (pc' := pt) rfl (hb C.2.2.1 hd) rfl (flt g).2.1 ho hp q) (WT g)
theorem own_if_ge (C : Cx p s m meth c Z cd ml ret own nm) {o : Int} {x : Int32} {pt pf : Nat} (hd : decode cd pc = .ok (.ifCond .ge o, 3)) (ho : 0 ≤ (pc : Int) + o) (hp : ((pc : Int) + o).toNat = pt) (hf : pc + 3 = pf) (WT : ¬ x < 0 → Wp p l e R s m args below meth c n0 Q h k n (mkF m pt Ls st)) (WF : x < 0 → Wp p l e R s m args below meth c n0 Q h k n (mkF m pf Ls st)) : Wp p l e R s m args below meth c n0 Q h k n (mkF m pc Ls (.int x :: st)) := by
  subst hf
  by_cases g : x < 0
  · exact own_lift (fun T A t q => XS.ifNo A C.1 rfl (hb C.2.2.1 hd) rfl ((if0 _ _).trans (tlt g).2.1) q) (WF g)
  · exact own_lift (fun T A t q => XS.ifYes A C.1 rfl (pc0 := pc) (pc' := pt) rfl (hb C.2.2.1 hd) rfl ((if0 _ _).trans (flt g).2.1) ho hp q) (WT g)
theorem own_lcmp_ge (C : Cx p s m meth c Z cd ml ret own nm) {o : Int} {x y : Int64} {p1 pt pf : Nat} (hd0 : decode cd pc = .ok (.lcmp, 1)) (h1 : pc + 1 = p1) (hd : decode cd p1 = .ok (.ifCond .ge o, 3)) (ho : 0 ≤ (p1 : Int) + o) (hp : ((p1 : Int) + o).toNat = pt) (hf : p1 + 3 = pf) (WT : ¬ x < y → Wp p l e R s m args below meth c n0 Q h k n (mkF m pt Ls st)) (WF : x < y → Wp p l e R s m args below meth c n0 Q h k n (mkF m pf Ls st)) : Wp p l e R s m args below meth c n0 Q h k n (mkF m pc Ls (.long y :: .long x :: st)) :=
  own_lcmp C hd0 h1 (own_if_ge C hd ho hp hf (fun g => WT (fun q => g ((lw_lt x y).mpr q))) (fun g => WF ((lw_lt x y).mp g)))
theorem own_icmp_gt (C : Cx p s m meth c Z cd ml ret own nm) {o : Int} {x y : Int32} {pt pf : Nat} (hd : decode cd pc = .ok (.if_icmp .gt o, 3)) (ho : 0 ≤ (pc : Int) + o) (hp : ((pc : Int) + o).toNat = pt) (hf : pc + 3 = pf) (WT : y < x → Wp p l e R s m args below meth c n0 Q h k n (mkF m pt Ls st)) (WF : ¬ y < x → Wp p l e R s m args below meth c n0 Q h k n (mkF m pf Ls st)) : Wp p l e R s m args below meth c n0 Q h k n (mkF m pc Ls (.int y :: .int x :: st)) := by
  subst hf
  by_cases g : y < x
  · exact own_lift (fun T A t q => XS.icmpYes A C.1 rfl (pc0 := pc) (pc' := pt) rfl (hb C.2.2.1 hd) rfl (tlt g).2.2.1 ho hp q) (WT g)
  · exact own_lift (fun T A t q => XS.icmpNo A C.1 rfl (hb C.2.2.1 hd) rfl (flt g).2.2.1 q) (WF g)
theorem own_if_gt (C : Cx p s m meth c Z cd ml ret own nm) {o : Int} {x : Int32} {pt pf : Nat} (hd : decode cd pc = .ok (.ifCond .gt o, 3)) (ho : 0 ≤ (pc : Int) + o) (hp : ((pc : Int) + o).toNat = pt) (hf : pc + 3 = pf) (WT : 0 < x → Wp p l e R s m args below meth c n0 Q h k n (mkF m pt Ls st)) (WF : ¬ 0 < x → Wp p l e R s m args below meth c n0 Q h k n (mkF m pf Ls st)) : Wp p l e R s m args below meth c n0 Q h k n (mkF m pc Ls (.int x :: st)) := by
  subst hf
  by_cases g : 0 < x
  · exact own_lift (fun T A t q => XS.ifYes A C.1 rfl (pc0 := pc) (pc' := pt) rfl (hb C.2.2.1 hd) rfl ((if0 _ _).trans (tlt g).2.2.1) ho hp q) (WT g)
  · exact own_lift (fun T A t q => XS.ifNo A C.1 rfl (hb C.2.2.1 hd) rfl ((if0 _ _).trans (flt g).2.2.1) q) (WF g)
theorem own_lcmp_gt (C : Cx p s m meth c Z cd ml ret own nm) {o : Int} {x y : Int64} {p1 pt pf : Nat} (hd0 : decode cd pc = .ok (.lcmp, 1)) (h1 : pc + 1 = p1) (hd : decode cd p1 = .ok (.ifCond .gt o, 3)) (ho : 0 ≤ (p1 : Int) + o) (hp : ((p1 : Int) + o).toNat = pt) (hf : p1 + 3 = pf) (WT : y < x → Wp p l e R s m args below meth c n0 Q h k n (mkF m pt Ls st)) (WF : ¬ y < x → Wp p l e R s m args below meth c n0 Q h k n (mkF m pf Ls st)) : Wp p l e R s m args below meth c n0 Q h k n (mkF m pc Ls (.long y :: .long x :: st)) :=
  own_lcmp C hd0 h1 (own_if_gt C hd ho hp hf (fun g => WT ((lw_gt x y).mp g)) (fun g => WF (fun q => g ((lw_gt x y).mpr q))))
theorem own_icmp_le (C : Cx p s m meth c Z cd ml ret own nm) {o : Int} {x y : Int32} {pt pf : Nat} (hd : decode cd pc = .ok (.if_icmp .le o, 3)) (ho : 0 ≤ (pc : Int) + o) (hp : ((pc : Int) + o).toNat = pt) (hf : pc + 3 = pf) (WT : ¬ y < x → Wp p l e R s m args below meth c n0 Q h k n (mkF m pt Ls st)) (WF : y < x → Wp p l e R s m args below meth c n0 Q h k n (mkF m pf Ls st)) : Wp p l e R s m args below meth c n0 Q h k n (mkF m pc Ls (.int y :: .int x :: st)) := by
  subst hf
  by_cases g : y < x
  · exact own_lift (fun T A t q => XS.icmpNo A C.1 rfl (hb C.2.2.1 hd) rfl (tlt g).2.2.2 q) (WF g)
  · exact own_lift (fun T A t q => XS.icmpYes A C.1 rfl (pc0 := pc) (pc' := pt) rfl (hb C.2.2.1 hd) rfl (flt g).2.2.2 ho hp q) (WT g)
theorem own_if_le (C : Cx p s m meth c Z cd ml ret own nm) {o : Int} {x : Int32} {pt pf : Nat} (hd : decode cd pc = .ok (.ifCond .le o, 3)) (ho : 0 ≤ (pc : Int) + o) (hp : ((pc : Int) + o).toNat = pt) (hf : pc + 3 = pf) (WT : ¬ 0 < x → Wp p l e R s m args below meth c n0 Q h k n (mkF m pt Ls st)) (WF : 0 < x → Wp p l e R s m args below meth c n0 Q h k n (mkF m pf Ls st)) : Wp p l e R s m args below meth c n0 Q h k n (mkF m pc Ls (.int x :: st)) := by
  subst hf
  by_cases g : 0 < x
  · exact own_lift (fun T A t q => XS.ifNo A C.1 rfl (hb C.2.2.1 hd) rfl ((if0 _ _).trans (tlt g).2.2.2) q) (WF g)
  · exact own_lift (fun T A t q => XS.ifYes A C.1 rfl (pc0 := pc) (pc' := pt) rfl (hb C.2.2.1 hd) rfl ((if0 _ _).trans (flt g).2.2.2) ho hp q) (WT g)
theorem own_lcmp_le (C : Cx p s m meth c Z cd ml ret own nm) {o : Int} {x y : Int64} {p1 pt pf : Nat} (hd0 : decode cd pc = .ok (.lcmp, 1)) (h1 : pc + 1 = p1) (hd : decode cd p1 = .ok (.ifCond .le o, 3)) (ho : 0 ≤ (p1 : Int) + o) (hp : ((p1 : Int) + o).toNat = pt) (hf : p1 + 3 = pf) (WT : ¬ y < x → Wp p l e R s m args below meth c n0 Q h k n (mkF m pt Ls st)) (WF : y < x → Wp p l e R s m args below meth c n0 Q h k n (mkF m pf Ls st)) : Wp p l e R s m args below meth c n0 Q h k n (mkF m pc Ls (.long y :: .long x :: st)) :=
  own_lcmp C hd0 h1 (own_if_le C hd ho hp hf (fun g => WT (fun q => g ((lw_gt x y).mpr q))) (fun g => WF ((lw_gt x y).mp g)))
theorem own_icmp_eq (C : Cx p s m meth c Z cd ml ret own nm) {o : Int} {x y : Int32} {pt pf : Nat} (hd : decode cd pc = .ok (.if_icmp .eq o, 3)) (ho : 0 ≤ (pc : Int) + o) (hp : ((pc : Int) + o).toNat = pt) (hf : pc + 3 = pf) (WT : x = y → Wp p l e R s m args below meth c n0 Q h k n (mkF m pt Ls st)) (WF : ¬ x = y → Wp p l e R s m args below meth c n0 Q h k n (mkF m pf Ls st)) : Wp p l e R s m args below meth c n0 Q h k n (mkF m pc Ls (.int y :: .int x :: st)) := by
  subst hf
  by_cases g : x = y
  · exact own_lift (fun T A t q => XS.icmpYes A C.1 rfl (pc0 := pc) (pc' := pt) rfl (hb C.2.2.1 hd) rfl (teq g).1 ho hp q) (WT g)
  · exact own_lift (fun T A t q => XS.icmpNo A C.1 rfl (hb C.2.2.1 hd) rfl (feq g).1 q) (WF g)
theorem own_if_eq (C : Cx p s m meth c Z cd ml ret own nm) {o : Int} {x : Int32} {pt pf : Nat} (hd : decode cd pc = .ok (.ifCond .eq o, 3)) (ho : 0 ≤ (pc : Int) + o) (hp : ((pc : Int) + o).toNat = pt) (hf : pc + 3 = pf) (WT : x = 0 → Wp p l e R s m args below meth c n0 Q h k n (mkF m pt Ls st)) (WF : ¬ x = 0 → Wp p l e R s m args below meth c n0 Q h k n (mkF m pf Ls st)) : Wp p l e R s m args below meth c n0 Q h k n (mkF m pc Ls (.int x :: st)) := by
  subst hf
  by_cases g : x = 0
  · exact own_lift (fun T A t q => XS.ifYes A C.1 rfl (pc0 := pc) (pc' := pt) rfl (hb C.2.2.1 hd) rfl ((if0 _ _).trans (teq g).1) ho hp q) (WT g)
  · exact own_lift (fun T A t q => XS.ifNo A C.1 rfl (hb C.2.2.1 hd) rfl ((if0 _ _).trans (feq g).1) q) (WF g)
theorem own_lcmp_eq (C : Cx p s m meth c Z cd ml ret own nm) {o : Int} {x y : Int64} {p1 pt pf : Nat} (hd0 : decode cd pc = .ok (.lcmp, 1)) (h1 : pc + 1 = p1) (hd : decode cd p1 = .ok (.ifCond .eq o, 3)) (ho : 0 ≤ (p1 : Int) + o) (hp : ((p1 : Int) + o).toNat = pt) (hf : p1 + 3 = pf) (WT : x = y → Wp p l e R s m args below meth c n0 Q h k n (mkF m pt Ls st)) (WF : ¬ x = y → Wp p l e R s m args below meth c n0 Q h k n (mkF m pf Ls st)) : Wp p l e R s m args below meth c n0 Q h k n (mkF m pc Ls (.long y :: .long x :: st)) :=
  own_lcmp C hd0 h1 (own_if_eq C hd ho hp hf (fun g => WT ((lw_eq x y).mp g)) (fun g => WF (fun q => g ((lw_eq x y).mpr q))))
theorem own_icmp_ne (C : Cx p s m meth c Z cd ml ret own nm) {o : Int} {x y : Int32} {pt pf : Nat} (hd : decode cd pc = .ok (.if_icmp .ne o, 3)) (ho : 0 ≤ (pc : Int) + o) (hp : ((pc : Int) + o).toNat = pt) (hf : pc + 3 = pf) (WT : ¬ x = y → Wp p l e R s m args below meth c n0 Q h k n (mkF m pt Ls st)) (WF : x = y → Wp p l e R s m args below meth c n0 Q h k n (mkF m pf Ls st)) : Wp p l e R s m args below meth c n0 Q h k n (mkF m pc Ls (.int y :: .int x :: st)) := by
  subst hf
  by_cases g : x = y
  · exact own_lift (fun T A t q => XS.icmpNo A C.1 rfl (hb C.2.2.1 hd) rfl (teq g).2 q) (WF g)
  · exact own_lift (fun T A t q => XS.icmpYes A C.1 rfl (pc0 := pc) (pc' := pt) rfl (hb C.2.2.1 hd) rfl (feq g).2 ho hp q) (WT g)
theorem own_if_ne (C : Cx p s m meth c Z cd ml ret own nm) {o : Int} {x : Int32} {pt pf : Nat} (hd : decode cd pc = .ok (.ifCond .ne o, 3)) (ho : 0 ≤ (pc : Int) + o) (hp : ((pc : Int) + o).toNat = pt) (hf : pc + 3 = pf) (WT : ¬ x = 0 → Wp p l e R s m args below meth c n0 Q h k n (mkF m pt Ls st)) (WF : x = 0 → Wp p l e R s m args below meth c n0 Q h k n (mkF m pf Ls st)) : Wp p l e R s m args below meth c n0 Q h k n (mkF m pc Ls (.int x :: st)) := by
  subst hf
  by_cases g : x = 0
  · exact own_lift (fun T A t q => XS.ifNo A C.1 rfl (hb C.2.2.1 hd) rfl ((if0 _ _).trans (teq g).2) q) (WF g)
  · exact own_lift (fun T A t q => XS.ifYes A C.1 rfl (pc0 := pc) (pc' := pt) rfl (hb C.2.2.1 hd) rfl ((if0 _ _).trans (feq g).2) ho hp q) (WT g)
theorem own_lcmp_ne (C : Cx p s m meth c Z cd ml ret own nm) {o : Int} {x y : Int64} {p1 pt pf : Nat} (hd0 : decode cd pc = .ok (.lcmp, 1)) (h1 : pc + 1 = p1) (hd : decode cd p1 = .ok (.ifCond .ne o, 3)) (ho : 0 ≤ (p1 : Int) + o) (hp : ((p1 : Int) + o).toNat = pt) (hf : p1 + 3 = pf) (WT : ¬ x = y → Wp p l e R s m args below meth c n0 Q h k n (mkF m pt Ls st)) (WF : x = y → Wp p l e R s m args below meth c n0 Q h k n (mkF m pf Ls st)) : Wp p l e R s m args below meth c n0 Q h k n (mkF m pc Ls (.long y :: .long x :: st)) :=
  own_lcmp C hd0 h1 (own_if_ne C hd ho hp hf (fun g => WT (fun q => g ((lw_eq x y).mpr q))) (fun g => WF ((lw_eq x y).mp g)))
theorem own_acmp_eq (C : Cx p s m meth c Z cd ml ret own nm) {o : Int} {a b : Addr} {pt pf : Nat} (hd : decode cd pc = .ok (.if_acmp .eq o, 3)) (ho : 0 ≤ (pc : Int) + o) (hp : ((pc : Int) + o).toNat = pt) (hf : pc + 3 = pf) (WT : a = b → Wp p l e R s m args below meth c n0 Q h k n (mkF m pt Ls st)) (WF : ¬ a = b → Wp p l e R s m args below meth c n0 Q h k n (mkF m pf Ls st)) : Wp p l e R s m args below meth c n0 Q h k n (mkF m pc Ls (.ref b :: .ref a :: st)) := by
  subst hf
  by_cases g : a = b
  · exact own_lift (fun T A t q => XS.acmpYes A C.1 rfl (pc0 := pc) (pc' := pt) rfl (hb C.2.2.1 hd) rfl (by simp [if_acmp.holds, g]) ho hp q) (WT g)
  · exact own_lift (fun T A t q => XS.acmpNo A C.1 rfl (hb C.2.2.1 hd) rfl (by simp [if_acmp.holds, g]) q) (WF g)
theorem own_acmp_ne (C : Cx p s m meth c Z cd ml ret own nm) {o : Int} {a b : Addr} {pt pf : Nat} (hd : decode cd pc = .ok (.if_acmp .ne o, 3)) (ho : 0 ≤ (pc : Int) + o) (hp : ((pc : Int) + o).toNat = pt) (hf : pc + 3 = pf) (WT : ¬ a = b → Wp p l e R s m args below meth c n0 Q h k n (mkF m pt Ls st)) (WF : a = b → Wp p l e R s m args below meth c n0 Q h k n (mkF m pf Ls st)) : Wp p l e R s m args below meth c n0 Q h k n (mkF m pc Ls (.ref b :: .ref a :: st)) := by
  subst hf
  by_cases g : a = b
  · exact own_lift (fun T A t q => XS.acmpNo A C.1 rfl (hb C.2.2.1 hd) rfl (by simp [if_acmp.holds, g]) q) (WF g)
  · exact own_lift (fun T A t q => XS.acmpYes A C.1 rfl (pc0 := pc) (pc' := pt) rfl (hb C.2.2.1 hd) rfl (by simp [if_acmp.holds, g]) ho hp q) (WT g)
theorem own_ifnull_y (C : Cx p s m meth c Z cd ml ret own nm) {o : Int} {pt : Nat} (hd : decode cd pc = .ok (.ifnull o, 3)) (ho : 0 ≤ (pc : Int) + o) (hp : ((pc : Int) + o).toNat = pt) (W : Wp p l e R s m args below meth c n0 Q h k n (mkF m pt Ls st)) : Wp p l e R s m args below meth c n0 Q h k n (mkF m pc Ls (.null :: st)) :=
  own_lift (fun T A t q => XS.ifnullYes A C.1 rfl (pc0 := pc) (pc' := pt) rfl (hb C.2.2.1 hd) rfl ho hp q) W
theorem own_ifnull_n (C : Cx p s m meth c Z cd ml ret own nm) {o : Int} {a : Addr} (hd : decode cd pc = .ok (.ifnull o, 3)) (hp : pc + 3 = pc') (W : Wp p l e R s m args below meth c n0 Q h k n (mkF m pc' Ls st)) : Wp p l e R s m args below meth c n0 Q h k n (mkF m pc Ls (.ref a :: st)) := by
  subst hp; exact own_lift (fun T A t q => XS.ifnullNo A C.1 rfl (hb C.2.2.1 hd) rfl q) W
theorem own_ifnonnull_y (C : Cx p s m meth c Z cd ml ret own nm) {o : Int} {a : Addr} {pt : Nat} (hd : decode cd pc = .ok (.ifnonnull o, 3)) (ho : 0 ≤ (pc : Int) + o) (hp : ((pc : Int) + o).toNat = pt) (W : Wp p l e R s m args below meth c n0 Q h k n (mkF m pt Ls st)) : Wp p l e R s m args below meth c n0 Q h k n (mkF m pc Ls (.ref a :: st)) :=
  own_lift (fun T A t q => XS.ifnonnullYes A C.1 rfl (pc0 := pc) (pc' := pt) rfl (hb C.2.2.1 hd) rfl ho hp q) W
theorem own_ifnonnull_n (C : Cx p s m meth c Z cd ml ret own nm) {o : Int} (hd : decode cd pc = .ok (.ifnonnull o, 3)) (hp : pc + 3 = pc') (W : Wp p l e R s m args below meth c n0 Q h k n (mkF m pc' Ls st)) : Wp p l e R s m args below meth c n0 Q h k n (mkF m pc Ls (.null :: st)) := by
  subst hp; exact own_lift (fun T A t q => XS.ifnonnullNo A C.1 rfl (hb C.2.2.1 hd) rfl q) W
theorem own_ldc (C : Cx p s m meth c Z cd ml ret own nm) {i : Nat} {v : Int32} (hd : decode cd pc = .ok (.ldc i, 2)) (w : (Jvm.Cond.constant own i v).before a0 Z = true) (hp : pc + 2 = pc') (W : Wp p l e R s m args below meth c n0 Q h k n (mkF m pc' Ls (.int v :: st))) : Wp p l e R s m args below meth c n0 Q h k n (mkF m pc Ls st) := by
  subst hp; exact own_liftX (fun T locs X eT t q => X.ldcInt C.1 C.2.2.2.2.1 (mvT C.2.1 w) (g := mkF m pc Ls st) rfl (hb C.2.2.1 hd) t q) W
theorem own_ldcw (C : Cx p s m meth c Z cd ml ret own nm) {i : Nat} {v : Int32} (hd : decode cd pc = .ok (.ldc_w i, 3)) (w : (Jvm.Cond.constant own i v).before a0 Z = true) (hp : pc + 3 = pc') (W : Wp p l e R s m args below meth c n0 Q h k n (mkF m pc' Ls (.int v :: st))) : Wp p l e R s m args below meth c n0 Q h k n (mkF m pc Ls st) := by
  subst hp; exact own_liftX (fun T locs X eT t q => X.ldcwInt C.1 C.2.2.2.2.1 (mvT C.2.1 w) (g := mkF m pc Ls st) rfl (hb C.2.2.1 hd) t q) W
theorem own_ldc2 (C : Cx p s m meth c Z cd ml ret own nm) {i : Nat} {v : Int64} (hd : decode cd pc = .ok (.ldc2_w i, 3)) (w : (Jvm.Cond.constantLong own i v).before a0 Z = true) (hp : pc + 3 = pc') (W : Wp p l e R s m args below meth c n0 Q h k n (mkF m pc' Ls (.long v :: st))) : Wp p l e R s m args below meth c n0 Q h k n (mkF m pc Ls st) := by
  subst hp; exact own_liftX (fun T locs X eT t q => X.ldc2Long C.1 C.2.2.2.2.1 (mvT C.2.1 w) (g := mkF m pc Ls st) rfl (hb C.2.2.1 hd) t q) W
/-! objects -/
theorem own_getfield (C : Cx p s m meth c Z cd ml ret own nm) {i : Nat} {O f d : String} {a : Addr} {v : Value} (hd : decode cd pc = .ok (.getfield i, 3)) (w : (Jvm.Cond.fieldLink own i O f d).before a0 Z = true) (F : Fld Z h a O f d v) (hp : pc + 3 = pc') (W : Wp p l e R s m args below meth c n0 Q h k n (mkF m pc' Ls (v :: st))) : Wp p l e R s m args below meth c n0 Q h k n (mkF m pc Ls (.ref a :: st)) := fun T locs X eT N => by
  subst hp
  obtain ⟨T', X', e', st'⟩ := getF X C.1 C.2.1 C.2.2.2.2.1 (host := "") (Or.inl w) Via.refl eT F (g := mkF m pc Ls (.ref a :: st)) rfl rfl (hb C.2.2.1 hd)
  obtain ⟨s₂, o, q, r⟩ := W T' locs X' e' N
  exact ⟨s₂, o, st' _ q, r⟩
theorem own_getstatic (C : Cx p s m meth c Z cd ml ret own nm) {i : Nat} {O f d : String} {v : Value} (hd : decode cd pc = .ok (.getstatic i, 3)) (w : (Jvm.Cond.fieldLink own i O f d).before a0 Z = true) (F : Sta Z h O f d v) (hp : pc + 3 = pc') (W : Wp p l e R s m args below meth c n0 Q h k n (mkF m pc' Ls (v :: st))) : Wp p l e R s m args below meth c n0 Q h k n (mkF m pc Ls st) := fun T locs X eT N => by
  subst hp
  obtain ⟨T', X', e', st'⟩ := getS2 X C.1 C.2.1 C.2.2.2.2.1 (host := "") (Or.inl w) Via.refl eT F (g := mkF m pc Ls st) rfl (hb C.2.2.1 hd)
  obtain ⟨s₂, o, q, r⟩ := W T' locs X' e' N
  exact ⟨s₂, o, st' _ q, r⟩
theorem own_putfield (C : Cx p s m meth c Z cd ml ret own nm) {i kk : Nat} {O f d K : String} {ty : FieldType} {a : Addr} {v old : Value} (hd : decode cd pc = .ok (.putfield i, 3)) (w : (Jvm.Cond.fieldLink own i O f d).before a0 Z = true) (F : Fld Z h a O f d old) (E : Exa Z h a K) (L : (Jvm.Cond.lays K O f d).before a0 Z = true ∨ ((Jvm.Cond.laysFinal K O f d).before a0 Z = true ∧ own = O ∧ nm = "<init>")) (wi : (Jvm.Cond.instantiable K kk).before a0 Z = true)
    (hty : parseFieldDescriptor d = some ty) (hn : narrow ty v = v) (hf : fits ty v = true) (ha : n0 ≤ a) (hp : pc + 3 = pc') (W : ∀ h', Wr h h' a (RoadKit.slotOf Z O f d) v → Fld Z h' a O f d v → Wp p l e R s m args below meth c n0 Q h' k n (mkF m pc' Ls st)) : Wp p l e R s m args below meth c n0 Q h k n (mkF m pc Ls (v :: .ref a :: st)) := fun T locs X eT N => by
  subst hp
  obtain ⟨T', h', X', e', Wr', st'⟩ := putF X C.1 C.2.1 C.2.2.2.2.1 (host := "") (Or.inl w) Via.refl eT F E (L.imp id fun q => ⟨q.1, q.2.1, C.2.2.2.2.2.2.2.trans q.2.2⟩) wi hty hn hf (g := mkF m pc Ls (v :: .ref a :: st)) rfl rfl (hb C.2.2.1 hd)
  obtain ⟨s₂, o, q, r⟩ := W h' Wr' (F.same Wr') T' _ X' e' (Fr.snoc X' N ha)
  exact ⟨s₂, o, st' _ q, r⟩
theorem own_new (C : Cx p s m meth c Z cd ml ret own nm) {i nn : Nat} {K : String} (hd : decode cd pc = .ok (.new i, 3)) (w : (Jvm.Cond.classLink own i K).before a0 Z = true) (wi : (Jvm.Cond.instantiable K nn).before a0 Z = true) (wz : (Jvm.Cond.initialized K).before a0 Z = true) (hc : k + 1 ≤ R.cells) (hl : n + nn ≤ R.slots) (hp : pc + 3 = pc')
    (W : ∀ h' a, a = h.size → Ext h h' → Exa Z h' a K → (∀ {O f d : String} {ty : FieldType}, Laid Z a0 K O f d → parseFieldDescriptor d = some ty → Fld Z h' a O f d (defaultValue ty)) → Wp p l e R s m args below meth c n0 Q h' (k + 1) (n + nn) (mkF m pc' Ls (.ref a :: st))) : Wp p l e R s m args below meth c n0 Q h k n (mkF m pc Ls st) := fun T locs X eT N => by
  subst hp
  obtain ⟨T', h', X', e', E', A', D', -, st'⟩ := newO X C.1 C.2.1 C.2.2.2.2.1 w wi wz eT (g := mkF m pc Ls st) rfl (hb C.2.2.1 hd) hc hl
  obtain ⟨s₂, o, q, r⟩ := W h' h.size rfl E' A' D' T' _ X' e' N
  exact ⟨s₂, o, st' _ q, r⟩
/-- java.lang.Object's own constructor -/
theorem own_initO (C : Cx p s m meth c Z cd ml ret own nm) {i : Nat} {wL : Nat} (hd : decode cd pc = .ok (.invokespecial i, 3)) (w1 : (Jvm.Cond.methodLink own i Lib.objectInit).before a0 Z = true) (w2 : (Jvm.Cond.instanceMethod Lib.objectInit).before a0 Z = true) (w3 : (Jvm.Cond.code Lib.objectInit ⟨#[0xb1]⟩ 1 none).before a0 Z = true)
    {a : Addr} (hsz : Ls.size = ml) (hf : 1 ≤ R.frames) (hW : 0 + (st.map fun v => v.category).sum ≤ wL) (hl : wL + 12 ≤ R.locals) (hp : pc + 3 = pc') (W : Wp p l e R s m args below meth c n0 Q h k n (mkF m pc' Ls st)) : Wp p l e R s m args below meth c n0 Q h k n (mkF m pc Ls (.ref a :: st)) := fun T locs X eT N => by
  subst hp
  obtain ⟨T', X', e', st'⟩ := initO X C.1 C.2.1 C.2.2.2.2.1 w1 w2 w3 eT (g := mkF m pc Ls (.ref a :: st)) rfl (by rw [C.2.2.2.1]; exact hsz) rfl (hb C.2.2.1 hd) hf (W := wL) hW hl
  obtain ⟨s₂, o, q, r⟩ := W T' locs X' e' N
  exact ⟨s₂, o, st' _ q, r⟩
/-! arrays: of ints (of any narrow kind), of longs -/
def AI (Z : State) (h : Heap) (a : Addr) (ty : FieldType) (xs : List Int32) : Prop := ∃ cl : Cell, Arr Z h a cl ty ∧ cl.slots = (xs.map Value.int).toArray ∧ xs.length < 2 ^ 31
def AJ (Z : State) (h : Heap) (a : Addr) (xs : List Int64) : Prop := ∃ cl : Cell, Arr Z h a cl .long ∧ cl.slots = (xs.map Value.long).toArray ∧ xs.length < 2 ^ 31
theorem AI.lt {a : Addr} {ty : FieldType} {xs : List Int32} (A : AI Z h a ty xs) : a < h.size := by obtain ⟨cl, A, -⟩ := A; exact A.lt
theorem AJ.lt {a : Addr} {xs : List Int64} (A : AJ Z h a xs) : a < h.size := by obtain ⟨cl, A, -⟩ := A; exact A.lt
theorem AI.ext {h' : Heap} {a : Addr} {ty : FieldType} {xs : List Int32} (A : AI Z h a ty xs) (E : Ext h h') : AI Z h' a ty xs := by obtain ⟨cl, A, r⟩ := A; exact ⟨cl, A.ext E, r⟩
theorem AJ.ext {h' : Heap} {a : Addr} {xs : List Int64} (A : AJ Z h a xs) (E : Ext h h') : AJ Z h' a xs := by obtain ⟨cl, A, r⟩ := A; exact ⟨cl, A.ext E, r⟩
theorem AI.other {h' : Heap} {a b : Addr} {sl : Nat} {v : Value} {ty : FieldType} {xs : List Int32} (A : AI Z h a ty xs) (W : Wr h h' b sl v) (q : a ≠ b) : AI Z h' a ty xs := by obtain ⟨cl, A, r⟩ := A; exact ⟨cl, A.other W q, r⟩
theorem AJ.other {h' : Heap} {a b : Addr} {sl : Nat} {v : Value} {xs : List Int64} (A : AJ Z h a xs) (W : Wr h h' b sl v) (q : a ≠ b) : AJ Z h' a xs := by obtain ⟨cl, A, r⟩ := A; exact ⟨cl, A.other W q, r⟩
theorem AI.keep {h' : Heap} {a : Addr} {ws : List Addr} {ty : FieldType} {xs : List Int32} (A : AI Z h a ty xs) (K : Keep h h' ws) (q : a ∉ ws) : AI Z h' a ty xs := by obtain ⟨cl, A, r⟩ := A; exact ⟨cl, ⟨K.2.1 a cl A.1 q, A.2⟩, r⟩
theorem AJ.keep {h' : Heap} {a : Addr} {ws : List Addr} {xs : List Int64} (A : AJ Z h a xs) (K : Keep h h' ws) (q : a ∉ ws) : AJ Z h' a xs := by obtain ⟨cl, A, r⟩ := A; exact ⟨cl, ⟨K.2.1 a cl A.1 q, A.2⟩, r⟩
theorem AI.same {h' : Heap} {a : Addr} {i : Nat} {x : Int32} {ty : FieldType} {xs : List Int32} (A : AI Z h a ty xs) (W : Wr h h' a i (.int x)) : AI Z h' a ty (xs.set i x) := by
  obtain ⟨cl, A, r1, r2⟩ := A
  exact ⟨_, A.same W, by simp [Cell.setSlot, r1, List.map_set], by simpa using r2⟩
theorem AJ.same {h' : Heap} {a : Addr} {i : Nat} {x : Int64} {xs : List Int64} (A : AJ Z h a xs) (W : Wr h h' a i (.long x)) : AJ Z h' a (xs.set i x) := by
  obtain ⟨cl, A, r1, r2⟩ := A
  exact ⟨_, A.same W, by simp [Cell.setSlot, r1, List.map_set], by simpa using r2⟩
theorem own_iaload (C : Cx p s m meth c Z cd ml ret own nm) {a : Addr} {j v : Int32} {i : Nat} {xs : List Int32} (hd : decode cd pc = .ok (.iaload, 1)) (A : AI Z h a .int xs) (hj : ¬ j < 0) (hi : j.toNatClampNeg = i) (hv : xs[i]? = some v) (hp : pc + 1 = pc') (W : Wp p l e R s m args below meth c n0 Q h k n (mkF m pc' Ls (.int v :: st))) : Wp p l e R s m args below meth c n0 Q h k n (mkF m pc Ls (.int j :: .ref a :: st)) := by
  subst hp hi
  obtain ⟨cl, A, r1, r2⟩ := A
  have hlt := (List.getElem?_eq_some_iff.mp hv).1
  exact own_liftX (fun T locs X eT t q => X.iaload C.1 (j := j) (v := .int v) (by rw [eT]; exact A.1) (State.isArrayOf_alike C.2.1.alike A.2.1) A.2.2 (fun z => z.elim hj fun y => by rw [r1] at y; simp at y; omega) (by rw [r1]; simp [hv]) (g := mkF m pc Ls (.int j :: .ref a :: st)) rfl rfl (hb C.2.2.1 hd) t q) W
theorem own_baload (C : Cx p s m meth c Z cd ml ret own nm) {a : Addr} {j v : Int32} {i : Nat} {xs : List Int32} (hd : decode cd pc = .ok (.baload, 1)) (A : AI Z h a .byte xs) (hj : ¬ j < 0) (hi : j.toNatClampNeg = i) (hv : xs[i]? = some v) (hp : pc + 1 = pc') (W : Wp p l e R s m args below meth c n0 Q h k n (mkF m pc' Ls (.int v :: st))) : Wp p l e R s m args below meth c n0 Q h k n (mkF m pc Ls (.int j :: .ref a :: st)) := by
  subst hp hi
  obtain ⟨cl, A, r1, r2⟩ := A
  have hlt := (List.getElem?_eq_some_iff.mp hv).1
  exact own_liftX (fun T locs X eT t q => X.baloadBytes C.1 (j := j) (v := .int v) (by rw [eT]; exact A.1) (State.isArrayOf_alike C.2.1.alike A.2.1) A.2.2 (fun z => z.elim hj fun y => by rw [r1] at y; simp at y; omega) (by rw [r1]; simp [hv]) (g := mkF m pc Ls (.int j :: .ref a :: st)) rfl rfl (hb C.2.2.1 hd) t q) W
theorem own_laload (C : Cx p s m meth c Z cd ml ret own nm) {a : Addr} {j : Int32} {v : Int64} {i : Nat} {xs : List Int64} (hd : decode cd pc = .ok (.laload, 1)) (A : AJ Z h a xs) (hj : ¬ j < 0) (hi : j.toNatClampNeg = i) (hv : xs[i]? = some v) (hp : pc + 1 = pc') (W : Wp p l e R s m args below meth c n0 Q h k n (mkF m pc' Ls (.long v :: st))) : Wp p l e R s m args below meth c n0 Q h k n (mkF m pc Ls (.int j :: .ref a :: st)) := by
  subst hp hi
  obtain ⟨cl, A, r1, r2⟩ := A
  have hlt := (List.getElem?_eq_some_iff.mp hv).1
  exact own_liftX (fun T locs X eT t q => X.laload C.1 (j := j) (v := .long v) (by rw [eT]; exact A.1) (State.isArrayOf_alike C.2.1.alike A.2.1) A.2.2 (fun z => z.elim hj fun y => by rw [r1] at y; simp at y; omega) (by rw [r1]; simp [hv]) (g := mkF m pc Ls (.int j :: .ref a :: st)) rfl rfl (hb C.2.2.1 hd) t q) W
theorem own_lenI (C : Cx p s m meth c Z cd ml ret own nm) {a : Addr} {v : Int32} {ty : FieldType} {xs : List Int32} (hd : decode cd pc = .ok (.arraylength, 1)) (A : AI Z h a ty xs) (hv : xs.length.toInt32 = v) (hp : pc + 1 = pc') (W : Wp p l e R s m args below meth c n0 Q h k n (mkF m pc' Ls (.int v :: st))) : Wp p l e R s m args below meth c n0 Q h k n (mkF m pc Ls (.ref a :: st)) := by
  subst hp hv
  obtain ⟨cl, A, r1, r2⟩ := A
  have e1 : cl.slots.size = xs.length := by rw [r1]; simp
  exact own_liftX (fun T locs X eT t q => X.arraylength C.1 (by rw [eT]; exact A.1) (State.isArrayOf_alike C.2.1.alike A.2.1) (g := mkF m pc Ls (.ref a :: st)) rfl rfl (hb C.2.2.1 hd) t (by rw [e1]; exact q)) W
theorem own_lenJ (C : Cx p s m meth c Z cd ml ret own nm) {a : Addr} {v : Int32} {xs : List Int64} (hd : decode cd pc = .ok (.arraylength, 1)) (A : AJ Z h a xs) (hv : xs.length.toInt32 = v) (hp : pc + 1 = pc') (W : Wp p l e R s m args below meth c n0 Q h k n (mkF m pc' Ls (.int v :: st))) : Wp p l e R s m args below meth c n0 Q h k n (mkF m pc Ls (.ref a :: st)) := by
  subst hp hv
  obtain ⟨cl, A, r1, r2⟩ := A
  have e1 : cl.slots.size = xs.length := by rw [r1]; simp
  exact own_liftX (fun T locs X eT t q => X.arraylength C.1 (by rw [eT]; exact A.1) (State.isArrayOf_alike C.2.1.alike A.2.1) (g := mkF m pc Ls (.ref a :: st)) rfl rfl (hb C.2.2.1 hd) t (by rw [e1]; exact q)) W
theorem own_iastore (C : Cx p s m meth c Z cd ml ret own nm) {a : Addr} {j x : Int32} {i : Nat} {xs ys : List Int32} (hd : decode cd pc = .ok (.iastore, 1)) (A : AI Z h a .int xs) (hj : ¬ j < 0) (hi : j.toNatClampNeg = i) (hlt : i < xs.length) (hys : xs.set i x = ys) (ha : n0 ≤ a) (hp : pc + 1 = pc') (W : ∀ h', Wr h h' a i (.int x) → AI Z h' a .int ys → Wp p l e R s m args below meth c n0 Q h' k n (mkF m pc' Ls st)) : Wp p l e R s m args below meth c n0 Q h k n (mkF m pc Ls (.int x :: .int j :: .ref a :: st)) := fun T locs X eT N => by
  subst hp hi hys
  have A' := A
  obtain ⟨cl, A, r1, r2⟩ := A
  obtain ⟨T', h', X', e', Wr', st'⟩ := stI X C.1 C.2.1 eT A (j := j) (x := x) (fun z => z.elim hj fun y => by rw [r1] at y; simp at y; omega) (g := mkF m pc Ls (.int x :: .int j :: .ref a :: st)) rfl rfl (hb C.2.2.1 hd)
  obtain ⟨s₂, o, q, r⟩ := W h' Wr' (A'.same Wr') T' _ X' e' (Fr.snoc X' N ha)
  exact ⟨s₂, o, st' _ q, r⟩
theorem own_lastore (C : Cx p s m meth c Z cd ml ret own nm) {a : Addr} {j : Int32} {x : Int64} {i : Nat} {xs ys : List Int64} (hd : decode cd pc = .ok (.lastore, 1)) (A : AJ Z h a xs) (hj : ¬ j < 0) (hi : j.toNatClampNeg = i) (hlt : i < xs.length) (hys : xs.set i x = ys) (ha : n0 ≤ a) (hp : pc + 1 = pc') (W : ∀ h', Wr h h' a i (.long x) → AJ Z h' a ys → Wp p l e R s m args below meth c n0 Q h' k n (mkF m pc' Ls st)) : Wp p l e R s m args below meth c n0 Q h k n (mkF m pc Ls (.long x :: .int j :: .ref a :: st)) := fun T locs X eT N => by
  subst hp hi hys
  have A' := A
  obtain ⟨cl, A, r1, r2⟩ := A
  obtain ⟨T', h', X', e', Wr', st'⟩ := stJ X C.1 C.2.1 eT A (j := j) (x := x) (fun z => z.elim hj fun y => by rw [r1] at y; simp at y; omega) (g := mkF m pc Ls (.long x :: .int j :: .ref a :: st)) rfl rfl (hb C.2.2.1 hd)
  obtain ⟨s₂, o, q, r⟩ := W h' Wr' (A'.same Wr') T' _ X' e' (Fr.snoc X' N ha)
  exact ⟨s₂, o, st' _ q, r⟩
theorem own_bastore (C : Cx p s m meth c Z cd ml ret own nm) {a : Addr} {j x : Int32} {i : Nat} {xs ys : List Int32} (hd : decode cd pc = .ok (.bastore, 1)) (A : AI Z h a .byte xs) (hj : ¬ j < 0) (hi : j.toNatClampNeg = i) (hlt : i < xs.length) (hys : xs.set i (nar .byte x) = ys) (ha : n0 ≤ a) (hp : pc + 1 = pc') (W : ∀ h', Wr h h' a i (.int (nar .byte x)) → AI Z h' a .byte ys → Wp p l e R s m args below meth c n0 Q h' k n (mkF m pc' Ls st)) : Wp p l e R s m args below meth c n0 Q h k n (mkF m pc Ls (.int x :: .int j :: .ref a :: st)) := fun T locs X eT N => by
  subst hp hi hys
  have A' := A
  obtain ⟨cl, A, r1, r2⟩ := A
  obtain ⟨T', h', X', e', Wr', st'⟩ := stB X C.1 C.2.1 eT A (j := j) (x := x) (fun z => z.elim hj fun y => by rw [r1] at y; simp at y; omega) (g := mkF m pc Ls (.int x :: .int j :: .ref a :: st)) rfl rfl (hb C.2.2.1 hd)
  obtain ⟨s₂, o, q, r⟩ := W h' Wr' (A'.same Wr') T' _ X' e' (Fr.snoc X' N ha)
  exact ⟨s₂, o, st' _ q, r⟩
theorem own_newI (C : Cx p s m meth c Z cd ml ret own nm) {aty : ArrayType} {ty : FieldType} {z : Int32} {len cap : Nat} (hd : decode cd pc = .ok (.newarray aty, 2)) (hty : newarray.typeOf aty = ty) (hdv : defaultValue ty = .int 0) (w : (Jvm.Cond.arrayClass ty).before a0 Z = true) (hz : ¬ z < 0) (hlen : z.toNatClampNeg = len) (hcap : len ≤ cap) (hb8 : cap * 8 ≤ 536870912) (hc : k + 1 ≤ R.cells) (hl : n + cap ≤ R.slots) (hp : pc + 2 = pc')
    (W : ∀ h' a, a = h.size → Ext h h' → AI Z h' a ty (List.replicate len 0) → Wp p l e R s m args below meth c n0 Q h' (k + 1) (n + cap) (mkF m pc' Ls (.ref a :: st))) : Wp p l e R s m args below meth c n0 Q h k n (mkF m pc Ls (.int z :: st)) := fun T locs X eT N => by
  subst hp hlen hty
  obtain ⟨T', h', cA, X', e', E', A', st'⟩ := newP X C.1 C.2.1 w eT (g := mkF m pc Ls (.int z :: st)) rfl (hb C.2.2.1 hd) rfl hz hcap hb8 hc hl
  obtain ⟨s₂, o, q, r⟩ := W h' h.size rfl E' ⟨_, A', by simp [newA, hdv], by simp; exact (back32 hz).2⟩ T' _ X' e' N
  exact ⟨s₂, o, st' _ q, r⟩
theorem own_newJ (C : Cx p s m meth c Z cd ml ret own nm) {z : Int32} {len cap : Nat} (hd : decode cd pc = .ok (.newarray .long, 2)) (w : (Jvm.Cond.arrayClass .long).before a0 Z = true) (hz : ¬ z < 0) (hlen : z.toNatClampNeg = len) (hcap : len ≤ cap) (hb8 : cap * 8 ≤ 536870912) (hc : k + 1 ≤ R.cells) (hl : n + cap ≤ R.slots) (hp : pc + 2 = pc')
    (W : ∀ h' a, a = h.size → Ext h h' → AJ Z h' a (List.replicate len 0) → Wp p l e R s m args below meth c n0 Q h' (k + 1) (n + cap) (mkF m pc' Ls (.ref a :: st))) : Wp p l e R s m args below meth c n0 Q h k n (mkF m pc Ls (.int z :: st)) := fun T locs X eT N => by
  subst hp hlen
  obtain ⟨T', h', cA, X', e', E', A', st'⟩ := newP X C.1 C.2.1 (aty := .long) w eT (g := mkF m pc Ls (.int z :: st)) rfl (hb C.2.2.1 hd) rfl hz hcap hb8 hc hl
  obtain ⟨s₂, o, q, r⟩ := W h' h.size rfl E' ⟨_, A', by simp [newA, newarray.typeOf, defaultValue], by simp; exact (back32 hz).2⟩ T' _ X' e' N
  exact ⟨s₂, o, st' _ q, r⟩
/-! calls -/
theorem own_callS (C : Cx p s m meth c Z cd ml ret own nm) {i : Nat} {y : MethodName} {bytes : ByteArray} {mL wL : Nat} {rt : Option FieldType} {rm : Room} {as : Array Value} {Qc : Option Value → Heap → Prop} {argsL rest : List Value}
    (M : Met l y bytes mL rt [] rm Z n0 as h Qc)
    (hd : decode cd pc = .ok (.invokestatic i, 3)) (w1 : (Jvm.Cond.methodLink own i y).before a0 Z = true) (w2 : (Jvm.Cond.static y).before a0 Z = true) (w3 : (Jvm.Cond.initialized y.cls).before a0 Z = true) (w4 : (Jvm.Cond.code y bytes mL rt).before a0 Z = true)
    (hy : y.cls ≠ "java/lang/invoke/MethodHandle" ∧ y.cls ≠ "java/lang/invoke/VarHandle") (hfr : rm.frames + 1 ≤ R.frames) (hlo : wL + (mL + 11) + rm.locals ≤ R.locals) (hsz : Ls.size = ml) (hlen : ∀ sig, parseMethodDescriptor y.desc = some sig → argsL.length = sig.parameters.length)
    (hst : st = argsL.reverse ++ rest) (has : argsL.toArray = as) (hW : 0 + (rest.map fun v => v.category).sum ≤ wL) (hc : k + rm.cells ≤ R.cells) (hs : n + rm.slots ≤ R.slots) (hp : pc + 3 = pc')
    (W : ∀ v h', Qc v h' → Wp p l e R s m args below meth c n0 Q h' (k + rm.cells) (n + rm.slots) (mkF m pc' Ls (v.toList ++ rest))) : Wp p l e R s m args below meth c n0 Q h k n (mkF m pc Ls st) := fun T locs X eT N => by
  subst hp has
  obtain ⟨_, _, ⟨T', L', k', n'⟩, -, X', ⟨Lc, hQ, l1, y1, z1⟩, st'⟩ := Jvm.LawKit.callS X C.1 (y := y) C.2.2.2.2.1 (mvT C.2.1 w1) (mvT C.2.1 w2) (mvT C.2.1 w3) (mvT C.2.1 w4) hy (backOf (W := wL) (Q := fun v h L => Qc v h ∧ Fr n0 L) M C.2.1 w4 w3 hfr hlo) (g := mkF m pc Ls st) rfl (by rw [C.2.2.2.1]; exact hsz) (argsL := argsL) (rest := rest) hlen hst hW (hb C.2.2.1 hd) (fun _ _ => ⟨rfl, eT, hc, hs⟩)
  dsimp only [Pt.U, Pt.locs, Pt.cells, Pt.slots] at X' l1 y1 z1 st' hQ
  subst l1 y1 z1
  obtain ⟨s₂, o, q, r⟩ := W _ _ hQ.1 T' _ X' rfl (Fr.app N hQ.2)
  exact ⟨s₂, o, st' _ q, r⟩
theorem own_callI (C : Cx p s m meth c Z cd ml ret own nm) {i : Nat} {K : String} {dsc : String} {bytes : ByteArray} {mL wL : Nat} {rm : Room} {as : Array Value} {Qc : Option Value → Heap → Prop} {argsL rest : List Value} {a : Addr}
    (M : Met l ⟨K, "<init>", dsc⟩ bytes mL none [] rm Z n0 as h Qc)
    (hd : decode cd pc = .ok (.invokespecial i, 3)) (w1 : (Jvm.Cond.methodLink own i ⟨K, "<init>", dsc⟩).before a0 Z = true) (w2 : (Jvm.Cond.instanceMethod ⟨K, "<init>", dsc⟩).before a0 Z = true) (w3 : (Jvm.Cond.initialized K).before a0 Z = true) (w4 : (Jvm.Cond.code ⟨K, "<init>", dsc⟩ bytes mL none).before a0 Z = true)
    (hy : K ≠ "java/lang/invoke/MethodHandle" ∧ K ≠ "java/lang/invoke/VarHandle") (hfr : rm.frames + 1 ≤ R.frames) (hlo : wL + (mL + 11) + rm.locals ≤ R.locals) (hsz : Ls.size = ml) (hlen : ∀ sig, parseMethodDescriptor dsc = some sig → argsL.length = sig.parameters.length)
    (hst : st = argsL.reverse ++ .ref a :: rest) (has : (Value.ref a :: argsL).toArray = as) (hW : 0 + (rest.map fun v => v.category).sum ≤ wL) (hc : k + rm.cells ≤ R.cells) (hs : n + rm.slots ≤ R.slots) (hp : pc + 3 = pc')
    (W : ∀ v h', Qc v h' → Wp p l e R s m args below meth c n0 Q h' (k + rm.cells) (n + rm.slots) (mkF m pc' Ls (v.toList ++ rest))) : Wp p l e R s m args below meth c n0 Q h k n (mkF m pc Ls st) := fun T locs X eT N => by
  subst hp has
  obtain ⟨_, _, ⟨T', L', k', n'⟩, -, X', ⟨Lc, hQ, l1, y1, z1⟩, st'⟩ := X.specialBack C.1 (y := ⟨K, "<init>", dsc⟩) rfl C.2.2.2.2.1 (mvT C.2.1 w1) (mvT C.2.1 w2) (mvT C.2.1 w4) hy (backOf (W := wL) (Q := fun v h L => Qc v h ∧ Fr n0 L) M C.2.1 w4 w3 hfr hlo) (g := mkF m pc Ls st) rfl (by rw [C.2.2.2.1]; exact hsz) (Steps.refl _) (a := a) (argsL := argsL) (rest := rest) hlen hst hW (hb C.2.2.1 hd) (fun _ _ => ⟨rfl, eT, hc, hs⟩)
  dsimp only [Pt.U, Pt.locs, Pt.cells, Pt.slots] at X' l1 y1 z1 st' hQ
  subst l1 y1 z1
  obtain ⟨s₂, o, q, r⟩ := W _ _ hQ.1 T' _ X' rfl (Fr.app N hQ.2)
  exact ⟨s₂, o, st'.trans q, r⟩
theorem own_callV (C : Cx p s m meth c Z cd ml ret own nm) {i : Nat} {y : MethodName} {bytes : ByteArray} {mL wL : Nat} {rt : Option FieldType} {rm : Room} {as : Array Value} {Qc : Option Value → Heap → Prop} {argsL rest : List Value} {a : Addr}
    (M : Met l y bytes mL rt [] rm Z n0 as h Qc) (E : Exa Z h a y.cls)
    (hd : decode cd pc = .ok (.invokevirtual i, 3)) (w1 : (Jvm.Cond.methodLink own i y).before a0 Z = true) (w2 : (Jvm.Cond.declares y).before a0 Z = true) (w5 : (Jvm.Cond.selects y.cls y y).before a0 Z = true) (w6 : (Jvm.Cond.instanceMethod y).before a0 Z = true) (w3 : (Jvm.Cond.initialized y.cls).before a0 Z = true) (w4 : (Jvm.Cond.code y bytes mL rt).before a0 Z = true)
    (hy : y.cls ≠ "java/lang/invoke/MethodHandle" ∧ y.cls ≠ "java/lang/invoke/VarHandle") (hfr : rm.frames + 1 ≤ R.frames) (hlo : wL + (mL + 11) + rm.locals ≤ R.locals) (hsz : Ls.size = ml) (hlen : ∀ sig, parseMethodDescriptor y.desc = some sig → argsL.length = sig.parameters.length)
    (hst : st = argsL.reverse ++ .ref a :: rest) (has : (Value.ref a :: argsL).toArray = as) (hW : 0 + (rest.map fun v => v.category).sum ≤ wL) (hc : k + rm.cells ≤ R.cells) (hs : n + rm.slots ≤ R.slots) (hp : pc + 3 = pc')
    (W : ∀ v h', Qc v h' → Wp p l e R s m args below meth c n0 Q h' (k + rm.cells) (n + rm.slots) (mkF m pc' Ls (v.toList ++ rest))) : Wp p l e R s m args below meth c n0 Q h k n (mkF m pc Ls st) := fun T locs X eT N => by
  subst hp has
  obtain ⟨cq, kq, qa, qb, qc⟩ := isOf C.2.1 eT E
  obtain ⟨_, _, ⟨T', L', k', n'⟩, -, X', ⟨Lc, hQ, l1, y1, z1⟩, st'⟩ := X.virtualBack C.1 (y := y) (z := y) C.2.2.2.2.1 (mvT C.2.1 w1) (mvT C.2.1 w2) (notFace_of_selects (args := #[]) (mvT C.2.1 w5)) (mvT C.2.1 w5) (mvT C.2.1 w6) hy (backOf (W := wL) (Q := fun v h L => Qc v h ∧ Fr n0 L) M C.2.1 w4 w3 hfr hlo) qa qc (g := mkF m pc Ls st) rfl (by rw [C.2.2.2.1]; exact hsz) (Steps.refl _) (argsL := argsL) (rest := rest) hlen hst hW (hb C.2.2.1 hd) (fun _ _ => ⟨rfl, eT, hc, hs⟩)
  dsimp only [Pt.U, Pt.locs, Pt.cells, Pt.slots] at X' l1 y1 z1 st' hQ
  subst l1 y1 z1
  obtain ⟨s₂, o, q, r⟩ := W _ _ hQ.1 T' _ X' rfl (Fr.app N hQ.2)
  exact ⟨s₂, o, st'.trans q, r⟩
theorem own_callP (C : Cx p s m meth c Z cd ml ret own nm) {i : Nat} {y : MethodName} {bytes : ByteArray} {mL wL : Nat} {rt : Option FieldType} {rm : Room} {as : Array Value} {Qc : Option Value → Heap → Prop} {argsL rest : List Value} {a : Addr}
    (M : Met l y bytes mL rt [] rm Z n0 as h Qc) (E : Exa Z h a y.cls)
    (hd : decode cd pc = .ok (.invokevirtual i, 3)) (w1 : (Jvm.Cond.methodLink own i y).before a0 Z = true) (w2 : (Jvm.Cond.privateMethod y).before a0 Z = true) (w5 : (Jvm.Cond.selects y.cls y y).before a0 Z = true) (w6 : (Jvm.Cond.instanceMethod y).before a0 Z = true) (w3 : (Jvm.Cond.initialized y.cls).before a0 Z = true) (w4 : (Jvm.Cond.code y bytes mL rt).before a0 Z = true)
    (hy : y.cls ≠ "java/lang/invoke/MethodHandle" ∧ y.cls ≠ "java/lang/invoke/VarHandle") (hfr : rm.frames + 1 ≤ R.frames) (hlo : wL + (mL + 11) + rm.locals ≤ R.locals) (hsz : Ls.size = ml) (hlen : ∀ sig, parseMethodDescriptor y.desc = some sig → argsL.length = sig.parameters.length)
    (hst : st = argsL.reverse ++ .ref a :: rest) (has : (Value.ref a :: argsL).toArray = as) (hW : 0 + (rest.map fun v => v.category).sum ≤ wL) (hc : k + rm.cells ≤ R.cells) (hs : n + rm.slots ≤ R.slots) (hp : pc + 3 = pc')
    (W : ∀ v h', Qc v h' → Wp p l e R s m args below meth c n0 Q h' (k + rm.cells) (n + rm.slots) (mkF m pc' Ls (v.toList ++ rest))) : Wp p l e R s m args below meth c n0 Q h k n (mkF m pc Ls st) := fun T locs X eT N => by
  subst hp has
  obtain ⟨cq, q1, q2⟩ := E.cell
  obtain ⟨_, _, ⟨T', L', k', n'⟩, -, X', ⟨Lc, hQ, l1, y1, z1⟩, st'⟩ := X.privateBack C.1 (y := y) C.2.2.2.2.1 (mvT C.2.1 w1) (mvT C.2.1 w6) (mvT C.2.1 w5) (Cond.privateMethod_at (mvP C.2.1 w2 (args := #[]))) (mvT C.2.1 w4) hy (backOf (W := wL) (Q := fun v h L => Qc v h ∧ Fr n0 L) M C.2.1 w4 w3 hfr hlo) (g := mkF m pc Ls st) rfl (by rw [C.2.2.2.1]; exact hsz) (Steps.refl _) (a := a) (by rw [eT]; exact q1) q2 (argsL := argsL) (rest := rest) hlen hst hW (hb C.2.2.1 hd) (fun _ _ => ⟨rfl, eT, hc, hs⟩)
  dsimp only [Pt.U, Pt.locs, Pt.cells, Pt.slots] at X' l1 y1 z1 st' hQ
  subst l1 y1 z1
  obtain ⟨s₂, o, q, r⟩ := W _ _ hQ.1 T' _ X' rfl (Fr.app N hQ.2)
  exact ⟨s₂, o, st'.trans q, r⟩
end OwnKit
def own_isz (r0 r1 r2 r3 r4 : Int64) : Int32 := if (r0 = 0 ∧ r1 = 0 ∧ r2 = 0 ∧ r3 = 0 ∧ r4 = 0) ∨ (r0 = 4503599627370495 ∧ r1 = 17592186044415 ∧ r2 = 0 ∧ r3 = 68719476736 ∧ r4 = 281474976645120) then 1 else 0
theorem own_b1 (P : Prop) [Decidable P] : (1 : Int32) &&& (if P then 1 else 0) = if P then 1 else 0 := by by_cases p : P <;> simp [p]
theorem own_band (P Q : Prop) [Decidable P] [Decidable Q] : (if P then (1 : Int32) else 0) &&& (if Q then 1 else 0) = if (P ∧ Q) then 1 else 0 := by by_cases p : P <;> by_cases q : Q <;> simp [p, q]
theorem own_bor (P Q : Prop) [Decidable P] [Decidable Q] : (if (if P then (1 : Int32) else 0) = 0 then (if (if Q then (1 : Int32) else 0) = 0 then (0 : Int32) else 1) else 1) = if (P ∨ Q) then 1 else 0 := by by_cases p : P <;> by_cases q : Q <;> simp [p, q]

theorem d1_0 : decode prog_6_method_16_code 0 = .ok (.iconst 1, 1) := by decide +kernel
theorem d1_1 : decode prog_6_method_16_code 1 = .ok (.istore_n 1, 1) := by decide +kernel
theorem d1_2 : decode prog_6_method_16_code 2 = .ok (.iconst 1, 1) := by decide +kernel
theorem d1_3 : decode prog_6_method_16_code 3 = .ok (.istore_n 2, 1) := by decide +kernel
theorem d1_4 : decode prog_6_method_16_code 4 = .ok (.iconst 0, 1) := by decide +kernel
theorem d1_5 : decode prog_6_method_16_code 5 = .ok (.istore_n 3, 1) := by decide +kernel
theorem d1_6 : decode prog_6_method_16_code 6 = .ok (.iload_n 3, 1) := by decide +kernel
theorem d1_7 : decode prog_6_method_16_code 7 = .ok (.iconst 5, 1) := by decide +kernel
theorem d1_8 : decode prog_6_method_16_code 8 = .ok (.if_icmp .ge 45, 3) := by decide +kernel
theorem d1_11 : decode prog_6_method_16_code 11 = .ok (.iload_n 1, 1) := by decide +kernel
theorem d1_12 : decode prog_6_method_16_code 12 = .ok (.aload_n 0, 1) := by decide +kernel
theorem d1_13 : decode prog_6_method_16_code 13 = .ok (.iload_n 3, 1) := by decide +kernel
theorem d1_14 : decode prog_6_method_16_code 14 = .ok (.laload, 1) := by decide +kernel
theorem d1_15 : decode prog_6_method_16_code 15 = .ok (.lconst 0, 1) := by decide +kernel
theorem d1_16 : decode prog_6_method_16_code 16 = .ok (.lcmp, 1) := by decide +kernel
theorem d1_17 : decode prog_6_method_16_code 17 = .ok (.ifCond .ne 7, 3) := by decide +kernel
theorem d1_20 : decode prog_6_method_16_code 20 = .ok (.iconst 1, 1) := by decide +kernel
theorem d1_21 : decode prog_6_method_16_code 21 = .ok (.goto 4, 3) := by decide +kernel
theorem d1_24 : decode prog_6_method_16_code 24 = .ok (.iconst 0, 1) := by decide +kernel
theorem d1_25 : decode prog_6_method_16_code 25 = .ok (.iand, 1) := by decide +kernel
theorem d1_26 : decode prog_6_method_16_code 26 = .ok (.istore_n 1, 1) := by decide +kernel
theorem d1_27 : decode prog_6_method_16_code 27 = .ok (.iload_n 2, 1) := by decide +kernel
theorem d1_28 : decode prog_6_method_16_code 28 = .ok (.aload_n 0, 1) := by decide +kernel
theorem d1_29 : decode prog_6_method_16_code 29 = .ok (.iload_n 3, 1) := by decide +kernel
theorem d1_30 : decode prog_6_method_16_code 30 = .ok (.laload, 1) := by decide +kernel
theorem d1_31 : decode prog_6_method_16_code 31 = .ok (.getstatic 23, 3) := by decide +kernel
theorem d1_34 : decode prog_6_method_16_code 34 = .ok (.iload_n 3, 1) := by decide +kernel
theorem d1_35 : decode prog_6_method_16_code 35 = .ok (.laload, 1) := by decide +kernel
theorem d1_36 : decode prog_6_method_16_code 36 = .ok (.lcmp, 1) := by decide +kernel
theorem d1_37 : decode prog_6_method_16_code 37 = .ok (.ifCond .ne 7, 3) := by decide +kernel
theorem d1_40 : decode prog_6_method_16_code 40 = .ok (.iconst 1, 1) := by decide +kernel
theorem d1_41 : decode prog_6_method_16_code 41 = .ok (.goto 4, 3) := by decide +kernel
theorem d1_44 : decode prog_6_method_16_code 44 = .ok (.iconst 0, 1) := by decide +kernel
theorem d1_45 : decode prog_6_method_16_code 45 = .ok (.iand, 1) := by decide +kernel
theorem d1_46 : decode prog_6_method_16_code 46 = .ok (.istore_n 2, 1) := by decide +kernel
theorem d1_47 : decode prog_6_method_16_code 47 = .ok (.iinc 3 1, 3) := by decide +kernel
theorem d1_50 : decode prog_6_method_16_code 50 = .ok (.goto (-44), 3) := by decide +kernel
theorem d1_53 : decode prog_6_method_16_code 53 = .ok (.iload_n 1, 1) := by decide +kernel
theorem d1_54 : decode prog_6_method_16_code 54 = .ok (.ifCond .ne 7, 3) := by decide +kernel
theorem d1_57 : decode prog_6_method_16_code 57 = .ok (.iload_n 2, 1) := by decide +kernel
theorem d1_58 : decode prog_6_method_16_code 58 = .ok (.ifCond .eq 7, 3) := by decide +kernel
theorem d1_61 : decode prog_6_method_16_code 61 = .ok (.iconst 1, 1) := by decide +kernel
theorem d1_62 : decode prog_6_method_16_code 62 = .ok (.goto 4, 3) := by decide +kernel
theorem d1_65 : decode prog_6_method_16_code 65 = .ok (.iconst 0, 1) := by decide +kernel
theorem d1_66 : decode prog_6_method_16_code 66 = .ok (.ireturn, 1) := by decide +kernel
theorem pn1 : plainName "com/example/libsworn/libsworn/P256Field" = true := by first | (simp [plainName, overriddenIn]; done) | decide +kernel
theorem ef1 (m : MethodId) (x0 : Addr) : entryFrame m #[(.ref x0)] 4 = mkF m 0 #[.val (.ref x0), .unset, .unset, .unset] [] := by first | (simp [entryFrame, mkF, argsToLocals, Value.category]; done) | rfl
theorem own_ki_1 : Int32.ofInt (1) = (1 : Int32) := by decide
theorem own_ki_0 : Int32.ofInt (0) = (0 : Int32) := by decide
theorem own_ki_5 : Int32.ofInt (5) = (5 : Int32) := by decide
set_option maxRecDepth 65536 in
set_option maxHeartbeats 40000000 in
theorem own_m1 (l : Launch) (Z : State) (a0 : Array Value) (hw : ∀ d ∈ tables_1, d.before a0 Z = true) (r : Addr) (q : Addr) (r0_ r1_ r2_ r3_ r4_ : Int64) (h0 : Heap) (n0 : Nat) (Z_ : n0 ≤ h0.size) (A_r : AJ Z h0 r [r0_, r1_, r2_, r3_, r4_]) (A_q : AJ Z h0 q [(4503599627370495 : Int64), (17592186044415 : Int64), (0 : Int64), (68719476736 : Int64), (281474976645120 : Int64)]) (S_q : Sta Z h0 "com/example/libsworn/libsworn/P256Field" "PRIME_LIMBS" "[J" (.ref q)) :
    Met l (⟨"com/example/libsworn/libsworn/P256Field", "isZero", "([J)Z"⟩ : MethodName) prog_6_method_16_code 4 (some .boolean) [] ({ frames := 0, cells := 0, slots := 0, locals := 0 } : Room) Z n0 #[(.ref r)] h0 (fun v h => v = some (.int (own_isz r0_ r1_ r2_ r3_ r4_)) ∧ h0 = h) := by
  refine own_met pn1 (fun m => ef1 m r) ?_
  intro p e s m below meth c C
  refine own_iconst (pc' := 1) (v := (1 : Int32)) C d1_0 own_ki_1 rfl ?_
  refine own_istoreN (pc' := 2) (y := (1 : Int32)) (Ls' := #[.val (.ref r), .val (.int (1 : Int32)), .unset, .unset]) C d1_1 rfl rfl rfl ?_
  refine own_iconst (pc' := 3) (v := (1 : Int32)) C d1_2 own_ki_1 rfl ?_
  refine own_istoreN (pc' := 4) (y := (1 : Int32)) (Ls' := #[.val (.ref r), .val (.int (1 : Int32)), .val (.int (1 : Int32)), .unset]) C d1_3 rfl rfl rfl ?_
  refine own_iconst (pc' := 5) (v := (0 : Int32)) C d1_4 own_ki_0 rfl ?_
  refine own_istoreN (pc' := 6) (y := (0 : Int32)) (Ls' := #[.val (.ref r), .val (.int (1 : Int32)), .val (.int (1 : Int32)), .val (.int (0 : Int32))]) C d1_5 rfl rfl rfl ?_
  refine own_iloadN (pc' := 7) C d1_6 rfl rfl ?_
  refine own_iconst (pc' := 8) (v := (5 : Int32)) C d1_7 own_ki_5 rfl ?_
  refine own_icmp_ge (pt := 53) (pf := 11) C d1_8 (by decide) (by decide) rfl (fun q => absurd (by decide) q) (fun _ => ?_)
  refine own_iloadN (pc' := 12) C d1_11 rfl rfl ?_
  refine own_aloadN (pc' := 13) C d1_12 rfl rfl rfl ?_
  refine own_iloadN (pc' := 14) C d1_13 rfl rfl ?_
  refine own_laload (pc' := 15) (v := r0_) (i := 0) C d1_14 A_r (by decide) rfl rfl rfl ?_
  refine own_lconst (pc' := 16) (v := (0 : Int64)) C d1_15 (by decide) rfl ?_
  obtain ⟨vs0_25, hvs0_25⟩ : ∃ z : Int32, z = (if r0_ = (0 : Int64) then (1 : Int32) else (0 : Int32)) := ⟨_, rfl⟩
  have hzvs0_25 : vs0_25 = 0 ∨ vs0_25 = 1 := by rw [hvs0_25]; repeat (first | exact Or.inl rfl | exact Or.inr rfl | split)
  refine own_seq (g' := mkF m 25 #[.val (.ref r), .val (.int (1 : Int32)), .val (.int (1 : Int32)), .val (.int (0 : Int32))] [(.int vs0_25), (.int (1 : Int32))]) (fun J25 => ?_) ?_
  · refine own_lcmp_ne (pt := 24) (pf := 20) C d1_16 rfl d1_17 (by decide) (by decide) rfl ?_ ?_
    · intro hc16
      refine own_iconst (pc' := 25) (v := (0 : Int32)) C d1_24 own_ki_0 rfl ?_
      exact own_cast (by simp only [hvs0_25, if_neg hc16]) (J25)
    · intro hc16
      refine own_iconst (pc' := 21) (v := (1 : Int32)) C d1_20 own_ki_1 rfl ?_
      refine own_goto (pc' := 25) C d1_21 (by decide) (by decide) ?_
      exact own_cast (by simp only [hvs0_25, if_pos hc16]) (J25)
  refine own_iand (pc' := 26) C d1_25 rfl rfl ?_
  obtain ⟨v1_26, hv1_26⟩ : ∃ z : Int32, z = ((1 : Int32) &&& vs0_25) := ⟨_, rfl⟩
  refine own_istoreN (pc' := 27) (y := v1_26) (Ls' := #[.val (.ref r), .val (.int v1_26), .val (.int (1 : Int32)), .val (.int (0 : Int32))]) C d1_26 hv1_26.symm rfl rfl ?_
  refine own_iloadN (pc' := 28) C d1_27 rfl rfl ?_
  refine own_aloadN (pc' := 29) C d1_28 rfl rfl rfl ?_
  refine own_iloadN (pc' := 30) C d1_29 rfl rfl ?_
  refine own_laload (pc' := 31) (v := r0_) (i := 0) C d1_30 A_r (by decide) rfl rfl rfl ?_
  refine own_getstatic (pc' := 34) C d1_31 (hw _ (List.mem_of_getElem? (i := 12) rfl)) S_q rfl ?_
  refine own_iloadN (pc' := 35) C d1_34 rfl rfl ?_
  refine own_laload (pc' := 36) (v := (4503599627370495 : Int64)) (i := 0) C d1_35 A_q (by decide) rfl rfl rfl ?_
  obtain ⟨vs0_45, hvs0_45⟩ : ∃ z : Int32, z = (if r0_ = (4503599627370495 : Int64) then (1 : Int32) else (0 : Int32)) := ⟨_, rfl⟩
  have hzvs0_45 : vs0_45 = 0 ∨ vs0_45 = 1 := by rw [hvs0_45]; repeat (first | exact Or.inl rfl | exact Or.inr rfl | split)
  refine own_seq (g' := mkF m 45 #[.val (.ref r), .val (.int v1_26), .val (.int (1 : Int32)), .val (.int (0 : Int32))] [(.int vs0_45), (.int (1 : Int32))]) (fun J45 => ?_) ?_
  · refine own_lcmp_ne (pt := 44) (pf := 40) C d1_36 rfl d1_37 (by decide) (by decide) rfl ?_ ?_
    · intro hc36
      refine own_iconst (pc' := 45) (v := (0 : Int32)) C d1_44 own_ki_0 rfl ?_
      exact own_cast (by simp only [hvs0_45, if_neg hc36]) (J45)
    · intro hc36
      refine own_iconst (pc' := 41) (v := (1 : Int32)) C d1_40 own_ki_1 rfl ?_
      refine own_goto (pc' := 45) C d1_41 (by decide) (by decide) ?_
      exact own_cast (by simp only [hvs0_45, if_pos hc36]) (J45)
  refine own_iand (pc' := 46) C d1_45 rfl rfl ?_
  obtain ⟨v2_46, hv2_46⟩ : ∃ z : Int32, z = ((1 : Int32) &&& vs0_45) := ⟨_, rfl⟩
  refine own_istoreN (pc' := 47) (y := v2_46) (Ls' := #[.val (.ref r), .val (.int v1_26), .val (.int v2_46), .val (.int (0 : Int32))]) C d1_46 hv2_46.symm rfl rfl ?_
  refine own_iinc (pc' := 50) (v := (1 : Int32)) (Ls' := #[.val (.ref r), .val (.int v1_26), .val (.int v2_46), .val (.int (1 : Int32))]) C d1_47 rfl (by decide) rfl rfl ?_
  refine own_goto (pc' := 6) C d1_50 (by decide) (by decide) ?_
  refine own_iloadN (pc' := 7) C d1_6 rfl rfl ?_
  refine own_iconst (pc' := 8) (v := (5 : Int32)) C d1_7 own_ki_5 rfl ?_
  refine own_icmp_ge (pt := 53) (pf := 11) C d1_8 (by decide) (by decide) rfl (fun q => absurd (by decide) q) (fun _ => ?_)
  refine own_iloadN (pc' := 12) C d1_11 rfl rfl ?_
  refine own_aloadN (pc' := 13) C d1_12 rfl rfl rfl ?_
  refine own_iloadN (pc' := 14) C d1_13 rfl rfl ?_
  refine own_laload (pc' := 15) (v := r1_) (i := 1) C d1_14 A_r (by decide) rfl rfl rfl ?_
  refine own_lconst (pc' := 16) (v := (0 : Int64)) C d1_15 (by decide) rfl ?_
  obtain ⟨vs0_25_2, hvs0_25_2⟩ : ∃ z : Int32, z = (if r1_ = (0 : Int64) then (1 : Int32) else (0 : Int32)) := ⟨_, rfl⟩
  have hzvs0_25_2 : vs0_25_2 = 0 ∨ vs0_25_2 = 1 := by rw [hvs0_25_2]; repeat (first | exact Or.inl rfl | exact Or.inr rfl | split)
  refine own_seq (g' := mkF m 25 #[.val (.ref r), .val (.int v1_26), .val (.int v2_46), .val (.int (1 : Int32))] [(.int vs0_25_2), (.int v1_26)]) (fun J25_2 => ?_) ?_
  · refine own_lcmp_ne (pt := 24) (pf := 20) C d1_16 rfl d1_17 (by decide) (by decide) rfl ?_ ?_
    · intro hc16_2
      refine own_iconst (pc' := 25) (v := (0 : Int32)) C d1_24 own_ki_0 rfl ?_
      exact own_cast (by simp only [hvs0_25_2, if_neg hc16_2]) (J25_2)
    · intro hc16_2
      refine own_iconst (pc' := 21) (v := (1 : Int32)) C d1_20 own_ki_1 rfl ?_
      refine own_goto (pc' := 25) C d1_21 (by decide) (by decide) ?_
      exact own_cast (by simp only [hvs0_25_2, if_pos hc16_2]) (J25_2)
  refine own_iand (pc' := 26) C d1_25 rfl rfl ?_
  obtain ⟨v1_26_2, hv1_26_2⟩ : ∃ z : Int32, z = (v1_26 &&& vs0_25_2) := ⟨_, rfl⟩
  refine own_istoreN (pc' := 27) (y := v1_26_2) (Ls' := #[.val (.ref r), .val (.int v1_26_2), .val (.int v2_46), .val (.int (1 : Int32))]) C d1_26 hv1_26_2.symm rfl rfl ?_
  refine own_iloadN (pc' := 28) C d1_27 rfl rfl ?_
  refine own_aloadN (pc' := 29) C d1_28 rfl rfl rfl ?_
  refine own_iloadN (pc' := 30) C d1_29 rfl rfl ?_
  refine own_laload (pc' := 31) (v := r1_) (i := 1) C d1_30 A_r (by decide) rfl rfl rfl ?_
  refine own_getstatic (pc' := 34) C d1_31 (hw _ (List.mem_of_getElem? (i := 12) rfl)) S_q rfl ?_
  refine own_iloadN (pc' := 35) C d1_34 rfl rfl ?_
  refine own_laload (pc' := 36) (v := (17592186044415 : Int64)) (i := 1) C d1_35 A_q (by decide) rfl rfl rfl ?_
  obtain ⟨vs0_45_2, hvs0_45_2⟩ : ∃ z : Int32, z = (if r1_ = (17592186044415 : Int64) then (1 : Int32) else (0 : Int32)) := ⟨_, rfl⟩
  have hzvs0_45_2 : vs0_45_2 = 0 ∨ vs0_45_2 = 1 := by rw [hvs0_45_2]; repeat (first | exact Or.inl rfl | exact Or.inr rfl | split)
  refine own_seq (g' := mkF m 45 #[.val (.ref r), .val (.int v1_26_2), .val (.int v2_46), .val (.int (1 : Int32))] [(.int vs0_45_2), (.int v2_46)]) (fun J45_2 => ?_) ?_
  · refine own_lcmp_ne (pt := 44) (pf := 40) C d1_36 rfl d1_37 (by decide) (by decide) rfl ?_ ?_
    · intro hc36_2
      refine own_iconst (pc' := 45) (v := (0 : Int32)) C d1_44 own_ki_0 rfl ?_
      exact own_cast (by simp only [hvs0_45_2, if_neg hc36_2]) (J45_2)
    · intro hc36_2
      refine own_iconst (pc' := 41) (v := (1 : Int32)) C d1_40 own_ki_1 rfl ?_
      refine own_goto (pc' := 45) C d1_41 (by decide) (by decide) ?_
      exact own_cast (by simp only [hvs0_45_2, if_pos hc36_2]) (J45_2)
  refine own_iand (pc' := 46) C d1_45 rfl rfl ?_
  obtain ⟨v2_46_2, hv2_46_2⟩ : ∃ z : Int32, z = (v2_46 &&& vs0_45_2) := ⟨_, rfl⟩
  refine own_istoreN (pc' := 47) (y := v2_46_2) (Ls' := #[.val (.ref r), .val (.int v1_26_2), .val (.int v2_46_2), .val (.int (1 : Int32))]) C d1_46 hv2_46_2.symm rfl rfl ?_
  refine own_iinc (pc' := 50) (v := (2 : Int32)) (Ls' := #[.val (.ref r), .val (.int v1_26_2), .val (.int v2_46_2), .val (.int (2 : Int32))]) C d1_47 rfl (by decide) rfl rfl ?_
  refine own_goto (pc' := 6) C d1_50 (by decide) (by decide) ?_
  refine own_iloadN (pc' := 7) C d1_6 rfl rfl ?_
  refine own_iconst (pc' := 8) (v := (5 : Int32)) C d1_7 own_ki_5 rfl ?_
  refine own_icmp_ge (pt := 53) (pf := 11) C d1_8 (by decide) (by decide) rfl (fun q => absurd (by decide) q) (fun _ => ?_)
  refine own_iloadN (pc' := 12) C d1_11 rfl rfl ?_
  refine own_aloadN (pc' := 13) C d1_12 rfl rfl rfl ?_
  refine own_iloadN (pc' := 14) C d1_13 rfl rfl ?_
  refine own_laload (pc' := 15) (v := r2_) (i := 2) C d1_14 A_r (by decide) rfl rfl rfl ?_
  refine own_lconst (pc' := 16) (v := (0 : Int64)) C d1_15 (by decide) rfl ?_
  obtain ⟨vs0_25_3, hvs0_25_3⟩ : ∃ z : Int32, z = (if r2_ = (0 : Int64) then (1 : Int32) else (0 : Int32)) := ⟨_, rfl⟩
  have hzvs0_25_3 : vs0_25_3 = 0 ∨ vs0_25_3 = 1 := by rw [hvs0_25_3]; repeat (first | exact Or.inl rfl | exact Or.inr rfl | split)
  refine own_seq (g' := mkF m 25 #[.val (.ref r), .val (.int v1_26_2), .val (.int v2_46_2), .val (.int (2 : Int32))] [(.int vs0_25_3), (.int v1_26_2)]) (fun J25_3 => ?_) ?_
  · refine own_lcmp_ne (pt := 24) (pf := 20) C d1_16 rfl d1_17 (by decide) (by decide) rfl ?_ ?_
    · intro hc16_3
      refine own_iconst (pc' := 25) (v := (0 : Int32)) C d1_24 own_ki_0 rfl ?_
      exact own_cast (by simp only [hvs0_25_3, if_neg hc16_3]) (J25_3)
    · intro hc16_3
      refine own_iconst (pc' := 21) (v := (1 : Int32)) C d1_20 own_ki_1 rfl ?_
      refine own_goto (pc' := 25) C d1_21 (by decide) (by decide) ?_
      exact own_cast (by simp only [hvs0_25_3, if_pos hc16_3]) (J25_3)
  refine own_iand (pc' := 26) C d1_25 rfl rfl ?_
  obtain ⟨v1_26_3, hv1_26_3⟩ : ∃ z : Int32, z = (v1_26_2 &&& vs0_25_3) := ⟨_, rfl⟩
  refine own_istoreN (pc' := 27) (y := v1_26_3) (Ls' := #[.val (.ref r), .val (.int v1_26_3), .val (.int v2_46_2), .val (.int (2 : Int32))]) C d1_26 hv1_26_3.symm rfl rfl ?_
  refine own_iloadN (pc' := 28) C d1_27 rfl rfl ?_
  refine own_aloadN (pc' := 29) C d1_28 rfl rfl rfl ?_
  refine own_iloadN (pc' := 30) C d1_29 rfl rfl ?_
  refine own_laload (pc' := 31) (v := r2_) (i := 2) C d1_30 A_r (by decide) rfl rfl rfl ?_
  refine own_getstatic (pc' := 34) C d1_31 (hw _ (List.mem_of_getElem? (i := 12) rfl)) S_q rfl ?_
  refine own_iloadN (pc' := 35) C d1_34 rfl rfl ?_
  refine own_laload (pc' := 36) (v := (0 : Int64)) (i := 2) C d1_35 A_q (by decide) rfl rfl rfl ?_
  obtain ⟨vs0_45_3, hvs0_45_3⟩ : ∃ z : Int32, z = (if r2_ = (0 : Int64) then (1 : Int32) else (0 : Int32)) := ⟨_, rfl⟩
  have hzvs0_45_3 : vs0_45_3 = 0 ∨ vs0_45_3 = 1 := by rw [hvs0_45_3]; repeat (first | exact Or.inl rfl | exact Or.inr rfl | split)
  refine own_seq (g' := mkF m 45 #[.val (.ref r), .val (.int v1_26_3), .val (.int v2_46_2), .val (.int (2 : Int32))] [(.int vs0_45_3), (.int v2_46_2)]) (fun J45_3 => ?_) ?_
  · refine own_lcmp_ne (pt := 44) (pf := 40) C d1_36 rfl d1_37 (by decide) (by decide) rfl ?_ ?_
    · intro hc36_3
      refine own_iconst (pc' := 45) (v := (0 : Int32)) C d1_44 own_ki_0 rfl ?_
      exact own_cast (by simp only [hvs0_45_3, if_neg hc36_3]) (J45_3)
    · intro hc36_3
      refine own_iconst (pc' := 41) (v := (1 : Int32)) C d1_40 own_ki_1 rfl ?_
      refine own_goto (pc' := 45) C d1_41 (by decide) (by decide) ?_
      exact own_cast (by simp only [hvs0_45_3, if_pos hc36_3]) (J45_3)
  refine own_iand (pc' := 46) C d1_45 rfl rfl ?_
  obtain ⟨v2_46_3, hv2_46_3⟩ : ∃ z : Int32, z = (v2_46_2 &&& vs0_45_3) := ⟨_, rfl⟩
  refine own_istoreN (pc' := 47) (y := v2_46_3) (Ls' := #[.val (.ref r), .val (.int v1_26_3), .val (.int v2_46_3), .val (.int (2 : Int32))]) C d1_46 hv2_46_3.symm rfl rfl ?_
  refine own_iinc (pc' := 50) (v := (3 : Int32)) (Ls' := #[.val (.ref r), .val (.int v1_26_3), .val (.int v2_46_3), .val (.int (3 : Int32))]) C d1_47 rfl (by decide) rfl rfl ?_
  refine own_goto (pc' := 6) C d1_50 (by decide) (by decide) ?_
  refine own_iloadN (pc' := 7) C d1_6 rfl rfl ?_
  refine own_iconst (pc' := 8) (v := (5 : Int32)) C d1_7 own_ki_5 rfl ?_
  refine own_icmp_ge (pt := 53) (pf := 11) C d1_8 (by decide) (by decide) rfl (fun q => absurd (by decide) q) (fun _ => ?_)
  refine own_iloadN (pc' := 12) C d1_11 rfl rfl ?_
  refine own_aloadN (pc' := 13) C d1_12 rfl rfl rfl ?_
  refine own_iloadN (pc' := 14) C d1_13 rfl rfl ?_
  refine own_laload (pc' := 15) (v := r3_) (i := 3) C d1_14 A_r (by decide) rfl rfl rfl ?_
  refine own_lconst (pc' := 16) (v := (0 : Int64)) C d1_15 (by decide) rfl ?_
  obtain ⟨vs0_25_4, hvs0_25_4⟩ : ∃ z : Int32, z = (if r3_ = (0 : Int64) then (1 : Int32) else (0 : Int32)) := ⟨_, rfl⟩
  have hzvs0_25_4 : vs0_25_4 = 0 ∨ vs0_25_4 = 1 := by rw [hvs0_25_4]; repeat (first | exact Or.inl rfl | exact Or.inr rfl | split)
  refine own_seq (g' := mkF m 25 #[.val (.ref r), .val (.int v1_26_3), .val (.int v2_46_3), .val (.int (3 : Int32))] [(.int vs0_25_4), (.int v1_26_3)]) (fun J25_4 => ?_) ?_
  · refine own_lcmp_ne (pt := 24) (pf := 20) C d1_16 rfl d1_17 (by decide) (by decide) rfl ?_ ?_
    · intro hc16_4
      refine own_iconst (pc' := 25) (v := (0 : Int32)) C d1_24 own_ki_0 rfl ?_
      exact own_cast (by simp only [hvs0_25_4, if_neg hc16_4]) (J25_4)
    · intro hc16_4
      refine own_iconst (pc' := 21) (v := (1 : Int32)) C d1_20 own_ki_1 rfl ?_
      refine own_goto (pc' := 25) C d1_21 (by decide) (by decide) ?_
      exact own_cast (by simp only [hvs0_25_4, if_pos hc16_4]) (J25_4)
  refine own_iand (pc' := 26) C d1_25 rfl rfl ?_
  obtain ⟨v1_26_4, hv1_26_4⟩ : ∃ z : Int32, z = (v1_26_3 &&& vs0_25_4) := ⟨_, rfl⟩
  refine own_istoreN (pc' := 27) (y := v1_26_4) (Ls' := #[.val (.ref r), .val (.int v1_26_4), .val (.int v2_46_3), .val (.int (3 : Int32))]) C d1_26 hv1_26_4.symm rfl rfl ?_
  refine own_iloadN (pc' := 28) C d1_27 rfl rfl ?_
  refine own_aloadN (pc' := 29) C d1_28 rfl rfl rfl ?_
  refine own_iloadN (pc' := 30) C d1_29 rfl rfl ?_
  refine own_laload (pc' := 31) (v := r3_) (i := 3) C d1_30 A_r (by decide) rfl rfl rfl ?_
  refine own_getstatic (pc' := 34) C d1_31 (hw _ (List.mem_of_getElem? (i := 12) rfl)) S_q rfl ?_
  refine own_iloadN (pc' := 35) C d1_34 rfl rfl ?_
  refine own_laload (pc' := 36) (v := (68719476736 : Int64)) (i := 3) C d1_35 A_q (by decide) rfl rfl rfl ?_
  obtain ⟨vs0_45_4, hvs0_45_4⟩ : ∃ z : Int32, z = (if r3_ = (68719476736 : Int64) then (1 : Int32) else (0 : Int32)) := ⟨_, rfl⟩
  have hzvs0_45_4 : vs0_45_4 = 0 ∨ vs0_45_4 = 1 := by rw [hvs0_45_4]; repeat (first | exact Or.inl rfl | exact Or.inr rfl | split)
  refine own_seq (g' := mkF m 45 #[.val (.ref r), .val (.int v1_26_4), .val (.int v2_46_3), .val (.int (3 : Int32))] [(.int vs0_45_4), (.int v2_46_3)]) (fun J45_4 => ?_) ?_
  · refine own_lcmp_ne (pt := 44) (pf := 40) C d1_36 rfl d1_37 (by decide) (by decide) rfl ?_ ?_
    · intro hc36_4
      refine own_iconst (pc' := 45) (v := (0 : Int32)) C d1_44 own_ki_0 rfl ?_
      exact own_cast (by simp only [hvs0_45_4, if_neg hc36_4]) (J45_4)
    · intro hc36_4
      refine own_iconst (pc' := 41) (v := (1 : Int32)) C d1_40 own_ki_1 rfl ?_
      refine own_goto (pc' := 45) C d1_41 (by decide) (by decide) ?_
      exact own_cast (by simp only [hvs0_45_4, if_pos hc36_4]) (J45_4)
  refine own_iand (pc' := 46) C d1_45 rfl rfl ?_
  obtain ⟨v2_46_4, hv2_46_4⟩ : ∃ z : Int32, z = (v2_46_3 &&& vs0_45_4) := ⟨_, rfl⟩
  refine own_istoreN (pc' := 47) (y := v2_46_4) (Ls' := #[.val (.ref r), .val (.int v1_26_4), .val (.int v2_46_4), .val (.int (3 : Int32))]) C d1_46 hv2_46_4.symm rfl rfl ?_
  refine own_iinc (pc' := 50) (v := (4 : Int32)) (Ls' := #[.val (.ref r), .val (.int v1_26_4), .val (.int v2_46_4), .val (.int (4 : Int32))]) C d1_47 rfl (by decide) rfl rfl ?_
  refine own_goto (pc' := 6) C d1_50 (by decide) (by decide) ?_
  refine own_iloadN (pc' := 7) C d1_6 rfl rfl ?_
  refine own_iconst (pc' := 8) (v := (5 : Int32)) C d1_7 own_ki_5 rfl ?_
  refine own_icmp_ge (pt := 53) (pf := 11) C d1_8 (by decide) (by decide) rfl (fun q => absurd (by decide) q) (fun _ => ?_)
  refine own_iloadN (pc' := 12) C d1_11 rfl rfl ?_
  refine own_aloadN (pc' := 13) C d1_12 rfl rfl rfl ?_
  refine own_iloadN (pc' := 14) C d1_13 rfl rfl ?_
  refine own_laload (pc' := 15) (v := r4_) (i := 4) C d1_14 A_r (by decide) rfl rfl rfl ?_
  refine own_lconst (pc' := 16) (v := (0 : Int64)) C d1_15 (by decide) rfl ?_
  obtain ⟨vs0_25_5, hvs0_25_5⟩ : ∃ z : Int32, z = (if r4_ = (0 : Int64) then (1 : Int32) else (0 : Int32)) := ⟨_, rfl⟩
  have hzvs0_25_5 : vs0_25_5 = 0 ∨ vs0_25_5 = 1 := by rw [hvs0_25_5]; repeat (first | exact Or.inl rfl | exact Or.inr rfl | split)
  refine own_seq (g' := mkF m 25 #[.val (.ref r), .val (.int v1_26_4), .val (.int v2_46_4), .val (.int (4 : Int32))] [(.int vs0_25_5), (.int v1_26_4)]) (fun J25_5 => ?_) ?_
  · refine own_lcmp_ne (pt := 24) (pf := 20) C d1_16 rfl d1_17 (by decide) (by decide) rfl ?_ ?_
    · intro hc16_5
      refine own_iconst (pc' := 25) (v := (0 : Int32)) C d1_24 own_ki_0 rfl ?_
      exact own_cast (by simp only [hvs0_25_5, if_neg hc16_5]) (J25_5)
    · intro hc16_5
      refine own_iconst (pc' := 21) (v := (1 : Int32)) C d1_20 own_ki_1 rfl ?_
      refine own_goto (pc' := 25) C d1_21 (by decide) (by decide) ?_
      exact own_cast (by simp only [hvs0_25_5, if_pos hc16_5]) (J25_5)
  refine own_iand (pc' := 26) C d1_25 rfl rfl ?_
  obtain ⟨v1_26_5, hv1_26_5⟩ : ∃ z : Int32, z = (v1_26_4 &&& vs0_25_5) := ⟨_, rfl⟩
  refine own_istoreN (pc' := 27) (y := v1_26_5) (Ls' := #[.val (.ref r), .val (.int v1_26_5), .val (.int v2_46_4), .val (.int (4 : Int32))]) C d1_26 hv1_26_5.symm rfl rfl ?_
  refine own_iloadN (pc' := 28) C d1_27 rfl rfl ?_
  refine own_aloadN (pc' := 29) C d1_28 rfl rfl rfl ?_
  refine own_iloadN (pc' := 30) C d1_29 rfl rfl ?_
  refine own_laload (pc' := 31) (v := r4_) (i := 4) C d1_30 A_r (by decide) rfl rfl rfl ?_
  refine own_getstatic (pc' := 34) C d1_31 (hw _ (List.mem_of_getElem? (i := 12) rfl)) S_q rfl ?_
  refine own_iloadN (pc' := 35) C d1_34 rfl rfl ?_
  refine own_laload (pc' := 36) (v := (281474976645120 : Int64)) (i := 4) C d1_35 A_q (by decide) rfl rfl rfl ?_
  obtain ⟨vs0_45_5, hvs0_45_5⟩ : ∃ z : Int32, z = (if r4_ = (281474976645120 : Int64) then (1 : Int32) else (0 : Int32)) := ⟨_, rfl⟩
  have hzvs0_45_5 : vs0_45_5 = 0 ∨ vs0_45_5 = 1 := by rw [hvs0_45_5]; repeat (first | exact Or.inl rfl | exact Or.inr rfl | split)
  refine own_seq (g' := mkF m 45 #[.val (.ref r), .val (.int v1_26_5), .val (.int v2_46_4), .val (.int (4 : Int32))] [(.int vs0_45_5), (.int v2_46_4)]) (fun J45_5 => ?_) ?_
  · refine own_lcmp_ne (pt := 44) (pf := 40) C d1_36 rfl d1_37 (by decide) (by decide) rfl ?_ ?_
    · intro hc36_5
      refine own_iconst (pc' := 45) (v := (0 : Int32)) C d1_44 own_ki_0 rfl ?_
      exact own_cast (by simp only [hvs0_45_5, if_neg hc36_5]) (J45_5)
    · intro hc36_5
      refine own_iconst (pc' := 41) (v := (1 : Int32)) C d1_40 own_ki_1 rfl ?_
      refine own_goto (pc' := 45) C d1_41 (by decide) (by decide) ?_
      exact own_cast (by simp only [hvs0_45_5, if_pos hc36_5]) (J45_5)
  refine own_iand (pc' := 46) C d1_45 rfl rfl ?_
  obtain ⟨v2_46_5, hv2_46_5⟩ : ∃ z : Int32, z = (v2_46_4 &&& vs0_45_5) := ⟨_, rfl⟩
  refine own_istoreN (pc' := 47) (y := v2_46_5) (Ls' := #[.val (.ref r), .val (.int v1_26_5), .val (.int v2_46_5), .val (.int (4 : Int32))]) C d1_46 hv2_46_5.symm rfl rfl ?_
  refine own_iinc (pc' := 50) (v := (5 : Int32)) (Ls' := #[.val (.ref r), .val (.int v1_26_5), .val (.int v2_46_5), .val (.int (5 : Int32))]) C d1_47 rfl (by decide) rfl rfl ?_
  refine own_goto (pc' := 6) C d1_50 (by decide) (by decide) ?_
  refine own_iloadN (pc' := 7) C d1_6 rfl rfl ?_
  refine own_iconst (pc' := 8) (v := (5 : Int32)) C d1_7 own_ki_5 rfl ?_
  refine own_icmp_ge (pt := 53) (pf := 11) C d1_8 (by decide) (by decide) rfl (fun _ => ?_) (fun q => absurd q (by decide))
  refine own_iloadN (pc' := 54) C d1_53 rfl rfl ?_
  obtain ⟨vs_66, hvs_66⟩ : ∃ z : Int32, z = (if v1_26_5 = 0 then (if v2_46_5 = 0 then (0 : Int32) else (1 : Int32)) else (1 : Int32)) := ⟨_, rfl⟩
  have hzvs_66 : vs_66 = 0 ∨ vs_66 = 1 := by rw [hvs_66]; repeat (first | exact Or.inl rfl | exact Or.inr rfl | split)
  refine own_seq (g' := mkF m 66 #[.val (.ref r), .val (.int v1_26_5), .val (.int v2_46_5), .val (.int (5 : Int32))] [(.int vs_66)]) (fun J66 => ?_) ?_
  · refine own_if_ne (pt := 61) (pf := 57) C d1_54 (by decide) (by decide) rfl ?_ ?_
    · intro hc54
      refine own_iconst (pc' := 62) (v := (1 : Int32)) C d1_61 own_ki_1 rfl ?_
      refine own_goto (pc' := 66) C d1_62 (by decide) (by decide) ?_
      exact own_cast (by simp only [hvs_66, if_neg hc54]) (J66)
    · intro hc54
      refine own_iloadN (pc' := 58) C d1_57 rfl rfl ?_
      refine own_if_eq (pt := 65) (pf := 61) C d1_58 (by decide) (by decide) rfl ?_ ?_
      · intro hc58
        refine own_iconst (pc' := 66) (v := (0 : Int32)) C d1_65 own_ki_0 rfl ?_
        exact own_cast (by simp only [hvs_66, if_pos hc54, if_pos hc58]) (J66)
      · intro hc58
        refine own_iconst (pc' := 62) (v := (1 : Int32)) C d1_61 own_ki_1 rfl ?_
        refine own_goto (pc' := 66) C d1_62 (by decide) (by decide) ?_
        exact own_cast (by simp only [hvs_66, if_pos hc54, if_neg hc58]) (J66)
  refine own_zret C d1_66 (by decide) (by decide) hzvs_66 ?_
  refine ⟨?_, rfl⟩
  simp only [hvs0_25, hv1_26, hvs0_45, hv2_46, hvs0_25_2, hv1_26_2, hvs0_45_2, hv2_46_2, hvs0_25_3, hv1_26_3, hvs0_45_3, hv2_46_3, hvs0_25_4, hv1_26_4, hvs0_45_4, hv2_46_4, hvs0_25_5, hv1_26_5, hvs0_45_5, hv2_46_5, hvs_66, own_b1, own_band, own_bor, own_isz, and_assoc]

theorem own_plain {r0 r1 r2 r3 r4 : Int64} {z q r : Int32} (hz : z = (if r0 = (0 : Int64) then (if r1 = (0 : Int64) then (if r2 = (0 : Int64) then (if r3 = (0 : Int64) then (if r4 = (0 : Int64) then (1 : Int32) else (0 : Int32)) else (0 : Int32)) else (0 : Int32)) else (0 : Int32)) else (0 : Int32)))
    (hq : q = (if r0 = (4503599627370495 : Int64) then (if r1 = (17592186044415 : Int64) then (if r2 = (0 : Int64) then (if r3 = (68719476736 : Int64) then (if r4 = (281474976645120 : Int64) then (1 : Int32) else (0 : Int32)) else (0 : Int32)) else (0 : Int32)) else (0 : Int32)) else (0 : Int32)))
    (hr : r = (if z = 0 then (if q = 0 then (0 : Int32) else (1 : Int32)) else (1 : Int32))) : own_isz r0 r1 r2 r3 r4 = r := by
  have an : ∀ (P : Prop) [Decidable P] (Q : Prop) [Decidable Q], (if P then (if Q then (1 : Int32) else 0) else 0) = if (P ∧ Q) then 1 else 0 := fun P _ Q _ => by by_cases p : P <;> by_cases q : Q <;> simp [p, q]
  rw [hr, hz, hq, own_isz]
  simp only [an]
  rw [own_bor]
theorem own_static {s : State} {args : Array Value} {q : Addr} {t : Term} (ev : t.eval args s none [] s = some (.ref q)) (n1 : (Jvm.Cond.arrayOf t .long).value args s none s [] = some true) (n2 : (Jvm.Cond.eq (.length t) (.int 5)).value args s none s [] = some true)
    {c0 c1 c2 c3 c4 : Int64} (e0 : (Jvm.Cond.eq (.elem t (.int 0)) (.long c0)).value args s none s [] = some true) (e1 : (Jvm.Cond.eq (.elem t (.int 1)) (.long c1)).value args s none s [] = some true) (e2 : (Jvm.Cond.eq (.elem t (.int 2)) (.long c2)).value args s none s [] = some true) (e3 : (Jvm.Cond.eq (.elem t (.int 3)) (.long c3)).value args s none s [] = some true) (e4 : (Jvm.Cond.eq (.elem t (.int 4)) (.long c4)).value args s none s [] = some true) : AJ s s.heap q [c0, c1, c2, c3, c4] := by
  obtain ⟨cl, A⟩ := Arr.start ev n1
  have el : ∀ {j : Int32} {c : Int64}, (Jvm.Cond.eq (.elem t (.int j)) (.long c)).value args s none s [] = some true → cl.slots[j.toNatClampNeg]? = some (.long c) := fun {j c} h => by
    obtain ⟨x, y, h1, h2, k1, k2⟩ := cmp_v (Or.inl h)
    cases h2
    obtain ⟨z, rfl⟩ := k2
    have h3 := (elem_in h1 ev rfl A.1).2
    rw [h3, gotT (eq_L h1 rfl) h]
  have hl : cl.slots.size = 5 := by
    obtain ⟨x, y, h1, h2, k1, k2⟩ := cmp_v (Or.inl n2)
    cases h2
    obtain ⟨z, rfl⟩ := k2
    have h5 := h1
    obtain ⟨a', cell, g1, g2, g0⟩ := Term.length_spec h1
    have h4 := gotT (Cond.eq_ints h1 rfl) n2
    cases ev.symm.trans g1
    have g3 := A.fin (Vm.Alike.refl _)
    cases g3.symm.trans g2
    by_cases hs : cl.slots.size < 2 ^ 31
    · have := len_toInt hs
      have h6 : cl.slots.size.toInt32 = 5 := by rw [← h4]; exact (Value.int.inj g0).symm
      rw [h6] at this
      have k5 : (5 : Int32).toInt = 5 := rfl
      omega
    · simp [Term.eval, ev, g2, hs] at h5
  refine ⟨cl, A, ?_, by simp⟩
  have f0 := el e0; have f1 := el e1; have f2 := el e2; have f3 := el e3; have f4 := el e4
  rw [show (0 : Int32).toNatClampNeg = 0 from rfl] at f0
  rw [show (1 : Int32).toNatClampNeg = 1 from rfl] at f1
  rw [show (2 : Int32).toNatClampNeg = 2 from rfl] at f2
  rw [show (3 : Int32).toNatClampNeg = 3 from rfl] at f3
  rw [show (4 : Int32).toNatClampNeg = 4 from rfl] at f4
  apply Array.ext'
  simp only [List.map]
  rw [← Array.getElem?_toList] at f0 f1 f2 f3 f4
  rw [← Array.length_toList] at hl
  generalize cl.slots.toList = L at *
  match L, hl with
  | [x0, x1, x2, x3, x4], _ => simp at f0 f1 f2 f3 f4; rw [f0, f1, f2, f3, f4]

theorem pn0 : plainName "com/example/libsworn/libsworn/P256FieldIsZeroPinLaw" = true := by first | (simp [plainName, overriddenIn]; done) | decide +kernel
theorem ef0 (m : MethodId) (x0 : Int32) (x1 : Int64) (x2 : Int64) (x3 : Int64) (x4 : Int64) (x5 : Int64) : entryFrame m #[(.int x0), (.long x1), (.long x2), (.long x3), (.long x4), (.long x5)] maxLocals = mkF m 0 #[.val (.int x0), .val (.long x1), .second, .val (.long x2), .second, .val (.long x3), .second, .val (.long x4), .second, .val (.long x5), .second, .unset, .unset, .unset, .unset, .unset, .unset, .unset, .unset, .unset, .unset, .unset, .unset, .unset, .unset, .unset, .unset, .unset, .unset, .unset, .unset, .unset, .unset, .unset, .unset, .unset, .unset, .unset, .unset, .unset] [] := by first | (simp [entryFrame, mkF, argsToLocals, Value.category, maxLocals]; done) | rfl
theorem pd1 : parseMethodDescriptor "([J)Z" = some ⟨[(.array .long)], some .boolean⟩ := by decide +kernel
theorem own_kb_32 : (Int8.ofInt (32)).toInt32 = (32 : Int32) := by decide
theorem own_ki_2 : Int32.ofInt (2) = (2 : Int32) := by decide
theorem own_ki_4 : Int32.ofInt (4) = (4 : Int32) := by decide
theorem own_ki_3 : Int32.ofInt (3) = (3 : Int32) := by decide
theorem own_kb_8 : (Int8.ofInt (8)).toInt32 = (8 : Int32) := by decide
theorem own_kb_16 : (Int8.ofInt (16)).toInt32 = (16 : Int32) := by decide
set_option maxRecDepth 65536 in
set_option maxHeartbeats 40000000 in
theorem own_law (l : Launch) (Z : State) (a0 : Array Value) (hw : ∀ d ∈ tables_1, d.before a0 Z = true) (ws : List Jvm.Cond) (p0 : Int32) (p1 : Int64) (p2 : Int64) (p3 : Int64) (p4 : Int64) (p5 : Int64) (q : Addr) (h0 : Heap) (n0 : Nat) (Z_ : n0 ≤ h0.size) (A_q : AJ Z h0 q [(4503599627370495 : Int64), (17592186044415 : Int64), (0 : Int64), (68719476736 : Int64), (281474976645120 : Int64)]) (S_q : Sta Z h0 "com/example/libsworn/libsworn/P256Field" "PRIME_LIMBS" "[J" (.ref q)) :
    Met l x code maxLocals ret ws room_1 Z n0 #[(.int p0), (.long p1), (.long p2), (.long p3), (.long p4), (.long p5)] h0 (fun v h => v = some (.int 1)) := by
  refine own_met pn0 (fun m => ef0 m p0 p1 p2 p3 p4 p5) ?_
  intro p e s m below meth c C0
  have C : Cx p s m meth c Z code 40 (some .boolean) "com/example/libsworn/libsworn/P256FieldIsZeroPinLaw" "law" := C0
  refine own_ldc2 (pc' := 3) (v := (4503599627370495 : Int64)) C at_0 (hw _ (List.mem_of_getElem? (i := 0) rfl)) rfl ?_
  refine own_lstore (pc' := 5) (y := (4503599627370495 : Int64)) (Ls' := #[.val (.int p0), .val (.long p1), .second, .val (.long p2), .second, .val (.long p3), .second, .val (.long p4), .second, .val (.long p5), .second, .val (.long (4503599627370495 : Int64)), .second, .unset, .unset, .unset, .unset, .unset, .unset, .unset, .unset, .unset, .unset, .unset, .unset, .unset, .unset, .unset, .unset, .unset, .unset, .unset, .unset, .unset, .unset, .unset, .unset, .unset, .unset, .unset]) C at_3 rfl rfl rfl ?_
  refine own_iloadN (pc' := 6) C at_5 rfl rfl ?_
  refine own_bipush (pc' := 8) (v := (32 : Int32)) C at_6 own_kb_32 rfl ?_
  refine own_iand (pc' := 9) C at_8 rfl rfl ?_
  obtain ⟨vs_17, hvs_17⟩ : ∃ z : Int32, z = (if (p0 &&& (32 : Int32)) = 0 then (0 : Int32) else (1 : Int32)) := ⟨_, rfl⟩
  have hzvs_17 : vs_17 = 0 ∨ vs_17 = 1 := by rw [hvs_17]; repeat (first | exact Or.inl rfl | exact Or.inr rfl | split)
  refine own_seq (g' := mkF m 17 #[.val (.int p0), .val (.long p1), .second, .val (.long p2), .second, .val (.long p3), .second, .val (.long p4), .second, .val (.long p5), .second, .val (.long (4503599627370495 : Int64)), .second, .unset, .unset, .unset, .unset, .unset, .unset, .unset, .unset, .unset, .unset, .unset, .unset, .unset, .unset, .unset, .unset, .unset, .unset, .unset, .unset, .unset, .unset, .unset, .unset, .unset, .unset, .unset] [(.int vs_17)]) (fun J17 => ?_) ?_
  · refine own_if_eq (pt := 16) (pf := 12) C at_9 (by decide) (by decide) rfl ?_ ?_
    · intro hc9
      refine own_iconst (pc' := 17) (v := (0 : Int32)) C at_16 own_ki_0 rfl ?_
      exact own_cast (by simp only [hvs_17, if_pos hc9]) (J17)
    · intro hc9
      refine own_iconst (pc' := 13) (v := (1 : Int32)) C at_12 own_ki_1 rfl ?_
      refine own_goto (pc' := 17) C at_13 (by decide) (by decide) ?_
      exact own_cast (by simp only [hvs_17, if_neg hc9]) (J17)
  refine own_istore (pc' := 19) (y := vs_17) (Ls' := #[.val (.int p0), .val (.long p1), .second, .val (.long p2), .second, .val (.long p3), .second, .val (.long p4), .second, .val (.long p5), .second, .val (.long (4503599627370495 : Int64)), .second, .val (.int vs_17), .unset, .unset, .unset, .unset, .unset, .unset, .unset, .unset, .unset, .unset, .unset, .unset, .unset, .unset, .unset, .unset, .unset, .unset, .unset, .unset, .unset, .unset, .unset, .unset, .unset, .unset]) C at_17 rfl rfl rfl ?_
  refine own_ldc2 (pc' := 22) (v := (4503599627370495 : Int64)) C at_19 (hw _ (List.mem_of_getElem? (i := 0) rfl)) rfl ?_
  refine own_lstore (pc' := 24) (y := (4503599627370495 : Int64)) (Ls' := #[.val (.int p0), .val (.long p1), .second, .val (.long p2), .second, .val (.long p3), .second, .val (.long p4), .second, .val (.long p5), .second, .val (.long (4503599627370495 : Int64)), .second, .val (.int vs_17), .val (.long (4503599627370495 : Int64)), .second, .unset, .unset, .unset, .unset, .unset, .unset, .unset, .unset, .unset, .unset, .unset, .unset, .unset, .unset, .unset, .unset, .unset, .unset, .unset, .unset, .unset, .unset, .unset, .unset]) C at_22 rfl rfl rfl ?_
  refine own_ldc2 (pc' := 27) (v := (17592186044415 : Int64)) C at_24 (hw _ (List.mem_of_getElem? (i := 1) rfl)) rfl ?_
  refine own_lstore (pc' := 29) (y := (17592186044415 : Int64)) (Ls' := #[.val (.int p0), .val (.long p1), .second, .val (.long p2), .second, .val (.long p3), .second, .val (.long p4), .second, .val (.long p5), .second, .val (.long (4503599627370495 : Int64)), .second, .val (.int vs_17), .val (.long (4503599627370495 : Int64)), .second, .val (.long (17592186044415 : Int64)), .second, .unset, .unset, .unset, .unset, .unset, .unset, .unset, .unset, .unset, .unset, .unset, .unset, .unset, .unset, .unset, .unset, .unset, .unset, .unset, .unset, .unset, .unset]) C at_27 rfl rfl rfl ?_
  refine own_lconst (pc' := 30) (v := (0 : Int64)) C at_29 (by decide) rfl ?_
  refine own_lstore (pc' := 32) (y := (0 : Int64)) (Ls' := #[.val (.int p0), .val (.long p1), .second, .val (.long p2), .second, .val (.long p3), .second, .val (.long p4), .second, .val (.long p5), .second, .val (.long (4503599627370495 : Int64)), .second, .val (.int vs_17), .val (.long (4503599627370495 : Int64)), .second, .val (.long (17592186044415 : Int64)), .second, .val (.long (0 : Int64)), .second, .unset, .unset, .unset, .unset, .unset, .unset, .unset, .unset, .unset, .unset, .unset, .unset, .unset, .unset, .unset, .unset, .unset, .unset, .unset, .unset]) C at_30 rfl rfl rfl ?_
  refine own_ldc2 (pc' := 35) (v := (68719476736 : Int64)) C at_32 (hw _ (List.mem_of_getElem? (i := 2) rfl)) rfl ?_
  refine own_lstore (pc' := 37) (y := (68719476736 : Int64)) (Ls' := #[.val (.int p0), .val (.long p1), .second, .val (.long p2), .second, .val (.long p3), .second, .val (.long p4), .second, .val (.long p5), .second, .val (.long (4503599627370495 : Int64)), .second, .val (.int vs_17), .val (.long (4503599627370495 : Int64)), .second, .val (.long (17592186044415 : Int64)), .second, .val (.long (0 : Int64)), .second, .val (.long (68719476736 : Int64)), .second, .unset, .unset, .unset, .unset, .unset, .unset, .unset, .unset, .unset, .unset, .unset, .unset, .unset, .unset, .unset, .unset, .unset, .unset]) C at_35 rfl rfl rfl ?_
  refine own_ldc2 (pc' := 40) (v := (281474976645120 : Int64)) C at_37 (hw _ (List.mem_of_getElem? (i := 3) rfl)) rfl ?_
  refine own_lstore (pc' := 42) (y := (281474976645120 : Int64)) (Ls' := #[.val (.int p0), .val (.long p1), .second, .val (.long p2), .second, .val (.long p3), .second, .val (.long p4), .second, .val (.long p5), .second, .val (.long (4503599627370495 : Int64)), .second, .val (.int vs_17), .val (.long (4503599627370495 : Int64)), .second, .val (.long (17592186044415 : Int64)), .second, .val (.long (0 : Int64)), .second, .val (.long (68719476736 : Int64)), .second, .val (.long (281474976645120 : Int64)), .second, .unset, .unset, .unset, .unset, .unset, .unset, .unset, .unset, .unset, .unset, .unset, .unset, .unset, .unset, .unset, .unset]) C at_40 rfl rfl rfl ?_
  refine own_lload (pc' := 44) C at_42 rfl rfl ?_
  refine own_ldc2 (pc' := 47) (v := (9223372036854775807 : Int64)) C at_44 (hw _ (List.mem_of_getElem? (i := 4) rfl)) rfl ?_
  refine own_land (pc' := 48) C at_47 rfl rfl ?_
  refine own_ldc2 (pc' := 51) (v := (281475245146112 : Int64)) C at_48 (hw _ (List.mem_of_getElem? (i := 5) rfl)) rfl ?_
  refine own_lrem (pc' := 52) C at_51 (by decide) rfl rfl ?_
  refine own_ldc2 (pc' := 55) (v := (134217728 : Int64)) C at_52 (hw _ (List.mem_of_getElem? (i := 6) rfl)) rfl ?_
  refine own_lsub (pc' := 56) C at_55 rfl rfl ?_
  obtain ⟨v24_56, hv24_56⟩ : ∃ z : Int64, z = (((p5 &&& (9223372036854775807 : Int64)) % (281475245146112 : Int64)) - (134217728 : Int64)) := ⟨_, rfl⟩
  refine own_lstore (pc' := 58) (y := v24_56) (Ls' := #[.val (.int p0), .val (.long p1), .second, .val (.long p2), .second, .val (.long p3), .second, .val (.long p4), .second, .val (.long p5), .second, .val (.long (4503599627370495 : Int64)), .second, .val (.int vs_17), .val (.long (4503599627370495 : Int64)), .second, .val (.long (17592186044415 : Int64)), .second, .val (.long (0 : Int64)), .second, .val (.long (68719476736 : Int64)), .second, .val (.long (281474976645120 : Int64)), .second, .val (.long v24_56), .second, .unset, .unset, .unset, .unset, .unset, .unset, .unset, .unset, .unset, .unset, .unset, .unset, .unset, .unset]) C at_56 hv24_56.symm rfl rfl ?_
  refine own_iconst (pc' := 59) (v := (5 : Int32)) C at_58 own_ki_5 rfl ?_
  refine own_newJ (pc' := 61) (len := 5) (cap := 5) C at_59 (hw _ (List.mem_of_getElem? (i := 7) rfl)) (by decide) rfl (by decide) (by decide) (by decide) (by decide) rfl ?_
  intro h1 b1 g1 X1 A_b1
  have ne_q_b1 : q ≠ b1 := Nat.ne_of_lt (g1 ▸ A_q.lt)
  replace A_q := A_q.ext X1
  replace S_q := S_q.ext X1
  have g_b1 : n0 ≤ b1 := g1 ▸ Z_
  replace Z_ := Nat.le_trans Z_ X1.1
  replace A_b1 : AJ Z h1 b1 [(0 : Int64), (0 : Int64), (0 : Int64), (0 : Int64), (0 : Int64)] := A_b1
  refine own_astore (pc' := 63) (Ls' := #[.val (.int p0), .val (.long p1), .second, .val (.long p2), .second, .val (.long p3), .second, .val (.long p4), .second, .val (.long p5), .second, .val (.long (4503599627370495 : Int64)), .second, .val (.int vs_17), .val (.long (4503599627370495 : Int64)), .second, .val (.long (17592186044415 : Int64)), .second, .val (.long (0 : Int64)), .second, .val (.long (68719476736 : Int64)), .second, .val (.long (281474976645120 : Int64)), .second, .val (.long v24_56), .second, .val (.ref b1), .unset, .unset, .unset, .unset, .unset, .unset, .unset, .unset, .unset, .unset, .unset, .unset, .unset]) C at_61 rfl rfl rfl ?_
  refine own_aload (pc' := 65) C at_63 rfl rfl rfl ?_
  refine own_iconst (pc' := 66) (v := (0 : Int32)) C at_65 own_ki_0 rfl ?_
  refine own_iloadN (pc' := 67) C at_66 rfl rfl ?_
  refine own_iconst (pc' := 68) (v := (1 : Int32)) C at_67 own_ki_1 rfl ?_
  refine own_iand (pc' := 69) C at_68 rfl rfl ?_
  obtain ⟨vs0_90, hvs0_90⟩ : ∃ z : Int64, z = (if (p0 &&& (1 : Int32)) = 0 then (p1 &&& (4503599627370495 : Int64)) else (if vs_17 = 0 then (0 : Int64) else (4503599627370495 : Int64))) := ⟨_, rfl⟩
  refine own_seq (g' := mkF m 90 #[.val (.int p0), .val (.long p1), .second, .val (.long p2), .second, .val (.long p3), .second, .val (.long p4), .second, .val (.long p5), .second, .val (.long (4503599627370495 : Int64)), .second, .val (.int vs_17), .val (.long (4503599627370495 : Int64)), .second, .val (.long (17592186044415 : Int64)), .second, .val (.long (0 : Int64)), .second, .val (.long (68719476736 : Int64)), .second, .val (.long (281474976645120 : Int64)), .second, .val (.long v24_56), .second, .val (.ref b1), .unset, .unset, .unset, .unset, .unset, .unset, .unset, .unset, .unset, .unset, .unset, .unset, .unset] [(.long vs0_90), (.int (0 : Int32)), (.ref b1)]) (fun J90 => ?_) ?_
  · refine own_if_eq (pt := 86) (pf := 72) C at_69 (by decide) (by decide) rfl ?_ ?_
    · intro hc69
      refine own_lloadN (pc' := 87) C at_86 rfl rfl ?_
      refine own_lload (pc' := 89) C at_87 rfl rfl ?_
      refine own_land (pc' := 90) C at_89 rfl rfl ?_
      exact own_cast (by simp only [hvs0_90, if_pos hc69]) (J90)
    · intro hc69
      refine own_iload (pc' := 74) C at_72 rfl rfl ?_
      refine own_if_eq (pt := 82) (pf := 77) C at_74 (by decide) (by decide) rfl ?_ ?_
      · intro hc74
        refine own_lconst (pc' := 83) (v := (0 : Int64)) C at_82 (by decide) rfl ?_
        refine own_goto (pc' := 90) C at_83 (by decide) (by decide) ?_
        exact own_cast (by simp only [hvs0_90, if_neg hc69, if_pos hc74]) (J90)
      · intro hc74
        refine own_lload (pc' := 79) C at_77 rfl rfl ?_
        refine own_goto (pc' := 90) C at_79 (by decide) (by decide) ?_
        exact own_cast (by simp only [hvs0_90, if_neg hc69, if_neg hc74]) (J90)
  refine own_lastore (pc' := 91) (i := 0) (ys := [vs0_90, (0 : Int64), (0 : Int64), (0 : Int64), (0 : Int64)]) C at_90 A_b1 (by decide) rfl (Nat.le_of_ble_eq_true rfl) rfl g_b1 rfl ?_
  intro h2 W2 A2_
  replace A_q := A_q.other W2 ne_q_b1
  replace S_q := S_q.wr W2
  replace A_b1 := A2_
  replace Z_ : n0 ≤ _ := Nat.le_trans Z_ (Nat.le_of_eq W2.size.symm)
  refine own_aload (pc' := 93) C at_91 rfl rfl rfl ?_
  refine own_iconst (pc' := 94) (v := (1 : Int32)) C at_93 own_ki_1 rfl ?_
  refine own_iloadN (pc' := 95) C at_94 rfl rfl ?_
  refine own_iconst (pc' := 96) (v := (2 : Int32)) C at_95 own_ki_2 rfl ?_
  refine own_iand (pc' := 97) C at_96 rfl rfl ?_
  obtain ⟨vs0_118, hvs0_118⟩ : ∃ z : Int64, z = (if (p0 &&& (2 : Int32)) = 0 then (p2 &&& (4503599627370495 : Int64)) else (if vs_17 = 0 then (0 : Int64) else (17592186044415 : Int64))) := ⟨_, rfl⟩
  refine own_seq (g' := mkF m 118 #[.val (.int p0), .val (.long p1), .second, .val (.long p2), .second, .val (.long p3), .second, .val (.long p4), .second, .val (.long p5), .second, .val (.long (4503599627370495 : Int64)), .second, .val (.int vs_17), .val (.long (4503599627370495 : Int64)), .second, .val (.long (17592186044415 : Int64)), .second, .val (.long (0 : Int64)), .second, .val (.long (68719476736 : Int64)), .second, .val (.long (281474976645120 : Int64)), .second, .val (.long v24_56), .second, .val (.ref b1), .unset, .unset, .unset, .unset, .unset, .unset, .unset, .unset, .unset, .unset, .unset, .unset, .unset] [(.long vs0_118), (.int (1 : Int32)), (.ref b1)]) (fun J118 => ?_) ?_
  · refine own_if_eq (pt := 114) (pf := 100) C at_97 (by decide) (by decide) rfl ?_ ?_
    · intro hc97
      refine own_lloadN (pc' := 115) C at_114 rfl rfl ?_
      refine own_lload (pc' := 117) C at_115 rfl rfl ?_
      refine own_land (pc' := 118) C at_117 rfl rfl ?_
      exact own_cast (by simp only [hvs0_118, if_pos hc97]) (J118)
    · intro hc97
      refine own_iload (pc' := 102) C at_100 rfl rfl ?_
      refine own_if_eq (pt := 110) (pf := 105) C at_102 (by decide) (by decide) rfl ?_ ?_
      · intro hc102
        refine own_lconst (pc' := 111) (v := (0 : Int64)) C at_110 (by decide) rfl ?_
        refine own_goto (pc' := 118) C at_111 (by decide) (by decide) ?_
        exact own_cast (by simp only [hvs0_118, if_neg hc97, if_pos hc102]) (J118)
      · intro hc102
        refine own_lload (pc' := 107) C at_105 rfl rfl ?_
        refine own_goto (pc' := 118) C at_107 (by decide) (by decide) ?_
        exact own_cast (by simp only [hvs0_118, if_neg hc97, if_neg hc102]) (J118)
  refine own_lastore (pc' := 119) (i := 1) (ys := [vs0_90, vs0_118, (0 : Int64), (0 : Int64), (0 : Int64)]) C at_118 A_b1 (by decide) rfl (Nat.le_of_ble_eq_true rfl) rfl g_b1 rfl ?_
  intro h3 W3 A3_
  replace A_q := A_q.other W3 ne_q_b1
  replace S_q := S_q.wr W3
  replace A_b1 := A3_
  replace Z_ : n0 ≤ _ := Nat.le_trans Z_ (Nat.le_of_eq W3.size.symm)
  refine own_aload (pc' := 121) C at_119 rfl rfl rfl ?_
  refine own_iconst (pc' := 122) (v := (2 : Int32)) C at_121 own_ki_2 rfl ?_
  refine own_iloadN (pc' := 123) C at_122 rfl rfl ?_
  refine own_iconst (pc' := 124) (v := (4 : Int32)) C at_123 own_ki_4 rfl ?_
  refine own_iand (pc' := 125) C at_124 rfl rfl ?_
  obtain ⟨vs0_147, hvs0_147⟩ : ∃ z : Int64, z = (if (p0 &&& (4 : Int32)) = 0 then (p3 &&& (4503599627370495 : Int64)) else (0 : Int64)) := ⟨_, rfl⟩
  refine own_seq (g' := mkF m 147 #[.val (.int p0), .val (.long p1), .second, .val (.long p2), .second, .val (.long p3), .second, .val (.long p4), .second, .val (.long p5), .second, .val (.long (4503599627370495 : Int64)), .second, .val (.int vs_17), .val (.long (4503599627370495 : Int64)), .second, .val (.long (17592186044415 : Int64)), .second, .val (.long (0 : Int64)), .second, .val (.long (68719476736 : Int64)), .second, .val (.long (281474976645120 : Int64)), .second, .val (.long v24_56), .second, .val (.ref b1), .unset, .unset, .unset, .unset, .unset, .unset, .unset, .unset, .unset, .unset, .unset, .unset, .unset] [(.long vs0_147), (.int (2 : Int32)), (.ref b1)]) (fun J147 => ?_) ?_
  · refine own_if_eq (pt := 142) (pf := 128) C at_125 (by decide) (by decide) rfl ?_ ?_
    · intro hc125
      refine own_lload (pc' := 144) C at_142 rfl rfl ?_
      refine own_lload (pc' := 146) C at_144 rfl rfl ?_
      refine own_land (pc' := 147) C at_146 rfl rfl ?_
      exact own_cast (by simp only [hvs0_147, if_pos hc125]) (J147)
    · intro hc125
      refine own_iload (pc' := 130) C at_128 rfl rfl ?_
      refine own_if_eq (pt := 138) (pf := 133) C at_130 (by decide) (by decide) rfl ?_ ?_
      · intro hc130
        refine own_lconst (pc' := 139) (v := (0 : Int64)) C at_138 (by decide) rfl ?_
        refine own_goto (pc' := 147) C at_139 (by decide) (by decide) ?_
        exact own_cast (by simp only [hvs0_147, if_neg hc125, if_pos hc130]) (J147)
      · intro hc130
        refine own_lload (pc' := 135) C at_133 rfl rfl ?_
        refine own_goto (pc' := 147) C at_135 (by decide) (by decide) ?_
        exact own_cast (by simp only [hvs0_147, if_neg hc125, if_neg hc130]) (J147)
  refine own_lastore (pc' := 148) (i := 2) (ys := [vs0_90, vs0_118, vs0_147, (0 : Int64), (0 : Int64)]) C at_147 A_b1 (by decide) rfl (Nat.le_of_ble_eq_true rfl) rfl g_b1 rfl ?_
  intro h4 W4 A4_
  replace A_q := A_q.other W4 ne_q_b1
  replace S_q := S_q.wr W4
  replace A_b1 := A4_
  replace Z_ : n0 ≤ _ := Nat.le_trans Z_ (Nat.le_of_eq W4.size.symm)
  refine own_aload (pc' := 150) C at_148 rfl rfl rfl ?_
  refine own_iconst (pc' := 151) (v := (3 : Int32)) C at_150 own_ki_3 rfl ?_
  refine own_iloadN (pc' := 152) C at_151 rfl rfl ?_
  refine own_bipush (pc' := 154) (v := (8 : Int32)) C at_152 own_kb_8 rfl ?_
  refine own_iand (pc' := 155) C at_154 rfl rfl ?_
  obtain ⟨vs0_177, hvs0_177⟩ : ∃ z : Int64, z = (if (p0 &&& (8 : Int32)) = 0 then (p4 &&& (4503599627370495 : Int64)) else (if vs_17 = 0 then (0 : Int64) else (68719476736 : Int64))) := ⟨_, rfl⟩
  refine own_seq (g' := mkF m 177 #[.val (.int p0), .val (.long p1), .second, .val (.long p2), .second, .val (.long p3), .second, .val (.long p4), .second, .val (.long p5), .second, .val (.long (4503599627370495 : Int64)), .second, .val (.int vs_17), .val (.long (4503599627370495 : Int64)), .second, .val (.long (17592186044415 : Int64)), .second, .val (.long (0 : Int64)), .second, .val (.long (68719476736 : Int64)), .second, .val (.long (281474976645120 : Int64)), .second, .val (.long v24_56), .second, .val (.ref b1), .unset, .unset, .unset, .unset, .unset, .unset, .unset, .unset, .unset, .unset, .unset, .unset, .unset] [(.long vs0_177), (.int (3 : Int32)), (.ref b1)]) (fun J177 => ?_) ?_
  · refine own_if_eq (pt := 172) (pf := 158) C at_155 (by decide) (by decide) rfl ?_ ?_
    · intro hc155
      refine own_lload (pc' := 174) C at_172 rfl rfl ?_
      refine own_lload (pc' := 176) C at_174 rfl rfl ?_
      refine own_land (pc' := 177) C at_176 rfl rfl ?_
      exact own_cast (by simp only [hvs0_177, if_pos hc155]) (J177)
    · intro hc155
      refine own_iload (pc' := 160) C at_158 rfl rfl ?_
      refine own_if_eq (pt := 168) (pf := 163) C at_160 (by decide) (by decide) rfl ?_ ?_
      · intro hc160
        refine own_lconst (pc' := 169) (v := (0 : Int64)) C at_168 (by decide) rfl ?_
        refine own_goto (pc' := 177) C at_169 (by decide) (by decide) ?_
        exact own_cast (by simp only [hvs0_177, if_neg hc155, if_pos hc160]) (J177)
      · intro hc160
        refine own_lload (pc' := 165) C at_163 rfl rfl ?_
        refine own_goto (pc' := 177) C at_165 (by decide) (by decide) ?_
        exact own_cast (by simp only [hvs0_177, if_neg hc155, if_neg hc160]) (J177)
  refine own_lastore (pc' := 178) (i := 3) (ys := [vs0_90, vs0_118, vs0_147, vs0_177, (0 : Int64)]) C at_177 A_b1 (by decide) rfl (Nat.le_of_ble_eq_true rfl) rfl g_b1 rfl ?_
  intro h5 W5 A5_
  replace A_q := A_q.other W5 ne_q_b1
  replace S_q := S_q.wr W5
  replace A_b1 := A5_
  replace Z_ : n0 ≤ _ := Nat.le_trans Z_ (Nat.le_of_eq W5.size.symm)
  refine own_aload (pc' := 180) C at_178 rfl rfl rfl ?_
  refine own_iconst (pc' := 181) (v := (4 : Int32)) C at_180 own_ki_4 rfl ?_
  refine own_iloadN (pc' := 182) C at_181 rfl rfl ?_
  refine own_bipush (pc' := 184) (v := (16 : Int32)) C at_182 own_kb_16 rfl ?_
  refine own_iand (pc' := 185) C at_184 rfl rfl ?_
  obtain ⟨vs0_204, hvs0_204⟩ : ∃ z : Int64, z = (if (p0 &&& (16 : Int32)) = 0 then v24_56 else (if vs_17 = 0 then (0 : Int64) else (281474976645120 : Int64))) := ⟨_, rfl⟩
  refine own_seq (g' := mkF m 204 #[.val (.int p0), .val (.long p1), .second, .val (.long p2), .second, .val (.long p3), .second, .val (.long p4), .second, .val (.long p5), .second, .val (.long (4503599627370495 : Int64)), .second, .val (.int vs_17), .val (.long (4503599627370495 : Int64)), .second, .val (.long (17592186044415 : Int64)), .second, .val (.long (0 : Int64)), .second, .val (.long (68719476736 : Int64)), .second, .val (.long (281474976645120 : Int64)), .second, .val (.long v24_56), .second, .val (.ref b1), .unset, .unset, .unset, .unset, .unset, .unset, .unset, .unset, .unset, .unset, .unset, .unset, .unset] [(.long vs0_204), (.int (4 : Int32)), (.ref b1)]) (fun J204 => ?_) ?_
  · refine own_if_eq (pt := 202) (pf := 188) C at_185 (by decide) (by decide) rfl ?_ ?_
    · intro hc185
      refine own_lload (pc' := 204) C at_202 rfl rfl ?_
      exact own_cast (by simp only [hvs0_204, if_pos hc185]) (J204)
    · intro hc185
      refine own_iload (pc' := 190) C at_188 rfl rfl ?_
      refine own_if_eq (pt := 198) (pf := 193) C at_190 (by decide) (by decide) rfl ?_ ?_
      · intro hc190
        refine own_lconst (pc' := 199) (v := (0 : Int64)) C at_198 (by decide) rfl ?_
        refine own_goto (pc' := 204) C at_199 (by decide) (by decide) ?_
        exact own_cast (by simp only [hvs0_204, if_neg hc185, if_pos hc190]) (J204)
      · intro hc190
        refine own_lload (pc' := 195) C at_193 rfl rfl ?_
        refine own_goto (pc' := 204) C at_195 (by decide) (by decide) ?_
        exact own_cast (by simp only [hvs0_204, if_neg hc185, if_neg hc190]) (J204)
  refine own_lastore (pc' := 205) (i := 4) (ys := [vs0_90, vs0_118, vs0_147, vs0_177, vs0_204]) C at_204 A_b1 (by decide) rfl (Nat.le_of_ble_eq_true rfl) rfl g_b1 rfl ?_
  intro h6 W6 A6_
  replace A_q := A_q.other W6 ne_q_b1
  replace S_q := S_q.wr W6
  replace A_b1 := A6_
  replace Z_ : n0 ≤ _ := Nat.le_trans Z_ (Nat.le_of_eq W6.size.symm)
  refine own_aload (pc' := 207) C at_205 rfl rfl rfl ?_
  refine own_iconst (pc' := 208) (v := (0 : Int32)) C at_207 own_ki_0 rfl ?_
  refine own_laload (pc' := 209) (v := vs0_90) (i := 0) C at_208 A_b1 (by decide) rfl rfl rfl ?_
  refine own_lstore (pc' := 211) (y := vs0_90) (Ls' := #[.val (.int p0), .val (.long p1), .second, .val (.long p2), .second, .val (.long p3), .second, .val (.long p4), .second, .val (.long p5), .second, .val (.long (4503599627370495 : Int64)), .second, .val (.int vs_17), .val (.long (4503599627370495 : Int64)), .second, .val (.long (17592186044415 : Int64)), .second, .val (.long (0 : Int64)), .second, .val (.long (68719476736 : Int64)), .second, .val (.long (281474976645120 : Int64)), .second, .val (.long v24_56), .second, .val (.ref b1), .val (.long vs0_90), .second, .unset, .unset, .unset, .unset, .unset, .unset, .unset, .unset, .unset, .unset, .unset]) C at_209 rfl rfl rfl ?_
  refine own_aload (pc' := 213) C at_211 rfl rfl rfl ?_
  refine own_iconst (pc' := 214) (v := (1 : Int32)) C at_213 own_ki_1 rfl ?_
  refine own_laload (pc' := 215) (v := vs0_118) (i := 1) C at_214 A_b1 (by decide) rfl rfl rfl ?_
  refine own_lstore (pc' := 217) (y := vs0_118) (Ls' := #[.val (.int p0), .val (.long p1), .second, .val (.long p2), .second, .val (.long p3), .second, .val (.long p4), .second, .val (.long p5), .second, .val (.long (4503599627370495 : Int64)), .second, .val (.int vs_17), .val (.long (4503599627370495 : Int64)), .second, .val (.long (17592186044415 : Int64)), .second, .val (.long (0 : Int64)), .second, .val (.long (68719476736 : Int64)), .second, .val (.long (281474976645120 : Int64)), .second, .val (.long v24_56), .second, .val (.ref b1), .val (.long vs0_90), .second, .val (.long vs0_118), .second, .unset, .unset, .unset, .unset, .unset, .unset, .unset, .unset, .unset]) C at_215 rfl rfl rfl ?_
  refine own_aload (pc' := 219) C at_217 rfl rfl rfl ?_
  refine own_iconst (pc' := 220) (v := (2 : Int32)) C at_219 own_ki_2 rfl ?_
  refine own_laload (pc' := 221) (v := vs0_147) (i := 2) C at_220 A_b1 (by decide) rfl rfl rfl ?_
  refine own_lstore (pc' := 223) (y := vs0_147) (Ls' := #[.val (.int p0), .val (.long p1), .second, .val (.long p2), .second, .val (.long p3), .second, .val (.long p4), .second, .val (.long p5), .second, .val (.long (4503599627370495 : Int64)), .second, .val (.int vs_17), .val (.long (4503599627370495 : Int64)), .second, .val (.long (17592186044415 : Int64)), .second, .val (.long (0 : Int64)), .second, .val (.long (68719476736 : Int64)), .second, .val (.long (281474976645120 : Int64)), .second, .val (.long v24_56), .second, .val (.ref b1), .val (.long vs0_90), .second, .val (.long vs0_118), .second, .val (.long vs0_147), .second, .unset, .unset, .unset, .unset, .unset, .unset, .unset]) C at_221 rfl rfl rfl ?_
  refine own_aload (pc' := 225) C at_223 rfl rfl rfl ?_
  refine own_iconst (pc' := 226) (v := (3 : Int32)) C at_225 own_ki_3 rfl ?_
  refine own_laload (pc' := 227) (v := vs0_177) (i := 3) C at_226 A_b1 (by decide) rfl rfl rfl ?_
  refine own_lstore (pc' := 229) (y := vs0_177) (Ls' := #[.val (.int p0), .val (.long p1), .second, .val (.long p2), .second, .val (.long p3), .second, .val (.long p4), .second, .val (.long p5), .second, .val (.long (4503599627370495 : Int64)), .second, .val (.int vs_17), .val (.long (4503599627370495 : Int64)), .second, .val (.long (17592186044415 : Int64)), .second, .val (.long (0 : Int64)), .second, .val (.long (68719476736 : Int64)), .second, .val (.long (281474976645120 : Int64)), .second, .val (.long v24_56), .second, .val (.ref b1), .val (.long vs0_90), .second, .val (.long vs0_118), .second, .val (.long vs0_147), .second, .val (.long vs0_177), .second, .unset, .unset, .unset, .unset, .unset]) C at_227 rfl rfl rfl ?_
  refine own_aload (pc' := 231) C at_229 rfl rfl rfl ?_
  refine own_iconst (pc' := 232) (v := (4 : Int32)) C at_231 own_ki_4 rfl ?_
  refine own_laload (pc' := 233) (v := vs0_204) (i := 4) C at_232 A_b1 (by decide) rfl rfl rfl ?_
  refine own_lstore (pc' := 235) (y := vs0_204) (Ls' := #[.val (.int p0), .val (.long p1), .second, .val (.long p2), .second, .val (.long p3), .second, .val (.long p4), .second, .val (.long p5), .second, .val (.long (4503599627370495 : Int64)), .second, .val (.int vs_17), .val (.long (4503599627370495 : Int64)), .second, .val (.long (17592186044415 : Int64)), .second, .val (.long (0 : Int64)), .second, .val (.long (68719476736 : Int64)), .second, .val (.long (281474976645120 : Int64)), .second, .val (.long v24_56), .second, .val (.ref b1), .val (.long vs0_90), .second, .val (.long vs0_118), .second, .val (.long vs0_147), .second, .val (.long vs0_177), .second, .val (.long vs0_204), .second, .unset, .unset, .unset]) C at_233 rfl rfl rfl ?_
  refine own_lload (pc' := 237) C at_235 rfl rfl ?_
  refine own_lconst (pc' := 238) (v := (0 : Int64)) C at_237 (by decide) rfl ?_
  obtain ⟨vs_275, hvs_275⟩ : ∃ z : Int32, z = (if vs0_90 = (0 : Int64) then (if vs0_118 = (0 : Int64) then (if vs0_147 = (0 : Int64) then (if vs0_177 = (0 : Int64) then (if vs0_204 = (0 : Int64) then (1 : Int32) else (0 : Int32)) else (0 : Int32)) else (0 : Int32)) else (0 : Int32)) else (0 : Int32)) := ⟨_, rfl⟩
  have hzvs_275 : vs_275 = 0 ∨ vs_275 = 1 := by rw [hvs_275]; repeat (first | exact Or.inl rfl | exact Or.inr rfl | split)
  refine own_seq (g' := mkF m 275 #[.val (.int p0), .val (.long p1), .second, .val (.long p2), .second, .val (.long p3), .second, .val (.long p4), .second, .val (.long p5), .second, .val (.long (4503599627370495 : Int64)), .second, .val (.int vs_17), .val (.long (4503599627370495 : Int64)), .second, .val (.long (17592186044415 : Int64)), .second, .val (.long (0 : Int64)), .second, .val (.long (68719476736 : Int64)), .second, .val (.long (281474976645120 : Int64)), .second, .val (.long v24_56), .second, .val (.ref b1), .val (.long vs0_90), .second, .val (.long vs0_118), .second, .val (.long vs0_147), .second, .val (.long vs0_177), .second, .val (.long vs0_204), .second, .unset, .unset, .unset] [(.int vs_275)]) (fun J275 => ?_) ?_
  · refine own_lcmp_ne (pt := 274) (pf := 242) C at_238 rfl at_239 (by decide) (by decide) rfl ?_ ?_
    · intro hc238
      refine own_iconst (pc' := 275) (v := (0 : Int32)) C at_274 own_ki_0 rfl ?_
      exact own_cast (by simp only [hvs_275, if_neg hc238]) (J275)
    · intro hc238
      refine own_lload (pc' := 244) C at_242 rfl rfl ?_
      refine own_lconst (pc' := 245) (v := (0 : Int64)) C at_244 (by decide) rfl ?_
      refine own_lcmp_ne (pt := 274) (pf := 249) C at_245 rfl at_246 (by decide) (by decide) rfl ?_ ?_
      · intro hc245
        refine own_iconst (pc' := 275) (v := (0 : Int32)) C at_274 own_ki_0 rfl ?_
        exact own_cast (by simp only [hvs_275, if_pos hc238, if_neg hc245]) (J275)
      · intro hc245
        refine own_lload (pc' := 251) C at_249 rfl rfl ?_
        refine own_lconst (pc' := 252) (v := (0 : Int64)) C at_251 (by decide) rfl ?_
        refine own_lcmp_ne (pt := 274) (pf := 256) C at_252 rfl at_253 (by decide) (by decide) rfl ?_ ?_
        · intro hc252
          refine own_iconst (pc' := 275) (v := (0 : Int32)) C at_274 own_ki_0 rfl ?_
          exact own_cast (by simp only [hvs_275, if_pos hc238, if_pos hc245, if_neg hc252]) (J275)
        · intro hc252
          refine own_lload (pc' := 258) C at_256 rfl rfl ?_
          refine own_lconst (pc' := 259) (v := (0 : Int64)) C at_258 (by decide) rfl ?_
          refine own_lcmp_ne (pt := 274) (pf := 263) C at_259 rfl at_260 (by decide) (by decide) rfl ?_ ?_
          · intro hc259
            refine own_iconst (pc' := 275) (v := (0 : Int32)) C at_274 own_ki_0 rfl ?_
            exact own_cast (by simp only [hvs_275, if_pos hc238, if_pos hc245, if_pos hc252, if_neg hc259]) (J275)
          · intro hc259
            refine own_lload (pc' := 265) C at_263 rfl rfl ?_
            refine own_lconst (pc' := 266) (v := (0 : Int64)) C at_265 (by decide) rfl ?_
            refine own_lcmp_ne (pt := 274) (pf := 270) C at_266 rfl at_267 (by decide) (by decide) rfl ?_ ?_
            · intro hc266
              refine own_iconst (pc' := 275) (v := (0 : Int32)) C at_274 own_ki_0 rfl ?_
              exact own_cast (by simp only [hvs_275, if_pos hc238, if_pos hc245, if_pos hc252, if_pos hc259, if_neg hc266]) (J275)
            · intro hc266
              refine own_iconst (pc' := 271) (v := (1 : Int32)) C at_270 own_ki_1 rfl ?_
              refine own_goto (pc' := 275) C at_271 (by decide) (by decide) ?_
              exact own_cast (by simp only [hvs_275, if_pos hc238, if_pos hc245, if_pos hc252, if_pos hc259, if_pos hc266]) (J275)
  refine own_istore (pc' := 277) (y := vs_275) (Ls' := #[.val (.int p0), .val (.long p1), .second, .val (.long p2), .second, .val (.long p3), .second, .val (.long p4), .second, .val (.long p5), .second, .val (.long (4503599627370495 : Int64)), .second, .val (.int vs_17), .val (.long (4503599627370495 : Int64)), .second, .val (.long (17592186044415 : Int64)), .second, .val (.long (0 : Int64)), .second, .val (.long (68719476736 : Int64)), .second, .val (.long (281474976645120 : Int64)), .second, .val (.long v24_56), .second, .val (.ref b1), .val (.long vs0_90), .second, .val (.long vs0_118), .second, .val (.long vs0_147), .second, .val (.long vs0_177), .second, .val (.long vs0_204), .second, .val (.int vs_275), .unset, .unset]) C at_275 rfl rfl rfl ?_
  refine own_lload (pc' := 279) C at_277 rfl rfl ?_
  refine own_lload (pc' := 281) C at_279 rfl rfl ?_
  obtain ⟨vs_322, hvs_322⟩ : ∃ z : Int32, z = (if vs0_90 = (4503599627370495 : Int64) then (if vs0_118 = (17592186044415 : Int64) then (if vs0_147 = (0 : Int64) then (if vs0_177 = (68719476736 : Int64) then (if vs0_204 = (281474976645120 : Int64) then (1 : Int32) else (0 : Int32)) else (0 : Int32)) else (0 : Int32)) else (0 : Int32)) else (0 : Int32)) := ⟨_, rfl⟩
  have hzvs_322 : vs_322 = 0 ∨ vs_322 = 1 := by rw [hvs_322]; repeat (first | exact Or.inl rfl | exact Or.inr rfl | split)
  refine own_seq (g' := mkF m 322 #[.val (.int p0), .val (.long p1), .second, .val (.long p2), .second, .val (.long p3), .second, .val (.long p4), .second, .val (.long p5), .second, .val (.long (4503599627370495 : Int64)), .second, .val (.int vs_17), .val (.long (4503599627370495 : Int64)), .second, .val (.long (17592186044415 : Int64)), .second, .val (.long (0 : Int64)), .second, .val (.long (68719476736 : Int64)), .second, .val (.long (281474976645120 : Int64)), .second, .val (.long v24_56), .second, .val (.ref b1), .val (.long vs0_90), .second, .val (.long vs0_118), .second, .val (.long vs0_147), .second, .val (.long vs0_177), .second, .val (.long vs0_204), .second, .val (.int vs_275), .unset, .unset] [(.int vs_322)]) (fun J322 => ?_) ?_
  · refine own_lcmp_ne (pt := 321) (pf := 285) C at_281 rfl at_282 (by decide) (by decide) rfl ?_ ?_
    · intro hc281
      refine own_iconst (pc' := 322) (v := (0 : Int32)) C at_321 own_ki_0 rfl ?_
      exact own_cast (by simp only [hvs_322, if_neg hc281]) (J322)
    · intro hc281
      refine own_lload (pc' := 287) C at_285 rfl rfl ?_
      refine own_lload (pc' := 289) C at_287 rfl rfl ?_
      refine own_lcmp_ne (pt := 321) (pf := 293) C at_289 rfl at_290 (by decide) (by decide) rfl ?_ ?_
      · intro hc289
        refine own_iconst (pc' := 322) (v := (0 : Int32)) C at_321 own_ki_0 rfl ?_
        exact own_cast (by simp only [hvs_322, if_pos hc281, if_neg hc289]) (J322)
      · intro hc289
        refine own_lload (pc' := 295) C at_293 rfl rfl ?_
        refine own_lload (pc' := 297) C at_295 rfl rfl ?_
        refine own_lcmp_ne (pt := 321) (pf := 301) C at_297 rfl at_298 (by decide) (by decide) rfl ?_ ?_
        · intro hc297
          refine own_iconst (pc' := 322) (v := (0 : Int32)) C at_321 own_ki_0 rfl ?_
          exact own_cast (by simp only [hvs_322, if_pos hc281, if_pos hc289, if_neg hc297]) (J322)
        · intro hc297
          refine own_lload (pc' := 303) C at_301 rfl rfl ?_
          refine own_lload (pc' := 305) C at_303 rfl rfl ?_
          refine own_lcmp_ne (pt := 321) (pf := 309) C at_305 rfl at_306 (by decide) (by decide) rfl ?_ ?_
          · intro hc305
            refine own_iconst (pc' := 322) (v := (0 : Int32)) C at_321 own_ki_0 rfl ?_
            exact own_cast (by simp only [hvs_322, if_pos hc281, if_pos hc289, if_pos hc297, if_neg hc305]) (J322)
          · intro hc305
            refine own_lload (pc' := 311) C at_309 rfl rfl ?_
            refine own_lload (pc' := 313) C at_311 rfl rfl ?_
            refine own_lcmp_ne (pt := 321) (pf := 317) C at_313 rfl at_314 (by decide) (by decide) rfl ?_ ?_
            · intro hc313
              refine own_iconst (pc' := 322) (v := (0 : Int32)) C at_321 own_ki_0 rfl ?_
              exact own_cast (by simp only [hvs_322, if_pos hc281, if_pos hc289, if_pos hc297, if_pos hc305, if_neg hc313]) (J322)
            · intro hc313
              refine own_iconst (pc' := 318) (v := (1 : Int32)) C at_317 own_ki_1 rfl ?_
              refine own_goto (pc' := 322) C at_318 (by decide) (by decide) ?_
              exact own_cast (by simp only [hvs_322, if_pos hc281, if_pos hc289, if_pos hc297, if_pos hc305, if_pos hc313]) (J322)
  refine own_istore (pc' := 324) (y := vs_322) (Ls' := #[.val (.int p0), .val (.long p1), .second, .val (.long p2), .second, .val (.long p3), .second, .val (.long p4), .second, .val (.long p5), .second, .val (.long (4503599627370495 : Int64)), .second, .val (.int vs_17), .val (.long (4503599627370495 : Int64)), .second, .val (.long (17592186044415 : Int64)), .second, .val (.long (0 : Int64)), .second, .val (.long (68719476736 : Int64)), .second, .val (.long (281474976645120 : Int64)), .second, .val (.long v24_56), .second, .val (.ref b1), .val (.long vs0_90), .second, .val (.long vs0_118), .second, .val (.long vs0_147), .second, .val (.long vs0_177), .second, .val (.long vs0_204), .second, .val (.int vs_275), .val (.int vs_322), .unset]) C at_322 rfl rfl rfl ?_
  refine own_iload (pc' := 326) C at_324 rfl rfl ?_
  obtain ⟨vs_339, hvs_339⟩ : ∃ z : Int32, z = (if vs_275 = 0 then (if vs_322 = 0 then (0 : Int32) else (1 : Int32)) else (1 : Int32)) := ⟨_, rfl⟩
  have hzvs_339 : vs_339 = 0 ∨ vs_339 = 1 := by rw [hvs_339]; repeat (first | exact Or.inl rfl | exact Or.inr rfl | split)
  refine own_seq (g' := mkF m 339 #[.val (.int p0), .val (.long p1), .second, .val (.long p2), .second, .val (.long p3), .second, .val (.long p4), .second, .val (.long p5), .second, .val (.long (4503599627370495 : Int64)), .second, .val (.int vs_17), .val (.long (4503599627370495 : Int64)), .second, .val (.long (17592186044415 : Int64)), .second, .val (.long (0 : Int64)), .second, .val (.long (68719476736 : Int64)), .second, .val (.long (281474976645120 : Int64)), .second, .val (.long v24_56), .second, .val (.ref b1), .val (.long vs0_90), .second, .val (.long vs0_118), .second, .val (.long vs0_147), .second, .val (.long vs0_177), .second, .val (.long vs0_204), .second, .val (.int vs_275), .val (.int vs_322), .unset] [(.int vs_339)]) (fun J339 => ?_) ?_
  · refine own_if_ne (pt := 334) (pf := 329) C at_326 (by decide) (by decide) rfl ?_ ?_
    · intro hc326
      refine own_iconst (pc' := 335) (v := (1 : Int32)) C at_334 own_ki_1 rfl ?_
      refine own_goto (pc' := 339) C at_335 (by decide) (by decide) ?_
      exact own_cast (by simp only [hvs_339, if_neg hc326]) (J339)
    · intro hc326
      refine own_iload (pc' := 331) C at_329 rfl rfl ?_
      refine own_if_eq (pt := 338) (pf := 334) C at_331 (by decide) (by decide) rfl ?_ ?_
      · intro hc331
        refine own_iconst (pc' := 339) (v := (0 : Int32)) C at_338 own_ki_0 rfl ?_
        exact own_cast (by simp only [hvs_339, if_pos hc326, if_pos hc331]) (J339)
      · intro hc331
        refine own_iconst (pc' := 335) (v := (1 : Int32)) C at_334 own_ki_1 rfl ?_
        refine own_goto (pc' := 339) C at_335 (by decide) (by decide) ?_
        exact own_cast (by simp only [hvs_339, if_pos hc326, if_neg hc331]) (J339)
  refine own_istore (pc' := 341) (y := vs_339) (Ls' := #[.val (.int p0), .val (.long p1), .second, .val (.long p2), .second, .val (.long p3), .second, .val (.long p4), .second, .val (.long p5), .second, .val (.long (4503599627370495 : Int64)), .second, .val (.int vs_17), .val (.long (4503599627370495 : Int64)), .second, .val (.long (17592186044415 : Int64)), .second, .val (.long (0 : Int64)), .second, .val (.long (68719476736 : Int64)), .second, .val (.long (281474976645120 : Int64)), .second, .val (.long v24_56), .second, .val (.ref b1), .val (.long vs0_90), .second, .val (.long vs0_118), .second, .val (.long vs0_147), .second, .val (.long vs0_177), .second, .val (.long vs0_204), .second, .val (.int vs_275), .val (.int vs_322), .val (.int vs_339)]) C at_339 rfl rfl rfl ?_
  refine own_aload (pc' := 343) C at_341 rfl rfl rfl ?_
  refine own_callS (pc' := 346) (wL := 0) (argsL := [(.ref b1)]) (rest := []) C (own_m1 l Z a0 hw b1 q vs0_90 vs0_118 vs0_147 vs0_177 vs0_204 h6 n0 Z_ A_b1 A_q S_q) at_343 (hw _ (List.mem_of_getElem? (i := 8) rfl)) (hw _ (List.mem_of_getElem? (i := 9) rfl)) (hw _ (List.mem_of_getElem? (i := 10) rfl)) (hw _ (List.mem_of_getElem? (i := 11) rfl)) (by decide) (by decide) (by decide) rfl (lenOf pd1 rfl) rfl rfl (Nat.le_of_eq rfl) (by decide) (by decide) rfl ?_
  rintro _ _ ⟨rfl, rfl⟩
  show Wp p l e _ s m _ below meth c n0 _ h6 (0 + 1) (0 + 5) (mkF m 346 #[.val (.int p0), .val (.long p1), .second, .val (.long p2), .second, .val (.long p3), .second, .val (.long p4), .second, .val (.long p5), .second, .val (.long (4503599627370495 : Int64)), .second, .val (.int vs_17), .val (.long (4503599627370495 : Int64)), .second, .val (.long (17592186044415 : Int64)), .second, .val (.long (0 : Int64)), .second, .val (.long (68719476736 : Int64)), .second, .val (.long (281474976645120 : Int64)), .second, .val (.long v24_56), .second, .val (.ref b1), .val (.long vs0_90), .second, .val (.long vs0_118), .second, .val (.long vs0_147), .second, .val (.long vs0_177), .second, .val (.long vs0_204), .second, .val (.int vs_275), .val (.int vs_322), .val (.int vs_339)] [(.int (own_isz vs0_90 vs0_118 vs0_147 vs0_177 vs0_204))])
  refine own_iload (pc' := 348) C at_346 rfl rfl ?_
  refine own_icmp_ne (pt := 355) (pf := 351) C at_348 (by decide) (by decide) rfl (fun q => absurd (own_plain hvs_275 hvs_322 hvs_339) q) (fun _ => ?_)
  refine own_iconst (pc' := 352) (v := (1 : Int32)) C at_351 own_ki_1 rfl ?_
  refine own_goto (pc' := 356) C at_352 (by decide) (by decide) ?_
  refine own_zret C at_356 (by decide) (by decide) (Or.inr rfl) ?_
  exact rfl
set_option maxRecDepth 65536 in
set_option maxHeartbeats 40000000 in
theorem comes_1 {Post : Tables → Env → Array Value → State → Outcome → State → Prop} (hpost : ∀ tb e args s v u, (limb_1_1.after args s (.returned v) u = true ∧ limb_1_2.after args s (.returned v) u = true ∧ True) → FrameEnd s (.returned v) u (Jvm.fieldLocs frame_1_writes args s ++ Jvm.arrayLocs frame_1_arrays args s ++ Jvm.staticLocs frame_1_statics s) 16 128 → Post tb e args s (.returned v) u) :
    ArmFor flags0 classFile x code maxLocals ret World_1 tables_1 room_1 Calls_1 rest_1 Pre_1 Post := by
  intro l hfl _ _ p e ha hc hk s m args below hf hA hF happ hP
  obtain ⟨hcalls, hrest, hpre⟩ := hP
  obtain ⟨-, -, -, hnamed, -, -, -, hat⟩ := (Spec.applies_iff hf).mp happ
  obtain ⟨hg, hn⟩ := and_e (Cond.before_iff.mp (show (Jvm.Cond.and given_1 narrow_1).before args s = true from hpre))
  obtain ⟨hcount, q0⟩ := and_e hg
  obtain ⟨r0, q1⟩ := and_e q0
  obtain ⟨r1, q2⟩ := and_e q1
  obtain ⟨r2, q3⟩ := and_e q2
  obtain ⟨r3, q4⟩ := and_e q3
  obtain ⟨r4, q5⟩ := and_e q4
  obtain ⟨w0, w1, w2, w3, w4, w5, rfl⟩ : ∃ w0 w1 w2 w3 w4 w5 : Value, args = #[w0, w1, w2, w3, w4, w5] := by
    have hs : args.size = 6 := by simpa [Cond.value, given_1] using hcount
    obtain ⟨L⟩ := args
    match L, hs with
    | [w0, w1, w2, w3, w4, w5], _ => exact ⟨w0, w1, w2, w3, w4, w5, rfl⟩
  have hw := fun d (hd : d ∈ tables_1) => atoms_spec (ws := Jvm.Cond.code x code maxLocals ret :: tables_1) hat d (List.mem_cons_of_mem _ hd)
  obtain ⟨i0, e0⟩ := is_v r0
  obtain rfl : w0 = (.int i0) := Option.some.inj e0
  obtain ⟨i1, e1⟩ := isL_v r1
  obtain rfl : w1 = (.long i1) := Option.some.inj e1
  obtain ⟨i2, e2⟩ := isL_v r2
  obtain rfl : w2 = (.long i2) := Option.some.inj e2
  obtain ⟨i3, e3⟩ := isL_v r3
  obtain rfl : w3 = (.long i3) := Option.some.inj e3
  obtain ⟨i4, e4⟩ := isL_v r4
  obtain rfl : w4 = (.long i4) := Option.some.inj e4
  obtain ⟨i5, e5⟩ := isL_v q5
  obtain rfl : w5 = (.long i5) := Option.some.inj e5
  obtain ⟨n1, m1⟩ := and_e hn
  obtain ⟨n2, m2⟩ := and_e m1
  obtain ⟨n3, m3⟩ := and_e m2
  obtain ⟨n4, m4⟩ := and_e m3
  obtain ⟨n5, m5⟩ := and_e m4
  obtain ⟨n6, n7⟩ := and_e m5
  obtain ⟨q, ev⟩ := arr_v n1
  have A_q := own_static ev n1 n2 n3 n4 n5 n6 n7
  have S_q := Sta.start ev (Or.inr ⟨(hw _ (List.mem_of_getElem? (i := 10) rfl)), (hw _ (List.mem_of_getElem? (i := 13) rfl))⟩)
  obtain ⟨n, o, h1, h2, h3, _, L, rfl, ⟨rfl, N⟩, hq⟩ := own_law l s _ hw tables_1 i0 i1 i2 i3 i4 i5 q s.heap s.heap.size (Nat.le_refl _) A_q S_q p e ha hc hk s m _ below hf ((Spec.applies_iff_loose hf).mp happ).1 ⟨rfl, State.Warmed39.refl s, rfl⟩ trivial
  refine ⟨n, _, h1, h2, h3, hpost _ _ _ _ _ _ ⟨Cond.after_iff.mpr rfl, Cond.after_iff.mpr (eq_i res_at (Term.int_eval (1)) rfl), trivial⟩ ⟨hq.1, hq.2.1, (hq.2.2.sift fun y hy => Or.inr (N y hy)).mono (by decide) (by decide)⟩⟩
theorem main_1_1 : Claimed_1_1 := comes_1 fun _ _ _ _ _ _ h hF => ⟨h.1, hF⟩
theorem main_1_2 : Claimed_1_2 := comes_1 fun _ _ _ _ _ _ h hF => ⟨h.2.1, hF⟩
end Jvm.Pilot.@@N@@
namespace Jvm.Pilot.@@N@@
open Jvm Jvm.ClassFile Sem Op Lib Jvm.Free Jvm.Stand Jvm.Pilot.@@N@@.Jvm.D
/-! MADE BY PROGRAM (witnessworld.py) out of the Statement's table words and the real class files: 11 classes; the members and pool entries that the words name. The judged class is class 1, her method 1. -/
namespace start1
open Jvm.ClassFile
def u (s : String) : CpInfo := .utf8 (stringToUtf16 s)
/-- a pool by its gaps: so many unusable entries, then the entry; so many at the end -/
def gap : Nat → List CpInfo → List CpInfo
  | 0, r => r
  | n + 1, r => .unusable :: gap n r
def poolList (es : List (Nat × CpInfo)) (last : Nat) : List CpInfo := es.foldr (fun e r => gap e.1 (e.2 :: r)) (gap last [])
def pool (es : List (Nat × CpInfo)) (last : Nat) : Array CpInfo := ⟨poolList es last⟩
def fileOf (pool : Array CpInfo) (this : Nat) (attrs : Array Attribute := #[]) (ms : Array MethodInfo := #[]) (fl : Nat := 33) (sup : Nat := 0) (ifs : Array Nat := #[]) (fds : Array FieldInfo := #[]) : ClassFile where
  minorVersion := 0
  majorVersion := 65
  constantPool := pool
  accessFlags := fl
  thisClass := this
  superClass := sup
  interfaces := ifs
  fields := fds
  methods := ms
  attributes := attrs
def plain (name : String) (sup : Option ClassId) : Class where
  name := name
  kind := .ordinary
  loader := none
  accessFlags := 33
  super := sup
  interfaces := #[]
  cf := none
  fields := #[]
  methods := #[]
  instanceTypes := #[]
  staticTypes := #[]
  resolved := #[]
  callSites := []
  init := .initialized
  statics := none
  mirror := none

def pool0 : Array CpInfo := pool [(5, u "<init>"), (0, u "()V"), (1, .class_ 10), (1, u "java/lang/Object")] 113

def k0m0 : Method := { name := "<init>", desc := "()V", sig := { parameters := [], returnType := none }, accessFlags := 1, code := none }
/-- java/lang/Object -/
def k0 : Class := { plain "java/lang/Object" none with
  accessFlags := 33
  interfaces := #[]
  cf := some (fileOf pool0 8 #[] #[{ accessFlags := 1, nameIndex := 5, descriptorIndex := 6, attributes := #[] }] 33 0 #[] #[])
  fields := #[]
  methods := #[k0m0]
  instanceTypes := #[]
  staticTypes := #[]
  resolved := Array.replicate 124 none
  statics := none }

def pool1 : Array CpInfo := pool [(2, .class_ 4), (1, u "java/lang/Object"), (0, u "<init>"), (0, u "()V"), (0, .long 4503599627370495), (1, .long 17592186044415), (1, .long 68719476736), (1, .long 281474976645120), (3, .long 9223372036854775807), (1, .long 281475245146112), (1, .long 134217728), (1, .methodref 24 25), (0, .class_ 26), (0, .nameAndType 27 28), (0, u "com/example/libsworn/libsworn/P256Field"), (0, u "isZero"), (0, u "([J)Z"), (0, .class_ 30), (0, u "com/example/libsworn/libsworn/P256FieldIsZeroPinLaw"), (2, u "law"), (0, u "(IJJJJJ)Z")] 5

def k1m0 : Method := { name := "<init>", desc := "()V", sig := { parameters := [], returnType := none }, accessFlags := 1, code := none }
def k1c1 : Code := { maxStack := 6, maxLocals := 40, code := code, exceptionTable := #[], attributes := #[] }
def k1m1 : Method := { name := "law", desc := "(IJJJJJ)Z", sig := { parameters := [.int, .long, .long, .long, .long, .long], returnType := some .boolean }, accessFlags := 9, code := some k1c1 }
/-- com/example/libsworn/libsworn/P256FieldIsZeroPinLaw -/
def k1 : Class := { plain "com/example/libsworn/libsworn/P256FieldIsZeroPinLaw" (some 0) with
  accessFlags := 49
  interfaces := #[]
  cf := some (fileOf pool1 29 #[] #[{ accessFlags := 1, nameIndex := 5, descriptorIndex := 6, attributes := #[] }, { accessFlags := 9, nameIndex := 33, descriptorIndex := 34, attributes := #[] }] 49 2 #[] #[])
  fields := #[]
  methods := #[k1m0, k1m1]
  instanceTypes := #[]
  staticTypes := #[]
  resolved := Array.replicate 40 none
  statics := none }

def pool2 : Array CpInfo := pool [(1, .class_ 2), (0, u "com/example/libsworn/libsworn/P256Field"), (1, .class_ 6), (1, u "java/lang/Object"), (0, u "<init>"), (0, u "()V"), (6, u "R_SQUARED"), (0, u "[J"), (6, .fieldref 1 24), (0, .nameAndType 25 16), (0, u "PRIME_LIMBS"), (34, u "ONE"), (0, u "Ljava/math/BigInteger;"), (12, u "PRIME"), (5, u "LIMBS"), (0, u "I"), (2, u "RADIX_BITS"), (1, u "LIMB_MASK"), (0, u "J"), (0, u "MONTGOMERY_BITS"), (1, u "TOP_TERMS"), (15, u "isZero"), (0, u "([J)Z")] 3

def k2m0 : Method := { name := "<init>", desc := "()V", sig := { parameters := [], returnType := none }, accessFlags := 2, code := none }
def k2c1 : Code := { maxStack := 5, maxLocals := 4, code := prog_6_method_16_code, exceptionTable := #[], attributes := #[] }
def k2m1 : Method := { name := "isZero", desc := "([J)Z", sig := { parameters := [(.array .long)], returnType := some .boolean }, accessFlags := 8, code := some k2c1 }
/-- com/example/libsworn/libsworn/P256Field -/
def k2 : Class := { plain "com/example/libsworn/libsworn/P256Field" (some 0) with
  accessFlags := 32
  interfaces := #[]
  cf := some (fileOf pool2 1 #[] #[{ accessFlags := 2, nameIndex := 7, descriptorIndex := 8, attributes := #[] }, { accessFlags := 8, nameIndex := 106, descriptorIndex := 107, attributes := #[] }] 32 4 #[] #[{ accessFlags := 24, nameIndex := 74, descriptorIndex := 61, attributes := #[] }, { accessFlags := 24, nameIndex := 80, descriptorIndex := 81, attributes := #[] }, { accessFlags := 26, nameIndex := 84, descriptorIndex := 81, attributes := #[] }, { accessFlags := 26, nameIndex := 86, descriptorIndex := 87, attributes := #[] }, { accessFlags := 26, nameIndex := 88, descriptorIndex := 81, attributes := #[] }, { accessFlags := 26, nameIndex := 25, descriptorIndex := 16, attributes := #[] }, { accessFlags := 26, nameIndex := 15, descriptorIndex := 16, attributes := #[] }, { accessFlags := 26, nameIndex := 90, descriptorIndex := 87, attributes := #[] }, { accessFlags := 24, nameIndex := 60, descriptorIndex := 16, attributes := #[] }])
  fields := #[{ name := "PRIME", type := (.object "java/math/BigInteger"), accessFlags := 24, slot := 0, constantValue := 0 }, { name := "LIMBS", type := .int, accessFlags := 24, slot := 1, constantValue := 0 }, { name := "RADIX_BITS", type := .int, accessFlags := 26, slot := 2, constantValue := 0 }, { name := "LIMB_MASK", type := .long, accessFlags := 26, slot := 3, constantValue := 0 }, { name := "MONTGOMERY_BITS", type := .int, accessFlags := 26, slot := 4, constantValue := 0 }, { name := "PRIME_LIMBS", type := (.array .long), accessFlags := 26, slot := 5, constantValue := 0 }, { name := "R_SQUARED", type := (.array .long), accessFlags := 26, slot := 6, constantValue := 0 }, { name := "TOP_TERMS", type := .long, accessFlags := 26, slot := 7, constantValue := 0 }, { name := "ONE", type := (.array .long), accessFlags := 24, slot := 8, constantValue := 0 }]
  methods := #[k2m0, k2m1]
  instanceTypes := #[]
  staticTypes := #[(.object "java/math/BigInteger"), .int, .int, .long, .int, (.array .long), (.array .long), .long, (.array .long)]
  resolved := Array.replicate 111 none
  statics := some 0 }

def pool3 : Array CpInfo := pool [(1, u "java/lang/Cloneable"), (0, .class_ 1), (0, u "java/lang/Object"), (0, .class_ 3)] 3

/-- java/lang/Cloneable -/
def k3 : Class := { plain "java/lang/Cloneable" (some 0) with
  accessFlags := 1537
  interfaces := #[]
  cf := some (fileOf pool3 2 #[] #[] 1537 4 #[] #[])
  fields := #[]
  methods := #[]
  instanceTypes := #[]
  staticTypes := #[]
  resolved := Array.replicate 8 none
  statics := none }

def pool4 : Array CpInfo := pool [(1, u "java/io/Serializable"), (0, .class_ 1), (0, u "java/lang/Object"), (0, .class_ 3)] 3

/-- java/io/Serializable -/
def k4 : Class := { plain "java/io/Serializable" (some 0) with
  accessFlags := 1537
  interfaces := #[]
  cf := some (fileOf pool4 2 #[] #[] 1537 4 #[] #[])
  fields := #[]
  methods := #[]
  instanceTypes := #[]
  staticTypes := #[]
  resolved := Array.replicate 8 none
  statics := none }

/-- the primitive byte -/
def k5 : Class := { plain "byte" none with kind := .primitive 'B', accessFlags := 0x411 }
/-- [B -/
def k6 : Class := { plain "[B" (some 0) with kind := .array 5 .byte, interfaces := #[3, 4], accessFlags := 1041 }

/-- the primitive int -/
def k7 : Class := { plain "int" none with kind := .primitive 'I', accessFlags := 0x411 }
/-- [I -/
def k8 : Class := { plain "[I" (some 0) with kind := .array 7 .int, interfaces := #[3, 4], accessFlags := 1041 }

/-- the primitive long -/
def k9 : Class := { plain "long" none with kind := .primitive 'J', accessFlags := 0x411 }
/-- [J -/
def k10 : Class := { plain "[J" (some 0) with kind := .array 9 .long, interfaces := #[3, 4], accessFlags := 1041 }

def heap : Heap := #[{ cls := 2, slots := #[.null, .int 0, .int 0, .long 0, .int 0, .ref 1, .null, .long 0, .null], vm := .statics 2 },
  { cls := 10, slots := #[.long 4503599627370495, .long 17592186044415, .long 0, .long 68719476736, .long 281474976645120], vm := .none }]
def classes : Array Class := #[k0, k1, k2, k3, k4, k5, k6, k7, k8, k9, k10]
def interned : List (Array UInt16 × Addr) := []
def slotsUsed : Nat := 14
def theMethod : MethodId := ⟨1, 1⟩
def args0 : Array Value := #[.int 5, .long 5, .long 5, .long 5, .long 5, .long 9]
def aboutOver (below : List Frame) : State where
  vm := { classes := classes, interned := interned.toArray }
  heap := heap
  slotsUsed := slotsUsed
  threads := #[{ frames := .invoking theMethod args0 :: below }]
def below0 : List Frame := [.native { method := ⟨0, 0⟩, args := #[] }]
def about1 : State := aboutOver below0
def p0 : Program := .bare "" "" ""
def e0 : Env := launch0.env 0 0 0
theorem w_frames : about1.frames = Frame.invoking theMethod args0 :: below0 := rfl
set_option maxRecDepth 65536 in
theorem w_args : argsFit about1.vm theMethod args0 = true := by decide +kernel
set_option maxRecDepth 65536 in
theorem w_heap : heapFits about1 = true := by decide +kernel
set_option maxRecDepth 65536 in
theorem w_runnable : about1.curStatus? = some .runnable := by decide +kernel
set_option maxRecDepth 65536 in
theorem w_alone : about1.alone = true := by decide +kernel
set_option maxRecDepth 65536 in
theorem w_named : about1.methodNamed? x = some theMethod := by decide +kernel
set_option maxRecDepth 65536 in
theorem w_hears : about1.hears theMethod below0 = true := by decide +kernel
set_option maxRecDepth 65536 in
theorem w_ripe : about1.ripe theMethod args0 below0 = true := by decide +kernel
theorem w_running : about1.status = .running := rfl
set_option maxRecDepth 65536 in
theorem w_room : about1.hasRoom e0.platform room_1 = true :=
  launch0.hasRoom_least _ room_1 (by decide +kernel) (by decide +kernel) (by decide +kernel) (by decide +kernel) (by decide +kernel) (by decide +kernel)
theorem allAtoms_all (ts : List Jvm.Cond) (a : Array Jvm.Value) (st : Jvm.State) : (allAtoms ts).before a st = ts.all (fun c => c.before a st) := by
  induction ts with
  | nil => rfl
  | cons c t ih =>
    show (Jvm.Cond.and c (allAtoms t)).before a st = _
    rw [Jvm.Cond.before_and, ih, List.all_cons]
def words1 : List Jvm.Cond := Jvm.Cond.code x code maxLocals ret :: tables_1
/-- a 'code' word, met by the world's own term for the bytes: nothing is compared byte by byte -/
theorem code_word {y : MethodName} {bytes : ByteArray} {mx : Nat} {rt : Option FieldType} {a : Array Value} {s : State} {m : MethodId} {meth : Method} {c : Code} (h1 : s.methodNamed? y = some m) (h2 : s.vm.method? m = some meth) (h3 : meth.code = some c) (h4 : c.code = bytes)
    (h5 : (c.maxLocals == mx && c.exceptionTable.isEmpty && decide (c.maxStack ≤ mostOperands) && decide (meth.sig.returnType = rt) && !meth.locks && decide (parseMethodDescriptor y.desc = some meth.sig)) = true) : (Jvm.Cond.code y bytes mx rt).before a s = true := by
  simp only [Bool.and_eq_true, beq_iff_eq, Bool.not_eq_true', decide_eq_true_eq] at h5
  obtain ⟨⟨⟨⟨⟨g1, g2⟩, g3⟩, g4⟩, g5⟩, g6⟩ := h5
  simp [Cond.before, Cond.holds, Cond.value, h1, h2, h3, h4, g1, g2, g3, g4, g5, g6]
def isCode : Jvm.Cond → Bool
  | .code _ _ _ _ => true
  | _ => false
theorem all_split {L : List Jvm.Cond} {P : Jvm.Cond → Bool} (h1 : L.all (fun c => isCode c || P c) = true) (h2 : ∀ c ∈ L.filter isCode, P c = true) : L.all P = true := by
  refine List.all_eq_true.mpr fun c hc => ?_
  have h := List.all_eq_true.mp h1 c hc
  rcases Bool.eq_false_or_eq_true (isCode c) with hi | hi
  · exact h2 c (List.mem_filter.mpr ⟨hc, hi⟩)
  · simpa [hi] using h
set_option maxRecDepth 65536 in
theorem w_c0 : (Jvm.Cond.code x code maxLocals ret).before args0 about1 = true := code_word (m := ⟨1, 1⟩) (meth := k1m1) (c := k1c1) (by decide +kernel) rfl rfl rfl (by decide +kernel)
set_option maxRecDepth 65536 in
theorem w_c1 : (Jvm.Cond.code ({ cls := "com/example/libsworn/libsworn/P256Field", name := "isZero", desc := "([J)Z" } : Jvm.MethodName) prog_6_method_16_code (4 : Nat) (Option.some Jvm.ClassFile.FieldType.boolean)).before args0 about1 = true := code_word (m := ⟨2, 1⟩) (meth := k2m1) (c := k2c1) (by decide +kernel) rfl rfl rfl (by decide +kernel)
def codes1 : List Jvm.Cond := [Jvm.Cond.code x code maxLocals ret, Jvm.Cond.code ({ cls := "com/example/libsworn/libsworn/P256Field", name := "isZero", desc := "([J)Z" } : Jvm.MethodName) prog_6_method_16_code (4 : Nat) (Option.some Jvm.ClassFile.FieldType.boolean)]
set_option maxRecDepth 65536 in
theorem codes_eq : words1.filter isCode = codes1 := rfl
theorem w_codes : ∀ c ∈ words1.filter isCode, c.before args0 about1 = true := by
  rw [codes_eq]
  intro c hc
  simp only [codes1, List.mem_cons, List.not_mem_nil, or_false] at hc
  rcases hc with rfl | rfl
  · exact w_c0
  · exact w_c1
set_option maxRecDepth 65536 in
theorem w_t1 : words1.all (fun c => isCode c || c.before args0 about1) = true := by decide +kernel
theorem w_tables : (allAtoms (Jvm.Cond.code x code maxLocals ret :: tables_1)).before args0 about1 = true := by
  rw [allAtoms_all]
  show words1.all (fun c => c.before args0 about1) = true
  refine all_split ?_ w_codes
  rw [w_t1]
set_option maxRecDepth 65536 in
theorem w_case : (Jvm.Cond.and given_1 narrow_1).before args0 about1 = true := by decide +kernel
theorem w_applies : (headSpec (Jvm.Cond.code x code maxLocals ret :: tables_1) room_1).applies x e0.platform about1 = true :=
  (Spec.applies_iff w_frames).mpr ⟨w_running, w_runnable, w_alone, w_named, w_hears, w_ripe, w_room, w_tables⟩
theorem atStart : AtStart classFile x code maxLocals ret World_1 tables_1 room_1 Calls_1 rest_1 Pre_1 launch0 p0 e0 about1 theMethod args0 below0 :=
  ⟨lists_1, trivial, launch0.admits_env _ _ _, launch0.least_env, fairChoices_fair.cas, fairChoices_fair.clock, w_frames, w_args, w_heap, w_applies, trivial, trivial, w_case⟩
end start1
theorem witness_1 : WitnessClaimed_1 := ⟨start1.p0, start1.e0, start1.about1, start1.theMethod, start1.args0, start1.below0, start1.atStart⟩
end Jvm.Pilot.@@N@@
