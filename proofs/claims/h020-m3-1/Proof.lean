import JvmDerived
import JvmDerived.Pilot.@@N@@Statement
import JvmDerived.Pilot.@@N@@Code
set_option linter.unusedVariables false
set_option linter.unusedSimpArgs false
namespace Jvm.RoadKit
open Sem ClassFile Op Lib Jvm.Stand Jvm.Free Jvm.LawKit
section New
variable {p : Program} {l : Launch} {e : Env} {R : Room} {s : State} {m : MethodId} {args : Array Value} {below : List Frame} {meth : Method} {c : Code} {T : State} {locs : List Loc} {cells slots : Nat}
theorem retI (X : Stand p l e R s m args below meth c T locs cells slots) (hx : p.tables.exec = Jvm.exec) {pc : Nat} {Ls : Array Slot} {z : Int32} {rest : List Value} (hret : meth.sig.returnType = some .int) (hd : decode c.code pc = .ok (.ireturn, 1)) {fs : List Frame}
    (hl : ∀ (f : JFrame) (acts : List Action), f.method = m → f.locked = none → f.entered = [] → (doReturn e (T.setTop f) acts (some (.int z))).1 = T.setFrames fs) : Steps p.tables e below (T.setTop (mkF m pc Ls (.int z :: rest))) (T.setFrames fs) := by
  have hm' : T.vm.method? m = some meth := X.method'
  have hn : narrow .int (.int z) = .int z := rfl
  show Steps p.tables e below (T.setTop { method := m, pc := pc, locals := Ls, stack := _ :: rest, locked := none }) _
  jvm_step X.here [X.here.top, hx, hd, hm', hret, hn]
  first | (intro acts; rw [hl _ acts rfl rfl rfl]) | rw [hl _ _ rfl rfl rfl]
  exact Steps.refl _
end New
end Jvm.RoadKit
namespace Jvm.Pilot.@@N@@
open Jvm Jvm.ClassFile Sem Op Lib Jvm.Free Jvm.Stand Jvm.LawKit Jvm.RoadKit Bundle Jvm.Pilot.@@N@@.Jvm.D
section OwnKit
variable {p : Program} {l : Launch} {e : Env} {R : Room} {s : State} {m : MethodId} {args : Array Value} {below : List Frame} {meth : Method} {c : Code} {Z : State} {a0 : Array Value} {cd : ByteArray} {ml : Nat} {ret : Option FieldType} {own nm : String} {n0 : Nat} {Q : Option Value → Heap → Prop} {h : Heap} {k n : Nat}
/-- what stands fast while one body runs -/
def Cx (p : Program) (s : State) (m : MethodId) (meth : Method) (c : Code) (Z : State) (cd : ByteArray) (ml : Nat) (ret : Option FieldType) (own nm : String) : Prop :=
  p.tables.exec = Jvm.exec ∧ Z.Warmed39 s.vm ∧ c.code = cd ∧ c.maxLocals = ml ∧ s.vm.findClass own = some m.cls ∧ meth.sig.returnType = ret ∧ meth.locks = false ∧ meth.name = nm
/-- from this frame, over this heap, the body returns and Q holds -/
def Wp (p : Program) (l : Launch) (e : Env) (R : Room) (s : State) (m : MethodId) (args : Array Value) (below : List Frame) (meth : Method) (c : Code) (n0 : Nat) (Q : Option Value → Heap → Prop) (h : Heap) (k n : Nat) (g : JFrame) : Prop :=
  ∀ (T : State) (locs : List Loc), Stand p l e R s m args below meth c T locs k n → T.heap = h → Fr n0 locs →
    ∃ s₂ o, Steps p.tables e below (T.setTop g) s₂ ∧ s₂.status = .running ∧ Ended s₂ below o ∧ ∃ v L, o = .returned v ∧ (Q v s₂.heap ∧ Fr n0 L) ∧ FrameEnd s o s₂ L R.cells R.slots
/-- a callee's contract: called with these arguments over this heap it returns, and Q holds -/
def Met (l : Launch) (y : MethodName) (bytes : ByteArray) (mL : Nat) (rt : Option FieldType) (ws : List Jvm.Cond) (rm : Room) (Z : State) (n0 : Nat) (as : Array Value) (h : Heap) (Q : Option Value → Heap → Prop) : Prop :=
  MetFree l y (head1 (Jvm.Cond.code y bytes mL rt :: ws) rm) (fun a U => a = as ∧ Z.Warmed39 U.vm ∧ U.heap = h) (fun _ _ _ _ _ => True) (fun _ U o U' => ∃ v L, o = .returned v ∧ (Q v U'.heap ∧ Fr n0 L) ∧ FrameEnd U o U' L rm.cells rm.slots)
theorem own_met {y : MethodName} {bytes : ByteArray} {mL : Nat} {rt : Option FieldType} {ws : List Jvm.Cond} {rm : Room} {as : Array Value} {Ls : Array Slot} (hpn : plainName y.cls = true) (hef : ∀ m, entryFrame m as mL = mkF m 0 Ls [])
    (H : ∀ p e s m below meth c, Cx p s m meth c Z bytes mL rt y.cls y.name → Wp p l e rm s m as below meth c n0 Q h 0 0 (mkF m 0 Ls [])) : Met l y bytes mL rt ws rm Z n0 as h Q := by
  refine MetFree.of_bodySF (plainFor_of_name hpn) hisR ?_
  intro p e s m args below meth c s₁ Bd hml0 hP hK
  obtain ⟨rfl, hZ, hh⟩ := hP
  have hown : s.vm.findClass y.cls = some m.cls := findClass_of_methodNamed Bd.named
  have hnm := (name_of_methodNamed Bd.named Bd.method).1
  have X0 : Stand p l e rm s m args below meth c s₁ [] 0 0 := Stand.of_body Bd
  have e0 : s₁.heap = h := by rw [← hh, Bd.state]; rfl
  obtain ⟨s₂, o, st, r⟩ := H p e s m below meth c ⟨Bd.exec, hZ, Bd.bytes, hml0, hown, Bd.returns, Bd.notSynchronized, hnm⟩ s₁ [] X0 e0 (Fr.nil n0)
  exact ⟨s₂, o, castTop (hef m) st, r⟩
/-! single steps -/
theorem own_lift {g g' : JFrame} (H : ∀ T, At T m c below → ∀ t, Steps p.tables e below (T.setTop g') t → Steps p.tables e below (T.setTop g) t) (W : Wp p l e R s m args below meth c n0 Q h k n g') : Wp p l e R s m args below meth c n0 Q h k n g := fun T locs X eT N => by
  obtain ⟨s₂, o, st, r⟩ := W T locs X eT N
  exact ⟨s₂, o, H T X.here _ st, r⟩
theorem own_liftX {g g' : JFrame} (H : ∀ T locs, Stand p l e R s m args below meth c T locs k n → T.heap = h → ∀ t, Steps p.tables e below (T.setTop g') t → Steps p.tables e below (T.setTop g) t) (W : Wp p l e R s m args below meth c n0 Q h k n g') : Wp p l e R s m args below meth c n0 Q h k n g := fun T locs X eT N => by
  obtain ⟨s₂, o, st, r⟩ := W T locs X eT N
  exact ⟨s₂, o, H T locs X eT _ st, r⟩
theorem own_cast {g g' : JFrame} (q : g = g') (W : Wp p l e R s m args below meth c n0 Q h k n g') : Wp p l e R s m args below meth c n0 Q h k n g := q ▸ W
theorem own_seq {g g' : JFrame} (t : Wp p l e R s m args below meth c n0 Q h k n g' → Wp p l e R s m args below meth c n0 Q h k n g) (w : Wp p l e R s m args below meth c n0 Q h k n g') : Wp p l e R s m args below meth c n0 Q h k n g := t w
theorem own_seq1 {g : JFrame} {F : Slot → JFrame} (t : (∀ u, RoadKit.One u → Wp p l e R s m args below meth c n0 Q h k n (F u)) → Wp p l e R s m args below meth c n0 Q h k n g) (w : ∀ u, RoadKit.One u → Wp p l e R s m args below meth c n0 Q h k n (F u)) : Wp p l e R s m args below meth c n0 Q h k n g := t w
theorem own_seq2 {g : JFrame} {F : Slot → Slot → JFrame} (t : (∀ u, RoadKit.One u → ∀ v, RoadKit.One v → Wp p l e R s m args below meth c n0 Q h k n (F u v)) → Wp p l e R s m args below meth c n0 Q h k n g) (w : ∀ u, RoadKit.One u → ∀ v, RoadKit.One v → Wp p l e R s m args below meth c n0 Q h k n (F u v)) : Wp p l e R s m args below meth c n0 Q h k n g := t w
theorem own_seqH {g g' : JFrame} {P : Heap → Prop} {k' n' : Nat} (t : (∀ h', P h' → Wp p l e R s m args below meth c n0 Q h' k' n' g') → Wp p l e R s m args below meth c n0 Q h k n g) (w : ∀ h', P h' → Wp p l e R s m args below meth c n0 Q h' k' n' g') : Wp p l e R s m args below meth c n0 Q h k n g := t w
variable {pc pc' : Nat} {Ls Ls' : Array Slot} {st : List Value}
theorem own_iload (C : Cx p s m meth c Z cd ml ret own nm) {i : Nat} {v : Int32} (hd : decode cd pc = .ok (.iload i, 2)) (hl : Ls[i]? = some (.val (.int v))) (hp : pc + 2 = pc') (W : Wp p l e R s m args below meth c n0 Q h k n (mkF m pc' Ls (.int v :: st))) : Wp p l e R s m args below meth c n0 Q h k n (mkF m pc Ls st) := by
  subst hp; exact own_lift (fun T A t q => XS.iload A C.1 rfl (hb C.2.2.1 hd) hl q) W
theorem own_iloadN (C : Cx p s m meth c Z cd ml ret own nm) {i : Fin 4} {v : Int32} (hd : decode cd pc = .ok (.iload_n i, 1)) (hl : Ls[i.val]? = some (.val (.int v))) (hp : pc + 1 = pc') (W : Wp p l e R s m args below meth c n0 Q h k n (mkF m pc' Ls (.int v :: st))) : Wp p l e R s m args below meth c n0 Q h k n (mkF m pc Ls st) := by
  subst hp; exact own_lift (fun T A t q => XS.iloadN A C.1 rfl (hb C.2.2.1 hd) hl q) W
theorem own_lload (C : Cx p s m meth c Z cd ml ret own nm) {i : Nat} {v : Int64} (hd : decode cd pc = .ok (.lload i, 2)) (hl : Ls[i]? = some (.val (.long v))) (hp : pc + 2 = pc') (W : Wp p l e R s m args below meth c n0 Q h k n (mkF m pc' Ls (.long v :: st))) : Wp p l e R s m args below meth c n0 Q h k n (mkF m pc Ls st) := by
  subst hp; exact own_lift (fun T A t q => XS.lload A C.1 rfl (hb C.2.2.1 hd) hl q) W
theorem own_lloadN (C : Cx p s m meth c Z cd ml ret own nm) {i : Fin 4} {v : Int64} (hd : decode cd pc = .ok (.lload_n i, 1)) (hl : Ls[i.val]? = some (.val (.long v))) (hp : pc + 1 = pc') (W : Wp p l e R s m args below meth c n0 Q h k n (mkF m pc' Ls (.long v :: st))) : Wp p l e R s m args below meth c n0 Q h k n (mkF m pc Ls st) := by
  subst hp; exact own_lift (fun T A t q => XS.lloadN A C.1 rfl (hb C.2.2.1 hd) hl q) W
theorem own_aload (C : Cx p s m meth c Z cd ml ret own nm) {i : Nat} {v : Value} (hd : decode cd pc = .ok (.aload i, 2)) (hl : Ls[i]? = some (.val v)) (hv : v.isRef = true) (hp : pc + 2 = pc') (W : Wp p l e R s m args below meth c n0 Q h k n (mkF m pc' Ls (v :: st))) : Wp p l e R s m args below meth c n0 Q h k n (mkF m pc Ls st) := by
  subst hp; exact own_lift (fun T A t q => XS.aload A C.1 rfl (hb C.2.2.1 hd) hl hv q) W
theorem own_aloadN (C : Cx p s m meth c Z cd ml ret own nm) {i : Fin 4} {v : Value} (hd : decode cd pc = .ok (.aload_n i, 1)) (hl : Ls[i.val]? = some (.val v)) (hv : v.isRef = true) (hp : pc + 1 = pc') (W : Wp p l e R s m args below meth c n0 Q h k n (mkF m pc' Ls (v :: st))) : Wp p l e R s m args below meth c n0 Q h k n (mkF m pc Ls st) := by
  subst hp; exact own_lift (fun T A t q => XS.aloadN A C.1 rfl (hb C.2.2.1 hd) hl hv q) W
theorem own_istore (C : Cx p s m meth c Z cd ml ret own nm) {i : Nat} {x y : Int32} (hd : decode cd pc = .ok (.istore i, 2)) (hy : x = y) (hl : storeLocals Ls i (.int y) = some Ls') (hp : pc + 2 = pc') (W : Wp p l e R s m args below meth c n0 Q h k n (mkF m pc' Ls' st)) : Wp p l e R s m args below meth c n0 Q h k n (mkF m pc Ls (.int x :: st)) := by
  subst hp hy; exact own_lift (fun T A t q => XS.istore A C.1 rfl (hb C.2.2.1 hd) rfl hl q) W
theorem own_istoreN (C : Cx p s m meth c Z cd ml ret own nm) {i : Fin 4} {x y : Int32} (hd : decode cd pc = .ok (.istore_n i, 1)) (hy : x = y) (hl : storeLocals Ls i.val (.int y) = some Ls') (hp : pc + 1 = pc') (W : Wp p l e R s m args below meth c n0 Q h k n (mkF m pc' Ls' st)) : Wp p l e R s m args below meth c n0 Q h k n (mkF m pc Ls (.int x :: st)) := by
  subst hp hy; exact own_lift (fun T A t q => XS.istoreN A C.1 rfl (hb C.2.2.1 hd) rfl hl q) W
theorem own_lstore (C : Cx p s m meth c Z cd ml ret own nm) {i : Nat} {x y : Int64} (hd : decode cd pc = .ok (.lstore i, 2)) (hy : x = y) (hl : storeLocals Ls i (.long y) = some Ls') (hp : pc + 2 = pc') (W : Wp p l e R s m args below meth c n0 Q h k n (mkF m pc' Ls' st)) : Wp p l e R s m args below meth c n0 Q h k n (mkF m pc Ls (.long x :: st)) := by
  subst hp hy; exact own_lift (fun T A t q => XS.lstore A C.1 rfl (hb C.2.2.1 hd) rfl hl q) W
theorem own_lstoreN (C : Cx p s m meth c Z cd ml ret own nm) {i : Fin 4} {x y : Int64} (hd : decode cd pc = .ok (.lstore_n i, 1)) (hy : x = y) (hl : storeLocals Ls i.val (.long y) = some Ls') (hp : pc + 1 = pc') (W : Wp p l e R s m args below meth c n0 Q h k n (mkF m pc' Ls' st)) : Wp p l e R s m args below meth c n0 Q h k n (mkF m pc Ls (.long x :: st)) := by
  subst hp hy; exact own_lift (fun T A t q => XS.lstoreN A C.1 rfl (hb C.2.2.1 hd) rfl hl q) W
theorem own_astore (C : Cx p s m meth c Z cd ml ret own nm) {i : Nat} {x : Value} (hd : decode cd pc = .ok (.astore i, 2)) (hv : x.isRef = true) (hl : storeLocals Ls i x = some Ls') (hp : pc + 2 = pc') (W : Wp p l e R s m args below meth c n0 Q h k n (mkF m pc' Ls' st)) : Wp p l e R s m args below meth c n0 Q h k n (mkF m pc Ls (x :: st)) := by
  subst hp; exact own_lift (fun T A t q => XS.astore A C.1 rfl (hb C.2.2.1 hd) rfl hv hl q) W
theorem own_astoreN (C : Cx p s m meth c Z cd ml ret own nm) {i : Fin 4} {x : Value} (hd : decode cd pc = .ok (.astore_n i, 1)) (hv : x.isRef = true) (hl : storeLocals Ls i.val x = some Ls') (hp : pc + 1 = pc') (W : Wp p l e R s m args below meth c n0 Q h k n (mkF m pc' Ls' st)) : Wp p l e R s m args below meth c n0 Q h k n (mkF m pc Ls (x :: st)) := by
  subst hp; exact own_lift (fun T A t q => XS.astoreN A C.1 rfl (hb C.2.2.1 hd) rfl hv hl q) W
theorem own_iconst (C : Cx p s m meth c Z cd ml ret own nm) {i : Int} {v : Int32} (hd : decode cd pc = .ok (.iconst i, 1)) (hv : Int32.ofInt i = v) (hp : pc + 1 = pc') (W : Wp p l e R s m args below meth c n0 Q h k n (mkF m pc' Ls (.int v :: st))) : Wp p l e R s m args below meth c n0 Q h k n (mkF m pc Ls st) := by
  subst hp hv; exact own_lift (fun T A t q => XS.iconst A C.1 rfl (hb C.2.2.1 hd) q) W
theorem own_bipush (C : Cx p s m meth c Z cd ml ret own nm) {i : Int} {v : Int32} (hd : decode cd pc = .ok (.bipush i, 2)) (hv : (Int8.ofInt i).toInt32 = v) (hp : pc + 2 = pc') (W : Wp p l e R s m args below meth c n0 Q h k n (mkF m pc' Ls (.int v :: st))) : Wp p l e R s m args below meth c n0 Q h k n (mkF m pc Ls st) := by
  subst hp hv; exact own_lift (fun T A t q => XS.bipush A C.1 rfl (hb C.2.2.1 hd) q) W
theorem own_sipush (C : Cx p s m meth c Z cd ml ret own nm) {i : Int} {v : Int32} (hd : decode cd pc = .ok (.sipush i, 3)) (hv : (Int16.ofInt i).toInt32 = v) (hp : pc + 3 = pc') (W : Wp p l e R s m args below meth c n0 Q h k n (mkF m pc' Ls (.int v :: st))) : Wp p l e R s m args below meth c n0 Q h k n (mkF m pc Ls st) := by
  subst hp hv; exact own_lift (fun T A t q => XS.sipush A C.1 rfl (hb C.2.2.1 hd) q) W
theorem own_lconst (C : Cx p s m meth c Z cd ml ret own nm) {i : Fin 2} {v : Int64} (hd : decode cd pc = .ok (.lconst i, 1)) (hv : Int64.ofNat i.val = v) (hp : pc + 1 = pc') (W : Wp p l e R s m args below meth c n0 Q h k n (mkF m pc' Ls (.long v :: st))) : Wp p l e R s m args below meth c n0 Q h k n (mkF m pc Ls st) := by
  subst hp hv; exact own_lift (fun T A t q => XS.lconst A C.1 rfl (hb C.2.2.1 hd) q) W
theorem own_null (C : Cx p s m meth c Z cd ml ret own nm) (hd : decode cd pc = .ok (.aconst_null, 1)) (hp : pc + 1 = pc') (W : Wp p l e R s m args below meth c n0 Q h k n (mkF m pc' Ls (.null :: st))) : Wp p l e R s m args below meth c n0 Q h k n (mkF m pc Ls st) := by
  subst hp; exact own_lift (fun T A t q => XS.aconstNull A C.1 rfl (hb C.2.2.1 hd) q) W
/-! returns -/
theorem own_vret (C : Cx p s m meth c Z cd ml none own nm) (hd : decode cd pc = .ok (.return_, 1)) (hk : k ≤ R.cells) (hn : n ≤ R.slots) (hq : Q none h) : Wp p l e R s m args below meth c n0 Q h k n (mkF m pc Ls []) := fun T locs X eT N => by
  obtain ⟨hx, hZ, hby, hml, hown, hret, hlk, hnm⟩ := C
  obtain ⟨fs, hr, hrun, hended, hW, hsame⟩ := X.leave (v := none) (fun _ => rfl) hlk
  exact ⟨_, _, X.returnOut hx hret (hb hby hd) hr, hrun, hended, _, _, rfl, ⟨by rw [show (T.setFrames fs).heap = T.heap from rfl, eT]; exact hq, N⟩, ⟨_, rfl⟩, hW, hsame.mono hk hn⟩
theorem own_iret {z : Int32} (C : Cx p s m meth c Z cd ml (some .int) own nm) (hd : decode cd pc = .ok (.ireturn, 1)) (hk : k ≤ R.cells) (hn : n ≤ R.slots) (hq : Q (some (.int z)) h) : Wp p l e R s m args below meth c n0 Q h k n (mkF m pc Ls (.int z :: st)) := fun T locs X eT N => by
  obtain ⟨hx, hZ, hby, hml, hown, hret, hlk, hnm⟩ := C
  obtain ⟨fs, hr, hrun, hended, hW, hsame⟩ := X.leave (v := some (.int z)) (fun q => by rw [hret] at q; cases q) hlk
  exact ⟨_, _, retI X hx hret (hb hby hd) hr, hrun, hended, _, _, rfl, ⟨by rw [show (T.setFrames fs).heap = T.heap from rfl, eT]; exact hq, N⟩, ⟨_, rfl⟩, hW, hsame.mono hk hn⟩
theorem own_nret {z : Int32} {t : FieldType} (C : Cx p s m meth c Z cd ml (some t) own nm) (ht : t = .boolean ∨ t = .byte ∨ t = .char ∨ t = .short) (hd : decode cd pc = .ok (.ireturn, 1)) (hk : k ≤ R.cells) (hn : n ≤ R.slots) (hq : Q (some (.int (nar t z))) h) : Wp p l e R s m args below meth c n0 Q h k n (mkF m pc Ls (.int z :: st)) := fun T locs X eT N => by
  obtain ⟨hx, hZ, hby, hml, hown, hret, hlk, hnm⟩ := C
  obtain ⟨fs, hr, hrun, hended, hW, hsame⟩ := X.leave (v := some (.int (nar t z))) (fun q => by rw [hret] at q; cases q) hlk
  exact ⟨_, _, retN X hx hret ht (hb hby hd) hr, hrun, hended, _, _, rfl, ⟨by rw [show (T.setFrames fs).heap = T.heap from rfl, eT]; exact hq, N⟩, ⟨_, rfl⟩, hW, hsame.mono hk hn⟩
theorem own_zret {z : Int32} (C : Cx p s m meth c Z cd ml (some .boolean) own nm) (hd : decode cd pc = .ok (.ireturn, 1)) (hk : k ≤ R.cells) (hn : n ≤ R.slots) (hz : z = 0 ∨ z = 1) (hq : Q (some (.int z)) h) : Wp p l e R s m args below meth c n0 Q h k n (mkF m pc Ls (.int z :: st)) :=
  own_nret C (Or.inl rfl) hd hk hn (by rcases hz with rfl | rfl <;> exact hq)
theorem own_lret {z : Int64} (C : Cx p s m meth c Z cd ml (some .long) own nm) (hd : decode cd pc = .ok (.lreturn, 1)) (hk : k ≤ R.cells) (hn : n ≤ R.slots) (hq : Q (some (.long z)) h) : Wp p l e R s m args below meth c n0 Q h k n (mkF m pc Ls [.long z]) := fun T locs X eT N => by
  obtain ⟨hx, hZ, hby, hml, hown, hret, hlk, hnm⟩ := C
  obtain ⟨fs, hr, hrun, hended, hW, hsame⟩ := X.leave (v := some (.long z)) (fun q => by rw [hret] at q; cases q) hlk
  exact ⟨_, _, X.lreturnOut hx hret (hb hby hd) hr, hrun, hended, _, _, rfl, ⟨by rw [show (T.setFrames fs).heap = T.heap from rfl, eT]; exact hq, N⟩, ⟨_, rfl⟩, hW, hsame.mono hk hn⟩
theorem own_aret {z : Value} {t : FieldType} (C : Cx p s m meth c Z cd ml (some t) own nm) (hv : z.isRef = true) (ht : t.isReference = true) (hd : decode cd pc = .ok (.areturn, 1)) (hk : k ≤ R.cells) (hn : n ≤ R.slots) (hq : Q (some z) h) : Wp p l e R s m args below meth c n0 Q h k n (mkF m pc Ls (z :: st)) := fun T locs X eT N => by
  obtain ⟨hx, hZ, hby, hml, hown, hret, hlk, hnm⟩ := C
  obtain ⟨fs, hr, hrun, hended, hW, hsame⟩ := X.leave (v := some z) (fun q => by rw [hret] at q; cases q) hlk
  have hd' := hb hby hd
  refine ⟨_, _, ?_, hrun, hended, _, _, rfl, ⟨by rw [show (T.setFrames fs).heap = T.heap from rfl, eT]; exact hq, N⟩, ⟨_, rfl⟩, hW, hsame.mono hk hn⟩
  jvm_step X.here [X.here.top, hx, hd', X.method', hret, hv, ht]
  first | (intro acts; rw [hr _ acts rfl rfl rfl]) | rw [hr _ _ rfl rfl rfl]
  exact Steps.refl _
theorem own_iadd (C : Cx p s m meth c Z cd ml ret own nm) {x y v : Int32} (hd : decode cd pc = .ok (.iadd, 1)) (hv : x + y = v) (hp : pc + 1 = pc') (W : Wp p l e R s m args below meth c n0 Q h k n (mkF m pc' Ls (.int v :: st))) : Wp p l e R s m args below meth c n0 Q h k n (mkF m pc Ls (.int y :: .int x :: st)) := by
  subst hp hv; exact own_lift (fun T A t q => XS.iadd A C.1 rfl (hb C.2.2.1 hd) rfl q) W
theorem own_isub (C : Cx p s m meth c Z cd ml ret own nm) {x y v : Int32} (hd : decode cd pc = .ok (.isub, 1)) (hv : x - y = v) (hp : pc + 1 = pc') (W : Wp p l e R s m args below meth c n0 Q h k n (mkF m pc' Ls (.int v :: st))) : Wp p l e R s m args below meth c n0 Q h k n (mkF m pc Ls (.int y :: .int x :: st)) := by
  subst hp hv; exact own_lift (fun T A t q => XS.isub A C.1 rfl (hb C.2.2.1 hd) rfl q) W
theorem own_imul (C : Cx p s m meth c Z cd ml ret own nm) {x y v : Int32} (hd : decode cd pc = .ok (.imul, 1)) (hv : x * y = v) (hp : pc + 1 = pc') (W : Wp p l e R s m args below meth c n0 Q h k n (mkF m pc' Ls (.int v :: st))) : Wp p l e R s m args below meth c n0 Q h k n (mkF m pc Ls (.int y :: .int x :: st)) := by
  subst hp hv; exact own_lift (fun T A t q => XS.imul A C.1 rfl (hb C.2.2.1 hd) rfl q) W
theorem own_iand (C : Cx p s m meth c Z cd ml ret own nm) {x y v : Int32} (hd : decode cd pc = .ok (.iand, 1)) (hv : x &&& y = v) (hp : pc + 1 = pc') (W : Wp p l e R s m args below meth c n0 Q h k n (mkF m pc' Ls (.int v :: st))) : Wp p l e R s m args below meth c n0 Q h k n (mkF m pc Ls (.int y :: .int x :: st)) := by
  subst hp hv; exact own_lift (fun T A t q => XS.iand A C.1 rfl (hb C.2.2.1 hd) rfl q) W
theorem own_ior (C : Cx p s m meth c Z cd ml ret own nm) {x y v : Int32} (hd : decode cd pc = .ok (.ior, 1)) (hv : x ||| y = v) (hp : pc + 1 = pc') (W : Wp p l e R s m args below meth c n0 Q h k n (mkF m pc' Ls (.int v :: st))) : Wp p l e R s m args below meth c n0 Q h k n (mkF m pc Ls (.int y :: .int x :: st)) := by
  subst hp hv; exact own_lift (fun T A t q => XS.ior A C.1 rfl (hb C.2.2.1 hd) rfl q) W
theorem own_ixor (C : Cx p s m meth c Z cd ml ret own nm) {x y v : Int32} (hd : decode cd pc = .ok (.ixor, 1)) (hv : x ^^^ y = v) (hp : pc + 1 = pc') (W : Wp p l e R s m args below meth c n0 Q h k n (mkF m pc' Ls (.int v :: st))) : Wp p l e R s m args below meth c n0 Q h k n (mkF m pc Ls (.int y :: .int x :: st)) := by
  subst hp hv; exact own_lift (fun T A t q => XS.ixor A C.1 rfl (hb C.2.2.1 hd) rfl q) W
theorem own_ishl (C : Cx p s m meth c Z cd ml ret own nm) {x y v : Int32} (hd : decode cd pc = .ok (.ishl, 1)) (hv : x <<< (y &&& 31) = v) (hp : pc + 1 = pc') (W : Wp p l e R s m args below meth c n0 Q h k n (mkF m pc' Ls (.int v :: st))) : Wp p l e R s m args below meth c n0 Q h k n (mkF m pc Ls (.int y :: .int x :: st)) := by
  subst hp hv; exact own_lift (fun T A t q => XS.ishl A C.1 rfl (hb C.2.2.1 hd) rfl q) W
theorem own_ishr (C : Cx p s m meth c Z cd ml ret own nm) {x y v : Int32} (hd : decode cd pc = .ok (.ishr, 1)) (hv : x >>> (y &&& 31) = v) (hp : pc + 1 = pc') (W : Wp p l e R s m args below meth c n0 Q h k n (mkF m pc' Ls (.int v :: st))) : Wp p l e R s m args below meth c n0 Q h k n (mkF m pc Ls (.int y :: .int x :: st)) := by
  subst hp hv; exact own_lift (fun T A t q => XS.ishr A C.1 rfl (hb C.2.2.1 hd) rfl q) W
theorem own_iushr (C : Cx p s m meth c Z cd ml ret own nm) {x y v : Int32} (hd : decode cd pc = .ok (.iushr, 1)) (hv : (x.toUInt32 >>> (y &&& 31).toUInt32).toInt32 = v) (hp : pc + 1 = pc') (W : Wp p l e R s m args below meth c n0 Q h k n (mkF m pc' Ls (.int v :: st))) : Wp p l e R s m args below meth c n0 Q h k n (mkF m pc Ls (.int y :: .int x :: st)) := by
  subst hp hv; exact own_lift (fun T A t q => XS.iushr A C.1 rfl (hb C.2.2.1 hd) rfl q) W
theorem own_idiv (C : Cx p s m meth c Z cd ml ret own nm) {x y v : Int32} (hd : decode cd pc = .ok (.idiv, 1)) (hy : y ≠ 0) (hv : x / y = v) (hp : pc + 1 = pc') (W : Wp p l e R s m args below meth c n0 Q h k n (mkF m pc' Ls (.int v :: st))) : Wp p l e R s m args below meth c n0 Q h k n (mkF m pc Ls (.int y :: .int x :: st)) := by
  subst hp hv; exact own_lift (fun T A t q => XS.idiv A C.1 rfl (hb C.2.2.1 hd) rfl hy q) W
theorem own_ladd (C : Cx p s m meth c Z cd ml ret own nm) {x y v : Int64} (hd : decode cd pc = .ok (.ladd, 1)) (hv : x + y = v) (hp : pc + 1 = pc') (W : Wp p l e R s m args below meth c n0 Q h k n (mkF m pc' Ls (.long v :: st))) : Wp p l e R s m args below meth c n0 Q h k n (mkF m pc Ls (.long y :: .long x :: st)) := by
  subst hp hv; exact own_lift (fun T A t q => XS.ladd A C.1 rfl (hb C.2.2.1 hd) rfl q) W
theorem own_lsub (C : Cx p s m meth c Z cd ml ret own nm) {x y v : Int64} (hd : decode cd pc = .ok (.lsub, 1)) (hv : x - y = v) (hp : pc + 1 = pc') (W : Wp p l e R s m args below meth c n0 Q h k n (mkF m pc' Ls (.long v :: st))) : Wp p l e R s m args below meth c n0 Q h k n (mkF m pc Ls (.long y :: .long x :: st)) := by
  subst hp hv; exact own_lift (fun T A t q => XS.lsub A C.1 rfl (hb C.2.2.1 hd) rfl q) W
theorem own_lmul (C : Cx p s m meth c Z cd ml ret own nm) {x y v : Int64} (hd : decode cd pc = .ok (.lmul, 1)) (hv : x * y = v) (hp : pc + 1 = pc') (W : Wp p l e R s m args below meth c n0 Q h k n (mkF m pc' Ls (.long v :: st))) : Wp p l e R s m args below meth c n0 Q h k n (mkF m pc Ls (.long y :: .long x :: st)) := by
  subst hp hv; exact own_lift (fun T A t q => XS.lmul A C.1 rfl (hb C.2.2.1 hd) rfl q) W
theorem own_land (C : Cx p s m meth c Z cd ml ret own nm) {x y v : Int64} (hd : decode cd pc = .ok (.land, 1)) (hv : x &&& y = v) (hp : pc + 1 = pc') (W : Wp p l e R s m args below meth c n0 Q h k n (mkF m pc' Ls (.long v :: st))) : Wp p l e R s m args below meth c n0 Q h k n (mkF m pc Ls (.long y :: .long x :: st)) := by
  subst hp hv; exact own_lift (fun T A t q => XS.land A C.1 rfl (hb C.2.2.1 hd) rfl q) W
theorem own_lor (C : Cx p s m meth c Z cd ml ret own nm) {x y v : Int64} (hd : decode cd pc = .ok (.lor, 1)) (hv : x ||| y = v) (hp : pc + 1 = pc') (W : Wp p l e R s m args below meth c n0 Q h k n (mkF m pc' Ls (.long v :: st))) : Wp p l e R s m args below meth c n0 Q h k n (mkF m pc Ls (.long y :: .long x :: st)) := by
  subst hp hv; exact own_lift (fun T A t q => XS.lor A C.1 rfl (hb C.2.2.1 hd) rfl q) W
theorem own_lxor (C : Cx p s m meth c Z cd ml ret own nm) {x y v : Int64} (hd : decode cd pc = .ok (.lxor, 1)) (hv : x ^^^ y = v) (hp : pc + 1 = pc') (W : Wp p l e R s m args below meth c n0 Q h k n (mkF m pc' Ls (.long v :: st))) : Wp p l e R s m args below meth c n0 Q h k n (mkF m pc Ls (.long y :: .long x :: st)) := by
  subst hp hv; exact own_lift (fun T A t q => XS.lxor A C.1 rfl (hb C.2.2.1 hd) rfl q) W
theorem own_ldiv (C : Cx p s m meth c Z cd ml ret own nm) {x y v : Int64} (hd : decode cd pc = .ok (.ldiv, 1)) (hy : y ≠ 0) (hv : x / y = v) (hp : pc + 1 = pc') (W : Wp p l e R s m args below meth c n0 Q h k n (mkF m pc' Ls (.long v :: st))) : Wp p l e R s m args below meth c n0 Q h k n (mkF m pc Ls (.long y :: .long x :: st)) := by
  subst hp hv; exact own_lift (fun T A t q => XS.ldiv A C.1 rfl (hb C.2.2.1 hd) rfl hy q) W
theorem own_irem (C : Cx p s m meth c Z cd ml ret own nm) {x y v : Int32} (hd : decode cd pc = .ok (.irem, 1)) (hy : y ≠ 0) (hv : x % y = v) (hp : pc + 1 = pc') (W : Wp p l e R s m args below meth c n0 Q h k n (mkF m pc' Ls (.int v :: st))) : Wp p l e R s m args below meth c n0 Q h k n (mkF m pc Ls (.int y :: .int x :: st)) := by
  subst hp hv; exact own_liftX (fun T locs X eT t q => iremM X C.1 rfl (hb C.2.2.1 hd) rfl hy q) W
theorem own_lrem (C : Cx p s m meth c Z cd ml ret own nm) {x y v : Int64} (hd : decode cd pc = .ok (.lrem, 1)) (hy : y ≠ 0) (hv : x % y = v) (hp : pc + 1 = pc') (W : Wp p l e R s m args below meth c n0 Q h k n (mkF m pc' Ls (.long v :: st))) : Wp p l e R s m args below meth c n0 Q h k n (mkF m pc Ls (.long y :: .long x :: st)) := by
  subst hp; rw [← lrem_mod] at hv; subst hv; exact own_lift (fun T A t q => XS.lrem A C.1 rfl (hb C.2.2.1 hd) rfl hy q) W
theorem own_lshl (C : Cx p s m meth c Z cd ml ret own nm) {x v : Int64} {y : Int32} (hd : decode cd pc = .ok (.lshl, 1)) (hv : x <<< (y &&& 0x3f).toInt64 = v) (hp : pc + 1 = pc') (W : Wp p l e R s m args below meth c n0 Q h k n (mkF m pc' Ls (.long v :: st))) : Wp p l e R s m args below meth c n0 Q h k n (mkF m pc Ls (.int y :: .long x :: st)) := by
  subst hp hv; exact own_lift (fun T A t q => XS.lshl A C.1 rfl (hb C.2.2.1 hd) rfl q) W
theorem own_lshr (C : Cx p s m meth c Z cd ml ret own nm) {x v : Int64} {y : Int32} (hd : decode cd pc = .ok (.lshr, 1)) (hv : x >>> (y &&& 0x3f).toInt64 = v) (hp : pc + 1 = pc') (W : Wp p l e R s m args below meth c n0 Q h k n (mkF m pc' Ls (.long v :: st))) : Wp p l e R s m args below meth c n0 Q h k n (mkF m pc Ls (.int y :: .long x :: st)) := by
  subst hp hv; exact own_lift (fun T A t q => XS.lshr A C.1 rfl (hb C.2.2.1 hd) rfl q) W
theorem own_lushr (C : Cx p s m meth c Z cd ml ret own nm) {x v : Int64} {y : Int32} (hd : decode cd pc = .ok (.lushr, 1)) (hv : (x.toUInt64 >>> (y &&& 0x3f).toInt64.toUInt64).toInt64 = v) (hp : pc + 1 = pc') (W : Wp p l e R s m args below meth c n0 Q h k n (mkF m pc' Ls (.long v :: st))) : Wp p l e R s m args below meth c n0 Q h k n (mkF m pc Ls (.int y :: .long x :: st)) := by
  subst hp hv; exact own_lift (fun T A t q => XS.lushr A C.1 rfl (hb C.2.2.1 hd) rfl q) W
theorem own_ineg (C : Cx p s m meth c Z cd ml ret own nm) {x : Int32} {v : Int32} (hd : decode cd pc = .ok (.ineg, 1)) (hv : -x = v) (hp : pc + 1 = pc') (W : Wp p l e R s m args below meth c n0 Q h k n (mkF m pc' Ls (.int v :: st))) : Wp p l e R s m args below meth c n0 Q h k n (mkF m pc Ls (.int x :: st)) := by
  subst hp hv; exact own_lift (fun T A t q => XS.ineg A C.1 rfl (hb C.2.2.1 hd) rfl q) W
theorem own_lneg (C : Cx p s m meth c Z cd ml ret own nm) {x : Int64} {v : Int64} (hd : decode cd pc = .ok (.lneg, 1)) (hv : -x = v) (hp : pc + 1 = pc') (W : Wp p l e R s m args below meth c n0 Q h k n (mkF m pc' Ls (.long v :: st))) : Wp p l e R s m args below meth c n0 Q h k n (mkF m pc Ls (.long x :: st)) := by
  subst hp hv; exact own_lift (fun T A t q => XS.lneg A C.1 rfl (hb C.2.2.1 hd) rfl q) W
theorem own_i2l (C : Cx p s m meth c Z cd ml ret own nm) {x : Int32} {v : Int64} (hd : decode cd pc = .ok (.i2l, 1)) (hv : x.toInt64 = v) (hp : pc + 1 = pc') (W : Wp p l e R s m args below meth c n0 Q h k n (mkF m pc' Ls (.long v :: st))) : Wp p l e R s m args below meth c n0 Q h k n (mkF m pc Ls (.int x :: st)) := by
  subst hp hv; exact own_lift (fun T A t q => XS.i2l A C.1 rfl (hb C.2.2.1 hd) rfl q) W
theorem own_l2i (C : Cx p s m meth c Z cd ml ret own nm) {x : Int64} {v : Int32} (hd : decode cd pc = .ok (.l2i, 1)) (hv : x.toInt32 = v) (hp : pc + 1 = pc') (W : Wp p l e R s m args below meth c n0 Q h k n (mkF m pc' Ls (.int v :: st))) : Wp p l e R s m args below meth c n0 Q h k n (mkF m pc Ls (.long x :: st)) := by
  subst hp hv; exact own_lift (fun T A t q => XS.l2i A C.1 rfl (hb C.2.2.1 hd) rfl q) W
theorem own_i2b (C : Cx p s m meth c Z cd ml ret own nm) {x : Int32} {v : Int32} (hd : decode cd pc = .ok (.i2b, 1)) (hv : x.toInt8.toInt32 = v) (hp : pc + 1 = pc') (W : Wp p l e R s m args below meth c n0 Q h k n (mkF m pc' Ls (.int v :: st))) : Wp p l e R s m args below meth c n0 Q h k n (mkF m pc Ls (.int x :: st)) := by
  subst hp hv; exact own_lift (fun T A t q => XS.i2b A C.1 rfl (hb C.2.2.1 hd) rfl q) W
theorem own_i2s (C : Cx p s m meth c Z cd ml ret own nm) {x : Int32} {v : Int32} (hd : decode cd pc = .ok (.i2s, 1)) (hv : x.toInt16.toInt32 = v) (hp : pc + 1 = pc') (W : Wp p l e R s m args below meth c n0 Q h k n (mkF m pc' Ls (.int v :: st))) : Wp p l e R s m args below meth c n0 Q h k n (mkF m pc Ls (.int x :: st)) := by
  subst hp hv; exact own_lift (fun T A t q => XS.i2s A C.1 rfl (hb C.2.2.1 hd) rfl q) W
theorem own_i2c (C : Cx p s m meth c Z cd ml ret own nm) {x : Int32} {v : Int32} (hd : decode cd pc = .ok (.i2c, 1)) (hv : x.toUInt32.toUInt16.toUInt32.toInt32 = v) (hp : pc + 1 = pc') (W : Wp p l e R s m args below meth c n0 Q h k n (mkF m pc' Ls (.int v :: st))) : Wp p l e R s m args below meth c n0 Q h k n (mkF m pc Ls (.int x :: st)) := by
  subst hp hv; exact own_lift (fun T A t q => XS.i2c A C.1 rfl (hb C.2.2.1 hd) rfl q) W
theorem own_lcmp (C : Cx p s m meth c Z cd ml ret own nm) {x y : Int64} (hd : decode cd pc = .ok (.lcmp, 1)) (hp : pc + 1 = pc') (W : Wp p l e R s m args below meth c n0 Q h k n (mkF m pc' Ls (.int (lcmpW x y) :: st))) : Wp p l e R s m args below meth c n0 Q h k n (mkF m pc Ls (.long y :: .long x :: st)) := by
  subst hp; exact own_lift (fun T A t q => XS.lcmp A C.1 rfl (hb C.2.2.1 hd) rfl q) W
theorem own_dup (C : Cx p s m meth c Z cd ml ret own nm) {x : Value} (hd : decode cd pc = .ok (.dup, 1)) (hc : x.category = 1) (hp : pc + 1 = pc') (W : Wp p l e R s m args below meth c n0 Q h k n (mkF m pc' Ls (x :: x :: st))) : Wp p l e R s m args below meth c n0 Q h k n (mkF m pc Ls (x :: st)) := by
  subst hp; exact own_lift (fun T A t q => XS.dup A C.1 rfl (hb C.2.2.1 hd) rfl hc q) W
theorem own_pop (C : Cx p s m meth c Z cd ml ret own nm) {x : Value} (hd : decode cd pc = .ok (.pop, 1)) (hc : x.category = 1) (hp : pc + 1 = pc') (W : Wp p l e R s m args below meth c n0 Q h k n (mkF m pc' Ls st)) : Wp p l e R s m args below meth c n0 Q h k n (mkF m pc Ls (x :: st)) := by
  subst hp; exact own_lift (fun T A t q => XS.pop A C.1 rfl (hb C.2.2.1 hd) rfl hc q) W
theorem own_dupX1 (C : Cx p s m meth c Z cd ml ret own nm) {x y : Value} (hd : decode cd pc = .ok (.dup_x1, 1)) (hc : x.category = 1) (hc' : y.category = 1) (hp : pc + 1 = pc') (W : Wp p l e R s m args below meth c n0 Q h k n (mkF m pc' Ls (x :: y :: x :: st))) : Wp p l e R s m args below meth c n0 Q h k n (mkF m pc Ls (x :: y :: st)) := by
  subst hp; exact own_lift (fun T A t q => XS.dupX1 A C.1 rfl (hb C.2.2.1 hd) rfl hc hc' q) W
theorem own_dup2 (C : Cx p s m meth c Z cd ml ret own nm) {x y : Value} (hd : decode cd pc = .ok (.dup2, 1)) (hc : x.category = 1) (hc' : y.category = 1) (hp : pc + 1 = pc') (W : Wp p l e R s m args below meth c n0 Q h k n (mkF m pc' Ls (x :: y :: x :: y :: st))) : Wp p l e R s m args below meth c n0 Q h k n (mkF m pc Ls (x :: y :: st)) := by
  subst hp; exact own_lift (fun T A t q => Jvm.Free.XT.dup2 A C.1 rfl (hb C.2.2.1 hd) rfl hc hc' q) W
theorem own_iinc (C : Cx p s m meth c Z cd ml ret own nm) {i : Nat} {d : Int} {x v : Int32} (hd : decode cd pc = .ok (.iinc i d, 3)) (hl : Ls[i]? = some (.val (.int x))) (hv : x + Int32.ofInt d = v) (hl' : storeLocals Ls i (.int v) = some Ls') (hp : pc + 3 = pc') (W : Wp p l e R s m args below meth c n0 Q h k n (mkF m pc' Ls' st)) : Wp p l e R s m args below meth c n0 Q h k n (mkF m pc Ls st) := by
  subst hp hv; exact own_lift (fun T A t q => XS.iinc A C.1 rfl (hb C.2.2.1 hd) hl hl' q) W
theorem own_goto (C : Cx p s m meth c Z cd ml ret own nm) {o : Int} (hd : decode cd pc = .ok (.goto o, 3)) (ho : 0 ≤ (pc : Int) + o) (hp : ((pc : Int) + o).toNat = pc') (W : Wp p l e R s m args below meth c n0 Q h k n (mkF m pc' Ls st)) : Wp p l e R s m args below meth c n0 Q h k n (mkF m pc Ls st) :=
  own_lift (fun T A t q => XS.goto A C.1 rfl (pc0 := pc) (pc' := pc') rfl (hb C.2.2.1 hd) ho hp q) W
theorem own_icmp_lt (C : Cx p s m meth c Z cd ml ret own nm) {o : Int} {x y : Int32} {pt pf : Nat} (hd : decode cd pc = .ok (.if_icmp .lt o, 3)) (ho : 0 ≤ (pc : Int) + o) (hp : ((pc : Int) + o).toNat = pt) (hf : pc + 3 = pf) (WT : x < y → Wp p l e R s m args below meth c n0 Q h k n (mkF m pt Ls st)) (WF : ¬ x < y → Wp p l e R s m args below meth c n0 Q h k n (mkF m pf Ls st)) : Wp p l e R s m args below meth c n0 Q h k n (mkF m pc Ls (.int y :: .int x :: st)) := by
  subst hf
  by_cases g : x < y
  · exact own_lift (fun T A t q => XS.icmpYes A C.1 rfl (pc0 := pc) (pc' := pt) rfl (hb C.2.2.1 hd) rfl (tlt g).1 ho hp q) (WT g)
  · exact own_lift (fun T A t q => XS.icmpNo A C.1 rfl (hb C.2.2.1 hd) rfl (flt g).1 q) (WF g)
theorem own_if_lt (C : Cx p s m meth c Z cd ml ret own nm) {o : Int} {x : Int32} {pt pf : Nat} (hd : decode cd pc = .ok (.ifCond .lt o, 3)) (ho : 0 ≤ (pc : Int) + o) (hp : ((pc : Int) + o).toNat = pt) (hf : pc + 3 = pf) (WT : x < 0 → Wp p l e R s m args below meth c n0 Q h k n (mkF m pt Ls st)) (WF : ¬ x < 0 → Wp p l e R s m args below meth c n0 Q h k n (mkF m pf Ls st)) : Wp p l e R s m args below meth c n0 Q h k n (mkF m pc Ls (.int x :: st)) := by
  subst hf
  by_cases g : x < 0
  · exact own_lift (fun T A t q => XS.ifYes A C.1 rfl (pc0 := pc) (pc' := pt) rfl (hb C.2.2.1 hd) rfl ((if0 _ _).trans (tlt g).1) ho hp q) (WT g)
  · exact own_lift (fun T A t q => XS.ifNo A C.1 rfl (hb C.2.2.1 hd) rfl ((if0 _ _).trans (flt g).1) q) (WF g)
theorem own_lcmp_lt (C : Cx p s m meth c Z cd ml ret own nm) {o : Int} {x y : Int64} {p1 pt pf : Nat} (hd0 : decode cd pc = .ok (.lcmp, 1)) (h1 : pc + 1 = p1) (hd : decode cd p1 = .ok (.ifCond .lt o, 3)) (ho : 0 ≤ (p1 : Int) + o) (hp : ((p1 : Int) + o).toNat = pt) (hf : p1 + 3 = pf) (WT : x < y → Wp p l e R s m args below meth c n0 Q h k n (mkF m pt Ls st)) (WF : ¬ x < y → Wp p l e R s m args below meth c n0 Q h k n (mkF m pf Ls st)) : Wp p l e R s m args below meth c n0 Q h k n (mkF m pc Ls (.long y :: .long x :: st)) :=
  own_lcmp C hd0 h1 (own_if_lt C hd ho hp hf (fun g => WT ((lw_lt x y).mp g)) (fun g => WF (fun q => g ((lw_lt x y).mpr q))))
theorem own_icmp_ge (C : Cx p s m meth c Z cd ml ret own nm) {o : Int} {x y : Int32} {pt pf : Nat} (hd : decode cd pc = .ok (.if_icmp .ge o, 3)) (ho : 0 ≤ (pc : Int) + o) (hp : ((pc : Int) + o).toNat = pt) (hf : pc + 3 = pf) (WT : ¬ x < y → Wp p l e R s m args below meth c n0 Q h k n (mkF m pt Ls st)) (WF : x < y → Wp p l e R s m args below meth c n0 Q h k n (mkF m pf Ls st)) : Wp p l e R s m args below meth c n0 Q h k n (mkF m pc Ls (.int y :: .int x :: st)) := by
  subst hf
  by_cases g : x < y
  · exact own_lift (fun T A t q => XS.icmpNo A C.1 rfl (hb C.2.2.1 hd) rfl (tlt g).2.1 q) (WF g)
  · exact own_lift (fun T A t q => XS.icmpYes A C.1 rfl (pc0 := pc) (pc' := pt) rfl (hb C.2.2.1 hd) rfl (flt g).2.1 ho hp q) (WT g)
theorem own_if_ge (C : Cx p s m meth c Z cd ml ret own nm) {o : Int} {x : Int32} {pt pf : Nat} (hd : decode cd pc = .ok (.ifCond .ge o, 3)) (ho : 0 ≤ (pc : Int) + o) (hp : ((pc : Int) + o).toNat = pt) (hf : pc + 3 = pf) (WT : ¬ x < 0 → Wp p l e R s m args below meth c n0 Q h k n (mkF m pt Ls st)) (WF : x < 0 → Wp p l e R s m args below meth c n0 Q h k n (mkF m pf Ls st)) : Wp p l e R s m args below meth c n0 Q h k n (mkF m pc Ls (.int x :: st)) := by
  subst hf
  by_cases g : x < 0
  · exact own_lift (fun T A t q => XS.ifNo A C.1 rfl (hb C.2.2.1 hd) rfl ((if0 _ _).trans (tlt g).2.1) q) (WF g)
  · exact own_lift (fun T A t q => XS.ifYes A C.1 rfl (pc0 := pc) (pc' := pt) rfl (hb C.2.2.1 hd) rfl ((if0 _ _).trans (flt g).2.1) ho hp q) (WT g)
theorem own_lcmp_ge (C : Cx p s m meth c Z cd ml ret own nm) {o : Int} {x y : Int64} {p1 pt pf : Nat} (hd0 : decode cd pc = .ok (.lcmp, 1)) (h1 : pc + 1 = p1) (hd : decode cd p1 = .ok (.ifCond .ge o, 3)) (ho : 0 ≤ (p1 : Int) + o) (hp : ((p1 : Int) + o).toNat = pt) (hf : p1 + 3 = pf) (WT : ¬ x < y → Wp p l e R s m args below meth c n0 Q h k n (mkF m pt Ls st)) (WF : x < y → Wp p l e R s m args below meth c n0 Q h k n (mkF m pf Ls st)) : Wp p l e R s m args below meth c n0 Q h k n (mkF m pc Ls (.long y :: .long x :: st)) :=
  own_lcmp C hd0 h1 (own_if_ge C hd ho hp hf (fun g => WT (fun q => g ((lw_lt x y).mpr q))) (fun g => WF ((lw_lt x y).mp g)))
theorem own_icmp_gt (C : Cx p s m meth c Z cd ml ret own nm) {o : Int} {x y : Int32} {pt pf : Nat} (hd : decode cd pc = .ok (.if_icmp .gt o, 3)) (ho : 0 ≤ (pc : Int) + o) (hp : ((pc : Int) + o).toNat = pt) (hf : pc + 3 = pf) (WT : y < x → Wp p l e R s m args below meth c n0 Q h k n (mkF m pt Ls st)) (WF : ¬ y < x → Wp p l e R s m args below meth c n0 Q h k n (mkF m pf Ls st)) : Wp p l e R s m args below meth c n0 Q h k n (mkF m pc Ls (.int y :: .int x :: st)) := by
  subst hf
  by_cases g : y < x
  · exact own_lift (fun T A t q => XS.icmpYes A C.1 rfl (pc0 := pc) (pc' := pt) rfl (hb C.2.2.1 hd) rfl (tlt g).2.2.1 ho hp q) (WT g)
  · exact own_lift (fun T A t q => XS.icmpNo A C.1 rfl (hb C.2.2.1 hd) rfl (flt g).2.2.1 q) (WF g)
theorem own_if_gt (C : Cx p s m meth c Z cd ml ret own nm) {o : Int} {x : Int32} {pt pf : Nat} (hd : decode cd pc = .ok (.ifCond .gt o, 3)) (ho : 0 ≤ (pc : Int) + o) (hp : ((pc : Int) + o).toNat = pt) (hf : pc + 3 = pf) (WT : 0 < x → Wp p l e R s m args below meth c n0 Q h k n (mkF m pt Ls st)) (WF : ¬ 0 < x → Wp p l e R s m args below meth c n0 Q h k n (mkF m pf Ls st)) : Wp p l e R s m args below meth c n0 Q h k n (mkF m pc Ls (.int x :: st)) := by
  subst hf
  by_cases g : 0 < x
  · exact own_lift (fun T A t q => XS.ifYes A C.1 rfl (pc0 := pc) (pc' := pt) rfl (hb C.2.2.1 hd) rfl ((if0 _ _).trans (tlt g).2.2.1) ho hp q) (WT g)
  · exact own_lift (fun T A t q => XS.ifNo A C.1 rfl (hb C.2.2.1 hd) rfl ((if0 _ _).trans (flt g).2.2.1) q) (WF g)
theorem own_lcmp_gt (C : Cx p s m meth c Z cd ml ret own nm) {o : Int} {x y : Int64} {p1 pt pf : Nat} (hd0 : decode cd pc = .ok (.lcmp, 1)) (h1 : pc + 1 = p1) (hd : decode cd p1 = .ok (.ifCond .gt o, 3)) (ho : 0 ≤ (p1 : Int) + o) (hp : ((p1 : Int) + o).toNat = pt) (hf : p1 + 3 = pf) (WT : y < x → Wp p l e R s m args below meth c n0 Q h k n (mkF m pt Ls st)) (WF : ¬ y < x → Wp p l e R s m args below meth c n0 Q h k n (mkF m pf Ls st)) : Wp p l e R s m args below meth c n0 Q h k n (mkF m pc Ls (.long y :: .long x :: st)) :=
  own_lcmp C hd0 h1 (own_if_gt C hd ho hp hf (fun g => WT ((lw_gt x y).mp g)) (fun g => WF (fun q => g ((lw_gt x y).mpr q))))
theorem own_icmp_le (C : Cx p s m meth c Z cd ml ret own nm) {o : Int} {x y : Int32} {pt pf : Nat} (hd : decode cd pc = .ok (.if_icmp .le o, 3)) (ho : 0 ≤ (pc : Int) + o) (hp : ((pc : Int) + o).toNat = pt) (hf : pc + 3 = pf) (WT : ¬ y < x → Wp p l e R s m args below meth c n0 Q h k n (mkF m pt Ls st)) (WF : y < x → Wp p l e R s m args below meth c n0 Q h k n (mkF m pf Ls st)) : Wp p l e R s m args below meth c n0 Q h k n (mkF m pc Ls (.int y :: .int x :: st)) := by
  subst hf
  by_cases g : y < x
  · exact own_lift (fun T A t q => XS.icmpNo A C.1 rfl (hb C.2.2.1 hd) rfl (tlt g).2.2.2 q) (WF g)
  · exact own_lift (fun T A t q => XS.icmpYes A C.1 rfl (pc0 := pc) (pc' := pt) rfl (hb C.2.2.1 hd) rfl (flt g).2.2.2 ho hp q) (WT g)
theorem own_if_le (C : Cx p s m meth c Z cd ml ret own nm) {o : Int} {x : Int32} {pt pf : Nat} (hd : decode cd pc = .ok (.ifCond .le o, 3)) (ho : 0 ≤ (pc : Int) + o) (hp : ((pc : Int) + o).toNat = pt) (hf : pc + 3 = pf) (WT : ¬ 0 < x → Wp p l e R s m args below meth c n0 Q h k n (mkF m pt Ls st)) (WF : 0 < x → Wp p l e R s m args below meth c n0 Q h k n (mkF m pf Ls st)) : Wp p l e R s m args below meth c n0 Q h k n (mkF m pc Ls (.int x :: st)) := by
  subst hf
  by_cases g : 0 < x
  · exact own_lift (fun T A t q => XS.ifNo A C.1 rfl (hb C.2.2.1 hd) rfl ((if0 _ _).trans (tlt g).2.2.2) q) (WF g)
  · exact own_lift (fun T A t q => XS.ifYes A C.1 rfl (pc0 := pc) (pc' := pt) rfl (hb C.2.2.1 hd) rfl ((if0 _ _).trans (flt g).2.2.2) ho hp q) (WT g)
theorem own_lcmp_le (C : Cx p s m meth c Z cd ml ret own nm) {o : Int} {x y : Int64} {p1 pt pf : Nat} (hd0 : decode cd pc = .ok (.lcmp, 1)) (h1 : pc + 1 = p1) (hd : decode cd p1 = .ok (.ifCond .le o, 3)) (ho : 0 ≤ (p1 : Int) + o) (hp : ((p1 : Int) + o).toNat = pt) (hf : p1 + 3 = pf) (WT : ¬ y < x → Wp p l e R s m args below meth c n0 Q h k n (mkF m pt Ls st)) (WF : y < x → Wp p l e R s m args below meth c n0 Q h k n (mkF m pf Ls st)) : Wp p l e R s m args below meth c n0 Q h k n (mkF m pc Ls (.long y :: .long x :: st)) :=
  own_lcmp C hd0 h1 (own_if_le C hd ho hp hf (fun g => WT (fun q => g ((lw_gt x y).mpr q))) (fun g => WF ((lw_gt x y).mp g)))
theorem own_icmp_eq (C : Cx p s m meth c Z cd ml ret own nm) {o : Int} {x y : Int32} {pt pf : Nat} (hd : decode cd pc = .ok (.if_icmp .eq o, 3)) (ho : 0 ≤ (pc : Int) + o) (hp : ((pc : Int) + o).toNat = pt) (hf : pc + 3 = pf) (WT : x = y → Wp p l e R s m args below meth c n0 Q h k n (mkF m pt Ls st)) (WF : ¬ x = y → Wp p l e R s m args below meth c n0 Q h k n (mkF m pf Ls st)) : Wp p l e R s m args below meth c n0 Q h k n (mkF m pc Ls (.int y :: .int x :: st)) := by
  subst hf
  by_cases g : x = y
  · exact own_lift (fun T A t q => XS.icmpYes A C.1 rfl (pc0 := pc) (pc' := pt) rfl (hb C.2.2.1 hd) rfl (teq g).1 ho hp q) (WT g)
  · exact own_lift (fun T A t q => XS.icmpNo A C.1 rfl (hb C.2.2.1 hd) rfl (feq g).1 q) (WF g)
theorem own_if_eq (C : Cx p s m meth c Z cd ml ret own nm) {o : Int} {x : Int32} {pt pf : Nat} (hd : decode cd pc = .ok (.ifCond .eq o, 3)) (ho : 0 ≤ (pc : Int) + o) (hp : ((pc : Int) + o).toNat = pt) (hf : pc + 3 = pf) (WT : x = 0 → Wp p l e R s m args below meth c n0 Q h k n (mkF m pt Ls st)) (WF : ¬ x = 0 → Wp p l e R s m args below meth c n0 Q h k n (mkF m pf Ls st)) : Wp p l e R s m args below meth c n0 Q h k n (mkF m pc Ls (.int x :: st)) := by
  subst hf
  by_cases g : x = 0
  · exact own_lift (fun T A t q => XS.ifYes A C.1 rfl (pc0 := pc) (pc' := pt) rfl (hb C.2.2.1 hd) rfl ((if0 _ _).trans (teq g).1) ho hp q) (WT g)
  · exact own_lift (fun T A t q => XS.ifNo A C.1 rfl (hb C.2.2.1 hd) rfl ((if0 _ _).trans (feq g).1) q) (WF g)
theorem own_lcmp_eq (C : Cx p s m meth c Z cd ml ret own nm) {o : Int} {x y : Int64} {p1 pt pf : Nat} (hd0 : decode cd pc = .ok (.lcmp, 1)) (h1 : pc + 1 = p1) (hd : decode cd p1 = .ok (.ifCond .eq o, 3)) (ho : 0 ≤ (p1 : Int) + o) (hp : ((p1 : Int) + o).toNat = pt) (hf : p1 + 3 = pf) (WT : x = y → Wp p l e R s m args below meth c n0 Q h k n (mkF m pt Ls st)) (WF : ¬ x = y → Wp p l e R s m args below meth c n0 Q h k n (mkF m pf Ls st)) : Wp p l e R s m args below meth c n0 Q h k n (mkF m pc Ls (.long y :: .long x :: st)) :=
  own_lcmp C hd0 h1 (own_if_eq C hd ho hp hf (fun g => WT ((lw_eq x y).mp g)) (fun g => WF (fun q => g ((lw_eq x y).mpr q))))
theorem own_icmp_ne (C : Cx p s m meth c Z cd ml ret own nm) {o : Int} {x y : Int32} {pt pf : Nat} (hd : decode cd pc = .ok (.if_icmp .ne o, 3)) (ho : 0 ≤ (pc : Int) + o) (hp : ((pc : Int) + o).toNat = pt) (hf : pc + 3 = pf) (WT : ¬ x = y → Wp p l e R s m args below meth c n0 Q h k n (mkF m pt Ls st)) (WF : x = y → Wp p l e R s m args below meth c n0 Q h k n (mkF m pf Ls st)) : Wp p l e R s m args below meth c n0 Q h k n (mkF m pc Ls (.int y :: .int x :: st)) := by
  subst hf
  by_cases g : x = y
  · exact own_lift (fun T A t q => XS.icmpNo A C.1 rfl (hb C.2.2.1 hd) rfl (teq g).2 q) (WF g)
  · exact own_lift (fun T A t q => XS.icmpYes A C.1 rfl (pc0 := pc) (pc' := pt) rfl (hb C.2.2.1 hd) rfl (feq g).2 ho hp q) (WT g)
theorem own_if_ne (C : Cx p s m meth c Z cd ml ret own nm) {o : Int} {x : Int32} {pt pf : Nat} (hd : decode cd pc = .ok (.ifCond .ne o, 3)) (ho : 0 ≤ (pc : Int) + o) (hp : ((pc : Int) + o).toNat = pt) (hf : pc + 3 = pf) (WT : ¬ x = 0 → Wp p l e R s m args below meth c n0 Q h k n (mkF m pt Ls st)) (WF : x = 0 → Wp p l e R s m args below meth c n0 Q h k n (mkF m pf Ls st)) : Wp p l e R s m args below meth c n0 Q h k n (mkF m pc Ls (.int x :: st)) := by
  subst hf
  by_cases g : x = 0
  · exact own_lift (fun T A t q => XS.ifNo A C.1 rfl (hb C.2.2.1 hd) rfl ((if0 _ _).trans (teq g).2) q) (WF g)
  · exact own_lift (fun T A t q => XS.ifYes A C.1 rfl (pc0 := pc) (pc' := pt) rfl (hb C.2.2.1 hd) rfl ((if0 _ _).trans (feq g).2) ho hp q) (WT g)
theorem own_lcmp_ne (C : Cx p s m meth c Z cd ml ret own nm) {o : Int} {x y : Int64} {p1 pt pf : Nat} (hd0 : decode cd pc = .ok (.lcmp, 1)) (h1 : pc + 1 = p1) (hd : decode cd p1 = .ok (.ifCond .ne o, 3)) (ho : 0 ≤ (p1 : Int) + o) (hp : ((p1 : Int) + o).toNat = pt) (hf : p1 + 3 = pf) (WT : ¬ x = y → Wp p l e R s m args below meth c n0 Q h k n (mkF m pt Ls st)) (WF : x = y → Wp p l e R s m args below meth c n0 Q h k n (mkF m pf Ls st)) : Wp p l e R s m args below meth c n0 Q h k n (mkF m pc Ls (.long y :: .long x :: st)) :=
  own_lcmp C hd0 h1 (own_if_ne C hd ho hp hf (fun g => WT (fun q => g ((lw_eq x y).mpr q))) (fun g => WF ((lw_eq x y).mp g)))
theorem own_acmp_eq (C : Cx p s m meth c Z cd ml ret own nm) {o : Int} {a b : Addr} {pt pf : Nat} (hd : decode cd pc = .ok (.if_acmp .eq o, 3)) (ho : 0 ≤ (pc : Int) + o) (hp : ((pc : Int) + o).toNat = pt) (hf : pc + 3 = pf) (WT : a = b → Wp p l e R s m args below meth c n0 Q h k n (mkF m pt Ls st)) (WF : ¬ a = b → Wp p l e R s m args below meth c n0 Q h k n (mkF m pf Ls st)) : Wp p l e R s m args below meth c n0 Q h k n (mkF m pc Ls (.ref b :: .ref a :: st)) := by
  subst hf
  by_cases g : a = b
  · exact own_lift (fun T A t q => XS.acmpYes A C.1 rfl (pc0 := pc) (pc' := pt) rfl (hb C.2.2.1 hd) rfl (by simp [if_acmp.holds, g]) ho hp q) (WT g)
  · exact own_lift (fun T A t q => XS.acmpNo A C.1 rfl (hb C.2.2.1 hd) rfl (by simp [if_acmp.holds, g]) q) (WF g)
theorem own_acmp_ne (C : Cx p s m meth c Z cd ml ret own nm) {o : Int} {a b : Addr} {pt pf : Nat} (hd : decode cd pc = .ok (.if_acmp .ne o, 3)) (ho : 0 ≤ (pc : Int) + o) (hp : ((pc : Int) + o).toNat = pt) (hf : pc + 3 = pf) (WT : ¬ a = b → Wp p l e R s m args below meth c n0 Q h k n (mkF m pt Ls st)) (WF : a = b → Wp p l e R s m args below meth c n0 Q h k n (mkF m pf Ls st)) : Wp p l e R s m args below meth c n0 Q h k n (mkF m pc Ls (.ref b :: .ref a :: st)) := by
  subst hf
  by_cases g : a = b
  · exact own_lift (fun T A t q => XS.acmpNo A C.1 rfl (hb C.2.2.1 hd) rfl (by simp [if_acmp.holds, g]) q) (WF g)
  · exact own_lift (fun T A t q => XS.acmpYes A C.1 rfl (pc0 := pc) (pc' := pt) rfl (hb C.2.2.1 hd) rfl (by simp [if_acmp.holds, g]) ho hp q) (WT g)
theorem own_ifnull_y (C : Cx p s m meth c Z cd ml ret own nm) {o : Int} {pt : Nat} (hd : decode cd pc = .ok (.ifnull o, 3)) (ho : 0 ≤ (pc : Int) + o) (hp : ((pc : Int) + o).toNat = pt) (W : Wp p l e R s m args below meth c n0 Q h k n (mkF m pt Ls st)) : Wp p l e R s m args below meth c n0 Q h k n (mkF m pc Ls (.null :: st)) :=
  own_lift (fun T A t q => XS.ifnullYes A C.1 rfl (pc0 := pc) (pc' := pt) rfl (hb C.2.2.1 hd) rfl ho hp q) W
theorem own_ifnull_n (C : Cx p s m meth c Z cd ml ret own nm) {o : Int} {a : Addr} (hd : decode cd pc = .ok (.ifnull o, 3)) (hp : pc + 3 = pc') (W : Wp p l e R s m args below meth c n0 Q h k n (mkF m pc' Ls st)) : Wp p l e R s m args below meth c n0 Q h k n (mkF m pc Ls (.ref a :: st)) := by
  subst hp; exact own_lift (fun T A t q => XS.ifnullNo A C.1 rfl (hb C.2.2.1 hd) rfl q) W
theorem own_ifnonnull_y (C : Cx p s m meth c Z cd ml ret own nm) {o : Int} {a : Addr} {pt : Nat} (hd : decode cd pc = .ok (.ifnonnull o, 3)) (ho : 0 ≤ (pc : Int) + o) (hp : ((pc : Int) + o).toNat = pt) (W : Wp p l e R s m args below meth c n0 Q h k n (mkF m pt Ls st)) : Wp p l e R s m args below meth c n0 Q h k n (mkF m pc Ls (.ref a :: st)) :=
  own_lift (fun T A t q => XS.ifnonnullYes A C.1 rfl (pc0 := pc) (pc' := pt) rfl (hb C.2.2.1 hd) rfl ho hp q) W
theorem own_ifnonnull_n (C : Cx p s m meth c Z cd ml ret own nm) {o : Int} (hd : decode cd pc = .ok (.ifnonnull o, 3)) (hp : pc + 3 = pc') (W : Wp p l e R s m args below meth c n0 Q h k n (mkF m pc' Ls st)) : Wp p l e R s m args below meth c n0 Q h k n (mkF m pc Ls (.null :: st)) := by
  subst hp; exact own_lift (fun T A t q => XS.ifnonnullNo A C.1 rfl (hb C.2.2.1 hd) rfl q) W
theorem own_ldc (C : Cx p s m meth c Z cd ml ret own nm) {i : Nat} {v : Int32} (hd : decode cd pc = .ok (.ldc i, 2)) (w : (Jvm.Cond.constant own i v).before a0 Z = true) (hp : pc + 2 = pc') (W : Wp p l e R s m args below meth c n0 Q h k n (mkF m pc' Ls (.int v :: st))) : Wp p l e R s m args below meth c n0 Q h k n (mkF m pc Ls st) := by
  subst hp; exact own_liftX (fun T locs X eT t q => X.ldcInt C.1 C.2.2.2.2.1 (mvT C.2.1 w) (g := mkF m pc Ls st) rfl (hb C.2.2.1 hd) t q) W
theorem own_ldcw (C : Cx p s m meth c Z cd ml ret own nm) {i : Nat} {v : Int32} (hd : decode cd pc = .ok (.ldc_w i, 3)) (w : (Jvm.Cond.constant own i v).before a0 Z = true) (hp : pc + 3 = pc') (W : Wp p l e R s m args below meth c n0 Q h k n (mkF m pc' Ls (.int v :: st))) : Wp p l e R s m args below meth c n0 Q h k n (mkF m pc Ls st) := by
  subst hp; exact own_liftX (fun T locs X eT t q => X.ldcwInt C.1 C.2.2.2.2.1 (mvT C.2.1 w) (g := mkF m pc Ls st) rfl (hb C.2.2.1 hd) t q) W
theorem own_ldc2 (C : Cx p s m meth c Z cd ml ret own nm) {i : Nat} {v : Int64} (hd : decode cd pc = .ok (.ldc2_w i, 3)) (w : (Jvm.Cond.constantLong own i v).before a0 Z = true) (hp : pc + 3 = pc') (W : Wp p l e R s m args below meth c n0 Q h k n (mkF m pc' Ls (.long v :: st))) : Wp p l e R s m args below meth c n0 Q h k n (mkF m pc Ls st) := by
  subst hp; exact own_liftX (fun T locs X eT t q => X.ldc2Long C.1 C.2.2.2.2.1 (mvT C.2.1 w) (g := mkF m pc Ls st) rfl (hb C.2.2.1 hd) t q) W
/-! objects -/
theorem own_getfield (C : Cx p s m meth c Z cd ml ret own nm) {i : Nat} {O f d : String} {a : Addr} {v : Value} (hd : decode cd pc = .ok (.getfield i, 3)) (w : (Jvm.Cond.fieldLink own i O f d).before a0 Z = true) (F : Fld Z h a O f d v) (hp : pc + 3 = pc') (W : Wp p l e R s m args below meth c n0 Q h k n (mkF m pc' Ls (v :: st))) : Wp p l e R s m args below meth c n0 Q h k n (mkF m pc Ls (.ref a :: st)) := fun T locs X eT N => by
  subst hp
  obtain ⟨T', X', e', st'⟩ := getF X C.1 C.2.1 C.2.2.2.2.1 (host := "") (Or.inl w) Via.refl eT F (g := mkF m pc Ls (.ref a :: st)) rfl rfl (hb C.2.2.1 hd)
  obtain ⟨s₂, o, q, r⟩ := W T' locs X' e' N
  exact ⟨s₂, o, st' _ q, r⟩
theorem own_getstatic (C : Cx p s m meth c Z cd ml ret own nm) {i : Nat} {O f d : String} {v : Value} (hd : decode cd pc = .ok (.getstatic i, 3)) (w : (Jvm.Cond.fieldLink own i O f d).before a0 Z = true) (F : Sta Z h O f d v) (hp : pc + 3 = pc') (W : Wp p l e R s m args below meth c n0 Q h k n (mkF m pc' Ls (v :: st))) : Wp p l e R s m args below meth c n0 Q h k n (mkF m pc Ls st) := fun T locs X eT N => by
  subst hp
  obtain ⟨T', X', e', st'⟩ := getS2 X C.1 C.2.1 C.2.2.2.2.1 (host := "") (Or.inl w) Via.refl eT F (g := mkF m pc Ls st) rfl (hb C.2.2.1 hd)
  obtain ⟨s₂, o, q, r⟩ := W T' locs X' e' N
  exact ⟨s₂, o, st' _ q, r⟩
theorem own_putfield (C : Cx p s m meth c Z cd ml ret own nm) {i kk : Nat} {O f d K : String} {ty : FieldType} {a : Addr} {v old : Value} (hd : decode cd pc = .ok (.putfield i, 3)) (w : (Jvm.Cond.fieldLink own i O f d).before a0 Z = true) (F : Fld Z h a O f d old) (E : Exa Z h a K) (L : (Jvm.Cond.lays K O f d).before a0 Z = true ∨ ((Jvm.Cond.laysFinal K O f d).before a0 Z = true ∧ own = O ∧ nm = "<init>")) (wi : (Jvm.Cond.instantiable K kk).before a0 Z = true)
    (hty : parseFieldDescriptor d = some ty) (hn : narrow ty v = v) (hf : fits ty v = true) (ha : n0 ≤ a) (hp : pc + 3 = pc') (W : ∀ h', Wr h h' a (RoadKit.slotOf Z O f d) v → Fld Z h' a O f d v → Wp p l e R s m args below meth c n0 Q h' k n (mkF m pc' Ls st)) : Wp p l e R s m args below meth c n0 Q h k n (mkF m pc Ls (v :: .ref a :: st)) := fun T locs X eT N => by
  subst hp
  obtain ⟨T', h', X', e', Wr', st'⟩ := putF X C.1 C.2.1 C.2.2.2.2.1 (host := "") (Or.inl w) Via.refl eT F E (L.imp id fun q => ⟨q.1, q.2.1, C.2.2.2.2.2.2.2.trans q.2.2⟩) wi hty hn hf (g := mkF m pc Ls (v :: .ref a :: st)) rfl rfl (hb C.2.2.1 hd)
  obtain ⟨s₂, o, q, r⟩ := W h' Wr' (F.same Wr') T' _ X' e' (Fr.snoc X' N ha)
  exact ⟨s₂, o, st' _ q, r⟩
theorem own_new (C : Cx p s m meth c Z cd ml ret own nm) {i nn : Nat} {K : String} (hd : decode cd pc = .ok (.new i, 3)) (w : (Jvm.Cond.classLink own i K).before a0 Z = true) (wi : (Jvm.Cond.instantiable K nn).before a0 Z = true) (wz : (Jvm.Cond.initialized K).before a0 Z = true) (hc : k + 1 ≤ R.cells) (hl : n + nn ≤ R.slots) (hp : pc + 3 = pc')
    (W : ∀ h' a, a = h.size → Ext h h' → Exa Z h' a K → (∀ {O f d : String} {ty : FieldType}, Laid Z a0 K O f d → parseFieldDescriptor d = some ty → Fld Z h' a O f d (defaultValue ty)) → Wp p l e R s m args below meth c n0 Q h' (k + 1) (n + nn) (mkF m pc' Ls (.ref a :: st))) : Wp p l e R s m args below meth c n0 Q h k n (mkF m pc Ls st) := fun T locs X eT N => by
  subst hp
  obtain ⟨T', h', X', e', E', A', D', -, st'⟩ := newO X C.1 C.2.1 C.2.2.2.2.1 w wi wz eT (g := mkF m pc Ls st) rfl (hb C.2.2.1 hd) hc hl
  obtain ⟨s₂, o, q, r⟩ := W h' h.size rfl E' A' D' T' _ X' e' N
  exact ⟨s₂, o, st' _ q, r⟩
/-- java.lang.Object's own constructor -/
theorem own_initO (C : Cx p s m meth c Z cd ml ret own nm) {i : Nat} {wL : Nat} (hd : decode cd pc = .ok (.invokespecial i, 3)) (w1 : (Jvm.Cond.methodLink own i Lib.objectInit).before a0 Z = true) (w2 : (Jvm.Cond.instanceMethod Lib.objectInit).before a0 Z = true) (w3 : (Jvm.Cond.code Lib.objectInit ⟨#[0xb1]⟩ 1 none).before a0 Z = true)
    {a : Addr} (hsz : Ls.size = ml) (hf : 1 ≤ R.frames) (hW : 0 + (st.map fun v => v.category).sum ≤ wL) (hl : wL + 12 ≤ R.locals) (hp : pc + 3 = pc') (W : Wp p l e R s m args below meth c n0 Q h k n (mkF m pc' Ls st)) : Wp p l e R s m args below meth c n0 Q h k n (mkF m pc Ls (.ref a :: st)) := fun T locs X eT N => by
  subst hp
  obtain ⟨T', X', e', st'⟩ := initO X C.1 C.2.1 C.2.2.2.2.1 w1 w2 w3 eT (g := mkF m pc Ls (.ref a :: st)) rfl (by rw [C.2.2.2.1]; exact hsz) rfl (hb C.2.2.1 hd) hf (W := wL) hW hl
  obtain ⟨s₂, o, q, r⟩ := W T' locs X' e' N
  exact ⟨s₂, o, st' _ q, r⟩
/-! arrays: of ints (of any narrow kind), of longs -/
def AI (Z : State) (h : Heap) (a : Addr) (ty : FieldType) (xs : List Int32) : Prop := ∃ cl : Cell, Arr Z h a cl ty ∧ cl.slots = (xs.map Value.int).toArray ∧ xs.length < 2 ^ 31
def AJ (Z : State) (h : Heap) (a : Addr) (xs : List Int64) : Prop := ∃ cl : Cell, Arr Z h a cl .long ∧ cl.slots = (xs.map Value.long).toArray ∧ xs.length < 2 ^ 31
theorem AI.lt {a : Addr} {ty : FieldType} {xs : List Int32} (A : AI Z h a ty xs) : a < h.size := by obtain ⟨cl, A, -⟩ := A; exact A.lt
theorem AJ.lt {a : Addr} {xs : List Int64} (A : AJ Z h a xs) : a < h.size := by obtain ⟨cl, A, -⟩ := A; exact A.lt
theorem AI.ext {h' : Heap} {a : Addr} {ty : FieldType} {xs : List Int32} (A : AI Z h a ty xs) (E : Ext h h') : AI Z h' a ty xs := by obtain ⟨cl, A, r⟩ := A; exact ⟨cl, A.ext E, r⟩
theorem AJ.ext {h' : Heap} {a : Addr} {xs : List Int64} (A : AJ Z h a xs) (E : Ext h h') : AJ Z h' a xs := by obtain ⟨cl, A, r⟩ := A; exact ⟨cl, A.ext E, r⟩
theorem AI.other {h' : Heap} {a b : Addr} {sl : Nat} {v : Value} {ty : FieldType} {xs : List Int32} (A : AI Z h a ty xs) (W : Wr h h' b sl v) (q : a ≠ b) : AI Z h' a ty xs := by obtain ⟨cl, A, r⟩ := A; exact ⟨cl, A.other W q, r⟩
theorem AJ.other {h' : Heap} {a b : Addr} {sl : Nat} {v : Value} {xs : List Int64} (A : AJ Z h a xs) (W : Wr h h' b sl v) (q : a ≠ b) : AJ Z h' a xs := by obtain ⟨cl, A, r⟩ := A; exact ⟨cl, A.other W q, r⟩
theorem AI.keep {h' : Heap} {a : Addr} {ws : List Addr} {ty : FieldType} {xs : List Int32} (A : AI Z h a ty xs) (K : Keep h h' ws) (q : a ∉ ws) : AI Z h' a ty xs := by obtain ⟨cl, A, r⟩ := A; exact ⟨cl, ⟨K.2.1 a cl A.1 q, A.2⟩, r⟩
theorem AJ.keep {h' : Heap} {a : Addr} {ws : List Addr} {xs : List Int64} (A : AJ Z h a xs) (K : Keep h h' ws) (q : a ∉ ws) : AJ Z h' a xs := by obtain ⟨cl, A, r⟩ := A; exact ⟨cl, ⟨K.2.1 a cl A.1 q, A.2⟩, r⟩
theorem AI.same {h' : Heap} {a : Addr} {i : Nat} {x : Int32} {ty : FieldType} {xs : List Int32} (A : AI Z h a ty xs) (W : Wr h h' a i (.int x)) : AI Z h' a ty (xs.set i x) := by
  obtain ⟨cl, A, r1, r2⟩ := A
  exact ⟨_, A.same W, by simp [Cell.setSlot, r1, List.map_set], by simpa using r2⟩
theorem AJ.same {h' : Heap} {a : Addr} {i : Nat} {x : Int64} {xs : List Int64} (A : AJ Z h a xs) (W : Wr h h' a i (.long x)) : AJ Z h' a (xs.set i x) := by
  obtain ⟨cl, A, r1, r2⟩ := A
  exact ⟨_, A.same W, by simp [Cell.setSlot, r1, List.map_set], by simpa using r2⟩
theorem own_iaload (C : Cx p s m meth c Z cd ml ret own nm) {a : Addr} {j v : Int32} {i : Nat} {xs : List Int32} (hd : decode cd pc = .ok (.iaload, 1)) (A : AI Z h a .int xs) (hj : ¬ j < 0) (hi : j.toNatClampNeg = i) (hv : xs[i]? = some v) (hp : pc + 1 = pc') (W : Wp p l e R s m args below meth c n0 Q h k n (mkF m pc' Ls (.int v :: st))) : Wp p l e R s m args below meth c n0 Q h k n (mkF m pc Ls (.int j :: .ref a :: st)) := by
  subst hp hi
  obtain ⟨cl, A, r1, r2⟩ := A
  have hlt := (List.getElem?_eq_some_iff.mp hv).1
  exact own_liftX (fun T locs X eT t q => X.iaload C.1 (j := j) (v := .int v) (by rw [eT]; exact A.1) (State.isArrayOf_alike C.2.1.alike A.2.1) A.2.2 (fun z => z.elim hj fun y => by rw [r1] at y; simp at y; omega) (by rw [r1]; simp [hv]) (g := mkF m pc Ls (.int j :: .ref a :: st)) rfl rfl (hb C.2.2.1 hd) t q) W
theorem own_baload (C : Cx p s m meth c Z cd ml ret own nm) {a : Addr} {j v : Int32} {i : Nat} {xs : List Int32} (hd : decode cd pc = .ok (.baload, 1)) (A : AI Z h a .byte xs) (hj : ¬ j < 0) (hi : j.toNatClampNeg = i) (hv : xs[i]? = some v) (hp : pc + 1 = pc') (W : Wp p l e R s m args below meth c n0 Q h k n (mkF m pc' Ls (.int v :: st))) : Wp p l e R s m args below meth c n0 Q h k n (mkF m pc Ls (.int j :: .ref a :: st)) := by
  subst hp hi
  obtain ⟨cl, A, r1, r2⟩ := A
  have hlt := (List.getElem?_eq_some_iff.mp hv).1
  exact own_liftX (fun T locs X eT t q => X.baloadBytes C.1 (j := j) (v := .int v) (by rw [eT]; exact A.1) (State.isArrayOf_alike C.2.1.alike A.2.1) A.2.2 (fun z => z.elim hj fun y => by rw [r1] at y; simp at y; omega) (by rw [r1]; simp [hv]) (g := mkF m pc Ls (.int j :: .ref a :: st)) rfl rfl (hb C.2.2.1 hd) t q) W
theorem own_laload (C : Cx p s m meth c Z cd ml ret own nm) {a : Addr} {j : Int32} {v : Int64} {i : Nat} {xs : List Int64} (hd : decode cd pc = .ok (.laload, 1)) (A : AJ Z h a xs) (hj : ¬ j < 0) (hi : j.toNatClampNeg = i) (hv : xs[i]? = some v) (hp : pc + 1 = pc') (W : Wp p l e R s m args below meth c n0 Q h k n (mkF m pc' Ls (.long v :: st))) : Wp p l e R s m args below meth c n0 Q h k n (mkF m pc Ls (.int j :: .ref a :: st)) := by
  subst hp hi
  obtain ⟨cl, A, r1, r2⟩ := A
  have hlt := (List.getElem?_eq_some_iff.mp hv).1
  exact own_liftX (fun T locs X eT t q => X.laload C.1 (j := j) (v := .long v) (by rw [eT]; exact A.1) (State.isArrayOf_alike C.2.1.alike A.2.1) A.2.2 (fun z => z.elim hj fun y => by rw [r1] at y; simp at y; omega) (by rw [r1]; simp [hv]) (g := mkF m pc Ls (.int j :: .ref a :: st)) rfl rfl (hb C.2.2.1 hd) t q) W
theorem own_lenI (C : Cx p s m meth c Z cd ml ret own nm) {a : Addr} {v : Int32} {ty : FieldType} {xs : List Int32} (hd : decode cd pc = .ok (.arraylength, 1)) (A : AI Z h a ty xs) (hv : xs.length.toInt32 = v) (hp : pc + 1 = pc') (W : Wp p l e R s m args below meth c n0 Q h k n (mkF m pc' Ls (.int v :: st))) : Wp p l e R s m args below meth c n0 Q h k n (mkF m pc Ls (.ref a :: st)) := by
  subst hp hv
  obtain ⟨cl, A, r1, r2⟩ := A
  have e1 : cl.slots.size = xs.length := by rw [r1]; simp
  exact own_liftX (fun T locs X eT t q => X.arraylength C.1 (by rw [eT]; exact A.1) (State.isArrayOf_alike C.2.1.alike A.2.1) (g := mkF m pc Ls (.ref a :: st)) rfl rfl (hb C.2.2.1 hd) t (by rw [e1]; exact q)) W
theorem own_lenJ (C : Cx p s m meth c Z cd ml ret own nm) {a : Addr} {v : Int32} {xs : List Int64} (hd : decode cd pc = .ok (.arraylength, 1)) (A : AJ Z h a xs) (hv : xs.length.toInt32 = v) (hp : pc + 1 = pc') (W : Wp p l e R s m args below meth c n0 Q h k n (mkF m pc' Ls (.int v :: st))) : Wp p l e R s m args below meth c n0 Q h k n (mkF m pc Ls (.ref a :: st)) := by
  subst hp hv
  obtain ⟨cl, A, r1, r2⟩ := A
  have e1 : cl.slots.size = xs.length := by rw [r1]; simp
  exact own_liftX (fun T locs X eT t q => X.arraylength C.1 (by rw [eT]; exact A.1) (State.isArrayOf_alike C.2.1.alike A.2.1) (g := mkF m pc Ls (.ref a :: st)) rfl rfl (hb C.2.2.1 hd) t (by rw [e1]; exact q)) W
theorem own_iastore (C : Cx p s m meth c Z cd ml ret own nm) {a : Addr} {j x : Int32} {i : Nat} {xs ys : List Int32} (hd : decode cd pc = .ok (.iastore, 1)) (A : AI Z h a .int xs) (hj : ¬ j < 0) (hi : j.toNatClampNeg = i) (hlt : i < xs.length) (hys : xs.set i x = ys) (ha : n0 ≤ a) (hp : pc + 1 = pc') (W : ∀ h', Wr h h' a i (.int x) → AI Z h' a .int ys → Wp p l e R s m args below meth c n0 Q h' k n (mkF m pc' Ls st)) : Wp p l e R s m args below meth c n0 Q h k n (mkF m pc Ls (.int x :: .int j :: .ref a :: st)) := fun T locs X eT N => by
  subst hp hi hys
  have A' := A
  obtain ⟨cl, A, r1, r2⟩ := A
  obtain ⟨T', h', X', e', Wr', st'⟩ := stI X C.1 C.2.1 eT A (j := j) (x := x) (fun z => z.elim hj fun y => by rw [r1] at y; simp at y; omega) (g := mkF m pc Ls (.int x :: .int j :: .ref a :: st)) rfl rfl (hb C.2.2.1 hd)
  obtain ⟨s₂, o, q, r⟩ := W h' Wr' (A'.same Wr') T' _ X' e' (Fr.snoc X' N ha)
  exact ⟨s₂, o, st' _ q, r⟩
theorem own_lastore (C : Cx p s m meth c Z cd ml ret own nm) {a : Addr} {j : Int32} {x : Int64} {i : Nat} {xs ys : List Int64} (hd : decode cd pc = .ok (.lastore, 1)) (A : AJ Z h a xs) (hj : ¬ j < 0) (hi : j.toNatClampNeg = i) (hlt : i < xs.length) (hys : xs.set i x = ys) (ha : n0 ≤ a) (hp : pc + 1 = pc') (W : ∀ h', Wr h h' a i (.long x) → AJ Z h' a ys → Wp p l e R s m args below meth c n0 Q h' k n (mkF m pc' Ls st)) : Wp p l e R s m args below meth c n0 Q h k n (mkF m pc Ls (.long x :: .int j :: .ref a :: st)) := fun T locs X eT N => by
  subst hp hi hys
  have A' := A
  obtain ⟨cl, A, r1, r2⟩ := A
  obtain ⟨T', h', X', e', Wr', st'⟩ := stJ X C.1 C.2.1 eT A (j := j) (x := x) (fun z => z.elim hj fun y => by rw [r1] at y; simp at y; omega) (g := mkF m pc Ls (.long x :: .int j :: .ref a :: st)) rfl rfl (hb C.2.2.1 hd)
  obtain ⟨s₂, o, q, r⟩ := W h' Wr' (A'.same Wr') T' _ X' e' (Fr.snoc X' N ha)
  exact ⟨s₂, o, st' _ q, r⟩
theorem own_bastore (C : Cx p s m meth c Z cd ml ret own nm) {a : Addr} {j x : Int32} {i : Nat} {xs ys : List Int32} (hd : decode cd pc = .ok (.bastore, 1)) (A : AI Z h a .byte xs) (hj : ¬ j < 0) (hi : j.toNatClampNeg = i) (hlt : i < xs.length) (hys : xs.set i (nar .byte x) = ys) (ha : n0 ≤ a) (hp : pc + 1 = pc') (W : ∀ h', Wr h h' a i (.int (nar .byte x)) → AI Z h' a .byte ys → Wp p l e R s m args below meth c n0 Q h' k n (mkF m pc' Ls st)) : Wp p l e R s m args below meth c n0 Q h k n (mkF m pc Ls (.int x :: .int j :: .ref a :: st)) := fun T locs X eT N => by
  subst hp hi hys
  have A' := A
  obtain ⟨cl, A, r1, r2⟩ := A
  obtain ⟨T', h', X', e', Wr', st'⟩ := stB X C.1 C.2.1 eT A (j := j) (x := x) (fun z => z.elim hj fun y => by rw [r1] at y; simp at y; omega) (g := mkF m pc Ls (.int x :: .int j :: .ref a :: st)) rfl rfl (hb C.2.2.1 hd)
  obtain ⟨s₂, o, q, r⟩ := W h' Wr' (A'.same Wr') T' _ X' e' (Fr.snoc X' N ha)
  exact ⟨s₂, o, st' _ q, r⟩
theorem own_newI (C : Cx p s m meth c Z cd ml ret own nm) {aty : ArrayType} {ty : FieldType} {z : Int32} {len cap : Nat} (hd : decode cd pc = .ok (.newarray aty, 2)) (hty : newarray.typeOf aty = ty) (hdv : defaultValue ty = .int 0) (w : (Jvm.Cond.arrayClass ty).before a0 Z = true) (hz : ¬ z < 0) (hlen : z.toNatClampNeg = len) (hcap : len ≤ cap) (hb8 : cap * 8 ≤ 536870912) (hc : k + 1 ≤ R.cells) (hl : n + cap ≤ R.slots) (hp : pc + 2 = pc')
    (W : ∀ h' a, a = h.size → Ext h h' → AI Z h' a ty (List.replicate len 0) → Wp p l e R s m args below meth c n0 Q h' (k + 1) (n + cap) (mkF m pc' Ls (.ref a :: st))) : Wp p l e R s m args below meth c n0 Q h k n (mkF m pc Ls (.int z :: st)) := fun T locs X eT N => by
  subst hp hlen hty
  obtain ⟨T', h', cA, X', e', E', A', st'⟩ := newP X C.1 C.2.1 w eT (g := mkF m pc Ls (.int z :: st)) rfl (hb C.2.2.1 hd) rfl hz hcap hb8 hc hl
  obtain ⟨s₂, o, q, r⟩ := W h' h.size rfl E' ⟨_, A', by simp [newA, hdv], by simp; exact (back32 hz).2⟩ T' _ X' e' N
  exact ⟨s₂, o, st' _ q, r⟩
theorem own_newJ (C : Cx p s m meth c Z cd ml ret own nm) {z : Int32} {len cap : Nat} (hd : decode cd pc = .ok (.newarray .long, 2)) (w : (Jvm.Cond.arrayClass .long).before a0 Z = true) (hz : ¬ z < 0) (hlen : z.toNatClampNeg = len) (hcap : len ≤ cap) (hb8 : cap * 8 ≤ 536870912) (hc : k + 1 ≤ R.cells) (hl : n + cap ≤ R.slots) (hp : pc + 2 = pc')
    (W : ∀ h' a, a = h.size → Ext h h' → AJ Z h' a (List.replicate len 0) → Wp p l e R s m args below meth c n0 Q h' (k + 1) (n + cap) (mkF m pc' Ls (.ref a :: st))) : Wp p l e R s m args below meth c n0 Q h k n (mkF m pc Ls (.int z :: st)) := fun T locs X eT N => by
  subst hp hlen
  obtain ⟨T', h', cA, X', e', E', A', st'⟩ := newP X C.1 C.2.1 (aty := .long) w eT (g := mkF m pc Ls (.int z :: st)) rfl (hb C.2.2.1 hd) rfl hz hcap hb8 hc hl
  obtain ⟨s₂, o, q, r⟩ := W h' h.size rfl E' ⟨_, A', by simp [newA, newarray.typeOf, defaultValue], by simp; exact (back32 hz).2⟩ T' _ X' e' N
  exact ⟨s₂, o, st' _ q, r⟩
/-! calls -/
theorem own_callS (C : Cx p s m meth c Z cd ml ret own nm) {i : Nat} {y : MethodName} {bytes : ByteArray} {mL wL : Nat} {rt : Option FieldType} {rm : Room} {as : Array Value} {Qc : Option Value → Heap → Prop} {argsL rest : List Value}
    (M : Met l y bytes mL rt [] rm Z n0 as h Qc)
    (hd : decode cd pc = .ok (.invokestatic i, 3)) (w1 : (Jvm.Cond.methodLink own i y).before a0 Z = true) (w2 : (Jvm.Cond.static y).before a0 Z = true) (w3 : (Jvm.Cond.initialized y.cls).before a0 Z = true) (w4 : (Jvm.Cond.code y bytes mL rt).before a0 Z = true)
    (hy : y.cls ≠ "java/lang/invoke/MethodHandle" ∧ y.cls ≠ "java/lang/invoke/VarHandle") (hfr : rm.frames + 1 ≤ R.frames) (hlo : wL + (mL + 11) + rm.locals ≤ R.locals) (hsz : Ls.size = ml) (hlen : ∀ sig, parseMethodDescriptor y.desc = some sig → argsL.length = sig.parameters.length)
    (hst : st = argsL.reverse ++ rest) (has : argsL.toArray = as) (hW : 0 + (rest.map fun v => v.category).sum ≤ wL) (hc : k + rm.cells ≤ R.cells) (hs : n + rm.slots ≤ R.slots) (hp : pc + 3 = pc')
    (W : ∀ v h', Qc v h' → Wp p l e R s m args below meth c n0 Q h' (k + rm.cells) (n + rm.slots) (mkF m pc' Ls (v.toList ++ rest))) : Wp p l e R s m args below meth c n0 Q h k n (mkF m pc Ls st) := fun T locs X eT N => by
  subst hp has
  obtain ⟨_, _, ⟨T', L', k', n'⟩, -, X', ⟨Lc, hQ, l1, y1, z1⟩, st'⟩ := Jvm.LawKit.callS X C.1 (y := y) C.2.2.2.2.1 (mvT C.2.1 w1) (mvT C.2.1 w2) (mvT C.2.1 w3) (mvT C.2.1 w4) hy (backOf (W := wL) (Q := fun v h L => Qc v h ∧ Fr n0 L) M C.2.1 w4 w3 hfr hlo) (g := mkF m pc Ls st) rfl (by rw [C.2.2.2.1]; exact hsz) (argsL := argsL) (rest := rest) hlen hst hW (hb C.2.2.1 hd) (fun _ _ => ⟨rfl, eT, hc, hs⟩)
  dsimp only [Pt.U, Pt.locs, Pt.cells, Pt.slots] at X' l1 y1 z1 st' hQ
  subst l1 y1 z1
  obtain ⟨s₂, o, q, r⟩ := W _ _ hQ.1 T' _ X' rfl (Fr.app N hQ.2)
  exact ⟨s₂, o, st' _ q, r⟩
theorem own_callI (C : Cx p s m meth c Z cd ml ret own nm) {i : Nat} {K : String} {dsc : String} {bytes : ByteArray} {mL wL : Nat} {rm : Room} {as : Array Value} {Qc : Option Value → Heap → Prop} {argsL rest : List Value} {a : Addr}
    (M : Met l ⟨K, "<init>", dsc⟩ bytes mL none [] rm Z n0 as h Qc)
    (hd : decode cd pc = .ok (.invokespecial i, 3)) (w1 : (Jvm.Cond.methodLink own i ⟨K, "<init>", dsc⟩).before a0 Z = true) (w2 : (Jvm.Cond.instanceMethod ⟨K, "<init>", dsc⟩).before a0 Z = true) (w3 : (Jvm.Cond.initialized K).before a0 Z = true) (w4 : (Jvm.Cond.code ⟨K, "<init>", dsc⟩ bytes mL none).before a0 Z = true)
    (hy : K ≠ "java/lang/invoke/MethodHandle" ∧ K ≠ "java/lang/invoke/VarHandle") (hfr : rm.frames + 1 ≤ R.frames) (hlo : wL + (mL + 11) + rm.locals ≤ R.locals) (hsz : Ls.size = ml) (hlen : ∀ sig, parseMethodDescriptor dsc = some sig → argsL.length = sig.parameters.length)
    (hst : st = argsL.reverse ++ .ref a :: rest) (has : (Value.ref a :: argsL).toArray = as) (hW : 0 + (rest.map fun v => v.category).sum ≤ wL) (hc : k + rm.cells ≤ R.cells) (hs : n + rm.slots ≤ R.slots) (hp : pc + 3 = pc')
    (W : ∀ v h', Qc v h' → Wp p l e R s m args below meth c n0 Q h' (k + rm.cells) (n + rm.slots) (mkF m pc' Ls (v.toList ++ rest))) : Wp p l e R s m args below meth c n0 Q h k n (mkF m pc Ls st) := fun T locs X eT N => by
  subst hp has
  obtain ⟨_, _, ⟨T', L', k', n'⟩, -, X', ⟨Lc, hQ, l1, y1, z1⟩, st'⟩ := X.specialBack C.1 (y := ⟨K, "<init>", dsc⟩) rfl C.2.2.2.2.1 (mvT C.2.1 w1) (mvT C.2.1 w2) (mvT C.2.1 w4) hy (backOf (W := wL) (Q := fun v h L => Qc v h ∧ Fr n0 L) M C.2.1 w4 w3 hfr hlo) (g := mkF m pc Ls st) rfl (by rw [C.2.2.2.1]; exact hsz) (Steps.refl _) (a := a) (argsL := argsL) (rest := rest) hlen hst hW (hb C.2.2.1 hd) (fun _ _ => ⟨rfl, eT, hc, hs⟩)
  dsimp only [Pt.U, Pt.locs, Pt.cells, Pt.slots] at X' l1 y1 z1 st' hQ
  subst l1 y1 z1
  obtain ⟨s₂, o, q, r⟩ := W _ _ hQ.1 T' _ X' rfl (Fr.app N hQ.2)
  exact ⟨s₂, o, st'.trans q, r⟩
theorem own_callV (C : Cx p s m meth c Z cd ml ret own nm) {i : Nat} {y : MethodName} {bytes : ByteArray} {mL wL : Nat} {rt : Option FieldType} {rm : Room} {as : Array Value} {Qc : Option Value → Heap → Prop} {argsL rest : List Value} {a : Addr}
    (M : Met l y bytes mL rt [] rm Z n0 as h Qc) (E : Exa Z h a y.cls)
    (hd : decode cd pc = .ok (.invokevirtual i, 3)) (w1 : (Jvm.Cond.methodLink own i y).before a0 Z = true) (w2 : (Jvm.Cond.declares y).before a0 Z = true) (w5 : (Jvm.Cond.selects y.cls y y).before a0 Z = true) (w6 : (Jvm.Cond.instanceMethod y).before a0 Z = true) (w3 : (Jvm.Cond.initialized y.cls).before a0 Z = true) (w4 : (Jvm.Cond.code y bytes mL rt).before a0 Z = true)
    (hy : y.cls ≠ "java/lang/invoke/MethodHandle" ∧ y.cls ≠ "java/lang/invoke/VarHandle") (hfr : rm.frames + 1 ≤ R.frames) (hlo : wL + (mL + 11) + rm.locals ≤ R.locals) (hsz : Ls.size = ml) (hlen : ∀ sig, parseMethodDescriptor y.desc = some sig → argsL.length = sig.parameters.length)
    (hst : st = argsL.reverse ++ .ref a :: rest) (has : (Value.ref a :: argsL).toArray = as) (hW : 0 + (rest.map fun v => v.category).sum ≤ wL) (hc : k + rm.cells ≤ R.cells) (hs : n + rm.slots ≤ R.slots) (hp : pc + 3 = pc')
    (W : ∀ v h', Qc v h' → Wp p l e R s m args below meth c n0 Q h' (k + rm.cells) (n + rm.slots) (mkF m pc' Ls (v.toList ++ rest))) : Wp p l e R s m args below meth c n0 Q h k n (mkF m pc Ls st) := fun T locs X eT N => by
  subst hp has
  obtain ⟨cq, kq, qa, qb, qc⟩ := isOf C.2.1 eT E
  obtain ⟨_, _, ⟨T', L', k', n'⟩, -, X', ⟨Lc, hQ, l1, y1, z1⟩, st'⟩ := X.virtualBack C.1 (y := y) (z := y) C.2.2.2.2.1 (mvT C.2.1 w1) (mvT C.2.1 w2) (notFace_of_selects (args := #[]) (mvT C.2.1 w5)) (mvT C.2.1 w5) (mvT C.2.1 w6) hy (backOf (W := wL) (Q := fun v h L => Qc v h ∧ Fr n0 L) M C.2.1 w4 w3 hfr hlo) qa qc (g := mkF m pc Ls st) rfl (by rw [C.2.2.2.1]; exact hsz) (Steps.refl _) (argsL := argsL) (rest := rest) hlen hst hW (hb C.2.2.1 hd) (fun _ _ => ⟨rfl, eT, hc, hs⟩)
  dsimp only [Pt.U, Pt.locs, Pt.cells, Pt.slots] at X' l1 y1 z1 st' hQ
  subst l1 y1 z1
  obtain ⟨s₂, o, q, r⟩ := W _ _ hQ.1 T' _ X' rfl (Fr.app N hQ.2)
  exact ⟨s₂, o, st'.trans q, r⟩
theorem own_callP (C : Cx p s m meth c Z cd ml ret own nm) {i : Nat} {y : MethodName} {bytes : ByteArray} {mL wL : Nat} {rt : Option FieldType} {rm : Room} {as : Array Value} {Qc : Option Value → Heap → Prop} {argsL rest : List Value} {a : Addr}
    (M : Met l y bytes mL rt [] rm Z n0 as h Qc) (E : Exa Z h a y.cls)
    (hd : decode cd pc = .ok (.invokevirtual i, 3)) (w1 : (Jvm.Cond.methodLink own i y).before a0 Z = true) (w2 : (Jvm.Cond.privateMethod y).before a0 Z = true) (w5 : (Jvm.Cond.selects y.cls y y).before a0 Z = true) (w6 : (Jvm.Cond.instanceMethod y).before a0 Z = true) (w3 : (Jvm.Cond.initialized y.cls).before a0 Z = true) (w4 : (Jvm.Cond.code y bytes mL rt).before a0 Z = true)
    (hy : y.cls ≠ "java/lang/invoke/MethodHandle" ∧ y.cls ≠ "java/lang/invoke/VarHandle") (hfr : rm.frames + 1 ≤ R.frames) (hlo : wL + (mL + 11) + rm.locals ≤ R.locals) (hsz : Ls.size = ml) (hlen : ∀ sig, parseMethodDescriptor y.desc = some sig → argsL.length = sig.parameters.length)
    (hst : st = argsL.reverse ++ .ref a :: rest) (has : (Value.ref a :: argsL).toArray = as) (hW : 0 + (rest.map fun v => v.category).sum ≤ wL) (hc : k + rm.cells ≤ R.cells) (hs : n + rm.slots ≤ R.slots) (hp : pc + 3 = pc')
    (W : ∀ v h', Qc v h' → Wp p l e R s m args below meth c n0 Q h' (k + rm.cells) (n + rm.slots) (mkF m pc' Ls (v.toList ++ rest))) : Wp p l e R s m args below meth c n0 Q h k n (mkF m pc Ls st) := fun T locs X eT N => by
  subst hp has
  obtain ⟨cq, q1, q2⟩ := E.cell
  obtain ⟨_, _, ⟨T', L', k', n'⟩, -, X', ⟨Lc, hQ, l1, y1, z1⟩, st'⟩ := X.privateBack C.1 (y := y) C.2.2.2.2.1 (mvT C.2.1 w1) (mvT C.2.1 w6) (mvT C.2.1 w5) (Cond.privateMethod_at (mvP C.2.1 w2 (args := #[]))) (mvT C.2.1 w4) hy (backOf (W := wL) (Q := fun v h L => Qc v h ∧ Fr n0 L) M C.2.1 w4 w3 hfr hlo) (g := mkF m pc Ls st) rfl (by rw [C.2.2.2.1]; exact hsz) (Steps.refl _) (a := a) (by rw [eT]; exact q1) q2 (argsL := argsL) (rest := rest) hlen hst hW (hb C.2.2.1 hd) (fun _ _ => ⟨rfl, eT, hc, hs⟩)
  dsimp only [Pt.U, Pt.locs, Pt.cells, Pt.slots] at X' l1 y1 z1 st' hQ
  subst l1 y1 z1
  obtain ⟨s₂, o, q, r⟩ := W _ _ hQ.1 T' _ X' rfl (Fr.app N hQ.2)
  exact ⟨s₂, o, st'.trans q, r⟩
end OwnKit
def own_ch (a k2 k4 : Addr) : Int32 := if a = k2 then 1 else if a = k4 then 1 else 0
def own_co (a k1 k2 : Addr) : Int32 := if a = k1 then 1 else if a = k2 then 1 else 0
def own_en (a k1 k2 k3 k4 : Addr) : Int32 := if own_co a k1 k2 = 0 then (if a = k3 then 1 else if a = k4 then 1 else 0) else 1

theorem d3_0 : decode prog_85_method_5_code 0 = .ok (.aload_n 0, 1) := by decide +kernel
theorem d3_1 : decode prog_85_method_5_code 1 = .ok (.getstatic 7, 3) := by decide +kernel
theorem d3_4 : decode prog_85_method_5_code 4 = .ok (.if_acmp .eq 10, 3) := by decide +kernel
theorem d3_7 : decode prog_85_method_5_code 7 = .ok (.aload_n 0, 1) := by decide +kernel
theorem d3_8 : decode prog_85_method_5_code 8 = .ok (.getstatic 10, 3) := by decide +kernel
theorem d3_11 : decode prog_85_method_5_code 11 = .ok (.if_acmp .ne 7, 3) := by decide +kernel
theorem d3_14 : decode prog_85_method_5_code 14 = .ok (.iconst 1, 1) := by decide +kernel
theorem d3_15 : decode prog_85_method_5_code 15 = .ok (.goto 4, 3) := by decide +kernel
theorem d3_18 : decode prog_85_method_5_code 18 = .ok (.iconst 0, 1) := by decide +kernel
theorem d3_19 : decode prog_85_method_5_code 19 = .ok (.ireturn, 1) := by decide +kernel
theorem pn3 : plainName "com/example/certivote/certivote/node/SqlScript$Kind" = true := by first | (simp [plainName, overriddenIn]; done) | decide +kernel
theorem ef3 (m : MethodId) (x0 : Addr) : entryFrame m #[(.ref x0)] 1 = mkF m 0 #[.val (.ref x0)] [] := by first | (simp [entryFrame, mkF, argsToLocals, Value.category]; done) | rfl
theorem own_ki_1 : Int32.ofInt (1) = (1 : Int32) := by decide
theorem own_ki_0 : Int32.ofInt (0) = (0 : Int32) := by decide
set_option maxRecDepth 65536 in
set_option maxHeartbeats 40000000 in
theorem own_m3 (l : Launch) (Z : State) (a0 : Array Value) (hw : ∀ d ∈ tables_1, d.before a0 Z = true) (a : Addr) (k1 k2 : Addr) (h0 : Heap) (n0 : Nat) (Z_ : n0 ≤ h0.size) (S1 : Sta Z h0 "com/example/certivote/certivote/node/SqlScript$Kind" "COMMIT" "Lcom/example/certivote/certivote/node/SqlScript$Kind;" (.ref k1)) (S2 : Sta Z h0 "com/example/certivote/certivote/node/SqlScript$Kind" "COMMIT_AND_CHAIN" "Lcom/example/certivote/certivote/node/SqlScript$Kind;" (.ref k2)) :
    Met l (⟨"com/example/certivote/certivote/node/SqlScript$Kind", "commits", "()Z"⟩ : MethodName) prog_85_method_5_code 1 (some .boolean) [] ({ frames := 0, cells := 0, slots := 0, locals := 0 } : Room) Z n0 #[(.ref a)] h0 (fun v h => v = some (.int (own_co a k1 k2)) ∧ h0 = h) := by
  refine own_met pn3 (fun m => ef3 m a) ?_
  intro p e s m below meth c C
  refine own_aloadN (pc' := 1) C d3_0 rfl rfl rfl ?_
  refine own_getstatic (pc' := 4) C d3_1 (hw _ (List.mem_of_getElem? (i := 23) rfl)) S1 rfl ?_
  obtain ⟨vs_19, hvs_19⟩ : ∃ z : Int32, z = (if a = k1 then (1 : Int32) else (if a = k2 then (1 : Int32) else (0 : Int32))) := ⟨_, rfl⟩
  have hzvs_19 : vs_19 = 0 ∨ vs_19 = 1 := by rw [hvs_19]; repeat (first | exact Or.inl rfl | exact Or.inr rfl | split)
  refine own_seq (g' := mkF m 19 #[.val (.ref a)] [(.int vs_19)]) (fun J19 => ?_) ?_
  · refine own_acmp_eq (pt := 14) (pf := 7) C d3_4 (by decide) (by decide) rfl ?_ ?_
    · intro hc4
      refine own_iconst (pc' := 15) (v := (1 : Int32)) C d3_14 own_ki_1 rfl ?_
      refine own_goto (pc' := 19) C d3_15 (by decide) (by decide) ?_
      exact own_cast (by simp only [hvs_19, if_pos hc4]) (J19)
    · intro hc4
      refine own_aloadN (pc' := 8) C d3_7 rfl rfl rfl ?_
      refine own_getstatic (pc' := 11) C d3_8 (hw _ (List.mem_of_getElem? (i := 9) rfl)) S2 rfl ?_
      refine own_acmp_ne (pt := 18) (pf := 14) C d3_11 (by decide) (by decide) rfl ?_ ?_
      · intro hc11
        refine own_iconst (pc' := 19) (v := (0 : Int32)) C d3_18 own_ki_0 rfl ?_
        exact own_cast (by simp only [hvs_19, if_neg hc4, if_neg hc11]) (J19)
      · intro hc11
        refine own_iconst (pc' := 15) (v := (1 : Int32)) C d3_14 own_ki_1 rfl ?_
        refine own_goto (pc' := 19) C d3_15 (by decide) (by decide) ?_
        exact own_cast (by simp only [hvs_19, if_neg hc4, if_pos hc11]) (J19)
  refine own_zret C d3_19 (by decide) (by decide) hzvs_19 ?_
  exact ⟨by rw [own_co, hvs_19], rfl⟩

theorem d1_0 : decode prog_85_method_6_code 0 = .ok (.aload_n 0, 1) := by decide +kernel
theorem d1_1 : decode prog_85_method_6_code 1 = .ok (.getstatic 10, 3) := by decide +kernel
theorem d1_4 : decode prog_85_method_6_code 4 = .ok (.if_acmp .eq 10, 3) := by decide +kernel
theorem d1_7 : decode prog_85_method_6_code 7 = .ok (.aload_n 0, 1) := by decide +kernel
theorem d1_8 : decode prog_85_method_6_code 8 = .ok (.getstatic 16, 3) := by decide +kernel
theorem d1_11 : decode prog_85_method_6_code 11 = .ok (.if_acmp .ne 7, 3) := by decide +kernel
theorem d1_14 : decode prog_85_method_6_code 14 = .ok (.iconst 1, 1) := by decide +kernel
theorem d1_15 : decode prog_85_method_6_code 15 = .ok (.goto 4, 3) := by decide +kernel
theorem d1_18 : decode prog_85_method_6_code 18 = .ok (.iconst 0, 1) := by decide +kernel
theorem d1_19 : decode prog_85_method_6_code 19 = .ok (.ireturn, 1) := by decide +kernel
theorem pn1 : plainName "com/example/certivote/certivote/node/SqlScript$Kind" = true := by first | (simp [plainName, overriddenIn]; done) | decide +kernel
theorem ef1 (m : MethodId) (x0 : Addr) : entryFrame m #[(.ref x0)] 1 = mkF m 0 #[.val (.ref x0)] [] := by first | (simp [entryFrame, mkF, argsToLocals, Value.category]; done) | rfl
set_option maxRecDepth 65536 in
set_option maxHeartbeats 40000000 in
theorem own_m1 (l : Launch) (Z : State) (a0 : Array Value) (hw : ∀ d ∈ tables_1, d.before a0 Z = true) (a : Addr) (k2 k4 : Addr) (h0 : Heap) (n0 : Nat) (Z_ : n0 ≤ h0.size) (S2 : Sta Z h0 "com/example/certivote/certivote/node/SqlScript$Kind" "COMMIT_AND_CHAIN" "Lcom/example/certivote/certivote/node/SqlScript$Kind;" (.ref k2)) (S4 : Sta Z h0 "com/example/certivote/certivote/node/SqlScript$Kind" "ROLLBACK_AND_CHAIN" "Lcom/example/certivote/certivote/node/SqlScript$Kind;" (.ref k4)) :
    Met l (⟨"com/example/certivote/certivote/node/SqlScript$Kind", "chains", "()Z"⟩ : MethodName) prog_85_method_6_code 1 (some .boolean) [] ({ frames := 0, cells := 0, slots := 0, locals := 0 } : Room) Z n0 #[(.ref a)] h0 (fun v h => v = some (.int (own_ch a k2 k4)) ∧ h0 = h) := by
  refine own_met pn1 (fun m => ef1 m a) ?_
  intro p e s m below meth c C
  refine own_aloadN (pc' := 1) C d1_0 rfl rfl rfl ?_
  refine own_getstatic (pc' := 4) C d1_1 (hw _ (List.mem_of_getElem? (i := 9) rfl)) S2 rfl ?_
  obtain ⟨vs_19, hvs_19⟩ : ∃ z : Int32, z = (if a = k2 then (1 : Int32) else (if a = k4 then (1 : Int32) else (0 : Int32))) := ⟨_, rfl⟩
  have hzvs_19 : vs_19 = 0 ∨ vs_19 = 1 := by rw [hvs_19]; repeat (first | exact Or.inl rfl | exact Or.inr rfl | split)
  refine own_seq (g' := mkF m 19 #[.val (.ref a)] [(.int vs_19)]) (fun J19 => ?_) ?_
  · refine own_acmp_eq (pt := 14) (pf := 7) C d1_4 (by decide) (by decide) rfl ?_ ?_
    · intro hc4
      refine own_iconst (pc' := 15) (v := (1 : Int32)) C d1_14 own_ki_1 rfl ?_
      refine own_goto (pc' := 19) C d1_15 (by decide) (by decide) ?_
      exact own_cast (by simp only [hvs_19, if_pos hc4]) (J19)
    · intro hc4
      refine own_aloadN (pc' := 8) C d1_7 rfl rfl rfl ?_
      refine own_getstatic (pc' := 11) C d1_8 (hw _ (List.mem_of_getElem? (i := 11) rfl)) S4 rfl ?_
      refine own_acmp_ne (pt := 18) (pf := 14) C d1_11 (by decide) (by decide) rfl ?_ ?_
      · intro hc11
        refine own_iconst (pc' := 19) (v := (0 : Int32)) C d1_18 own_ki_0 rfl ?_
        exact own_cast (by simp only [hvs_19, if_neg hc4, if_neg hc11]) (J19)
      · intro hc11
        refine own_iconst (pc' := 15) (v := (1 : Int32)) C d1_14 own_ki_1 rfl ?_
        refine own_goto (pc' := 19) C d1_15 (by decide) (by decide) ?_
        exact own_cast (by simp only [hvs_19, if_neg hc4, if_pos hc11]) (J19)
  refine own_zret C d1_19 (by decide) (by decide) hzvs_19 ?_
  exact ⟨by rw [own_ch, hvs_19], rfl⟩

theorem d2_0 : decode prog_85_method_4_code 0 = .ok (.aload_n 0, 1) := by decide +kernel
theorem d2_1 : decode prog_85_method_4_code 1 = .ok (.invokevirtual 50, 3) := by decide +kernel
theorem d2_4 : decode prog_85_method_4_code 4 = .ok (.ifCond .ne 17, 3) := by decide +kernel
theorem d2_7 : decode prog_85_method_4_code 7 = .ok (.aload_n 0, 1) := by decide +kernel
theorem d2_8 : decode prog_85_method_4_code 8 = .ok (.getstatic 13, 3) := by decide +kernel
theorem d2_11 : decode prog_85_method_4_code 11 = .ok (.if_acmp .eq 10, 3) := by decide +kernel
theorem d2_14 : decode prog_85_method_4_code 14 = .ok (.aload_n 0, 1) := by decide +kernel
theorem d2_15 : decode prog_85_method_4_code 15 = .ok (.getstatic 16, 3) := by decide +kernel
theorem d2_18 : decode prog_85_method_4_code 18 = .ok (.if_acmp .ne 7, 3) := by decide +kernel
theorem d2_21 : decode prog_85_method_4_code 21 = .ok (.iconst 1, 1) := by decide +kernel
theorem d2_22 : decode prog_85_method_4_code 22 = .ok (.goto 4, 3) := by decide +kernel
theorem d2_25 : decode prog_85_method_4_code 25 = .ok (.iconst 0, 1) := by decide +kernel
theorem d2_26 : decode prog_85_method_4_code 26 = .ok (.ireturn, 1) := by decide +kernel
theorem pn2 : plainName "com/example/certivote/certivote/node/SqlScript$Kind" = true := by first | (simp [plainName, overriddenIn]; done) | decide +kernel
theorem ef2 (m : MethodId) (x0 : Addr) : entryFrame m #[(.ref x0)] 1 = mkF m 0 #[.val (.ref x0)] [] := by first | (simp [entryFrame, mkF, argsToLocals, Value.category]; done) | rfl
theorem pd3 : parseMethodDescriptor "()Z" = some ⟨[], some .boolean⟩ := by decide +kernel
set_option maxRecDepth 65536 in
set_option maxHeartbeats 40000000 in
theorem own_m2 (l : Launch) (Z : State) (a0 : Array Value) (hw : ∀ d ∈ tables_1, d.before a0 Z = true) (a : Addr) (k1 k2 k3 k4 : Addr) (h0 : Heap) (n0 : Nat) (Z_ : n0 ≤ h0.size) (E_a : Exa Z h0 a "com/example/certivote/certivote/node/SqlScript$Kind") (S1 : Sta Z h0 "com/example/certivote/certivote/node/SqlScript$Kind" "COMMIT" "Lcom/example/certivote/certivote/node/SqlScript$Kind;" (.ref k1)) (S2 : Sta Z h0 "com/example/certivote/certivote/node/SqlScript$Kind" "COMMIT_AND_CHAIN" "Lcom/example/certivote/certivote/node/SqlScript$Kind;" (.ref k2)) (S3 : Sta Z h0 "com/example/certivote/certivote/node/SqlScript$Kind" "ROLLBACK" "Lcom/example/certivote/certivote/node/SqlScript$Kind;" (.ref k3)) (S4 : Sta Z h0 "com/example/certivote/certivote/node/SqlScript$Kind" "ROLLBACK_AND_CHAIN" "Lcom/example/certivote/certivote/node/SqlScript$Kind;" (.ref k4)) :
    Met l (⟨"com/example/certivote/certivote/node/SqlScript$Kind", "endsBlock", "()Z"⟩ : MethodName) prog_85_method_4_code 1 (some .boolean) [] ({ frames := 1, cells := 0, slots := 0, locals := 12 } : Room) Z n0 #[(.ref a)] h0 (fun v h => v = some (.int (own_en a k1 k2 k3 k4)) ∧ h0 = h) := by
  refine own_met pn2 (fun m => ef2 m a) ?_
  intro p e s m below meth c C
  refine own_aloadN (pc' := 1) C d2_0 rfl rfl rfl ?_
  refine own_callV (pc' := 4) (wL := 0) (a := a) (argsL := []) (rest := []) C (own_m3 l Z a0 hw a k1 k2 h0 n0 Z_ S1 S2) E_a d2_1 (hw _ (List.mem_of_getElem? (i := 18) rfl)) (hw _ (List.mem_of_getElem? (i := 19) rfl)) (hw _ (List.mem_of_getElem? (i := 21) rfl)) (hw _ (List.mem_of_getElem? (i := 20) rfl)) (hw _ (List.mem_of_getElem? (i := 2) rfl)) (hw _ (List.mem_of_getElem? (i := 22) rfl)) (by decide) (by decide) (by decide) rfl (lenOf pd3 rfl) rfl rfl (Nat.le_of_eq rfl) (by decide) (by decide) rfl ?_
  rintro _ _ ⟨rfl, rfl⟩
  show Wp p l e _ s m _ below meth c n0 _ h0 0 0 (mkF m 4 #[.val (.ref a)] [(.int (own_co a k1 k2))])
  obtain ⟨vs_26, hvs_26⟩ : ∃ z : Int32, z = (if (own_co a k1 k2) = 0 then (if a = k3 then (1 : Int32) else (if a = k4 then (1 : Int32) else (0 : Int32))) else (1 : Int32)) := ⟨_, rfl⟩
  have hzvs_26 : vs_26 = 0 ∨ vs_26 = 1 := by rw [hvs_26]; repeat (first | exact Or.inl rfl | exact Or.inr rfl | split)
  refine own_seq (g' := mkF m 26 #[.val (.ref a)] [(.int vs_26)]) (fun J26 => ?_) ?_
  · refine own_if_ne (pt := 21) (pf := 7) C d2_4 (by decide) (by decide) rfl ?_ ?_
    · intro hc4
      refine own_iconst (pc' := 22) (v := (1 : Int32)) C d2_21 own_ki_1 rfl ?_
      refine own_goto (pc' := 26) C d2_22 (by decide) (by decide) ?_
      exact own_cast (by simp only [hvs_26, if_neg hc4]) (J26)
    · intro hc4
      refine own_aloadN (pc' := 8) C d2_7 rfl rfl rfl ?_
      refine own_getstatic (pc' := 11) C d2_8 (hw _ (List.mem_of_getElem? (i := 25) rfl)) S3 rfl ?_
      refine own_acmp_eq (pt := 21) (pf := 14) C d2_11 (by decide) (by decide) rfl ?_ ?_
      · intro hc11
        refine own_iconst (pc' := 22) (v := (1 : Int32)) C d2_21 own_ki_1 rfl ?_
        refine own_goto (pc' := 26) C d2_22 (by decide) (by decide) ?_
        exact own_cast (by simp only [hvs_26, if_pos hc4, if_pos hc11]) (J26)
      · intro hc11
        refine own_aloadN (pc' := 15) C d2_14 rfl rfl rfl ?_
        refine own_getstatic (pc' := 18) C d2_15 (hw _ (List.mem_of_getElem? (i := 11) rfl)) S4 rfl ?_
        refine own_acmp_ne (pt := 25) (pf := 21) C d2_18 (by decide) (by decide) rfl ?_ ?_
        · intro hc18
          refine own_iconst (pc' := 26) (v := (0 : Int32)) C d2_25 own_ki_0 rfl ?_
          exact own_cast (by simp only [hvs_26, if_pos hc4, if_neg hc11, if_neg hc18]) (J26)
        · intro hc18
          refine own_iconst (pc' := 22) (v := (1 : Int32)) C d2_21 own_ki_1 rfl ?_
          refine own_goto (pc' := 26) C d2_22 (by decide) (by decide) ?_
          exact own_cast (by simp only [hvs_26, if_pos hc4, if_neg hc11, if_pos hc18]) (J26)
  refine own_zret C d2_26 (by decide) (by decide) hzvs_26 ?_
  exact ⟨by rw [own_en, hvs_26], rfl⟩

theorem own_nine {x z : Int32} (h : z = (x &&& 2147483647) % 9) : z = 0 ∨ z = 1 ∨ z = 2 ∨ z = 3 ∨ z = 4 ∨ z = 5 ∨ z = 6 ∨ z = 7 ∨ z = 8 := by
  have h1 := c_mask x 2147483647 31 (by decide) (by decide)
  have h2 := c_irem (x &&& 2147483647) 9 9 rfl
  have h3 := rng32 x
  rw [← h] at h2
  have key : ∀ k : Int32, z.toInt = k.toInt → z = k := fun k q => Int32.toInt_inj.mp q
  have k : z.toInt = (0 : Int32).toInt ∨ z.toInt = (1 : Int32).toInt ∨ z.toInt = (2 : Int32).toInt ∨ z.toInt = (3 : Int32).toInt ∨ z.toInt = (4 : Int32).toInt ∨ z.toInt = (5 : Int32).toInt ∨ z.toInt = (6 : Int32).toInt ∨ z.toInt = (7 : Int32).toInt ∨ z.toInt = (8 : Int32).toInt := by
    have e0 : (0 : Int32).toInt = 0 := rfl
    have e1 : (1 : Int32).toInt = 1 := rfl
    have e2 : (2 : Int32).toInt = 2 := rfl
    have e3 : (3 : Int32).toInt = 3 := rfl
    have e4 : (4 : Int32).toInt = 4 := rfl
    have e5 : (5 : Int32).toInt = 5 := rfl
    have e6 : (6 : Int32).toInt = 6 := rfl
    have e7 : (7 : Int32).toInt = 7 := rfl
    have e8 : (8 : Int32).toInt = 8 := rfl
    omega
  exact k.imp (key _) fun k => k.imp (key _) fun k => k.imp (key _) fun k => k.imp (key _) fun k => k.imp (key _) fun k => k.imp (key _) fun k => k.imp (key _) fun k => k.imp (key _) (key _)
theorem own_ord {s : State} {args : Array Value} {t : Term} {a : Addr} {c : Int32} (ev : t.eval args s none [] s = some (.ref a)) (h : (Jvm.Cond.eq (.field t "java/lang/Enum" "ordinal" "I") (.int c)).value args s none s [] = some true) : Fld s s.heap a "java/lang/Enum" "ordinal" "I" (.int c) := by
  obtain ⟨x, y, h1, h2, k1, k2⟩ := cmp_v (Or.inl h)
  cases h2
  obtain ⟨z, rfl⟩ := k2
  have h4 := gotT (Cond.eq_ints h1 rfl) h
  rw [fld_at ev, h4] at h1
  exact Fld.start h1

theorem pn0 : plainName "com/example/certivote/certivote/node/KindChainsPinLaw" = true := by first | (simp [plainName, overriddenIn]; done) | decide +kernel
theorem ef0 (m : MethodId) (x0 : Int32) : entryFrame m #[(.int x0)] maxLocals = mkF m 0 #[.val (.int x0), .unset, .unset, .unset, .unset, .unset] [] := by first | (simp [entryFrame, mkF, argsToLocals, Value.category, maxLocals]; done) | rfl
theorem pd1 : parseMethodDescriptor "()Z" = some ⟨[], some .boolean⟩ := by decide +kernel
theorem pd2 : parseMethodDescriptor "()Z" = some ⟨[], some .boolean⟩ := by decide +kernel
theorem own_kb_9 : (Int8.ofInt (9)).toInt32 = (9 : Int32) := by decide
theorem own_ki_2 : Int32.ofInt (2) = (2 : Int32) := by decide
theorem own_ki_3 : Int32.ofInt (3) = (3 : Int32) := by decide
theorem own_ki_4 : Int32.ofInt (4) = (4 : Int32) := by decide
theorem own_ki_5 : Int32.ofInt (5) = (5 : Int32) := by decide
theorem own_kb_6 : (Int8.ofInt (6)).toInt32 = (6 : Int32) := by decide
theorem own_kb_7 : (Int8.ofInt (7)).toInt32 = (7 : Int32) := by decide
set_option maxRecDepth 65536 in
set_option maxHeartbeats 40000000 in
theorem own_law (l : Launch) (Z : State) (a0 : Array Value) (hw : ∀ d ∈ tables_1, d.before a0 Z = true) (ws : List Jvm.Cond) (p0 : Int32) (k0 k1 k2 k3 k4 k5 k6 k7 k8 : Addr) (h0 : Heap) (n0 : Nat) (Z_ : n0 ≤ h0.size) (S0 : Sta Z h0 "com/example/certivote/certivote/node/SqlScript$Kind" "BEGIN" "Lcom/example/certivote/certivote/node/SqlScript$Kind;" (.ref k0)) (S1 : Sta Z h0 "com/example/certivote/certivote/node/SqlScript$Kind" "COMMIT" "Lcom/example/certivote/certivote/node/SqlScript$Kind;" (.ref k1)) (S2 : Sta Z h0 "com/example/certivote/certivote/node/SqlScript$Kind" "COMMIT_AND_CHAIN" "Lcom/example/certivote/certivote/node/SqlScript$Kind;" (.ref k2)) (S3 : Sta Z h0 "com/example/certivote/certivote/node/SqlScript$Kind" "ROLLBACK" "Lcom/example/certivote/certivote/node/SqlScript$Kind;" (.ref k3)) (S4 : Sta Z h0 "com/example/certivote/certivote/node/SqlScript$Kind" "ROLLBACK_AND_CHAIN" "Lcom/example/certivote/certivote/node/SqlScript$Kind;" (.ref k4)) (S5 : Sta Z h0 "com/example/certivote/certivote/node/SqlScript$Kind" "OUTSIDE_BLOCK" "Lcom/example/certivote/certivote/node/SqlScript$Kind;" (.ref k5)) (S6 : Sta Z h0 "com/example/certivote/certivote/node/SqlScript$Kind" "EXECUTE" "Lcom/example/certivote/certivote/node/SqlScript$Kind;" (.ref k6)) (S7 : Sta Z h0 "com/example/certivote/certivote/node/SqlScript$Kind" "REFUSED" "Lcom/example/certivote/certivote/node/SqlScript$Kind;" (.ref k7)) (S8 : Sta Z h0 "com/example/certivote/certivote/node/SqlScript$Kind" "OTHER" "Lcom/example/certivote/certivote/node/SqlScript$Kind;" (.ref k8)) (E_k0 : Exa Z h0 k0 "com/example/certivote/certivote/node/SqlScript$Kind") (E_k1 : Exa Z h0 k1 "com/example/certivote/certivote/node/SqlScript$Kind") (E_k2 : Exa Z h0 k2 "com/example/certivote/certivote/node/SqlScript$Kind") (E_k3 : Exa Z h0 k3 "com/example/certivote/certivote/node/SqlScript$Kind") (E_k4 : Exa Z h0 k4 "com/example/certivote/certivote/node/SqlScript$Kind") (E_k5 : Exa Z h0 k5 "com/example/certivote/certivote/node/SqlScript$Kind") (E_k6 : Exa Z h0 k6 "com/example/certivote/certivote/node/SqlScript$Kind") (E_k7 : Exa Z h0 k7 "com/example/certivote/certivote/node/SqlScript$Kind") (E_k8 : Exa Z h0 k8 "com/example/certivote/certivote/node/SqlScript$Kind") (n0_1 : k0 ≠ k1) (n2_1 : k2 ≠ k1) (n3_1 : k3 ≠ k1) (n4_1 : k4 ≠ k1) (n5_1 : k5 ≠ k1) (n6_1 : k6 ≠ k1) (n7_1 : k7 ≠ k1) (n8_1 : k8 ≠ k1) (n0_2 : k0 ≠ k2) (n1_2 : k1 ≠ k2) (n3_2 : k3 ≠ k2) (n4_2 : k4 ≠ k2) (n5_2 : k5 ≠ k2) (n6_2 : k6 ≠ k2) (n7_2 : k7 ≠ k2) (n8_2 : k8 ≠ k2) (n0_3 : k0 ≠ k3) (n1_3 : k1 ≠ k3) (n2_3 : k2 ≠ k3) (n4_3 : k4 ≠ k3) (n5_3 : k5 ≠ k3) (n6_3 : k6 ≠ k3) (n7_3 : k7 ≠ k3) (n8_3 : k8 ≠ k3) (n0_4 : k0 ≠ k4) (n1_4 : k1 ≠ k4) (n2_4 : k2 ≠ k4) (n3_4 : k3 ≠ k4) (n5_4 : k5 ≠ k4) (n6_4 : k6 ≠ k4) (n7_4 : k7 ≠ k4) (n8_4 : k8 ≠ k4) :
    Met l x code maxLocals ret ws room_1 Z n0 #[(.int p0)] h0 (fun v h => v = some (.int 1)) := by
  refine own_met pn0 (fun m => ef0 m p0) ?_
  intro p e s m below meth c C0
  have C : Cx p s m meth c Z code 6 (some .boolean) "com/example/certivote/certivote/node/KindChainsPinLaw" "law" := C0
  refine own_iloadN (pc' := 1) C at_0 rfl rfl ?_
  refine own_ldc (pc' := 3) (v := (2147483647 : Int32)) C at_1 (hw _ (List.mem_of_getElem? (i := 0) rfl)) rfl ?_
  refine own_iand (pc' := 4) C at_3 rfl rfl ?_
  refine own_bipush (pc' := 6) (v := (9 : Int32)) C at_4 own_kb_9 rfl ?_
  refine own_irem (pc' := 7) C at_6 (by decide) rfl rfl ?_
  obtain ⟨v1_7, hv1_7⟩ : ∃ z : Int32, z = ((p0 &&& (2147483647 : Int32)) % (9 : Int32)) := ⟨_, rfl⟩
  refine own_istoreN (pc' := 8) (y := v1_7) (Ls' := #[.val (.int p0), .val (.int v1_7), .unset, .unset, .unset, .unset]) C at_7 hv1_7.symm rfl rfl ?_
  rcases own_nine hv1_7 with q | q | q | q | q | q | q | q | q
  · subst q
    refine own_iloadN (pc' := 9) C at_8 rfl rfl ?_
    refine own_if_ne (pt := 21) (pf := 12) C at_9 (by decide) (by decide) rfl (fun q => absurd (by decide) q) (fun _ => ?_)
    refine own_getstatic (pc' := 15) C at_12 (hw _ (List.mem_of_getElem? (i := 1) rfl)) S0 rfl ?_
    refine own_astoreN (pc' := 16) (Ls' := #[.val (.int p0), .val (.int (0 : Int32)), .val (.ref k0), .unset, .unset, .unset]) C at_15 rfl rfl rfl ?_
    refine own_iconst (pc' := 17) (v := (0 : Int32)) C at_16 own_ki_0 rfl ?_
    refine own_istoreN (pc' := 18) (y := (0 : Int32)) (Ls' := #[.val (.int p0), .val (.int (0 : Int32)), .val (.ref k0), .val (.int (0 : Int32)), .unset, .unset]) C at_17 rfl rfl rfl ?_
    refine own_goto (pc' := 127) C at_18 (by decide) (by decide) ?_
    refine own_aloadN (pc' := 128) C at_127 rfl rfl rfl ?_
    refine own_callV (pc' := 131) (wL := 0) (a := k0) (argsL := []) (rest := []) C (own_m1 l Z a0 hw k0 k2 k4 h0 n0 Z_ S2 S4) E_k0 at_128 (hw _ (List.mem_of_getElem? (i := 4) rfl)) (hw _ (List.mem_of_getElem? (i := 5) rfl)) (hw _ (List.mem_of_getElem? (i := 7) rfl)) (hw _ (List.mem_of_getElem? (i := 6) rfl)) (hw _ (List.mem_of_getElem? (i := 2) rfl)) (hw _ (List.mem_of_getElem? (i := 8) rfl)) (by decide) (by decide) (by decide) rfl (lenOf pd1 rfl) rfl rfl (Nat.le_of_eq rfl) (by decide) (by decide) rfl ?_
    rintro _ _ ⟨rfl, rfl⟩
    rw [show (own_ch k0 k2 k4) = (0 : Int32) from by simp [own_ch, own_co, own_en, n0_1, n2_1, n3_1, n4_1, n5_1, n6_1, n7_1, n8_1, n0_2, n1_2, n3_2, n4_2, n5_2, n6_2, n7_2, n8_2, n0_3, n1_3, n2_3, n4_3, n5_3, n6_3, n7_3, n8_3, n0_4, n1_4, n2_4, n3_4, n5_4, n6_4, n7_4, n8_4]]
    show Wp p l e _ s m _ below meth c n0 _ h0 0 0 (mkF m 131 #[.val (.int p0), .val (.int (0 : Int32)), .val (.ref k0), .val (.int (0 : Int32)), .unset, .unset] [(.int (0 : Int32))])
    refine own_istore (pc' := 133) (y := (0 : Int32)) (Ls' := #[.val (.int p0), .val (.int (0 : Int32)), .val (.ref k0), .val (.int (0 : Int32)), .val (.int (0 : Int32)), .unset]) C at_131 rfl rfl rfl ?_
    refine own_aloadN (pc' := 134) C at_133 rfl rfl rfl ?_
    refine own_callV (pc' := 137) (wL := 0) (a := k0) (argsL := []) (rest := []) C (own_m2 l Z a0 hw k0 k1 k2 k3 k4 h0 n0 Z_ E_k0 S1 S2 S3 S4) E_k0 at_134 (hw _ (List.mem_of_getElem? (i := 13) rfl)) (hw _ (List.mem_of_getElem? (i := 14) rfl)) (hw _ (List.mem_of_getElem? (i := 16) rfl)) (hw _ (List.mem_of_getElem? (i := 15) rfl)) (hw _ (List.mem_of_getElem? (i := 2) rfl)) (hw _ (List.mem_of_getElem? (i := 17) rfl)) (by decide) (by decide) (by decide) rfl (lenOf pd2 rfl) rfl rfl (Nat.le_of_eq rfl) (by decide) (by decide) rfl ?_
    rintro _ _ ⟨rfl, rfl⟩
    rw [show (own_en k0 k1 k2 k3 k4) = (0 : Int32) from by simp [own_ch, own_co, own_en, n0_1, n2_1, n3_1, n4_1, n5_1, n6_1, n7_1, n8_1, n0_2, n1_2, n3_2, n4_2, n5_2, n6_2, n7_2, n8_2, n0_3, n1_3, n2_3, n4_3, n5_3, n6_3, n7_3, n8_3, n0_4, n1_4, n2_4, n3_4, n5_4, n6_4, n7_4, n8_4]]
    show Wp p l e _ s m _ below meth c n0 _ h0 0 0 (mkF m 137 #[.val (.int p0), .val (.int (0 : Int32)), .val (.ref k0), .val (.int (0 : Int32)), .val (.int (0 : Int32)), .unset] [(.int (0 : Int32))])
    refine own_istore (pc' := 139) (y := (0 : Int32)) (Ls' := #[.val (.int p0), .val (.int (0 : Int32)), .val (.ref k0), .val (.int (0 : Int32)), .val (.int (0 : Int32)), .val (.int (0 : Int32))]) C at_137 rfl rfl rfl ?_
    refine own_iload (pc' := 141) C at_139 rfl rfl ?_
    refine own_iloadN (pc' := 142) C at_141 rfl rfl ?_
    refine own_icmp_ne (pt := 159) (pf := 145) C at_142 (by decide) (by decide) rfl (fun q => absurd (by decide) q) (fun _ => ?_)
    refine own_iload (pc' := 147) C at_145 rfl rfl ?_
    refine own_if_eq (pt := 155) (pf := 150) C at_147 (by decide) (by decide) rfl (fun _ => ?_) (fun q => absurd (by decide) q)
    refine own_iconst (pc' := 156) (v := (1 : Int32)) C at_155 own_ki_1 rfl ?_
    refine own_goto (pc' := 160) C at_156 (by decide) (by decide) ?_
    refine own_zret C at_160 (by decide) (by decide) (Or.inr rfl) ?_
    exact rfl
  · subst q
    refine own_iloadN (pc' := 9) C at_8 rfl rfl ?_
    refine own_if_ne (pt := 21) (pf := 12) C at_9 (by decide) (by decide) rfl (fun _ => ?_) (fun q => absurd q (by decide))
    refine own_iloadN (pc' := 22) C at_21 rfl rfl ?_
    refine own_iconst (pc' := 23) (v := (1 : Int32)) C at_22 own_ki_1 rfl ?_
    refine own_icmp_ne (pt := 35) (pf := 26) C at_23 (by decide) (by decide) rfl (fun q => absurd (by decide) q) (fun _ => ?_)
    refine own_getstatic (pc' := 29) C at_26 (hw _ (List.mem_of_getElem? (i := 29) rfl)) S1 rfl ?_
    refine own_astoreN (pc' := 30) (Ls' := #[.val (.int p0), .val (.int (1 : Int32)), .val (.ref k1), .unset, .unset, .unset]) C at_29 rfl rfl rfl ?_
    refine own_iconst (pc' := 31) (v := (0 : Int32)) C at_30 own_ki_0 rfl ?_
    refine own_istoreN (pc' := 32) (y := (0 : Int32)) (Ls' := #[.val (.int p0), .val (.int (1 : Int32)), .val (.ref k1), .val (.int (0 : Int32)), .unset, .unset]) C at_31 rfl rfl rfl ?_
    refine own_goto (pc' := 127) C at_32 (by decide) (by decide) ?_
    refine own_aloadN (pc' := 128) C at_127 rfl rfl rfl ?_
    refine own_callV (pc' := 131) (wL := 0) (a := k1) (argsL := []) (rest := []) C (own_m1 l Z a0 hw k1 k2 k4 h0 n0 Z_ S2 S4) E_k1 at_128 (hw _ (List.mem_of_getElem? (i := 4) rfl)) (hw _ (List.mem_of_getElem? (i := 5) rfl)) (hw _ (List.mem_of_getElem? (i := 7) rfl)) (hw _ (List.mem_of_getElem? (i := 6) rfl)) (hw _ (List.mem_of_getElem? (i := 2) rfl)) (hw _ (List.mem_of_getElem? (i := 8) rfl)) (by decide) (by decide) (by decide) rfl (lenOf pd1 rfl) rfl rfl (Nat.le_of_eq rfl) (by decide) (by decide) rfl ?_
    rintro _ _ ⟨rfl, rfl⟩
    rw [show (own_ch k1 k2 k4) = (0 : Int32) from by simp [own_ch, own_co, own_en, n0_1, n2_1, n3_1, n4_1, n5_1, n6_1, n7_1, n8_1, n0_2, n1_2, n3_2, n4_2, n5_2, n6_2, n7_2, n8_2, n0_3, n1_3, n2_3, n4_3, n5_3, n6_3, n7_3, n8_3, n0_4, n1_4, n2_4, n3_4, n5_4, n6_4, n7_4, n8_4]]
    show Wp p l e _ s m _ below meth c n0 _ h0 0 0 (mkF m 131 #[.val (.int p0), .val (.int (1 : Int32)), .val (.ref k1), .val (.int (0 : Int32)), .unset, .unset] [(.int (0 : Int32))])
    refine own_istore (pc' := 133) (y := (0 : Int32)) (Ls' := #[.val (.int p0), .val (.int (1 : Int32)), .val (.ref k1), .val (.int (0 : Int32)), .val (.int (0 : Int32)), .unset]) C at_131 rfl rfl rfl ?_
    refine own_aloadN (pc' := 134) C at_133 rfl rfl rfl ?_
    refine own_callV (pc' := 137) (wL := 0) (a := k1) (argsL := []) (rest := []) C (own_m2 l Z a0 hw k1 k1 k2 k3 k4 h0 n0 Z_ E_k1 S1 S2 S3 S4) E_k1 at_134 (hw _ (List.mem_of_getElem? (i := 13) rfl)) (hw _ (List.mem_of_getElem? (i := 14) rfl)) (hw _ (List.mem_of_getElem? (i := 16) rfl)) (hw _ (List.mem_of_getElem? (i := 15) rfl)) (hw _ (List.mem_of_getElem? (i := 2) rfl)) (hw _ (List.mem_of_getElem? (i := 17) rfl)) (by decide) (by decide) (by decide) rfl (lenOf pd2 rfl) rfl rfl (Nat.le_of_eq rfl) (by decide) (by decide) rfl ?_
    rintro _ _ ⟨rfl, rfl⟩
    rw [show (own_en k1 k1 k2 k3 k4) = (1 : Int32) from by simp [own_ch, own_co, own_en, n0_1, n2_1, n3_1, n4_1, n5_1, n6_1, n7_1, n8_1, n0_2, n1_2, n3_2, n4_2, n5_2, n6_2, n7_2, n8_2, n0_3, n1_3, n2_3, n4_3, n5_3, n6_3, n7_3, n8_3, n0_4, n1_4, n2_4, n3_4, n5_4, n6_4, n7_4, n8_4]]
    show Wp p l e _ s m _ below meth c n0 _ h0 0 0 (mkF m 137 #[.val (.int p0), .val (.int (1 : Int32)), .val (.ref k1), .val (.int (0 : Int32)), .val (.int (0 : Int32)), .unset] [(.int (1 : Int32))])
    refine own_istore (pc' := 139) (y := (1 : Int32)) (Ls' := #[.val (.int p0), .val (.int (1 : Int32)), .val (.ref k1), .val (.int (0 : Int32)), .val (.int (0 : Int32)), .val (.int (1 : Int32))]) C at_137 rfl rfl rfl ?_
    refine own_iload (pc' := 141) C at_139 rfl rfl ?_
    refine own_iloadN (pc' := 142) C at_141 rfl rfl ?_
    refine own_icmp_ne (pt := 159) (pf := 145) C at_142 (by decide) (by decide) rfl (fun q => absurd (by decide) q) (fun _ => ?_)
    refine own_iload (pc' := 147) C at_145 rfl rfl ?_
    refine own_if_eq (pt := 155) (pf := 150) C at_147 (by decide) (by decide) rfl (fun _ => ?_) (fun q => absurd (by decide) q)
    refine own_iconst (pc' := 156) (v := (1 : Int32)) C at_155 own_ki_1 rfl ?_
    refine own_goto (pc' := 160) C at_156 (by decide) (by decide) ?_
    refine own_zret C at_160 (by decide) (by decide) (Or.inr rfl) ?_
    exact rfl
  · subst q
    refine own_iloadN (pc' := 9) C at_8 rfl rfl ?_
    refine own_if_ne (pt := 21) (pf := 12) C at_9 (by decide) (by decide) rfl (fun _ => ?_) (fun q => absurd q (by decide))
    refine own_iloadN (pc' := 22) C at_21 rfl rfl ?_
    refine own_iconst (pc' := 23) (v := (1 : Int32)) C at_22 own_ki_1 rfl ?_
    refine own_icmp_ne (pt := 35) (pf := 26) C at_23 (by decide) (by decide) rfl (fun _ => ?_) (fun q => absurd q (by decide))
    refine own_iloadN (pc' := 36) C at_35 rfl rfl ?_
    refine own_iconst (pc' := 37) (v := (2 : Int32)) C at_36 own_ki_2 rfl ?_
    refine own_icmp_ne (pt := 49) (pf := 40) C at_37 (by decide) (by decide) rfl (fun q => absurd (by decide) q) (fun _ => ?_)
    refine own_getstatic (pc' := 43) C at_40 (hw _ (List.mem_of_getElem? (i := 28) rfl)) S2 rfl ?_
    refine own_astoreN (pc' := 44) (Ls' := #[.val (.int p0), .val (.int (2 : Int32)), .val (.ref k2), .unset, .unset, .unset]) C at_43 rfl rfl rfl ?_
    refine own_iconst (pc' := 45) (v := (1 : Int32)) C at_44 own_ki_1 rfl ?_
    refine own_istoreN (pc' := 46) (y := (1 : Int32)) (Ls' := #[.val (.int p0), .val (.int (2 : Int32)), .val (.ref k2), .val (.int (1 : Int32)), .unset, .unset]) C at_45 rfl rfl rfl ?_
    refine own_goto (pc' := 127) C at_46 (by decide) (by decide) ?_
    refine own_aloadN (pc' := 128) C at_127 rfl rfl rfl ?_
    refine own_callV (pc' := 131) (wL := 0) (a := k2) (argsL := []) (rest := []) C (own_m1 l Z a0 hw k2 k2 k4 h0 n0 Z_ S2 S4) E_k2 at_128 (hw _ (List.mem_of_getElem? (i := 4) rfl)) (hw _ (List.mem_of_getElem? (i := 5) rfl)) (hw _ (List.mem_of_getElem? (i := 7) rfl)) (hw _ (List.mem_of_getElem? (i := 6) rfl)) (hw _ (List.mem_of_getElem? (i := 2) rfl)) (hw _ (List.mem_of_getElem? (i := 8) rfl)) (by decide) (by decide) (by decide) rfl (lenOf pd1 rfl) rfl rfl (Nat.le_of_eq rfl) (by decide) (by decide) rfl ?_
    rintro _ _ ⟨rfl, rfl⟩
    rw [show (own_ch k2 k2 k4) = (1 : Int32) from by simp [own_ch, own_co, own_en, n0_1, n2_1, n3_1, n4_1, n5_1, n6_1, n7_1, n8_1, n0_2, n1_2, n3_2, n4_2, n5_2, n6_2, n7_2, n8_2, n0_3, n1_3, n2_3, n4_3, n5_3, n6_3, n7_3, n8_3, n0_4, n1_4, n2_4, n3_4, n5_4, n6_4, n7_4, n8_4]]
    show Wp p l e _ s m _ below meth c n0 _ h0 0 0 (mkF m 131 #[.val (.int p0), .val (.int (2 : Int32)), .val (.ref k2), .val (.int (1 : Int32)), .unset, .unset] [(.int (1 : Int32))])
    refine own_istore (pc' := 133) (y := (1 : Int32)) (Ls' := #[.val (.int p0), .val (.int (2 : Int32)), .val (.ref k2), .val (.int (1 : Int32)), .val (.int (1 : Int32)), .unset]) C at_131 rfl rfl rfl ?_
    refine own_aloadN (pc' := 134) C at_133 rfl rfl rfl ?_
    refine own_callV (pc' := 137) (wL := 0) (a := k2) (argsL := []) (rest := []) C (own_m2 l Z a0 hw k2 k1 k2 k3 k4 h0 n0 Z_ E_k2 S1 S2 S3 S4) E_k2 at_134 (hw _ (List.mem_of_getElem? (i := 13) rfl)) (hw _ (List.mem_of_getElem? (i := 14) rfl)) (hw _ (List.mem_of_getElem? (i := 16) rfl)) (hw _ (List.mem_of_getElem? (i := 15) rfl)) (hw _ (List.mem_of_getElem? (i := 2) rfl)) (hw _ (List.mem_of_getElem? (i := 17) rfl)) (by decide) (by decide) (by decide) rfl (lenOf pd2 rfl) rfl rfl (Nat.le_of_eq rfl) (by decide) (by decide) rfl ?_
    rintro _ _ ⟨rfl, rfl⟩
    rw [show (own_en k2 k1 k2 k3 k4) = (1 : Int32) from by simp [own_ch, own_co, own_en, n0_1, n2_1, n3_1, n4_1, n5_1, n6_1, n7_1, n8_1, n0_2, n1_2, n3_2, n4_2, n5_2, n6_2, n7_2, n8_2, n0_3, n1_3, n2_3, n4_3, n5_3, n6_3, n7_3, n8_3, n0_4, n1_4, n2_4, n3_4, n5_4, n6_4, n7_4, n8_4]]
    show Wp p l e _ s m _ below meth c n0 _ h0 0 0 (mkF m 137 #[.val (.int p0), .val (.int (2 : Int32)), .val (.ref k2), .val (.int (1 : Int32)), .val (.int (1 : Int32)), .unset] [(.int (1 : Int32))])
    refine own_istore (pc' := 139) (y := (1 : Int32)) (Ls' := #[.val (.int p0), .val (.int (2 : Int32)), .val (.ref k2), .val (.int (1 : Int32)), .val (.int (1 : Int32)), .val (.int (1 : Int32))]) C at_137 rfl rfl rfl ?_
    refine own_iload (pc' := 141) C at_139 rfl rfl ?_
    refine own_iloadN (pc' := 142) C at_141 rfl rfl ?_
    refine own_icmp_ne (pt := 159) (pf := 145) C at_142 (by decide) (by decide) rfl (fun q => absurd (by decide) q) (fun _ => ?_)
    refine own_iload (pc' := 147) C at_145 rfl rfl ?_
    refine own_if_eq (pt := 155) (pf := 150) C at_147 (by decide) (by decide) rfl (fun q => absurd q (by decide)) (fun _ => ?_)
    refine own_iload (pc' := 152) C at_150 rfl rfl ?_
    refine own_if_eq (pt := 159) (pf := 155) C at_152 (by decide) (by decide) rfl (fun q => absurd q (by decide)) (fun _ => ?_)
    refine own_iconst (pc' := 156) (v := (1 : Int32)) C at_155 own_ki_1 rfl ?_
    refine own_goto (pc' := 160) C at_156 (by decide) (by decide) ?_
    refine own_zret C at_160 (by decide) (by decide) (Or.inr rfl) ?_
    exact rfl
  · subst q
    refine own_iloadN (pc' := 9) C at_8 rfl rfl ?_
    refine own_if_ne (pt := 21) (pf := 12) C at_9 (by decide) (by decide) rfl (fun _ => ?_) (fun q => absurd q (by decide))
    refine own_iloadN (pc' := 22) C at_21 rfl rfl ?_
    refine own_iconst (pc' := 23) (v := (1 : Int32)) C at_22 own_ki_1 rfl ?_
    refine own_icmp_ne (pt := 35) (pf := 26) C at_23 (by decide) (by decide) rfl (fun _ => ?_) (fun q => absurd q (by decide))
    refine own_iloadN (pc' := 36) C at_35 rfl rfl ?_
    refine own_iconst (pc' := 37) (v := (2 : Int32)) C at_36 own_ki_2 rfl ?_
    refine own_icmp_ne (pt := 49) (pf := 40) C at_37 (by decide) (by decide) rfl (fun _ => ?_) (fun q => absurd q (by decide))
    refine own_iloadN (pc' := 50) C at_49 rfl rfl ?_
    refine own_iconst (pc' := 51) (v := (3 : Int32)) C at_50 own_ki_3 rfl ?_
    refine own_icmp_ne (pt := 63) (pf := 54) C at_51 (by decide) (by decide) rfl (fun q => absurd (by decide) q) (fun _ => ?_)
    refine own_getstatic (pc' := 57) C at_54 (hw _ (List.mem_of_getElem? (i := 27) rfl)) S3 rfl ?_
    refine own_astoreN (pc' := 58) (Ls' := #[.val (.int p0), .val (.int (3 : Int32)), .val (.ref k3), .unset, .unset, .unset]) C at_57 rfl rfl rfl ?_
    refine own_iconst (pc' := 59) (v := (0 : Int32)) C at_58 own_ki_0 rfl ?_
    refine own_istoreN (pc' := 60) (y := (0 : Int32)) (Ls' := #[.val (.int p0), .val (.int (3 : Int32)), .val (.ref k3), .val (.int (0 : Int32)), .unset, .unset]) C at_59 rfl rfl rfl ?_
    refine own_goto (pc' := 127) C at_60 (by decide) (by decide) ?_
    refine own_aloadN (pc' := 128) C at_127 rfl rfl rfl ?_
    refine own_callV (pc' := 131) (wL := 0) (a := k3) (argsL := []) (rest := []) C (own_m1 l Z a0 hw k3 k2 k4 h0 n0 Z_ S2 S4) E_k3 at_128 (hw _ (List.mem_of_getElem? (i := 4) rfl)) (hw _ (List.mem_of_getElem? (i := 5) rfl)) (hw _ (List.mem_of_getElem? (i := 7) rfl)) (hw _ (List.mem_of_getElem? (i := 6) rfl)) (hw _ (List.mem_of_getElem? (i := 2) rfl)) (hw _ (List.mem_of_getElem? (i := 8) rfl)) (by decide) (by decide) (by decide) rfl (lenOf pd1 rfl) rfl rfl (Nat.le_of_eq rfl) (by decide) (by decide) rfl ?_
    rintro _ _ ⟨rfl, rfl⟩
    rw [show (own_ch k3 k2 k4) = (0 : Int32) from by simp [own_ch, own_co, own_en, n0_1, n2_1, n3_1, n4_1, n5_1, n6_1, n7_1, n8_1, n0_2, n1_2, n3_2, n4_2, n5_2, n6_2, n7_2, n8_2, n0_3, n1_3, n2_3, n4_3, n5_3, n6_3, n7_3, n8_3, n0_4, n1_4, n2_4, n3_4, n5_4, n6_4, n7_4, n8_4]]
    show Wp p l e _ s m _ below meth c n0 _ h0 0 0 (mkF m 131 #[.val (.int p0), .val (.int (3 : Int32)), .val (.ref k3), .val (.int (0 : Int32)), .unset, .unset] [(.int (0 : Int32))])
    refine own_istore (pc' := 133) (y := (0 : Int32)) (Ls' := #[.val (.int p0), .val (.int (3 : Int32)), .val (.ref k3), .val (.int (0 : Int32)), .val (.int (0 : Int32)), .unset]) C at_131 rfl rfl rfl ?_
    refine own_aloadN (pc' := 134) C at_133 rfl rfl rfl ?_
    refine own_callV (pc' := 137) (wL := 0) (a := k3) (argsL := []) (rest := []) C (own_m2 l Z a0 hw k3 k1 k2 k3 k4 h0 n0 Z_ E_k3 S1 S2 S3 S4) E_k3 at_134 (hw _ (List.mem_of_getElem? (i := 13) rfl)) (hw _ (List.mem_of_getElem? (i := 14) rfl)) (hw _ (List.mem_of_getElem? (i := 16) rfl)) (hw _ (List.mem_of_getElem? (i := 15) rfl)) (hw _ (List.mem_of_getElem? (i := 2) rfl)) (hw _ (List.mem_of_getElem? (i := 17) rfl)) (by decide) (by decide) (by decide) rfl (lenOf pd2 rfl) rfl rfl (Nat.le_of_eq rfl) (by decide) (by decide) rfl ?_
    rintro _ _ ⟨rfl, rfl⟩
    rw [show (own_en k3 k1 k2 k3 k4) = (1 : Int32) from by simp [own_ch, own_co, own_en, n0_1, n2_1, n3_1, n4_1, n5_1, n6_1, n7_1, n8_1, n0_2, n1_2, n3_2, n4_2, n5_2, n6_2, n7_2, n8_2, n0_3, n1_3, n2_3, n4_3, n5_3, n6_3, n7_3, n8_3, n0_4, n1_4, n2_4, n3_4, n5_4, n6_4, n7_4, n8_4]]
    show Wp p l e _ s m _ below meth c n0 _ h0 0 0 (mkF m 137 #[.val (.int p0), .val (.int (3 : Int32)), .val (.ref k3), .val (.int (0 : Int32)), .val (.int (0 : Int32)), .unset] [(.int (1 : Int32))])
    refine own_istore (pc' := 139) (y := (1 : Int32)) (Ls' := #[.val (.int p0), .val (.int (3 : Int32)), .val (.ref k3), .val (.int (0 : Int32)), .val (.int (0 : Int32)), .val (.int (1 : Int32))]) C at_137 rfl rfl rfl ?_
    refine own_iload (pc' := 141) C at_139 rfl rfl ?_
    refine own_iloadN (pc' := 142) C at_141 rfl rfl ?_
    refine own_icmp_ne (pt := 159) (pf := 145) C at_142 (by decide) (by decide) rfl (fun q => absurd (by decide) q) (fun _ => ?_)
    refine own_iload (pc' := 147) C at_145 rfl rfl ?_
    refine own_if_eq (pt := 155) (pf := 150) C at_147 (by decide) (by decide) rfl (fun _ => ?_) (fun q => absurd (by decide) q)
    refine own_iconst (pc' := 156) (v := (1 : Int32)) C at_155 own_ki_1 rfl ?_
    refine own_goto (pc' := 160) C at_156 (by decide) (by decide) ?_
    refine own_zret C at_160 (by decide) (by decide) (Or.inr rfl) ?_
    exact rfl
  · subst q
    refine own_iloadN (pc' := 9) C at_8 rfl rfl ?_
    refine own_if_ne (pt := 21) (pf := 12) C at_9 (by decide) (by decide) rfl (fun _ => ?_) (fun q => absurd q (by decide))
    refine own_iloadN (pc' := 22) C at_21 rfl rfl ?_
    refine own_iconst (pc' := 23) (v := (1 : Int32)) C at_22 own_ki_1 rfl ?_
    refine own_icmp_ne (pt := 35) (pf := 26) C at_23 (by decide) (by decide) rfl (fun _ => ?_) (fun q => absurd q (by decide))
    refine own_iloadN (pc' := 36) C at_35 rfl rfl ?_
    refine own_iconst (pc' := 37) (v := (2 : Int32)) C at_36 own_ki_2 rfl ?_
    refine own_icmp_ne (pt := 49) (pf := 40) C at_37 (by decide) (by decide) rfl (fun _ => ?_) (fun q => absurd q (by decide))
    refine own_iloadN (pc' := 50) C at_49 rfl rfl ?_
    refine own_iconst (pc' := 51) (v := (3 : Int32)) C at_50 own_ki_3 rfl ?_
    refine own_icmp_ne (pt := 63) (pf := 54) C at_51 (by decide) (by decide) rfl (fun _ => ?_) (fun q => absurd q (by decide))
    refine own_iloadN (pc' := 64) C at_63 rfl rfl ?_
    refine own_iconst (pc' := 65) (v := (4 : Int32)) C at_64 own_ki_4 rfl ?_
    refine own_icmp_ne (pt := 77) (pf := 68) C at_65 (by decide) (by decide) rfl (fun q => absurd (by decide) q) (fun _ => ?_)
    refine own_getstatic (pc' := 71) C at_68 (hw _ (List.mem_of_getElem? (i := 32) rfl)) S4 rfl ?_
    refine own_astoreN (pc' := 72) (Ls' := #[.val (.int p0), .val (.int (4 : Int32)), .val (.ref k4), .unset, .unset, .unset]) C at_71 rfl rfl rfl ?_
    refine own_iconst (pc' := 73) (v := (1 : Int32)) C at_72 own_ki_1 rfl ?_
    refine own_istoreN (pc' := 74) (y := (1 : Int32)) (Ls' := #[.val (.int p0), .val (.int (4 : Int32)), .val (.ref k4), .val (.int (1 : Int32)), .unset, .unset]) C at_73 rfl rfl rfl ?_
    refine own_goto (pc' := 127) C at_74 (by decide) (by decide) ?_
    refine own_aloadN (pc' := 128) C at_127 rfl rfl rfl ?_
    refine own_callV (pc' := 131) (wL := 0) (a := k4) (argsL := []) (rest := []) C (own_m1 l Z a0 hw k4 k2 k4 h0 n0 Z_ S2 S4) E_k4 at_128 (hw _ (List.mem_of_getElem? (i := 4) rfl)) (hw _ (List.mem_of_getElem? (i := 5) rfl)) (hw _ (List.mem_of_getElem? (i := 7) rfl)) (hw _ (List.mem_of_getElem? (i := 6) rfl)) (hw _ (List.mem_of_getElem? (i := 2) rfl)) (hw _ (List.mem_of_getElem? (i := 8) rfl)) (by decide) (by decide) (by decide) rfl (lenOf pd1 rfl) rfl rfl (Nat.le_of_eq rfl) (by decide) (by decide) rfl ?_
    rintro _ _ ⟨rfl, rfl⟩
    rw [show (own_ch k4 k2 k4) = (1 : Int32) from by simp [own_ch, own_co, own_en, n0_1, n2_1, n3_1, n4_1, n5_1, n6_1, n7_1, n8_1, n0_2, n1_2, n3_2, n4_2, n5_2, n6_2, n7_2, n8_2, n0_3, n1_3, n2_3, n4_3, n5_3, n6_3, n7_3, n8_3, n0_4, n1_4, n2_4, n3_4, n5_4, n6_4, n7_4, n8_4]]
    show Wp p l e _ s m _ below meth c n0 _ h0 0 0 (mkF m 131 #[.val (.int p0), .val (.int (4 : Int32)), .val (.ref k4), .val (.int (1 : Int32)), .unset, .unset] [(.int (1 : Int32))])
    refine own_istore (pc' := 133) (y := (1 : Int32)) (Ls' := #[.val (.int p0), .val (.int (4 : Int32)), .val (.ref k4), .val (.int (1 : Int32)), .val (.int (1 : Int32)), .unset]) C at_131 rfl rfl rfl ?_
    refine own_aloadN (pc' := 134) C at_133 rfl rfl rfl ?_
    refine own_callV (pc' := 137) (wL := 0) (a := k4) (argsL := []) (rest := []) C (own_m2 l Z a0 hw k4 k1 k2 k3 k4 h0 n0 Z_ E_k4 S1 S2 S3 S4) E_k4 at_134 (hw _ (List.mem_of_getElem? (i := 13) rfl)) (hw _ (List.mem_of_getElem? (i := 14) rfl)) (hw _ (List.mem_of_getElem? (i := 16) rfl)) (hw _ (List.mem_of_getElem? (i := 15) rfl)) (hw _ (List.mem_of_getElem? (i := 2) rfl)) (hw _ (List.mem_of_getElem? (i := 17) rfl)) (by decide) (by decide) (by decide) rfl (lenOf pd2 rfl) rfl rfl (Nat.le_of_eq rfl) (by decide) (by decide) rfl ?_
    rintro _ _ ⟨rfl, rfl⟩
    rw [show (own_en k4 k1 k2 k3 k4) = (1 : Int32) from by simp [own_ch, own_co, own_en, n0_1, n2_1, n3_1, n4_1, n5_1, n6_1, n7_1, n8_1, n0_2, n1_2, n3_2, n4_2, n5_2, n6_2, n7_2, n8_2, n0_3, n1_3, n2_3, n4_3, n5_3, n6_3, n7_3, n8_3, n0_4, n1_4, n2_4, n3_4, n5_4, n6_4, n7_4, n8_4]]
    show Wp p l e _ s m _ below meth c n0 _ h0 0 0 (mkF m 137 #[.val (.int p0), .val (.int (4 : Int32)), .val (.ref k4), .val (.int (1 : Int32)), .val (.int (1 : Int32)), .unset] [(.int (1 : Int32))])
    refine own_istore (pc' := 139) (y := (1 : Int32)) (Ls' := #[.val (.int p0), .val (.int (4 : Int32)), .val (.ref k4), .val (.int (1 : Int32)), .val (.int (1 : Int32)), .val (.int (1 : Int32))]) C at_137 rfl rfl rfl ?_
    refine own_iload (pc' := 141) C at_139 rfl rfl ?_
    refine own_iloadN (pc' := 142) C at_141 rfl rfl ?_
    refine own_icmp_ne (pt := 159) (pf := 145) C at_142 (by decide) (by decide) rfl (fun q => absurd (by decide) q) (fun _ => ?_)
    refine own_iload (pc' := 147) C at_145 rfl rfl ?_
    refine own_if_eq (pt := 155) (pf := 150) C at_147 (by decide) (by decide) rfl (fun q => absurd q (by decide)) (fun _ => ?_)
    refine own_iload (pc' := 152) C at_150 rfl rfl ?_
    refine own_if_eq (pt := 159) (pf := 155) C at_152 (by decide) (by decide) rfl (fun q => absurd q (by decide)) (fun _ => ?_)
    refine own_iconst (pc' := 156) (v := (1 : Int32)) C at_155 own_ki_1 rfl ?_
    refine own_goto (pc' := 160) C at_156 (by decide) (by decide) ?_
    refine own_zret C at_160 (by decide) (by decide) (Or.inr rfl) ?_
    exact rfl
  · subst q
    refine own_iloadN (pc' := 9) C at_8 rfl rfl ?_
    refine own_if_ne (pt := 21) (pf := 12) C at_9 (by decide) (by decide) rfl (fun _ => ?_) (fun q => absurd q (by decide))
    refine own_iloadN (pc' := 22) C at_21 rfl rfl ?_
    refine own_iconst (pc' := 23) (v := (1 : Int32)) C at_22 own_ki_1 rfl ?_
    refine own_icmp_ne (pt := 35) (pf := 26) C at_23 (by decide) (by decide) rfl (fun _ => ?_) (fun q => absurd q (by decide))
    refine own_iloadN (pc' := 36) C at_35 rfl rfl ?_
    refine own_iconst (pc' := 37) (v := (2 : Int32)) C at_36 own_ki_2 rfl ?_
    refine own_icmp_ne (pt := 49) (pf := 40) C at_37 (by decide) (by decide) rfl (fun _ => ?_) (fun q => absurd q (by decide))
    refine own_iloadN (pc' := 50) C at_49 rfl rfl ?_
    refine own_iconst (pc' := 51) (v := (3 : Int32)) C at_50 own_ki_3 rfl ?_
    refine own_icmp_ne (pt := 63) (pf := 54) C at_51 (by decide) (by decide) rfl (fun _ => ?_) (fun q => absurd q (by decide))
    refine own_iloadN (pc' := 64) C at_63 rfl rfl ?_
    refine own_iconst (pc' := 65) (v := (4 : Int32)) C at_64 own_ki_4 rfl ?_
    refine own_icmp_ne (pt := 77) (pf := 68) C at_65 (by decide) (by decide) rfl (fun _ => ?_) (fun q => absurd q (by decide))
    refine own_iloadN (pc' := 78) C at_77 rfl rfl ?_
    refine own_iconst (pc' := 79) (v := (5 : Int32)) C at_78 own_ki_5 rfl ?_
    refine own_icmp_ne (pt := 91) (pf := 82) C at_79 (by decide) (by decide) rfl (fun q => absurd (by decide) q) (fun _ => ?_)
    refine own_getstatic (pc' := 85) C at_82 (hw _ (List.mem_of_getElem? (i := 37) rfl)) S5 rfl ?_
    refine own_astoreN (pc' := 86) (Ls' := #[.val (.int p0), .val (.int (5 : Int32)), .val (.ref k5), .unset, .unset, .unset]) C at_85 rfl rfl rfl ?_
    refine own_iconst (pc' := 87) (v := (0 : Int32)) C at_86 own_ki_0 rfl ?_
    refine own_istoreN (pc' := 88) (y := (0 : Int32)) (Ls' := #[.val (.int p0), .val (.int (5 : Int32)), .val (.ref k5), .val (.int (0 : Int32)), .unset, .unset]) C at_87 rfl rfl rfl ?_
    refine own_goto (pc' := 127) C at_88 (by decide) (by decide) ?_
    refine own_aloadN (pc' := 128) C at_127 rfl rfl rfl ?_
    refine own_callV (pc' := 131) (wL := 0) (a := k5) (argsL := []) (rest := []) C (own_m1 l Z a0 hw k5 k2 k4 h0 n0 Z_ S2 S4) E_k5 at_128 (hw _ (List.mem_of_getElem? (i := 4) rfl)) (hw _ (List.mem_of_getElem? (i := 5) rfl)) (hw _ (List.mem_of_getElem? (i := 7) rfl)) (hw _ (List.mem_of_getElem? (i := 6) rfl)) (hw _ (List.mem_of_getElem? (i := 2) rfl)) (hw _ (List.mem_of_getElem? (i := 8) rfl)) (by decide) (by decide) (by decide) rfl (lenOf pd1 rfl) rfl rfl (Nat.le_of_eq rfl) (by decide) (by decide) rfl ?_
    rintro _ _ ⟨rfl, rfl⟩
    rw [show (own_ch k5 k2 k4) = (0 : Int32) from by simp [own_ch, own_co, own_en, n0_1, n2_1, n3_1, n4_1, n5_1, n6_1, n7_1, n8_1, n0_2, n1_2, n3_2, n4_2, n5_2, n6_2, n7_2, n8_2, n0_3, n1_3, n2_3, n4_3, n5_3, n6_3, n7_3, n8_3, n0_4, n1_4, n2_4, n3_4, n5_4, n6_4, n7_4, n8_4]]
    show Wp p l e _ s m _ below meth c n0 _ h0 0 0 (mkF m 131 #[.val (.int p0), .val (.int (5 : Int32)), .val (.ref k5), .val (.int (0 : Int32)), .unset, .unset] [(.int (0 : Int32))])
    refine own_istore (pc' := 133) (y := (0 : Int32)) (Ls' := #[.val (.int p0), .val (.int (5 : Int32)), .val (.ref k5), .val (.int (0 : Int32)), .val (.int (0 : Int32)), .unset]) C at_131 rfl rfl rfl ?_
    refine own_aloadN (pc' := 134) C at_133 rfl rfl rfl ?_
    refine own_callV (pc' := 137) (wL := 0) (a := k5) (argsL := []) (rest := []) C (own_m2 l Z a0 hw k5 k1 k2 k3 k4 h0 n0 Z_ E_k5 S1 S2 S3 S4) E_k5 at_134 (hw _ (List.mem_of_getElem? (i := 13) rfl)) (hw _ (List.mem_of_getElem? (i := 14) rfl)) (hw _ (List.mem_of_getElem? (i := 16) rfl)) (hw _ (List.mem_of_getElem? (i := 15) rfl)) (hw _ (List.mem_of_getElem? (i := 2) rfl)) (hw _ (List.mem_of_getElem? (i := 17) rfl)) (by decide) (by decide) (by decide) rfl (lenOf pd2 rfl) rfl rfl (Nat.le_of_eq rfl) (by decide) (by decide) rfl ?_
    rintro _ _ ⟨rfl, rfl⟩
    rw [show (own_en k5 k1 k2 k3 k4) = (0 : Int32) from by simp [own_ch, own_co, own_en, n0_1, n2_1, n3_1, n4_1, n5_1, n6_1, n7_1, n8_1, n0_2, n1_2, n3_2, n4_2, n5_2, n6_2, n7_2, n8_2, n0_3, n1_3, n2_3, n4_3, n5_3, n6_3, n7_3, n8_3, n0_4, n1_4, n2_4, n3_4, n5_4, n6_4, n7_4, n8_4]]
    show Wp p l e _ s m _ below meth c n0 _ h0 0 0 (mkF m 137 #[.val (.int p0), .val (.int (5 : Int32)), .val (.ref k5), .val (.int (0 : Int32)), .val (.int (0 : Int32)), .unset] [(.int (0 : Int32))])
    refine own_istore (pc' := 139) (y := (0 : Int32)) (Ls' := #[.val (.int p0), .val (.int (5 : Int32)), .val (.ref k5), .val (.int (0 : Int32)), .val (.int (0 : Int32)), .val (.int (0 : Int32))]) C at_137 rfl rfl rfl ?_
    refine own_iload (pc' := 141) C at_139 rfl rfl ?_
    refine own_iloadN (pc' := 142) C at_141 rfl rfl ?_
    refine own_icmp_ne (pt := 159) (pf := 145) C at_142 (by decide) (by decide) rfl (fun q => absurd (by decide) q) (fun _ => ?_)
    refine own_iload (pc' := 147) C at_145 rfl rfl ?_
    refine own_if_eq (pt := 155) (pf := 150) C at_147 (by decide) (by decide) rfl (fun _ => ?_) (fun q => absurd (by decide) q)
    refine own_iconst (pc' := 156) (v := (1 : Int32)) C at_155 own_ki_1 rfl ?_
    refine own_goto (pc' := 160) C at_156 (by decide) (by decide) ?_
    refine own_zret C at_160 (by decide) (by decide) (Or.inr rfl) ?_
    exact rfl
  · subst q
    refine own_iloadN (pc' := 9) C at_8 rfl rfl ?_
    refine own_if_ne (pt := 21) (pf := 12) C at_9 (by decide) (by decide) rfl (fun _ => ?_) (fun q => absurd q (by decide))
    refine own_iloadN (pc' := 22) C at_21 rfl rfl ?_
    refine own_iconst (pc' := 23) (v := (1 : Int32)) C at_22 own_ki_1 rfl ?_
    refine own_icmp_ne (pt := 35) (pf := 26) C at_23 (by decide) (by decide) rfl (fun _ => ?_) (fun q => absurd q (by decide))
    refine own_iloadN (pc' := 36) C at_35 rfl rfl ?_
    refine own_iconst (pc' := 37) (v := (2 : Int32)) C at_36 own_ki_2 rfl ?_
    refine own_icmp_ne (pt := 49) (pf := 40) C at_37 (by decide) (by decide) rfl (fun _ => ?_) (fun q => absurd q (by decide))
    refine own_iloadN (pc' := 50) C at_49 rfl rfl ?_
    refine own_iconst (pc' := 51) (v := (3 : Int32)) C at_50 own_ki_3 rfl ?_
    refine own_icmp_ne (pt := 63) (pf := 54) C at_51 (by decide) (by decide) rfl (fun _ => ?_) (fun q => absurd q (by decide))
    refine own_iloadN (pc' := 64) C at_63 rfl rfl ?_
    refine own_iconst (pc' := 65) (v := (4 : Int32)) C at_64 own_ki_4 rfl ?_
    refine own_icmp_ne (pt := 77) (pf := 68) C at_65 (by decide) (by decide) rfl (fun _ => ?_) (fun q => absurd q (by decide))
    refine own_iloadN (pc' := 78) C at_77 rfl rfl ?_
    refine own_iconst (pc' := 79) (v := (5 : Int32)) C at_78 own_ki_5 rfl ?_
    refine own_icmp_ne (pt := 91) (pf := 82) C at_79 (by decide) (by decide) rfl (fun _ => ?_) (fun q => absurd q (by decide))
    refine own_iloadN (pc' := 92) C at_91 rfl rfl ?_
    refine own_bipush (pc' := 94) (v := (6 : Int32)) C at_92 own_kb_6 rfl ?_
    refine own_icmp_ne (pt := 106) (pf := 97) C at_94 (by decide) (by decide) rfl (fun q => absurd (by decide) q) (fun _ => ?_)
    refine own_getstatic (pc' := 100) C at_97 (hw _ (List.mem_of_getElem? (i := 35) rfl)) S6 rfl ?_
    refine own_astoreN (pc' := 101) (Ls' := #[.val (.int p0), .val (.int (6 : Int32)), .val (.ref k6), .unset, .unset, .unset]) C at_100 rfl rfl rfl ?_
    refine own_iconst (pc' := 102) (v := (0 : Int32)) C at_101 own_ki_0 rfl ?_
    refine own_istoreN (pc' := 103) (y := (0 : Int32)) (Ls' := #[.val (.int p0), .val (.int (6 : Int32)), .val (.ref k6), .val (.int (0 : Int32)), .unset, .unset]) C at_102 rfl rfl rfl ?_
    refine own_goto (pc' := 127) C at_103 (by decide) (by decide) ?_
    refine own_aloadN (pc' := 128) C at_127 rfl rfl rfl ?_
    refine own_callV (pc' := 131) (wL := 0) (a := k6) (argsL := []) (rest := []) C (own_m1 l Z a0 hw k6 k2 k4 h0 n0 Z_ S2 S4) E_k6 at_128 (hw _ (List.mem_of_getElem? (i := 4) rfl)) (hw _ (List.mem_of_getElem? (i := 5) rfl)) (hw _ (List.mem_of_getElem? (i := 7) rfl)) (hw _ (List.mem_of_getElem? (i := 6) rfl)) (hw _ (List.mem_of_getElem? (i := 2) rfl)) (hw _ (List.mem_of_getElem? (i := 8) rfl)) (by decide) (by decide) (by decide) rfl (lenOf pd1 rfl) rfl rfl (Nat.le_of_eq rfl) (by decide) (by decide) rfl ?_
    rintro _ _ ⟨rfl, rfl⟩
    rw [show (own_ch k6 k2 k4) = (0 : Int32) from by simp [own_ch, own_co, own_en, n0_1, n2_1, n3_1, n4_1, n5_1, n6_1, n7_1, n8_1, n0_2, n1_2, n3_2, n4_2, n5_2, n6_2, n7_2, n8_2, n0_3, n1_3, n2_3, n4_3, n5_3, n6_3, n7_3, n8_3, n0_4, n1_4, n2_4, n3_4, n5_4, n6_4, n7_4, n8_4]]
    show Wp p l e _ s m _ below meth c n0 _ h0 0 0 (mkF m 131 #[.val (.int p0), .val (.int (6 : Int32)), .val (.ref k6), .val (.int (0 : Int32)), .unset, .unset] [(.int (0 : Int32))])
    refine own_istore (pc' := 133) (y := (0 : Int32)) (Ls' := #[.val (.int p0), .val (.int (6 : Int32)), .val (.ref k6), .val (.int (0 : Int32)), .val (.int (0 : Int32)), .unset]) C at_131 rfl rfl rfl ?_
    refine own_aloadN (pc' := 134) C at_133 rfl rfl rfl ?_
    refine own_callV (pc' := 137) (wL := 0) (a := k6) (argsL := []) (rest := []) C (own_m2 l Z a0 hw k6 k1 k2 k3 k4 h0 n0 Z_ E_k6 S1 S2 S3 S4) E_k6 at_134 (hw _ (List.mem_of_getElem? (i := 13) rfl)) (hw _ (List.mem_of_getElem? (i := 14) rfl)) (hw _ (List.mem_of_getElem? (i := 16) rfl)) (hw _ (List.mem_of_getElem? (i := 15) rfl)) (hw _ (List.mem_of_getElem? (i := 2) rfl)) (hw _ (List.mem_of_getElem? (i := 17) rfl)) (by decide) (by decide) (by decide) rfl (lenOf pd2 rfl) rfl rfl (Nat.le_of_eq rfl) (by decide) (by decide) rfl ?_
    rintro _ _ ⟨rfl, rfl⟩
    rw [show (own_en k6 k1 k2 k3 k4) = (0 : Int32) from by simp [own_ch, own_co, own_en, n0_1, n2_1, n3_1, n4_1, n5_1, n6_1, n7_1, n8_1, n0_2, n1_2, n3_2, n4_2, n5_2, n6_2, n7_2, n8_2, n0_3, n1_3, n2_3, n4_3, n5_3, n6_3, n7_3, n8_3, n0_4, n1_4, n2_4, n3_4, n5_4, n6_4, n7_4, n8_4]]
    show Wp p l e _ s m _ below meth c n0 _ h0 0 0 (mkF m 137 #[.val (.int p0), .val (.int (6 : Int32)), .val (.ref k6), .val (.int (0 : Int32)), .val (.int (0 : Int32)), .unset] [(.int (0 : Int32))])
    refine own_istore (pc' := 139) (y := (0 : Int32)) (Ls' := #[.val (.int p0), .val (.int (6 : Int32)), .val (.ref k6), .val (.int (0 : Int32)), .val (.int (0 : Int32)), .val (.int (0 : Int32))]) C at_137 rfl rfl rfl ?_
    refine own_iload (pc' := 141) C at_139 rfl rfl ?_
    refine own_iloadN (pc' := 142) C at_141 rfl rfl ?_
    refine own_icmp_ne (pt := 159) (pf := 145) C at_142 (by decide) (by decide) rfl (fun q => absurd (by decide) q) (fun _ => ?_)
    refine own_iload (pc' := 147) C at_145 rfl rfl ?_
    refine own_if_eq (pt := 155) (pf := 150) C at_147 (by decide) (by decide) rfl (fun _ => ?_) (fun q => absurd (by decide) q)
    refine own_iconst (pc' := 156) (v := (1 : Int32)) C at_155 own_ki_1 rfl ?_
    refine own_goto (pc' := 160) C at_156 (by decide) (by decide) ?_
    refine own_zret C at_160 (by decide) (by decide) (Or.inr rfl) ?_
    exact rfl
  · subst q
    refine own_iloadN (pc' := 9) C at_8 rfl rfl ?_
    refine own_if_ne (pt := 21) (pf := 12) C at_9 (by decide) (by decide) rfl (fun _ => ?_) (fun q => absurd q (by decide))
    refine own_iloadN (pc' := 22) C at_21 rfl rfl ?_
    refine own_iconst (pc' := 23) (v := (1 : Int32)) C at_22 own_ki_1 rfl ?_
    refine own_icmp_ne (pt := 35) (pf := 26) C at_23 (by decide) (by decide) rfl (fun _ => ?_) (fun q => absurd q (by decide))
    refine own_iloadN (pc' := 36) C at_35 rfl rfl ?_
    refine own_iconst (pc' := 37) (v := (2 : Int32)) C at_36 own_ki_2 rfl ?_
    refine own_icmp_ne (pt := 49) (pf := 40) C at_37 (by decide) (by decide) rfl (fun _ => ?_) (fun q => absurd q (by decide))
    refine own_iloadN (pc' := 50) C at_49 rfl rfl ?_
    refine own_iconst (pc' := 51) (v := (3 : Int32)) C at_50 own_ki_3 rfl ?_
    refine own_icmp_ne (pt := 63) (pf := 54) C at_51 (by decide) (by decide) rfl (fun _ => ?_) (fun q => absurd q (by decide))
    refine own_iloadN (pc' := 64) C at_63 rfl rfl ?_
    refine own_iconst (pc' := 65) (v := (4 : Int32)) C at_64 own_ki_4 rfl ?_
    refine own_icmp_ne (pt := 77) (pf := 68) C at_65 (by decide) (by decide) rfl (fun _ => ?_) (fun q => absurd q (by decide))
    refine own_iloadN (pc' := 78) C at_77 rfl rfl ?_
    refine own_iconst (pc' := 79) (v := (5 : Int32)) C at_78 own_ki_5 rfl ?_
    refine own_icmp_ne (pt := 91) (pf := 82) C at_79 (by decide) (by decide) rfl (fun _ => ?_) (fun q => absurd q (by decide))
    refine own_iloadN (pc' := 92) C at_91 rfl rfl ?_
    refine own_bipush (pc' := 94) (v := (6 : Int32)) C at_92 own_kb_6 rfl ?_
    refine own_icmp_ne (pt := 106) (pf := 97) C at_94 (by decide) (by decide) rfl (fun _ => ?_) (fun q => absurd q (by decide))
    refine own_iloadN (pc' := 107) C at_106 rfl rfl ?_
    refine own_bipush (pc' := 109) (v := (7 : Int32)) C at_107 own_kb_7 rfl ?_
    refine own_icmp_ne (pt := 121) (pf := 112) C at_109 (by decide) (by decide) rfl (fun q => absurd (by decide) q) (fun _ => ?_)
    refine own_getstatic (pc' := 115) C at_112 (hw _ (List.mem_of_getElem? (i := 30) rfl)) S7 rfl ?_
    refine own_astoreN (pc' := 116) (Ls' := #[.val (.int p0), .val (.int (7 : Int32)), .val (.ref k7), .unset, .unset, .unset]) C at_115 rfl rfl rfl ?_
    refine own_iconst (pc' := 117) (v := (0 : Int32)) C at_116 own_ki_0 rfl ?_
    refine own_istoreN (pc' := 118) (y := (0 : Int32)) (Ls' := #[.val (.int p0), .val (.int (7 : Int32)), .val (.ref k7), .val (.int (0 : Int32)), .unset, .unset]) C at_117 rfl rfl rfl ?_
    refine own_goto (pc' := 127) C at_118 (by decide) (by decide) ?_
    refine own_aloadN (pc' := 128) C at_127 rfl rfl rfl ?_
    refine own_callV (pc' := 131) (wL := 0) (a := k7) (argsL := []) (rest := []) C (own_m1 l Z a0 hw k7 k2 k4 h0 n0 Z_ S2 S4) E_k7 at_128 (hw _ (List.mem_of_getElem? (i := 4) rfl)) (hw _ (List.mem_of_getElem? (i := 5) rfl)) (hw _ (List.mem_of_getElem? (i := 7) rfl)) (hw _ (List.mem_of_getElem? (i := 6) rfl)) (hw _ (List.mem_of_getElem? (i := 2) rfl)) (hw _ (List.mem_of_getElem? (i := 8) rfl)) (by decide) (by decide) (by decide) rfl (lenOf pd1 rfl) rfl rfl (Nat.le_of_eq rfl) (by decide) (by decide) rfl ?_
    rintro _ _ ⟨rfl, rfl⟩
    rw [show (own_ch k7 k2 k4) = (0 : Int32) from by simp [own_ch, own_co, own_en, n0_1, n2_1, n3_1, n4_1, n5_1, n6_1, n7_1, n8_1, n0_2, n1_2, n3_2, n4_2, n5_2, n6_2, n7_2, n8_2, n0_3, n1_3, n2_3, n4_3, n5_3, n6_3, n7_3, n8_3, n0_4, n1_4, n2_4, n3_4, n5_4, n6_4, n7_4, n8_4]]
    show Wp p l e _ s m _ below meth c n0 _ h0 0 0 (mkF m 131 #[.val (.int p0), .val (.int (7 : Int32)), .val (.ref k7), .val (.int (0 : Int32)), .unset, .unset] [(.int (0 : Int32))])
    refine own_istore (pc' := 133) (y := (0 : Int32)) (Ls' := #[.val (.int p0), .val (.int (7 : Int32)), .val (.ref k7), .val (.int (0 : Int32)), .val (.int (0 : Int32)), .unset]) C at_131 rfl rfl rfl ?_
    refine own_aloadN (pc' := 134) C at_133 rfl rfl rfl ?_
    refine own_callV (pc' := 137) (wL := 0) (a := k7) (argsL := []) (rest := []) C (own_m2 l Z a0 hw k7 k1 k2 k3 k4 h0 n0 Z_ E_k7 S1 S2 S3 S4) E_k7 at_134 (hw _ (List.mem_of_getElem? (i := 13) rfl)) (hw _ (List.mem_of_getElem? (i := 14) rfl)) (hw _ (List.mem_of_getElem? (i := 16) rfl)) (hw _ (List.mem_of_getElem? (i := 15) rfl)) (hw _ (List.mem_of_getElem? (i := 2) rfl)) (hw _ (List.mem_of_getElem? (i := 17) rfl)) (by decide) (by decide) (by decide) rfl (lenOf pd2 rfl) rfl rfl (Nat.le_of_eq rfl) (by decide) (by decide) rfl ?_
    rintro _ _ ⟨rfl, rfl⟩
    rw [show (own_en k7 k1 k2 k3 k4) = (0 : Int32) from by simp [own_ch, own_co, own_en, n0_1, n2_1, n3_1, n4_1, n5_1, n6_1, n7_1, n8_1, n0_2, n1_2, n3_2, n4_2, n5_2, n6_2, n7_2, n8_2, n0_3, n1_3, n2_3, n4_3, n5_3, n6_3, n7_3, n8_3, n0_4, n1_4, n2_4, n3_4, n5_4, n6_4, n7_4, n8_4]]
    show Wp p l e _ s m _ below meth c n0 _ h0 0 0 (mkF m 137 #[.val (.int p0), .val (.int (7 : Int32)), .val (.ref k7), .val (.int (0 : Int32)), .val (.int (0 : Int32)), .unset] [(.int (0 : Int32))])
    refine own_istore (pc' := 139) (y := (0 : Int32)) (Ls' := #[.val (.int p0), .val (.int (7 : Int32)), .val (.ref k7), .val (.int (0 : Int32)), .val (.int (0 : Int32)), .val (.int (0 : Int32))]) C at_137 rfl rfl rfl ?_
    refine own_iload (pc' := 141) C at_139 rfl rfl ?_
    refine own_iloadN (pc' := 142) C at_141 rfl rfl ?_
    refine own_icmp_ne (pt := 159) (pf := 145) C at_142 (by decide) (by decide) rfl (fun q => absurd (by decide) q) (fun _ => ?_)
    refine own_iload (pc' := 147) C at_145 rfl rfl ?_
    refine own_if_eq (pt := 155) (pf := 150) C at_147 (by decide) (by decide) rfl (fun _ => ?_) (fun q => absurd (by decide) q)
    refine own_iconst (pc' := 156) (v := (1 : Int32)) C at_155 own_ki_1 rfl ?_
    refine own_goto (pc' := 160) C at_156 (by decide) (by decide) ?_
    refine own_zret C at_160 (by decide) (by decide) (Or.inr rfl) ?_
    exact rfl
  · subst q
    refine own_iloadN (pc' := 9) C at_8 rfl rfl ?_
    refine own_if_ne (pt := 21) (pf := 12) C at_9 (by decide) (by decide) rfl (fun _ => ?_) (fun q => absurd q (by decide))
    refine own_iloadN (pc' := 22) C at_21 rfl rfl ?_
    refine own_iconst (pc' := 23) (v := (1 : Int32)) C at_22 own_ki_1 rfl ?_
    refine own_icmp_ne (pt := 35) (pf := 26) C at_23 (by decide) (by decide) rfl (fun _ => ?_) (fun q => absurd q (by decide))
    refine own_iloadN (pc' := 36) C at_35 rfl rfl ?_
    refine own_iconst (pc' := 37) (v := (2 : Int32)) C at_36 own_ki_2 rfl ?_
    refine own_icmp_ne (pt := 49) (pf := 40) C at_37 (by decide) (by decide) rfl (fun _ => ?_) (fun q => absurd q (by decide))
    refine own_iloadN (pc' := 50) C at_49 rfl rfl ?_
    refine own_iconst (pc' := 51) (v := (3 : Int32)) C at_50 own_ki_3 rfl ?_
    refine own_icmp_ne (pt := 63) (pf := 54) C at_51 (by decide) (by decide) rfl (fun _ => ?_) (fun q => absurd q (by decide))
    refine own_iloadN (pc' := 64) C at_63 rfl rfl ?_
    refine own_iconst (pc' := 65) (v := (4 : Int32)) C at_64 own_ki_4 rfl ?_
    refine own_icmp_ne (pt := 77) (pf := 68) C at_65 (by decide) (by decide) rfl (fun _ => ?_) (fun q => absurd q (by decide))
    refine own_iloadN (pc' := 78) C at_77 rfl rfl ?_
    refine own_iconst (pc' := 79) (v := (5 : Int32)) C at_78 own_ki_5 rfl ?_
    refine own_icmp_ne (pt := 91) (pf := 82) C at_79 (by decide) (by decide) rfl (fun _ => ?_) (fun q => absurd q (by decide))
    refine own_iloadN (pc' := 92) C at_91 rfl rfl ?_
    refine own_bipush (pc' := 94) (v := (6 : Int32)) C at_92 own_kb_6 rfl ?_
    refine own_icmp_ne (pt := 106) (pf := 97) C at_94 (by decide) (by decide) rfl (fun _ => ?_) (fun q => absurd q (by decide))
    refine own_iloadN (pc' := 107) C at_106 rfl rfl ?_
    refine own_bipush (pc' := 109) (v := (7 : Int32)) C at_107 own_kb_7 rfl ?_
    refine own_icmp_ne (pt := 121) (pf := 112) C at_109 (by decide) (by decide) rfl (fun _ => ?_) (fun q => absurd q (by decide))
    refine own_getstatic (pc' := 124) C at_121 (hw _ (List.mem_of_getElem? (i := 33) rfl)) S8 rfl ?_
    refine own_astoreN (pc' := 125) (Ls' := #[.val (.int p0), .val (.int (8 : Int32)), .val (.ref k8), .unset, .unset, .unset]) C at_124 rfl rfl rfl ?_
    refine own_iconst (pc' := 126) (v := (0 : Int32)) C at_125 own_ki_0 rfl ?_
    refine own_istoreN (pc' := 127) (y := (0 : Int32)) (Ls' := #[.val (.int p0), .val (.int (8 : Int32)), .val (.ref k8), .val (.int (0 : Int32)), .unset, .unset]) C at_126 rfl rfl rfl ?_
    refine own_aloadN (pc' := 128) C at_127 rfl rfl rfl ?_
    refine own_callV (pc' := 131) (wL := 0) (a := k8) (argsL := []) (rest := []) C (own_m1 l Z a0 hw k8 k2 k4 h0 n0 Z_ S2 S4) E_k8 at_128 (hw _ (List.mem_of_getElem? (i := 4) rfl)) (hw _ (List.mem_of_getElem? (i := 5) rfl)) (hw _ (List.mem_of_getElem? (i := 7) rfl)) (hw _ (List.mem_of_getElem? (i := 6) rfl)) (hw _ (List.mem_of_getElem? (i := 2) rfl)) (hw _ (List.mem_of_getElem? (i := 8) rfl)) (by decide) (by decide) (by decide) rfl (lenOf pd1 rfl) rfl rfl (Nat.le_of_eq rfl) (by decide) (by decide) rfl ?_
    rintro _ _ ⟨rfl, rfl⟩
    rw [show (own_ch k8 k2 k4) = (0 : Int32) from by simp [own_ch, own_co, own_en, n0_1, n2_1, n3_1, n4_1, n5_1, n6_1, n7_1, n8_1, n0_2, n1_2, n3_2, n4_2, n5_2, n6_2, n7_2, n8_2, n0_3, n1_3, n2_3, n4_3, n5_3, n6_3, n7_3, n8_3, n0_4, n1_4, n2_4, n3_4, n5_4, n6_4, n7_4, n8_4]]
    show Wp p l e _ s m _ below meth c n0 _ h0 0 0 (mkF m 131 #[.val (.int p0), .val (.int (8 : Int32)), .val (.ref k8), .val (.int (0 : Int32)), .unset, .unset] [(.int (0 : Int32))])
    refine own_istore (pc' := 133) (y := (0 : Int32)) (Ls' := #[.val (.int p0), .val (.int (8 : Int32)), .val (.ref k8), .val (.int (0 : Int32)), .val (.int (0 : Int32)), .unset]) C at_131 rfl rfl rfl ?_
    refine own_aloadN (pc' := 134) C at_133 rfl rfl rfl ?_
    refine own_callV (pc' := 137) (wL := 0) (a := k8) (argsL := []) (rest := []) C (own_m2 l Z a0 hw k8 k1 k2 k3 k4 h0 n0 Z_ E_k8 S1 S2 S3 S4) E_k8 at_134 (hw _ (List.mem_of_getElem? (i := 13) rfl)) (hw _ (List.mem_of_getElem? (i := 14) rfl)) (hw _ (List.mem_of_getElem? (i := 16) rfl)) (hw _ (List.mem_of_getElem? (i := 15) rfl)) (hw _ (List.mem_of_getElem? (i := 2) rfl)) (hw _ (List.mem_of_getElem? (i := 17) rfl)) (by decide) (by decide) (by decide) rfl (lenOf pd2 rfl) rfl rfl (Nat.le_of_eq rfl) (by decide) (by decide) rfl ?_
    rintro _ _ ⟨rfl, rfl⟩
    rw [show (own_en k8 k1 k2 k3 k4) = (0 : Int32) from by simp [own_ch, own_co, own_en, n0_1, n2_1, n3_1, n4_1, n5_1, n6_1, n7_1, n8_1, n0_2, n1_2, n3_2, n4_2, n5_2, n6_2, n7_2, n8_2, n0_3, n1_3, n2_3, n4_3, n5_3, n6_3, n7_3, n8_3, n0_4, n1_4, n2_4, n3_4, n5_4, n6_4, n7_4, n8_4]]
    show Wp p l e _ s m _ below meth c n0 _ h0 0 0 (mkF m 137 #[.val (.int p0), .val (.int (8 : Int32)), .val (.ref k8), .val (.int (0 : Int32)), .val (.int (0 : Int32)), .unset] [(.int (0 : Int32))])
    refine own_istore (pc' := 139) (y := (0 : Int32)) (Ls' := #[.val (.int p0), .val (.int (8 : Int32)), .val (.ref k8), .val (.int (0 : Int32)), .val (.int (0 : Int32)), .val (.int (0 : Int32))]) C at_137 rfl rfl rfl ?_
    refine own_iload (pc' := 141) C at_139 rfl rfl ?_
    refine own_iloadN (pc' := 142) C at_141 rfl rfl ?_
    refine own_icmp_ne (pt := 159) (pf := 145) C at_142 (by decide) (by decide) rfl (fun q => absurd (by decide) q) (fun _ => ?_)
    refine own_iload (pc' := 147) C at_145 rfl rfl ?_
    refine own_if_eq (pt := 155) (pf := 150) C at_147 (by decide) (by decide) rfl (fun _ => ?_) (fun q => absurd (by decide) q)
    refine own_iconst (pc' := 156) (v := (1 : Int32)) C at_155 own_ki_1 rfl ?_
    refine own_goto (pc' := 160) C at_156 (by decide) (by decide) ?_
    refine own_zret C at_160 (by decide) (by decide) (Or.inr rfl) ?_
    exact rfl
set_option maxRecDepth 65536 in
set_option maxHeartbeats 40000000 in
theorem comes_1 {Post : Tables → Env → Array Value → State → Outcome → State → Prop} (hpost : ∀ tb e args s v u, (limb_1_1.after args s (.returned v) u = true ∧ limb_1_2.after args s (.returned v) u = true ∧ True) → FrameEnd s (.returned v) u (Jvm.fieldLocs frame_1_writes args s ++ Jvm.arrayLocs frame_1_arrays args s ++ Jvm.staticLocs frame_1_statics s) 0 0 → Post tb e args s (.returned v) u) :
    ArmFor flags0 classFile x code maxLocals ret World_1 tables_1 room_1 Calls_1 rest_1 Pre_1 Post := by
  intro l hfl _ _ p e ha hc hk s m args below hf hA hF happ hP
  obtain ⟨hcalls, hrest, hpre⟩ := hP
  obtain ⟨-, -, -, hnamed, -, -, -, hat⟩ := (Spec.applies_iff hf).mp happ
  obtain ⟨hg, hn⟩ := and_e (Cond.before_iff.mp (show (Jvm.Cond.and given_1 narrow_1).before args s = true from hpre))
  obtain ⟨hcount, q0⟩ := and_e hg
  obtain ⟨w0, rfl⟩ : ∃ w0 : Value, args = #[w0] := by
    have hs : args.size = 1 := by simpa [Cond.value, given_1] using hcount
    obtain ⟨L⟩ := args
    match L, hs with
    | [w0], _ => exact ⟨w0, rfl⟩
  have hw := fun d (hd : d ∈ tables_1) => atoms_spec (ws := Jvm.Cond.code x code maxLocals ret :: tables_1) hat d (List.mem_cons_of_mem _ hd)
  obtain ⟨i0, e0⟩ := is_v q0
  obtain rfl : w0 = (.int i0) := Option.some.inj e0
  obtain ⟨x_BEGIN, m0⟩ := and_e hn
  obtain ⟨x_COMMIT_AND_CHAIN, m1⟩ := and_e m0
  obtain ⟨o_BEGIN, m2⟩ := and_e m1
  obtain ⟨o_COMMIT_AND_CHAIN, m3⟩ := and_e m2
  obtain ⟨x_ROLLBACK_AND_CHAIN, m4⟩ := and_e m3
  obtain ⟨o_ROLLBACK_AND_CHAIN, m5⟩ := and_e m4
  obtain ⟨x_COMMIT, m6⟩ := and_e m5
  obtain ⟨o_COMMIT, m7⟩ := and_e m6
  obtain ⟨x_ROLLBACK, m8⟩ := and_e m7
  obtain ⟨o_ROLLBACK, m9⟩ := and_e m8
  obtain ⟨x_REFUSED, m10⟩ := and_e m9
  obtain ⟨o_REFUSED, m11⟩ := and_e m10
  obtain ⟨x_OTHER, m12⟩ := and_e m11
  obtain ⟨o_OTHER, m13⟩ := and_e m12
  obtain ⟨x_EXECUTE, m14⟩ := and_e m13
  obtain ⟨o_EXECUTE, m15⟩ := and_e m14
  obtain ⟨x_OUTSIDE_BLOCK, m16⟩ := and_e m15
  have o_OUTSIDE_BLOCK := m16
  obtain ⟨k0, evk0⟩ := exa_v x_BEGIN
  have E_k0 := Exa.start evk0 x_BEGIN
  have F_k0 := own_ord evk0 o_BEGIN
  have S0 := Sta.start evk0 (Or.inr ⟨(hw _ (List.mem_of_getElem? (i := 2) rfl)), (hw _ (List.mem_of_getElem? (i := 3) rfl))⟩)
  obtain ⟨k1, evk1⟩ := exa_v x_COMMIT
  have E_k1 := Exa.start evk1 x_COMMIT
  have F_k1 := own_ord evk1 o_COMMIT
  have S1 := Sta.start evk1 (Or.inr ⟨(hw _ (List.mem_of_getElem? (i := 2) rfl)), (hw _ (List.mem_of_getElem? (i := 24) rfl))⟩)
  obtain ⟨k2, evk2⟩ := exa_v x_COMMIT_AND_CHAIN
  have E_k2 := Exa.start evk2 x_COMMIT_AND_CHAIN
  have F_k2 := own_ord evk2 o_COMMIT_AND_CHAIN
  have S2 := Sta.start evk2 (Or.inr ⟨(hw _ (List.mem_of_getElem? (i := 2) rfl)), (hw _ (List.mem_of_getElem? (i := 10) rfl))⟩)
  obtain ⟨k3, evk3⟩ := exa_v x_ROLLBACK
  have E_k3 := Exa.start evk3 x_ROLLBACK
  have F_k3 := own_ord evk3 o_ROLLBACK
  have S3 := Sta.start evk3 (Or.inr ⟨(hw _ (List.mem_of_getElem? (i := 2) rfl)), (hw _ (List.mem_of_getElem? (i := 26) rfl))⟩)
  obtain ⟨k4, evk4⟩ := exa_v x_ROLLBACK_AND_CHAIN
  have E_k4 := Exa.start evk4 x_ROLLBACK_AND_CHAIN
  have F_k4 := own_ord evk4 o_ROLLBACK_AND_CHAIN
  have S4 := Sta.start evk4 (Or.inr ⟨(hw _ (List.mem_of_getElem? (i := 2) rfl)), (hw _ (List.mem_of_getElem? (i := 12) rfl))⟩)
  obtain ⟨k5, evk5⟩ := exa_v x_OUTSIDE_BLOCK
  have E_k5 := Exa.start evk5 x_OUTSIDE_BLOCK
  have F_k5 := own_ord evk5 o_OUTSIDE_BLOCK
  have S5 := Sta.start evk5 (Or.inr ⟨(hw _ (List.mem_of_getElem? (i := 2) rfl)), (hw _ (List.mem_of_getElem? (i := 38) rfl))⟩)
  obtain ⟨k6, evk6⟩ := exa_v x_EXECUTE
  have E_k6 := Exa.start evk6 x_EXECUTE
  have F_k6 := own_ord evk6 o_EXECUTE
  have S6 := Sta.start evk6 (Or.inr ⟨(hw _ (List.mem_of_getElem? (i := 2) rfl)), (hw _ (List.mem_of_getElem? (i := 36) rfl))⟩)
  obtain ⟨k7, evk7⟩ := exa_v x_REFUSED
  have E_k7 := Exa.start evk7 x_REFUSED
  have F_k7 := own_ord evk7 o_REFUSED
  have S7 := Sta.start evk7 (Or.inr ⟨(hw _ (List.mem_of_getElem? (i := 2) rfl)), (hw _ (List.mem_of_getElem? (i := 31) rfl))⟩)
  obtain ⟨k8, evk8⟩ := exa_v x_OTHER
  have E_k8 := Exa.start evk8 x_OTHER
  have F_k8 := own_ord evk8 o_OTHER
  have S8 := Sta.start evk8 (Or.inr ⟨(hw _ (List.mem_of_getElem? (i := 2) rfl)), (hw _ (List.mem_of_getElem? (i := 34) rfl))⟩)
  have n0_1 := Fld.ne F_k0 F_k1 (by decide)
  have n2_1 := Fld.ne F_k2 F_k1 (by decide)
  have n3_1 := Fld.ne F_k3 F_k1 (by decide)
  have n4_1 := Fld.ne F_k4 F_k1 (by decide)
  have n5_1 := Fld.ne F_k5 F_k1 (by decide)
  have n6_1 := Fld.ne F_k6 F_k1 (by decide)
  have n7_1 := Fld.ne F_k7 F_k1 (by decide)
  have n8_1 := Fld.ne F_k8 F_k1 (by decide)
  have n0_2 := Fld.ne F_k0 F_k2 (by decide)
  have n1_2 := Fld.ne F_k1 F_k2 (by decide)
  have n3_2 := Fld.ne F_k3 F_k2 (by decide)
  have n4_2 := Fld.ne F_k4 F_k2 (by decide)
  have n5_2 := Fld.ne F_k5 F_k2 (by decide)
  have n6_2 := Fld.ne F_k6 F_k2 (by decide)
  have n7_2 := Fld.ne F_k7 F_k2 (by decide)
  have n8_2 := Fld.ne F_k8 F_k2 (by decide)
  have n0_3 := Fld.ne F_k0 F_k3 (by decide)
  have n1_3 := Fld.ne F_k1 F_k3 (by decide)
  have n2_3 := Fld.ne F_k2 F_k3 (by decide)
  have n4_3 := Fld.ne F_k4 F_k3 (by decide)
  have n5_3 := Fld.ne F_k5 F_k3 (by decide)
  have n6_3 := Fld.ne F_k6 F_k3 (by decide)
  have n7_3 := Fld.ne F_k7 F_k3 (by decide)
  have n8_3 := Fld.ne F_k8 F_k3 (by decide)
  have n0_4 := Fld.ne F_k0 F_k4 (by decide)
  have n1_4 := Fld.ne F_k1 F_k4 (by decide)
  have n2_4 := Fld.ne F_k2 F_k4 (by decide)
  have n3_4 := Fld.ne F_k3 F_k4 (by decide)
  have n5_4 := Fld.ne F_k5 F_k4 (by decide)
  have n6_4 := Fld.ne F_k6 F_k4 (by decide)
  have n7_4 := Fld.ne F_k7 F_k4 (by decide)
  have n8_4 := Fld.ne F_k8 F_k4 (by decide)
  obtain ⟨n, o, h1, h2, h3, _, L, rfl, ⟨rfl, N⟩, hq⟩ := own_law l s _ hw tables_1 i0 k0 k1 k2 k3 k4 k5 k6 k7 k8 s.heap s.heap.size (Nat.le_refl _) S0 S1 S2 S3 S4 S5 S6 S7 S8 E_k0 E_k1 E_k2 E_k3 E_k4 E_k5 E_k6 E_k7 E_k8 n0_1 n2_1 n3_1 n4_1 n5_1 n6_1 n7_1 n8_1 n0_2 n1_2 n3_2 n4_2 n5_2 n6_2 n7_2 n8_2 n0_3 n1_3 n2_3 n4_3 n5_3 n6_3 n7_3 n8_3 n0_4 n1_4 n2_4 n3_4 n5_4 n6_4 n7_4 n8_4 p e ha hc hk s m _ below hf ((Spec.applies_iff_loose hf).mp happ).1 ⟨rfl, State.Warmed39.refl s, rfl⟩ trivial
  refine ⟨n, _, h1, h2, h3, hpost _ _ _ _ _ _ ⟨Cond.after_iff.mpr rfl, Cond.after_iff.mpr (eq_i res_at (Term.int_eval (1)) rfl), trivial⟩ ⟨hq.1, hq.2.1, (hq.2.2.sift fun y hy => Or.inr (N y hy)).mono (by decide) (by decide)⟩⟩
theorem main_1_1 : Claimed_1_1 := comes_1 fun _ _ _ _ _ _ h hF => ⟨h.1, hF⟩
theorem main_1_2 : Claimed_1_2 := comes_1 fun _ _ _ _ _ _ h hF => ⟨h.2.1, hF⟩
end Jvm.Pilot.@@N@@
namespace Jvm.Pilot.@@N@@
open Jvm Jvm.ClassFile Sem Op Lib Jvm.Free Jvm.Stand Jvm.Pilot.@@N@@.Jvm.D
/-! MADE BY PROGRAM (witnessworld.py) out of the Statement's table words and the real class files: 12 classes; the members and pool entries that the words name. The judged class is class 1, her method 1. -/
namespace start1
open Jvm.ClassFile
def u (s : String) : CpInfo := .utf8 (stringToUtf16 s)
/-- a pool by its gaps: so many unusable entries, then the entry; so many at the end -/
def gap : Nat → List CpInfo → List CpInfo
  | 0, r => r
  | n + 1, r => .unusable :: gap n r
def poolList (es : List (Nat × CpInfo)) (last : Nat) : List CpInfo := es.foldr (fun e r => gap e.1 (e.2 :: r)) (gap last [])
def pool (es : List (Nat × CpInfo)) (last : Nat) : Array CpInfo := ⟨poolList es last⟩
def fileOf (pool : Array CpInfo) (this : Nat) (attrs : Array Attribute := #[]) (ms : Array MethodInfo := #[]) (fl : Nat := 33) (sup : Nat := 0) (ifs : Array Nat := #[]) (fds : Array FieldInfo := #[]) : ClassFile where
  minorVersion := 0
  majorVersion := 65
  constantPool := pool
  accessFlags := fl
  thisClass := this
  superClass := sup
  interfaces := ifs
  fields := fds
  methods := ms
  attributes := attrs
def plain (name : String) (sup : Option ClassId) : Class where
  name := name
  kind := .ordinary
  loader := none
  accessFlags := 33
  super := sup
  interfaces := #[]
  cf := none
  fields := #[]
  methods := #[]
  instanceTypes := #[]
  staticTypes := #[]
  resolved := #[]
  callSites := []
  init := .initialized
  statics := none
  mirror := none

def pool0 : Array CpInfo := pool [(5, u "<init>"), (0, u "()V"), (1, .class_ 10), (1, u "java/lang/Object")] 113

def k0m0 : Method := { name := "<init>", desc := "()V", sig := { parameters := [], returnType := none }, accessFlags := 1, code := none }
/-- java/lang/Object -/
def k0 : Class := { plain "java/lang/Object" none with
  accessFlags := 33
  interfaces := #[]
  cf := some (fileOf pool0 8 #[] #[{ accessFlags := 1, nameIndex := 5, descriptorIndex := 6, attributes := #[] }] 33 0 #[] #[])
  fields := #[]
  methods := #[k0m0]
  instanceTypes := #[]
  staticTypes := #[]
  resolved := Array.replicate 124 none
  statics := none }

def pool1 : Array CpInfo := pool [(2, .class_ 4), (1, u "java/lang/Object"), (0, u "<init>"), (0, u "()V"), (0, .integer 2147483647), (0, .fieldref 9 10), (0, .class_ 11), (0, .nameAndType 12 13), (0, u "com/example/certivote/certivote/node/SqlScript$Kind"), (0, u "BEGIN"), (0, u "Lcom/example/certivote/certivote/node/SqlScript$Kind;"), (0, .fieldref 9 15), (0, .nameAndType 16 13), (0, u "COMMIT"), (0, .fieldref 9 18), (0, .nameAndType 19 13), (0, u "COMMIT_AND_CHAIN"), (0, .fieldref 9 21), (0, .nameAndType 22 13), (0, u "ROLLBACK"), (0, .fieldref 9 24), (0, .nameAndType 25 13), (0, u "ROLLBACK_AND_CHAIN"), (0, .fieldref 9 27), (0, .nameAndType 28 13), (0, u "OUTSIDE_BLOCK"), (0, .fieldref 9 30), (0, .nameAndType 31 13), (0, u "EXECUTE"), (0, .fieldref 9 33), (0, .nameAndType 34 13), (0, u "REFUSED"), (0, .fieldref 9 36), (0, .nameAndType 37 13), (0, u "OTHER"), (0, .methodref 9 39), (0, .nameAndType 40 41), (0, u "chains"), (0, u "()Z"), (0, .methodref 9 43), (0, .nameAndType 44 41), (0, u "endsBlock"), (0, .class_ 46), (0, u "com/example/certivote/certivote/node/KindChainsPinLaw"), (2, u "law"), (0, u "(I)Z")] 7

def k1m0 : Method := { name := "<init>", desc := "()V", sig := { parameters := [], returnType := none }, accessFlags := 2, code := none }
def k1c1 : Code := { maxStack := 2, maxLocals := 6, code := code, exceptionTable := #[], attributes := #[] }
def k1m1 : Method := { name := "law", desc := "(I)Z", sig := { parameters := [.int], returnType := some .boolean }, accessFlags := 9, code := some k1c1 }
/-- com/example/certivote/certivote/node/KindChainsPinLaw -/
def k1 : Class := { plain "com/example/certivote/certivote/node/KindChainsPinLaw" (some 0) with
  accessFlags := 49
  interfaces := #[]
  cf := some (fileOf pool1 45 #[] #[{ accessFlags := 2, nameIndex := 5, descriptorIndex := 6, attributes := #[] }, { accessFlags := 9, nameIndex := 49, descriptorIndex := 50, attributes := #[] }] 49 2 #[] #[])
  fields := #[]
  methods := #[k1m0, k1m1]
  instanceTypes := #[]
  staticTypes := #[]
  resolved := Array.replicate 58 none
  statics := none }

def pool2 : Array CpInfo := pool [(1, .class_ 2), (0, u "java/lang/constant/Constable"), (0, .class_ 4), (0, u "java/lang/Object")] 6

/-- java/lang/constant/Constable -/
def k2 : Class := { plain "java/lang/constant/Constable" (some 0) with
  accessFlags := 1537
  interfaces := #[]
  cf := some (fileOf pool2 1 #[] #[] 1537 3 #[] #[])
  fields := #[]
  methods := #[]
  instanceTypes := #[]
  staticTypes := #[]
  resolved := Array.replicate 11 none
  statics := none }

def pool3 : Array CpInfo := pool [(1, .class_ 2), (0, u "java/lang/Comparable"), (0, .class_ 4), (0, u "java/lang/Object")] 7

/-- java/lang/Comparable -/
def k3 : Class := { plain "java/lang/Comparable" (some 0) with
  accessFlags := 1537
  interfaces := #[]
  cf := some (fileOf pool3 1 #[] #[] 1537 3 #[] #[])
  fields := #[]
  methods := #[]
  instanceTypes := #[]
  staticTypes := #[]
  resolved := Array.replicate 12 none
  statics := none }

def pool4 : Array CpInfo := pool [(1, .class_ 2), (0, u "java/io/Serializable"), (0, .class_ 4), (0, u "java/lang/Object")] 2

/-- java/io/Serializable -/
def k4 : Class := { plain "java/io/Serializable" (some 0) with
  accessFlags := 1537
  interfaces := #[]
  cf := some (fileOf pool4 1 #[] #[] 1537 3 #[] #[])
  fields := #[]
  methods := #[]
  instanceTypes := #[]
  staticTypes := #[]
  resolved := Array.replicate 7 none
  statics := none }

def pool5 : Array CpInfo := pool [(2, .class_ 4), (1, u "java/lang/Enum"), (0, u "name"), (0, u "Ljava/lang/String;"), (2, u "ordinal"), (0, u "I"), (1, .class_ 14), (1, u "java/lang/Object"), (4, u "hash"), (86, .class_ 108), (1, u "java/lang/Enum$EnumDesc"), (2, .class_ 112), (0, u "java/lang/constant/Constable"), (0, .class_ 114), (0, u "java/lang/Comparable"), (0, .class_ 116), (0, u "java/io/Serializable")] 87

/-- java/lang/Enum -/
def k5 : Class := { plain "java/lang/Enum" (some 0) with
  accessFlags := 1057
  interfaces := #[2, 3, 4]
  cf := some (fileOf pool5 2 #[.nestMembers #[106]] #[] 1057 12 #[111, 113, 115] #[{ accessFlags := 18, nameIndex := 5, descriptorIndex := 6, attributes := #[] }, { accessFlags := 18, nameIndex := 9, descriptorIndex := 10, attributes := #[] }, { accessFlags := 2, nameIndex := 19, descriptorIndex := 10, attributes := #[] }])
  fields := #[{ name := "name", type := (.object "java/lang/String"), accessFlags := 18, slot := 0, constantValue := 0 }, { name := "ordinal", type := .int, accessFlags := 18, slot := 1, constantValue := 0 }, { name := "hash", type := .int, accessFlags := 2, slot := 2, constantValue := 0 }]
  methods := #[]
  instanceTypes := #[(.object "java/lang/String"), .int, .int]
  staticTypes := #[]
  resolved := Array.replicate 204 none
  statics := none }

def pool6 : Array CpInfo := pool [(1, .class_ 2), (0, u "com/example/certivote/certivote/node/SqlScript$Kind"), (2, u "BEGIN"), (0, u "Lcom/example/certivote/certivote/node/SqlScript$Kind;"), (0, .fieldref 1 8), (0, .nameAndType 9 6), (0, u "COMMIT"), (0, .fieldref 1 11), (0, .nameAndType 12 6), (0, u "COMMIT_AND_CHAIN"), (0, .fieldref 1 14), (0, .nameAndType 15 6), (0, u "ROLLBACK"), (0, .fieldref 1 17), (0, .nameAndType 18 6), (0, u "ROLLBACK_AND_CHAIN"), (2, u "OUTSIDE_BLOCK"), (2, u "EXECUTE"), (2, u "REFUSED"), (2, u "OTHER"), (2, u "$VALUES"), (0, u "[Lcom/example/certivote/certivote/node/SqlScript$Kind;"), (6, .class_ 43), (1, u "java/lang/Enum"), (6, .methodref 1 51), (0, .nameAndType 52 53), (0, u "commits"), (0, u "()Z"), (21, u "endsBlock"), (1, u "chains"), (5, .class_ 84), (0, u "com/example/certivote/certivote/node/SqlScript")] 2

def k6c0 : Code := { maxStack := 2, maxLocals := 1, code := prog_85_method_4_code, exceptionTable := #[], attributes := #[] }
def k6m0 : Method := { name := "endsBlock", desc := "()Z", sig := { parameters := [], returnType := some .boolean }, accessFlags := 0, code := some k6c0 }
def k6c1 : Code := { maxStack := 2, maxLocals := 1, code := prog_85_method_5_code, exceptionTable := #[], attributes := #[] }
def k6m1 : Method := { name := "commits", desc := "()Z", sig := { parameters := [], returnType := some .boolean }, accessFlags := 0, code := some k6c1 }
def k6c2 : Code := { maxStack := 2, maxLocals := 1, code := prog_85_method_6_code, exceptionTable := #[], attributes := #[] }
def k6m2 : Method := { name := "chains", desc := "()Z", sig := { parameters := [], returnType := some .boolean }, accessFlags := 0, code := some k6c2 }
/-- com/example/certivote/certivote/node/SqlScript$Kind -/
def k6 : Class := { plain "com/example/certivote/certivote/node/SqlScript$Kind" (some 5) with
  accessFlags := 16432
  interfaces := #[]
  cf := some (fileOf pool6 1 #[.nestHost 83] #[{ accessFlags := 0, nameIndex := 75, descriptorIndex := 53, attributes := #[] }, { accessFlags := 0, nameIndex := 52, descriptorIndex := 53, attributes := #[] }, { accessFlags := 0, nameIndex := 77, descriptorIndex := 53, attributes := #[] }] 16432 41 #[] #[{ accessFlags := 16409, nameIndex := 5, descriptorIndex := 6, attributes := #[] }, { accessFlags := 16409, nameIndex := 9, descriptorIndex := 6, attributes := #[] }, { accessFlags := 16409, nameIndex := 12, descriptorIndex := 6, attributes := #[] }, { accessFlags := 16409, nameIndex := 15, descriptorIndex := 6, attributes := #[] }, { accessFlags := 16409, nameIndex := 18, descriptorIndex := 6, attributes := #[] }, { accessFlags := 16409, nameIndex := 21, descriptorIndex := 6, attributes := #[] }, { accessFlags := 16409, nameIndex := 24, descriptorIndex := 6, attributes := #[] }, { accessFlags := 16409, nameIndex := 27, descriptorIndex := 6, attributes := #[] }, { accessFlags := 16409, nameIndex := 30, descriptorIndex := 6, attributes := #[] }, { accessFlags := 4122, nameIndex := 33, descriptorIndex := 34, attributes := #[] }])
  fields := #[{ name := "BEGIN", type := (.object "com/example/certivote/certivote/node/SqlScript$Kind"), accessFlags := 16409, slot := 0, constantValue := 0 }, { name := "COMMIT", type := (.object "com/example/certivote/certivote/node/SqlScript$Kind"), accessFlags := 16409, slot := 1, constantValue := 0 }, { name := "COMMIT_AND_CHAIN", type := (.object "com/example/certivote/certivote/node/SqlScript$Kind"), accessFlags := 16409, slot := 2, constantValue := 0 }, { name := "ROLLBACK", type := (.object "com/example/certivote/certivote/node/SqlScript$Kind"), accessFlags := 16409, slot := 3, constantValue := 0 }, { name := "ROLLBACK_AND_CHAIN", type := (.object "com/example/certivote/certivote/node/SqlScript$Kind"), accessFlags := 16409, slot := 4, constantValue := 0 }, { name := "OUTSIDE_BLOCK", type := (.object "com/example/certivote/certivote/node/SqlScript$Kind"), accessFlags := 16409, slot := 5, constantValue := 0 }, { name := "EXECUTE", type := (.object "com/example/certivote/certivote/node/SqlScript$Kind"), accessFlags := 16409, slot := 6, constantValue := 0 }, { name := "REFUSED", type := (.object "com/example/certivote/certivote/node/SqlScript$Kind"), accessFlags := 16409, slot := 7, constantValue := 0 }, { name := "OTHER", type := (.object "com/example/certivote/certivote/node/SqlScript$Kind"), accessFlags := 16409, slot := 8, constantValue := 0 }, { name := "$VALUES", type := (.array (.object "com/example/certivote/certivote/node/SqlScript$Kind")), accessFlags := 4122, slot := 9, constantValue := 0 }]
  methods := #[k6m0, k6m1, k6m2]
  instanceTypes := #[(.object "java/lang/String"), .int, .int]
  staticTypes := #[(.object "com/example/certivote/certivote/node/SqlScript$Kind"), (.object "com/example/certivote/certivote/node/SqlScript$Kind"), (.object "com/example/certivote/certivote/node/SqlScript$Kind"), (.object "com/example/certivote/certivote/node/SqlScript$Kind"), (.object "com/example/certivote/certivote/node/SqlScript$Kind"), (.object "com/example/certivote/certivote/node/SqlScript$Kind"), (.object "com/example/certivote/certivote/node/SqlScript$Kind"), (.object "com/example/certivote/certivote/node/SqlScript$Kind"), (.object "com/example/certivote/certivote/node/SqlScript$Kind"), (.array (.object "com/example/certivote/certivote/node/SqlScript$Kind"))]
  resolved := Array.replicate 87 none
  statics := some 0 }

def pool7 : Array CpInfo := pool [(1, u "java/lang/Cloneable"), (0, .class_ 1), (0, u "java/lang/Object"), (0, .class_ 3)] 3

/-- java/lang/Cloneable -/
def k7 : Class := { plain "java/lang/Cloneable" (some 0) with
  accessFlags := 1537
  interfaces := #[]
  cf := some (fileOf pool7 2 #[] #[] 1537 4 #[] #[])
  fields := #[]
  methods := #[]
  instanceTypes := #[]
  staticTypes := #[]
  resolved := Array.replicate 8 none
  statics := none }

/-- the primitive byte -/
def k8 : Class := { plain "byte" none with kind := .primitive 'B', accessFlags := 0x411 }
/-- [B -/
def k9 : Class := { plain "[B" (some 0) with kind := .array 8 .byte, interfaces := #[7, 4], accessFlags := 1041 }

/-- the primitive int -/
def k10 : Class := { plain "int" none with kind := .primitive 'I', accessFlags := 0x411 }
/-- [I -/
def k11 : Class := { plain "[I" (some 0) with kind := .array 10 .int, interfaces := #[7, 4], accessFlags := 1041 }

def heap : Heap := #[{ cls := 6, slots := #[.ref 1, .ref 2, .ref 3, .ref 4, .ref 5, .ref 6, .ref 7, .ref 8, .ref 9, .null], vm := .statics 6 },
  { cls := 6, slots := #[.null, .int 0, .int 0], vm := .none },
  { cls := 6, slots := #[.null, .int 1, .int 0], vm := .none },
  { cls := 6, slots := #[.null, .int 2, .int 0], vm := .none },
  { cls := 6, slots := #[.null, .int 3, .int 0], vm := .none },
  { cls := 6, slots := #[.null, .int 4, .int 0], vm := .none },
  { cls := 6, slots := #[.null, .int 5, .int 0], vm := .none },
  { cls := 6, slots := #[.null, .int 6, .int 0], vm := .none },
  { cls := 6, slots := #[.null, .int 7, .int 0], vm := .none },
  { cls := 6, slots := #[.null, .int 8, .int 0], vm := .none }]
def classes : Array Class := #[k0, k1, k2, k3, k4, k5, k6, k7, k8, k9, k10, k11]
def interned : List (Array UInt16 × Addr) := []
def slotsUsed : Nat := 37
def theMethod : MethodId := ⟨1, 1⟩
def args0 : Array Value := #[.int 5]
def aboutOver (below : List Frame) : State where
  vm := { classes := classes, interned := interned.toArray }
  heap := heap
  slotsUsed := slotsUsed
  threads := #[{ frames := .invoking theMethod args0 :: below }]
def below0 : List Frame := [.native { method := ⟨0, 0⟩, args := #[] }]
def about1 : State := aboutOver below0
def p0 : Program := .bare "" "" ""
def e0 : Env := launch0.env 0 0 0
theorem w_frames : about1.frames = Frame.invoking theMethod args0 :: below0 := rfl
set_option maxRecDepth 65536 in
theorem w_args : argsFit about1.vm theMethod args0 = true := by decide +kernel
set_option maxRecDepth 65536 in
theorem w_heap : heapFits about1 = true := by decide +kernel
set_option maxRecDepth 65536 in
theorem w_runnable : about1.curStatus? = some .runnable := by decide +kernel
set_option maxRecDepth 65536 in
theorem w_alone : about1.alone = true := by decide +kernel
set_option maxRecDepth 65536 in
theorem w_named : about1.methodNamed? x = some theMethod := by decide +kernel
set_option maxRecDepth 65536 in
theorem w_hears : about1.hears theMethod below0 = true := by decide +kernel
set_option maxRecDepth 65536 in
theorem w_ripe : about1.ripe theMethod args0 below0 = true := by decide +kernel
theorem w_running : about1.status = .running := rfl
set_option maxRecDepth 65536 in
theorem w_room : about1.hasRoom e0.platform room_1 = true :=
  launch0.hasRoom_least _ room_1 (by decide +kernel) (by decide +kernel) (by decide +kernel) (by decide +kernel) (by decide +kernel) (by decide +kernel)
theorem allAtoms_all (ts : List Jvm.Cond) (a : Array Jvm.Value) (st : Jvm.State) : (allAtoms ts).before a st = ts.all (fun c => c.before a st) := by
  induction ts with
  | nil => rfl
  | cons c t ih =>
    show (Jvm.Cond.and c (allAtoms t)).before a st = _
    rw [Jvm.Cond.before_and, ih, List.all_cons]
def words1 : List Jvm.Cond := Jvm.Cond.code x code maxLocals ret :: tables_1
/-- a 'code' word, met by the world's own term for the bytes: nothing is compared byte by byte -/
theorem code_word {y : MethodName} {bytes : ByteArray} {mx : Nat} {rt : Option FieldType} {a : Array Value} {s : State} {m : MethodId} {meth : Method} {c : Code} (h1 : s.methodNamed? y = some m) (h2 : s.vm.method? m = some meth) (h3 : meth.code = some c) (h4 : c.code = bytes)
    (h5 : (c.maxLocals == mx && c.exceptionTable.isEmpty && decide (c.maxStack ≤ mostOperands) && decide (meth.sig.returnType = rt) && !meth.locks && decide (parseMethodDescriptor y.desc = some meth.sig)) = true) : (Jvm.Cond.code y bytes mx rt).before a s = true := by
  simp only [Bool.and_eq_true, beq_iff_eq, Bool.not_eq_true', decide_eq_true_eq] at h5
  obtain ⟨⟨⟨⟨⟨g1, g2⟩, g3⟩, g4⟩, g5⟩, g6⟩ := h5
  simp [Cond.before, Cond.holds, Cond.value, h1, h2, h3, h4, g1, g2, g3, g4, g5, g6]
def isCode : Jvm.Cond → Bool
  | .code _ _ _ _ => true
  | _ => false
theorem all_split {L : List Jvm.Cond} {P : Jvm.Cond → Bool} (h1 : L.all (fun c => isCode c || P c) = true) (h2 : ∀ c ∈ L.filter isCode, P c = true) : L.all P = true := by
  refine List.all_eq_true.mpr fun c hc => ?_
  have h := List.all_eq_true.mp h1 c hc
  rcases Bool.eq_false_or_eq_true (isCode c) with hi | hi
  · exact h2 c (List.mem_filter.mpr ⟨hc, hi⟩)
  · simpa [hi] using h
set_option maxRecDepth 65536 in
theorem w_c0 : (Jvm.Cond.code x code maxLocals ret).before args0 about1 = true := code_word (m := ⟨1, 1⟩) (meth := k1m1) (c := k1c1) (by decide +kernel) rfl rfl rfl (by decide +kernel)
set_option maxRecDepth 65536 in
theorem w_c1 : (Jvm.Cond.code ({ cls := "com/example/certivote/certivote/node/SqlScript$Kind", name := "chains", desc := "()Z" } : Jvm.MethodName) prog_85_method_6_code (1 : Nat) (Option.some Jvm.ClassFile.FieldType.boolean)).before args0 about1 = true := code_word (m := ⟨6, 2⟩) (meth := k6m2) (c := k6c2) (by decide +kernel) rfl rfl rfl (by decide +kernel)
set_option maxRecDepth 65536 in
theorem w_c2 : (Jvm.Cond.code ({ cls := "com/example/certivote/certivote/node/SqlScript$Kind", name := "endsBlock", desc := "()Z" } : Jvm.MethodName) prog_85_method_4_code (1 : Nat) (Option.some Jvm.ClassFile.FieldType.boolean)).before args0 about1 = true := code_word (m := ⟨6, 0⟩) (meth := k6m0) (c := k6c0) (by decide +kernel) rfl rfl rfl (by decide +kernel)
set_option maxRecDepth 65536 in
theorem w_c3 : (Jvm.Cond.code ({ cls := "com/example/certivote/certivote/node/SqlScript$Kind", name := "commits", desc := "()Z" } : Jvm.MethodName) prog_85_method_5_code (1 : Nat) (Option.some Jvm.ClassFile.FieldType.boolean)).before args0 about1 = true := code_word (m := ⟨6, 1⟩) (meth := k6m1) (c := k6c1) (by decide +kernel) rfl rfl rfl (by decide +kernel)
def codes1 : List Jvm.Cond := [Jvm.Cond.code x code maxLocals ret, Jvm.Cond.code ({ cls := "com/example/certivote/certivote/node/SqlScript$Kind", name := "chains", desc := "()Z" } : Jvm.MethodName) prog_85_method_6_code (1 : Nat) (Option.some Jvm.ClassFile.FieldType.boolean), Jvm.Cond.code ({ cls := "com/example/certivote/certivote/node/SqlScript$Kind", name := "endsBlock", desc := "()Z" } : Jvm.MethodName) prog_85_method_4_code (1 : Nat) (Option.some Jvm.ClassFile.FieldType.boolean), Jvm.Cond.code ({ cls := "com/example/certivote/certivote/node/SqlScript$Kind", name := "commits", desc := "()Z" } : Jvm.MethodName) prog_85_method_5_code (1 : Nat) (Option.some Jvm.ClassFile.FieldType.boolean)]
set_option maxRecDepth 65536 in
theorem codes_eq : words1.filter isCode = codes1 := rfl
theorem w_codes : ∀ c ∈ words1.filter isCode, c.before args0 about1 = true := by
  rw [codes_eq]
  intro c hc
  simp only [codes1, List.mem_cons, List.not_mem_nil, or_false] at hc
  rcases hc with rfl | rfl | rfl | rfl
  · exact w_c0
  · exact w_c1
  · exact w_c2
  · exact w_c3
set_option maxRecDepth 65536 in
theorem w_t1 : (words1.take 24).all (fun c => isCode c || c.before args0 about1) = true := by decide +kernel
set_option maxRecDepth 65536 in
theorem w_t2 : (words1.drop 24).all (fun c => isCode c || c.before args0 about1) = true := by decide +kernel
theorem w_tables : (allAtoms (Jvm.Cond.code x code maxLocals ret :: tables_1)).before args0 about1 = true := by
  rw [allAtoms_all]
  show words1.all (fun c => c.before args0 about1) = true
  refine all_split ?_ w_codes
  rw [← List.take_append_drop 24 words1, List.all_append, w_t1, w_t2]
  rfl
set_option maxRecDepth 65536 in
theorem w_case : (Jvm.Cond.and given_1 narrow_1).before args0 about1 = true := by decide +kernel
theorem w_applies : (headSpec (Jvm.Cond.code x code maxLocals ret :: tables_1) room_1).applies x e0.platform about1 = true :=
  (Spec.applies_iff w_frames).mpr ⟨w_running, w_runnable, w_alone, w_named, w_hears, w_ripe, w_room, w_tables⟩
theorem atStart : AtStart classFile x code maxLocals ret World_1 tables_1 room_1 Calls_1 rest_1 Pre_1 launch0 p0 e0 about1 theMethod args0 below0 :=
  ⟨lists_1, trivial, launch0.admits_env _ _ _, launch0.least_env, fairChoices_fair.cas, fairChoices_fair.clock, w_frames, w_args, w_heap, w_applies, trivial, trivial, w_case⟩
end start1
theorem witness_1 : WitnessClaimed_1 := ⟨start1.p0, start1.e0, start1.about1, start1.theMethod, start1.args0, start1.below0, start1.atStart⟩
end Jvm.Pilot.@@N@@
