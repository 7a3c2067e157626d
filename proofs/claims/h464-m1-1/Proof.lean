import JvmDerived
import JvmDerived.Pilot.@@N@@Statement
import JvmDerived.Pilot.@@N@@Code
set_option linter.unusedVariables false
set_option linter.unusedSimpArgs false
namespace Jvm.RoadKit
open Sem ClassFile Op Lib Jvm.Stand Jvm.Free Jvm.LawKit
section New
variable {p : Program} {l : Launch} {e : Env} {R : Room} {s : State} {m : MethodId} {args : Array Value} {below : List Frame} {meth : Method} {c : Code} {T : State} {locs : List Loc} {cells slots : Nat}
theorem retI (X : Stand p l e R s m args below meth c T locs cells slots) (hx : p.tables.exec = Jvm.exec) {pc : Nat} {Ls : Array Slot} {z : Int32} {rest : List Value} (hret : meth.sig.returnType = some .int) (hd : decode c.code pc = .ok (.ireturn, 1)) {fs : List Frame}
    (hl : ∀ (f : JFrame) (acts : List Action), f.method = m → f.locked = none → f.entered = [] → (doReturn e (T.setTop f) acts (some (.int z))).1 = T.setFrames fs) : Steps p.tables e below (T.setTop (mkF m pc Ls (.int z :: rest))) (T.setFrames fs) := by
  have hm' : T.vm.method? m = some meth := X.method'
  have hn : narrow .int (.int z) = .int z := rfl
  show Steps p.tables e below (T.setTop { method := m, pc := pc, locals := Ls, stack := _ :: rest, locked := none }) _
  jvm_step X.here [X.here.top, hx, hd, hm', hret, hn]
  first | (intro acts; rw [hl _ acts rfl rfl rfl]) | rw [hl _ _ rfl rfl rfl]
  exact Steps.refl _
end New
end Jvm.RoadKit
namespace Jvm.Pilot.@@N@@
open Jvm Jvm.ClassFile Sem Op Lib Jvm.Free Jvm.Stand Jvm.LawKit Jvm.RoadKit Bundle Jvm.Pilot.@@N@@.Jvm.D
section OwnKit
variable {p : Program} {l : Launch} {e : Env} {R : Room} {s : State} {m : MethodId} {args : Array Value} {below : List Frame} {meth : Method} {c : Code} {Z : State} {a0 : Array Value} {cd : ByteArray} {ml : Nat} {ret : Option FieldType} {own nm : String} {n0 : Nat} {Q : Option Value → Heap → Prop} {h : Heap} {k n : Nat}
/-- what stands fast while one body runs -/
def Cx (p : Program) (s : State) (m : MethodId) (meth : Method) (c : Code) (Z : State) (cd : ByteArray) (ml : Nat) (ret : Option FieldType) (own nm : String) : Prop :=
  p.tables.exec = Jvm.exec ∧ Z.Warmed39 s.vm ∧ c.code = cd ∧ c.maxLocals = ml ∧ s.vm.findClass own = some m.cls ∧ meth.sig.returnType = ret ∧ meth.locks = false ∧ meth.name = nm
/-- from this frame, over this heap, the body returns and Q holds -/
def Wp (p : Program) (l : Launch) (e : Env) (R : Room) (s : State) (m : MethodId) (args : Array Value) (below : List Frame) (meth : Method) (c : Code) (n0 : Nat) (Q : Option Value → Heap → Prop) (h : Heap) (k n : Nat) (g : JFrame) : Prop :=
  ∀ (T : State) (locs : List Loc), Stand p l e R s m args below meth c T locs k n → T.heap = h → Fr n0 locs →
    ∃ s₂ o, Steps p.tables e below (T.setTop g) s₂ ∧ s₂.status = .running ∧ Ended s₂ below o ∧ ∃ v L, o = .returned v ∧ (Q v s₂.heap ∧ Fr n0 L) ∧ FrameEnd s o s₂ L R.cells R.slots
/-- a callee's contract: called with these arguments over this heap it returns, and Q holds -/
def Met (l : Launch) (y : MethodName) (bytes : ByteArray) (mL : Nat) (rt : Option FieldType) (ws : List Jvm.Cond) (rm : Room) (Z : State) (n0 : Nat) (as : Array Value) (h : Heap) (Q : Option Value → Heap → Prop) : Prop :=
  MetFree l y (head1 (Jvm.Cond.code y bytes mL rt :: ws) rm) (fun a U => a = as ∧ Z.Warmed39 U.vm ∧ U.heap = h) (fun _ _ _ _ _ => True) (fun _ U o U' => ∃ v L, o = .returned v ∧ (Q v U'.heap ∧ Fr n0 L) ∧ FrameEnd U o U' L rm.cells rm.slots)
theorem own_met {y : MethodName} {bytes : ByteArray} {mL : Nat} {rt : Option FieldType} {ws : List Jvm.Cond} {rm : Room} {as : Array Value} {Ls : Array Slot} (hpn : plainName y.cls = true) (hef : ∀ m, entryFrame m as mL = mkF m 0 Ls [])
    (H : ∀ p e s m below meth c, Cx p s m meth c Z bytes mL rt y.cls y.name → Wp p l e rm s m as below meth c n0 Q h 0 0 (mkF m 0 Ls [])) : Met l y bytes mL rt ws rm Z n0 as h Q := by
  refine MetFree.of_bodySF (plainFor_of_name hpn) hisR ?_
  intro p e s m args below meth c s₁ Bd hml0 hP hK
  obtain ⟨rfl, hZ, hh⟩ := hP
  have hown : s.vm.findClass y.cls = some m.cls := findClass_of_methodNamed Bd.named
  have hnm := (name_of_methodNamed Bd.named Bd.method).1
  have X0 : Stand p l e rm s m args below meth c s₁ [] 0 0 := Stand.of_body Bd
  have e0 : s₁.heap = h := by rw [← hh, Bd.state]; rfl
  obtain ⟨s₂, o, st, r⟩ := H p e s m below meth c ⟨Bd.exec, hZ, Bd.bytes, hml0, hown, Bd.returns, Bd.notSynchronized, hnm⟩ s₁ [] X0 e0 (Fr.nil n0)
  exact ⟨s₂, o, castTop (hef m) st, r⟩
/-! single steps -/
theorem own_lift {g g' : JFrame} (H : ∀ T, At T m c below → ∀ t, Steps p.tables e below (T.setTop g') t → Steps p.tables e below (T.setTop g) t) (W : Wp p l e R s m args below meth c n0 Q h k n g') : Wp p l e R s m args below meth c n0 Q h k n g := fun T locs X eT N => by
  obtain ⟨s₂, o, st, r⟩ := W T locs X eT N
  exact ⟨s₂, o, H T X.here _ st, r⟩
theorem own_liftX {g g' : JFrame} (H : ∀ T locs, Stand p l e R s m args below meth c T locs k n → T.heap = h → ∀ t, Steps p.tables e below (T.setTop g') t → Steps p.tables e below (T.setTop g) t) (W : Wp p l e R s m args below meth c n0 Q h k n g') : Wp p l e R s m args below meth c n0 Q h k n g := fun T locs X eT N => by
  obtain ⟨s₂, o, st, r⟩ := W T locs X eT N
  exact ⟨s₂, o, H T locs X eT _ st, r⟩
theorem own_cast {g g' : JFrame} (q : g = g') (W : Wp p l e R s m args below meth c n0 Q h k n g') : Wp p l e R s m args below meth c n0 Q h k n g := q ▸ W
theorem own_seq {g g' : JFrame} (t : Wp p l e R s m args below meth c n0 Q h k n g' → Wp p l e R s m args below meth c n0 Q h k n g) (w : Wp p l e R s m args below meth c n0 Q h k n g') : Wp p l e R s m args below meth c n0 Q h k n g := t w
theorem own_seq1 {g : JFrame} {F : Slot → JFrame} (t : (∀ u, RoadKit.One u → Wp p l e R s m args below meth c n0 Q h k n (F u)) → Wp p l e R s m args below meth c n0 Q h k n g) (w : ∀ u, RoadKit.One u → Wp p l e R s m args below meth c n0 Q h k n (F u)) : Wp p l e R s m args below meth c n0 Q h k n g := t w
theorem own_seq2 {g : JFrame} {F : Slot → Slot → JFrame} (t : (∀ u, RoadKit.One u → ∀ v, RoadKit.One v → Wp p l e R s m args below meth c n0 Q h k n (F u v)) → Wp p l e R s m args below meth c n0 Q h k n g) (w : ∀ u, RoadKit.One u → ∀ v, RoadKit.One v → Wp p l e R s m args below meth c n0 Q h k n (F u v)) : Wp p l e R s m args below meth c n0 Q h k n g := t w
theorem own_seqH {g g' : JFrame} {P : Heap → Prop} {k' n' : Nat} (t : (∀ h', P h' → Wp p l e R s m args below meth c n0 Q h' k' n' g') → Wp p l e R s m args below meth c n0 Q h k n g) (w : ∀ h', P h' → Wp p l e R s m args below meth c n0 Q h' k' n' g') : Wp p l e R s m args below meth c n0 Q h k n g := t w
variable {pc pc' : Nat} {Ls Ls' : Array Slot} {st : List Value}
theorem own_iload (C : Cx p s m meth c Z cd ml ret own nm) {i : Nat} {v : Int32} (hd : decode cd pc = .ok (.iload i, 2)) (hl : Ls[i]? = some (.val (.int v))) (hp : pc + 2 = pc') (W : Wp p l e R s m args below meth c n0 Q h k n (mkF m pc' Ls (.int v :: st))) : Wp p l e R s m args below meth c n0 Q h k n (mkF m pc Ls st) := by
  subst hp; exact own_lift (fun T A t q => XS.iload A C.1 rfl (hb C.2.2.1 hd) hl q) W
theorem own_iloadN (C : Cx p s m meth c Z cd ml ret own nm) {i : Fin 4} {v : Int32} (hd : decode cd pc = .ok (.iload_n i, 1)) (hl : Ls[i.val]? = some (.val (.int v))) (hp : pc + 1 = pc') (W : Wp p l e R s m args below meth c n0 Q h k n (mkF m pc' Ls (.int v :: st))) : Wp p l e R s m args below meth c n0 Q h k n (mkF m pc Ls st) := by
  subst hp; exact own_lift (fun T A t q => XS.iloadN A C.1 rfl (hb C.2.2.1 hd) hl q) W
theorem own_lload (C : Cx p s m meth c Z cd ml ret own nm) {i : Nat} {v : Int64} (hd : decode cd pc = .ok (.lload i, 2)) (hl : Ls[i]? = some (.val (.long v))) (hp : pc + 2 = pc') (W : Wp p l e R s m args below meth c n0 Q h k n (mkF m pc' Ls (.long v :: st))) : Wp p l e R s m args below meth c n0 Q h k n (mkF m pc Ls st) := by
  subst hp; exact own_lift (fun T A t q => XS.lload A C.1 rfl (hb C.2.2.1 hd) hl q) W
theorem own_lloadN (C : Cx p s m meth c Z cd ml ret own nm) {i : Fin 4} {v : Int64} (hd : decode cd pc = .ok (.lload_n i, 1)) (hl : Ls[i.val]? = some (.val (.long v))) (hp : pc + 1 = pc') (W : Wp p l e R s m args below meth c n0 Q h k n (mkF m pc' Ls (.long v :: st))) : Wp p l e R s m args below meth c n0 Q h k n (mkF m pc Ls st) := by
  subst hp; exact own_lift (fun T A t q => XS.lloadN A C.1 rfl (hb C.2.2.1 hd) hl q) W
theorem own_aload (C : Cx p s m meth c Z cd ml ret own nm) {i : Nat} {v : Value} (hd : decode cd pc = .ok (.aload i, 2)) (hl : Ls[i]? = some (.val v)) (hv : v.isRef = true) (hp : pc + 2 = pc') (W : Wp p l e R s m args below meth c n0 Q h k n (mkF m pc' Ls (v :: st))) : Wp p l e R s m args below meth c n0 Q h k n (mkF m pc Ls st) := by
  subst hp; exact own_lift (fun T A t q => XS.aload A C.1 rfl (hb C.2.2.1 hd) hl hv q) W
theorem own_aloadN (C : Cx p s m meth c Z cd ml ret own nm) {i : Fin 4} {v : Value} (hd : decode cd pc = .ok (.aload_n i, 1)) (hl : Ls[i.val]? = some (.val v)) (hv : v.isRef = true) (hp : pc + 1 = pc') (W : Wp p l e R s m args below meth c n0 Q h k n (mkF m pc' Ls (v :: st))) : Wp p l e R s m args below meth c n0 Q h k n (mkF m pc Ls st) := by
  subst hp; exact own_lift (fun T A t q => XS.aloadN A C.1 rfl (hb C.2.2.1 hd) hl hv q) W
theorem own_istore (C : Cx p s m meth c Z cd ml ret own nm) {i : Nat} {x y : Int32} (hd : decode cd pc = .ok (.istore i, 2)) (hy : x = y) (hl : storeLocals Ls i (.int y) = some Ls') (hp : pc + 2 = pc') (W : Wp p l e R s m args below meth c n0 Q h k n (mkF m pc' Ls' st)) : Wp p l e R s m args below meth c n0 Q h k n (mkF m pc Ls (.int x :: st)) := by
  subst hp hy; exact own_lift (fun T A t q => XS.istore A C.1 rfl (hb C.2.2.1 hd) rfl hl q) W
theorem own_istoreN (C : Cx p s m meth c Z cd ml ret own nm) {i : Fin 4} {x y : Int32} (hd : decode cd pc = .ok (.istore_n i, 1)) (hy : x = y) (hl : storeLocals Ls i.val (.int y) = some Ls') (hp : pc + 1 = pc') (W : Wp p l e R s m args below meth c n0 Q h k n (mkF m pc' Ls' st)) : Wp p l e R s m args below meth c n0 Q h k n (mkF m pc Ls (.int x :: st)) := by
  subst hp hy; exact own_lift (fun T A t q => XS.istoreN A C.1 rfl (hb C.2.2.1 hd) rfl hl q) W
theorem own_lstore (C : Cx p s m meth c Z cd ml ret own nm) {i : Nat} {x y : Int64} (hd : decode cd pc = .ok (.lstore i, 2)) (hy : x = y) (hl : storeLocals Ls i (.long y) = some Ls') (hp : pc + 2 = pc') (W : Wp p l e R s m args below meth c n0 Q h k n (mkF m pc' Ls' st)) : Wp p l e R s m args below meth c n0 Q h k n (mkF m pc Ls (.long x :: st)) := by
  subst hp hy; exact own_lift (fun T A t q => XS.lstore A C.1 rfl (hb C.2.2.1 hd) rfl hl q) W
theorem own_lstoreN (C : Cx p s m meth c Z cd ml ret own nm) {i : Fin 4} {x y : Int64} (hd : decode cd pc = .ok (.lstore_n i, 1)) (hy : x = y) (hl : storeLocals Ls i.val (.long y) = some Ls') (hp : pc + 1 = pc') (W : Wp p l e R s m args below meth c n0 Q h k n (mkF m pc' Ls' st)) : Wp p l e R s m args below meth c n0 Q h k n (mkF m pc Ls (.long x :: st)) := by
  subst hp hy; exact own_lift (fun T A t q => XS.lstoreN A C.1 rfl (hb C.2.2.1 hd) rfl hl q) W
theorem own_astore (C : Cx p s m meth c Z cd ml ret own nm) {i : Nat} {x : Value} (hd : decode cd pc = .ok (.astore i, 2)) (hv : x.isRef = true) (hl : storeLocals Ls i x = some Ls') (hp : pc + 2 = pc') (W : Wp p l e R s m args below meth c n0 Q h k n (mkF m pc' Ls' st)) : Wp p l e R s m args below meth c n0 Q h k n (mkF m pc Ls (x :: st)) := by
  subst hp; exact own_lift (fun T A t q => XS.astore A C.1 rfl (hb C.2.2.1 hd) rfl hv hl q) W
theorem own_astoreN (C : Cx p s m meth c Z cd ml ret own nm) {i : Fin 4} {x : Value} (hd : decode cd pc = .ok (.astore_n i, 1)) (hv : x.isRef = true) (hl : storeLocals Ls i.val x = some Ls') (hp : pc + 1 = pc') (W : Wp p l e R s m args below meth c n0 Q h k n (mkF m pc' Ls' st)) : Wp p l e R s m args below meth c n0 Q h k n (mkF m pc Ls (x :: st)) := by
  subst hp; exact own_lift (fun T A t q => XS.astoreN A C.1 rfl (hb C.2.2.1 hd) rfl hv hl q) W
theorem own_iconst (C : Cx p s m meth c Z cd ml ret own nm) {i : Int} {v : Int32} (hd : decode cd pc = .ok (.iconst i, 1)) (hv : Int32.ofInt i = v) (hp : pc + 1 = pc') (W : Wp p l e R s m args below meth c n0 Q h k n (mkF m pc' Ls (.int v :: st))) : Wp p l e R s m args below meth c n0 Q h k n (mkF m pc Ls st) := by
  subst hp hv; exact own_lift (fun T A t q => XS.iconst A C.1 rfl (hb C.2.2.1 hd) q) W
theorem own_bipush (C : Cx p s m meth c Z cd ml ret own nm) {i : Int} {v : Int32} (hd : decode cd pc = .ok (.bipush i, 2)) (hv : (Int8.ofInt i).toInt32 = v) (hp : pc + 2 = pc') (W : Wp p l e R s m args below meth c n0 Q h k n (mkF m pc' Ls (.int v :: st))) : Wp p l e R s m args below meth c n0 Q h k n (mkF m pc Ls st) := by
  subst hp hv; exact own_lift (fun T A t q => XS.bipush A C.1 rfl (hb C.2.2.1 hd) q) W
theorem own_sipush (C : Cx p s m meth c Z cd ml ret own nm) {i : Int} {v : Int32} (hd : decode cd pc = .ok (.sipush i, 3)) (hv : (Int16.ofInt i).toInt32 = v) (hp : pc + 3 = pc') (W : Wp p l e R s m args below meth c n0 Q h k n (mkF m pc' Ls (.int v :: st))) : Wp p l e R s m args below meth c n0 Q h k n (mkF m pc Ls st) := by
  subst hp hv; exact own_lift (fun T A t q => XS.sipush A C.1 rfl (hb C.2.2.1 hd) q) W
theorem own_lconst (C : Cx p s m meth c Z cd ml ret own nm) {i : Fin 2} {v : Int64} (hd : decode cd pc = .ok (.lconst i, 1)) (hv : Int64.ofNat i.val = v) (hp : pc + 1 = pc') (W : Wp p l e R s m args below meth c n0 Q h k n (mkF m pc' Ls (.long v :: st))) : Wp p l e R s m args below meth c n0 Q h k n (mkF m pc Ls st) := by
  subst hp hv; exact own_lift (fun T A t q => XS.lconst A C.1 rfl (hb C.2.2.1 hd) q) W
theorem own_null (C : Cx p s m meth c Z cd ml ret own nm) (hd : decode cd pc = .ok (.aconst_null, 1)) (hp : pc + 1 = pc') (W : Wp p l e R s m args below meth c n0 Q h k n (mkF m pc' Ls (.null :: st))) : Wp p l e R s m args below meth c n0 Q h k n (mkF m pc Ls st) := by
  subst hp; exact own_lift (fun T A t q => XS.aconstNull A C.1 rfl (hb C.2.2.1 hd) q) W
/-! returns -/
theorem own_vret (C : Cx p s m meth c Z cd ml none own nm) (hd : decode cd pc = .ok (.return_, 1)) (hk : k ≤ R.cells) (hn : n ≤ R.slots) (hq : Q none h) : Wp p l e R s m args below meth c n0 Q h k n (mkF m pc Ls []) := fun T locs X eT N => by
  obtain ⟨hx, hZ, hby, hml, hown, hret, hlk, hnm⟩ := C
  obtain ⟨fs, hr, hrun, hended, hW, hsame⟩ := X.leave (v := none) (fun _ => rfl) hlk
  exact ⟨_, _, X.returnOut hx hret (hb hby hd) hr, hrun, hended, _, _, rfl, ⟨by rw [show (T.setFrames fs).heap = T.heap from rfl, eT]; exact hq, N⟩, ⟨_, rfl⟩, hW, hsame.mono hk hn⟩
theorem own_iret {z : Int32} (C : Cx p s m meth c Z cd ml (some .int) own nm) (hd : decode cd pc = .ok (.ireturn, 1)) (hk : k ≤ R.cells) (hn : n ≤ R.slots) (hq : Q (some (.int z)) h) : Wp p l e R s m args below meth c n0 Q h k n (mkF m pc Ls (.int z :: st)) := fun T locs X eT N => by
  obtain ⟨hx, hZ, hby, hml, hown, hret, hlk, hnm⟩ := C
  obtain ⟨fs, hr, hrun, hended, hW, hsame⟩ := X.leave (v := some (.int z)) (fun q => by rw [hret] at q; cases q) hlk
  exact ⟨_, _, retI X hx hret (hb hby hd) hr, hrun, hended, _, _, rfl, ⟨by rw [show (T.setFrames fs).heap = T.heap from rfl, eT]; exact hq, N⟩, ⟨_, rfl⟩, hW, hsame.mono hk hn⟩
theorem own_nret {z : Int32} {t : FieldType} (C : Cx p s m meth c Z cd ml (some t) own nm) (ht : t = .boolean ∨ t = .byte ∨ t = .char ∨ t = .short) (hd : decode cd pc = .ok (.ireturn, 1)) (hk : k ≤ R.cells) (hn : n ≤ R.slots) (hq : Q (some (.int (nar t z))) h) : Wp p l e R s m args below meth c n0 Q h k n (mkF m pc Ls (.int z :: st)) := fun T locs X eT N => by
  obtain ⟨hx, hZ, hby, hml, hown, hret, hlk, hnm⟩ := C
  obtain ⟨fs, hr, hrun, hended, hW, hsame⟩ := X.leave (v := some (.int (nar t z))) (fun q => by rw [hret] at q; cases q) hlk
  exact ⟨_, _, retN X hx hret ht (hb hby hd) hr, hrun, hended, _, _, rfl, ⟨by rw [show (T.setFrames fs).heap = T.heap from rfl, eT]; exact hq, N⟩, ⟨_, rfl⟩, hW, hsame.mono hk hn⟩
theorem own_zret {z : Int32} (C : Cx p s m meth c Z cd ml (some .boolean) own nm) (hd : decode cd pc = .ok (.ireturn, 1)) (hk : k ≤ R.cells) (hn : n ≤ R.slots) (hz : z = 0 ∨ z = 1) (hq : Q (some (.int z)) h) : Wp p l e R s m args below meth c n0 Q h k n (mkF m pc Ls (.int z :: st)) :=
  own_nret C (Or.inl rfl) hd hk hn (by rcases hz with rfl | rfl <;> exact hq)
theorem own_lret {z : Int64} (C : Cx p s m meth c Z cd ml (some .long) own nm) (hd : decode cd pc = .ok (.lreturn, 1)) (hk : k ≤ R.cells) (hn : n ≤ R.slots) (hq : Q (some (.long z)) h) : Wp p l e R s m args below meth c n0 Q h k n (mkF m pc Ls [.long z]) := fun T locs X eT N => by
  obtain ⟨hx, hZ, hby, hml, hown, hret, hlk, hnm⟩ := C
  obtain ⟨fs, hr, hrun, hended, hW, hsame⟩ := X.leave (v := some (.long z)) (fun q => by rw [hret] at q; cases q) hlk
  exact ⟨_, _, X.lreturnOut hx hret (hb hby hd) hr, hrun, hended, _, _, rfl, ⟨by rw [show (T.setFrames fs).heap = T.heap from rfl, eT]; exact hq, N⟩, ⟨_, rfl⟩, hW, hsame.mono hk hn⟩
theorem own_aret {z : Value} {t : FieldType} (C : Cx p s m meth c Z cd ml (some t) own nm) (hv : z.isRef = true) (ht : t.isReference = true) (hd : decode cd pc = .ok (.areturn, 1)) (hk : k ≤ R.cells) (hn : n ≤ R.slots) (hq : Q (some z) h) : Wp p l e R s m args below meth c n0 Q h k n (mkF m pc Ls (z :: st)) := fun T locs X eT N => by
  obtain ⟨hx, hZ, hby, hml, hown, hret, hlk, hnm⟩ := C
  obtain ⟨fs, hr, hrun, hended, hW, hsame⟩ := X.leave (v := some z) (fun q => by rw [hret] at q; cases q) hlk
  have hd' := hb hby hd
  refine ⟨_, _, ?_, hrun, hended, _, _, rfl, ⟨by rw [show (T.setFrames fs).heap = T.heap from rfl, eT]; exact hq, N⟩, ⟨_, rfl⟩, hW, hsame.mono hk hn⟩
  jvm_step X.here [X.here.top, hx, hd', X.method', hret, hv, ht]
  first | (intro acts; rw [hr _ acts rfl rfl rfl]) | rw [hr _ _ rfl rfl rfl]
  exact Steps.refl _
theorem own_iadd (C : Cx p s m meth c Z cd ml ret own nm) {x y v : Int32} (hd : decode cd pc = .ok (.iadd, 1)) (hv : x + y = v) (hp : pc + 1 = pc') (W : Wp p l e R s m args below meth c n0 Q h k n (mkF m pc' Ls (.int v :: st))) : Wp p l e R s m args below meth c n0 Q h k n (mkF m pc Ls (.int y :: .int x :: st)) := by
  subst hp hv; exact own_lift (fun T A t q => XS.iadd A C.1 rfl (hb C.2.2.1 hd) rfl q) W
theorem own_isub (C : Cx p s m meth c Z cd ml ret own nm) {x y v : Int32} (hd : decode cd pc = .ok (.isub, 1)) (hv : x - y = v) (hp : pc + 1 = pc') (W : Wp p l e R s m args below meth c n0 Q h k n (mkF m pc' Ls (.int v :: st))) : Wp p l e R s m args below meth c n0 Q h k n (mkF m pc Ls (.int y :: .int x :: st)) := by
  subst hp hv; exact own_lift (fun T A t q => XS.isub A C.1 rfl (hb C.2.2.1 hd) rfl q) W
theorem own_imul (C : Cx p s m meth c Z cd ml ret own nm) {x y v : Int32} (hd : decode cd pc = .ok (.imul, 1)) (hv : x * y = v) (hp : pc + 1 = pc') (W : Wp p l e R s m args below meth c n0 Q h k n (mkF m pc' Ls (.int v :: st))) : Wp p l e R s m args below meth c n0 Q h k n (mkF m pc Ls (.int y :: .int x :: st)) := by
  subst hp hv; exact own_lift (fun T A t q => XS.imul A C.1 rfl (hb C.2.2.1 hd) rfl q) W
theorem own_iand (C : Cx p s m meth c Z cd ml ret own nm) {x y v : Int32} (hd : decode cd pc = .ok (.iand, 1)) (hv : x &&& y = v) (hp : pc + 1 = pc') (W : Wp p l e R s m args below meth c n0 Q h k n (mkF m pc' Ls (.int v :: st))) : Wp p l e R s m args below meth c n0 Q h k n (mkF m pc Ls (.int y :: .int x :: st)) := by
  subst hp hv; exact own_lift (fun T A t q => XS.iand A C.1 rfl (hb C.2.2.1 hd) rfl q) W
theorem own_ior (C : Cx p s m meth c Z cd ml ret own nm) {x y v : Int32} (hd : decode cd pc = .ok (.ior, 1)) (hv : x ||| y = v) (hp : pc + 1 = pc') (W : Wp p l e R s m args below meth c n0 Q h k n (mkF m pc' Ls (.int v :: st))) : Wp p l e R s m args below meth c n0 Q h k n (mkF m pc Ls (.int y :: .int x :: st)) := by
  subst hp hv; exact own_lift (fun T A t q => XS.ior A C.1 rfl (hb C.2.2.1 hd) rfl q) W
theorem own_ixor (C : Cx p s m meth c Z cd ml ret own nm) {x y v : Int32} (hd : decode cd pc = .ok (.ixor, 1)) (hv : x ^^^ y = v) (hp : pc + 1 = pc') (W : Wp p l e R s m args below meth c n0 Q h k n (mkF m pc' Ls (.int v :: st))) : Wp p l e R s m args below meth c n0 Q h k n (mkF m pc Ls (.int y :: .int x :: st)) := by
  subst hp hv; exact own_lift (fun T A t q => XS.ixor A C.1 rfl (hb C.2.2.1 hd) rfl q) W
theorem own_ishl (C : Cx p s m meth c Z cd ml ret own nm) {x y v : Int32} (hd : decode cd pc = .ok (.ishl, 1)) (hv : x <<< (y &&& 31) = v) (hp : pc + 1 = pc') (W : Wp p l e R s m args below meth c n0 Q h k n (mkF m pc' Ls (.int v :: st))) : Wp p l e R s m args below meth c n0 Q h k n (mkF m pc Ls (.int y :: .int x :: st)) := by
  subst hp hv; exact own_lift (fun T A t q => XS.ishl A C.1 rfl (hb C.2.2.1 hd) rfl q) W
theorem own_ishr (C : Cx p s m meth c Z cd ml ret own nm) {x y v : Int32} (hd : decode cd pc = .ok (.ishr, 1)) (hv : x >>> (y &&& 31) = v) (hp : pc + 1 = pc') (W : Wp p l e R s m args below meth c n0 Q h k n (mkF m pc' Ls (.int v :: st))) : Wp p l e R s m args below meth c n0 Q h k n (mkF m pc Ls (.int y :: .int x :: st)) := by
  subst hp hv; exact own_lift (fun T A t q => XS.ishr A C.1 rfl (hb C.2.2.1 hd) rfl q) W
theorem own_iushr (C : Cx p s m meth c Z cd ml ret own nm) {x y v : Int32} (hd : decode cd pc = .ok (.iushr, 1)) (hv : (x.toUInt32 >>> (y &&& 31).toUInt32).toInt32 = v) (hp : pc + 1 = pc') (W : Wp p l e R s m args below meth c n0 Q h k n (mkF m pc' Ls (.int v :: st))) : Wp p l e R s m args below meth c n0 Q h k n (mkF m pc Ls (.int y :: .int x :: st)) := by
  subst hp hv; exact own_lift (fun T A t q => XS.iushr A C.1 rfl (hb C.2.2.1 hd) rfl q) W
theorem own_idiv (C : Cx p s m meth c Z cd ml ret own nm) {x y v : Int32} (hd : decode cd pc = .ok (.idiv, 1)) (hy : y ≠ 0) (hv : x / y = v) (hp : pc + 1 = pc') (W : Wp p l e R s m args below meth c n0 Q h k n (mkF m pc' Ls (.int v :: st))) : Wp p l e R s m args below meth c n0 Q h k n (mkF m pc Ls (.int y :: .int x :: st)) := by
  subst hp hv; exact own_lift (fun T A t q => XS.idiv A C.1 rfl (hb C.2.2.1 hd) rfl hy q) W
theorem own_ladd (C : Cx p s m meth c Z cd ml ret own nm) {x y v : Int64} (hd : decode cd pc = .ok (.ladd, 1)) (hv : x + y = v) (hp : pc + 1 = pc') (W : Wp p l e R s m args below meth c n0 Q h k n (mkF m pc' Ls (.long v :: st))) : Wp p l e R s m args below meth c n0 Q h k n (mkF m pc Ls (.long y :: .long x :: st)) := by
  subst hp hv; exact own_lift (fun T A t q => XS.ladd A C.1 rfl (hb C.2.2.1 hd) rfl q) W
theorem own_lsub (C : Cx p s m meth c Z cd ml ret own nm) {x y v : Int64} (hd : decode cd pc = .ok (.lsub, 1)) (hv : x - y = v) (hp : pc + 1 = pc') (W : Wp p l e R s m args below meth c n0 Q h k n (mkF m pc' Ls (.long v :: st))) : Wp p l e R s m args below meth c n0 Q h k n (mkF m pc Ls (.long y :: .long x :: st)) := by
  subst hp hv; exact own_lift (fun T A t q => XS.lsub A C.1 rfl (hb C.2.2.1 hd) rfl q) W
theorem own_lmul (C : Cx p s m meth c Z cd ml ret own nm) {x y v : Int64} (hd : decode cd pc = .ok (.lmul, 1)) (hv : x * y = v) (hp : pc + 1 = pc') (W : Wp p l e R s m args below meth c n0 Q h k n (mkF m pc' Ls (.long v :: st))) : Wp p l e R s m args below meth c n0 Q h k n (mkF m pc Ls (.long y :: .long x :: st)) := by
  subst hp hv; exact own_lift (fun T A t q => XS.lmul A C.1 rfl (hb C.2.2.1 hd) rfl q) W
theorem own_land (C : Cx p s m meth c Z cd ml ret own nm) {x y v : Int64} (hd : decode cd pc = .ok (.land, 1)) (hv : x &&& y = v) (hp : pc + 1 = pc') (W : Wp p l e R s m args below meth c n0 Q h k n (mkF m pc' Ls (.long v :: st))) : Wp p l e R s m args below meth c n0 Q h k n (mkF m pc Ls (.long y :: .long x :: st)) := by
  subst hp hv; exact own_lift (fun T A t q => XS.land A C.1 rfl (hb C.2.2.1 hd) rfl q) W
theorem own_lor (C : Cx p s m meth c Z cd ml ret own nm) {x y v : Int64} (hd : decode cd pc = .ok (.lor, 1)) (hv : x ||| y = v) (hp : pc + 1 = pc') (W : Wp p l e R s m args below meth c n0 Q h k n (mkF m pc' Ls (.long v :: st))) : Wp p l e R s m args below meth c n0 Q h k n (mkF m pc Ls (.long y :: .long x :: st)) := by
  subst hp hv; exact own_lift (fun T A t q => XS.lor A C.1 rfl (hb C.2.2.1 hd) rfl q) W
theorem own_lxor (C : Cx p s m meth c Z cd ml ret own nm) {x y v : Int64} (hd : decode cd pc = .ok (.lxor, 1)) (hv : x ^^^ y = v) (hp : pc + 1 = pc') (W : Wp p l e R s m args below meth c n0 Q h k n (mkF m pc' Ls (.long v :: st))) : Wp p l e R s m args below meth c n0 Q h k n (mkF m pc Ls (.long y :: .long x :: st)) := by
  subst hp hv; exact own_lift (fun T A t q => XS.lxor A C.1 rfl (hb C.2.2.1 hd) rfl q) W
theorem own_ldiv (C : Cx p s m meth c Z cd ml ret own nm) {x y v : Int64} (hd : decode cd pc = .ok (.ldiv, 1)) (hy : y ≠ 0) (hv : x / y = v) (hp : pc + 1 = pc') (W : Wp p l e R s m args below meth c n0 Q h k n (mkF m pc' Ls (.long v :: st))) : Wp p l e R s m args below meth c n0 Q h k n (mkF m pc Ls (.long y :: .long x :: st)) := by
  subst hp hv; exact own_lift (fun T A t q => XS.ldiv A C.1 rfl (hb C.2.2.1 hd) rfl hy q) W
theorem own_irem (C : Cx p s m meth c Z cd ml ret own nm) {x y v : Int32} (hd : decode cd pc = .ok (.irem, 1)) (hy : y ≠ 0) (hv : x % y = v) (hp : pc + 1 = pc') (W : Wp p l e R s m args below meth c n0 Q h k n (mkF m pc' Ls (.int v :: st))) : Wp p l e R s m args below meth c n0 Q h k n (mkF m pc Ls (.int y :: .int x :: st)) := by
  subst hp hv; exact own_liftX (fun T locs X eT t q => iremM X C.1 rfl (hb C.2.2.1 hd) rfl hy q) W
theorem own_lrem (C : Cx p s m meth c Z cd ml ret own nm) {x y v : Int64} (hd : decode cd pc = .ok (.lrem, 1)) (hy : y ≠ 0) (hv : x % y = v) (hp : pc + 1 = pc') (W : Wp p l e R s m args below meth c n0 Q h k n (mkF m pc' Ls (.long v :: st))) : Wp p l e R s m args below meth c n0 Q h k n (mkF m pc Ls (.long y :: .long x :: st)) := by
  subst hp; rw [← lrem_mod] at hv; subst hv; exact own_lift (fun T A t q => XS.lrem A C.1 rfl (hb C.2.2.1 hd) rfl hy q) W
theorem own_lshl (C : Cx p s m meth c Z cd ml ret own nm) {x v : Int64} {y : Int32} (hd : decode cd pc = .ok (.lshl, 1)) (hv : x <<< (y &&& 0x3f).toInt64 = v) (hp : pc + 1 = pc') (W : Wp p l e R s m args below meth c n0 Q h k n (mkF m pc' Ls (.long v :: st))) : Wp p l e R s m args below meth c n0 Q h k n (mkF m pc Ls (.int y :: .long x :: st)) := by
  subst hp hv; exact own_lift (fun T A t q => XS.lshl A C.1 rfl (hb C.2.2.1 hd) rfl q) W
theorem own_lshr (C : Cx p s m meth c Z cd ml ret own nm) {x v : Int64} {y : Int32} (hd : decode cd pc = .ok (.lshr, 1)) (hv : x >>> (y &&& 0x3f).toInt64 = v) (hp : pc + 1 = pc') (W : Wp p l e R s m args below meth c n0 Q h k n (mkF m pc' Ls (.long v :: st))) : Wp p l e R s m args below meth c n0 Q h k n (mkF m pc Ls (.int y :: .long x :: st)) := by
  subst hp hv; exact own_lift (fun T A t q => XS.lshr A C.1 rfl (hb C.2.2.1 hd) rfl q) W
theorem own_lushr (C : Cx p s m meth c Z cd ml ret own nm) {x v : Int64} {y : Int32} (hd : decode cd pc = .ok (.lushr, 1)) (hv : (x.toUInt64 >>> (y &&& 0x3f).toInt64.toUInt64).toInt64 = v) (hp : pc + 1 = pc') (W : Wp p l e R s m args below meth c n0 Q h k n (mkF m pc' Ls (.long v :: st))) : Wp p l e R s m args below meth c n0 Q h k n (mkF m pc Ls (.int y :: .long x :: st)) := by
  subst hp hv; exact own_lift (fun T A t q => XS.lushr A C.1 rfl (hb C.2.2.1 hd) rfl q) W
theorem own_ineg (C : Cx p s m meth c Z cd ml ret own nm) {x : Int32} {v : Int32} (hd : decode cd pc = .ok (.ineg, 1)) (hv : -x = v) (hp : pc + 1 = pc') (W : Wp p l e R s m args below meth c n0 Q h k n (mkF m pc' Ls (.int v :: st))) : Wp p l e R s m args below meth c n0 Q h k n (mkF m pc Ls (.int x :: st)) := by
  subst hp hv; exact own_lift (fun T A t q => XS.ineg A C.1 rfl (hb C.2.2.1 hd) rfl q) W
theorem own_lneg (C : Cx p s m meth c Z cd ml ret own nm) {x : Int64} {v : Int64} (hd : decode cd pc = .ok (.lneg, 1)) (hv : -x = v) (hp : pc + 1 = pc') (W : Wp p l e R s m args below meth c n0 Q h k n (mkF m pc' Ls (.long v :: st))) : Wp p l e R s m args below meth c n0 Q h k n (mkF m pc Ls (.long x :: st)) := by
  subst hp hv; exact own_lift (fun T A t q => XS.lneg A C.1 rfl (hb C.2.2.1 hd) rfl q) W
theorem own_i2l (C : Cx p s m meth c Z cd ml ret own nm) {x : Int32} {v : Int64} (hd : decode cd pc = .ok (.i2l, 1)) (hv : x.toInt64 = v) (hp : pc + 1 = pc') (W : Wp p l e R s m args below meth c n0 Q h k n (mkF m pc' Ls (.long v :: st))) : Wp p l e R s m args below meth c n0 Q h k n (mkF m pc Ls (.int x :: st)) := by
  subst hp hv; exact own_lift (fun T A t q => XS.i2l A C.1 rfl (hb C.2.2.1 hd) rfl q) W
theorem own_l2i (C : Cx p s m meth c Z cd ml ret own nm) {x : Int64} {v : Int32} (hd : decode cd pc = .ok (.l2i, 1)) (hv : x.toInt32 = v) (hp : pc + 1 = pc') (W : Wp p l e R s m args below meth c n0 Q h k n (mkF m pc' Ls (.int v :: st))) : Wp p l e R s m args below meth c n0 Q h k n (mkF m pc Ls (.long x :: st)) := by
  subst hp hv; exact own_lift (fun T A t q => XS.l2i A C.1 rfl (hb C.2.2.1 hd) rfl q) W
theorem own_i2b (C : Cx p s m meth c Z cd ml ret own nm) {x : Int32} {v : Int32} (hd : decode cd pc = .ok (.i2b, 1)) (hv : x.toInt8.toInt32 = v) (hp : pc + 1 = pc') (W : Wp p l e R s m args below meth c n0 Q h k n (mkF m pc' Ls (.int v :: st))) : Wp p l e R s m args below meth c n0 Q h k n (mkF m pc Ls (.int x :: st)) := by
  subst hp hv; exact own_lift (fun T A t q => XS.i2b A C.1 rfl (hb C.2.2.1 hd) rfl q) W
theorem own_i2s (C : Cx p s m meth c Z cd ml ret own nm) {x : Int32} {v : Int32} (hd : decode cd pc = .ok (.i2s, 1)) (hv : x.toInt16.toInt32 = v) (hp : pc + 1 = pc') (W : Wp p l e R s m args below meth c n0 Q h k n (mkF m pc' Ls (.int v :: st))) : Wp p l e R s m args below meth c n0 Q h k n (mkF m pc Ls (.int x :: st)) := by
  subst hp hv; exact own_lift (fun T A t q => XS.i2s A C.1 rfl (hb C.2.2.1 hd) rfl q) W
theorem own_i2c (C : Cx p s m meth c Z cd ml ret own nm) {x : Int32} {v : Int32} (hd : decode cd pc = .ok (.i2c, 1)) (hv : x.toUInt32.toUInt16.toUInt32.toInt32 = v) (hp : pc + 1 = pc') (W : Wp p l e R s m args below meth c n0 Q h k n (mkF m pc' Ls (.int v :: st))) : Wp p l e R s m args below meth c n0 Q h k n (mkF m pc Ls (.int x :: st)) := by
  subst hp hv; exact own_lift (fun T A t q => XS.i2c A C.1 rfl (hb C.2.2.1 hd) rfl q) W
theorem own_lcmp (C : Cx p s m meth c Z cd ml ret own nm) {x y : Int64} (hd : decode cd pc = .ok (.lcmp, 1)) (hp : pc + 1 = pc') (W : Wp p l e R s m args below meth c n0 Q h k n (mkF m pc' Ls (.int (lcmpW x y) :: st))) : Wp p l e R s m args below meth c n0 Q h k n (mkF m pc Ls (.long y :: .long x :: st)) := by
  subst hp; exact own_lift (fun T A t q => XS.lcmp A C.1 rfl (hb C.2.2.1 hd) rfl q) W
theorem own_dup (C : Cx p s m meth c Z cd ml ret own nm) {x : Value} (hd : decode cd pc = .ok (.dup, 1)) (hc : x.category = 1) (hp : pc + 1 = pc') (W : Wp p l e R s m args below meth c n0 Q h k n (mkF m pc' Ls (x :: x :: st))) : Wp p l e R s m args below meth c n0 Q h k n (mkF m pc Ls (x :: st)) := by
  subst hp; exact own_lift (fun T A t q => XS.dup A C.1 rfl (hb C.2.2.1 hd) rfl hc q) W
theorem own_pop (C : Cx p s m meth c Z cd ml ret own nm) {x : Value} (hd : decode cd pc = .ok (.pop, 1)) (hc : x.category = 1) (hp : pc + 1 = pc') (W : Wp p l e R s m args below meth c n0 Q h k n (mkF m pc' Ls st)) : Wp p l e R s m args below meth c n0 Q h k n (mkF m pc Ls (x :: st)) := by
  subst hp; exact own_lift (fun T A t q => XS.pop A C.1 rfl (hb C.2.2.1 hd) rfl hc q) W
theorem own_dupX1 (C : Cx p s m meth c Z cd ml ret own nm) {x y : Value} (hd : decode cd pc = .ok (.dup_x1, 1)) (hc : x.category = 1) (hc' : y.category = 1) (hp : pc + 1 = pc') (W : Wp p l e R s m args below meth c n0 Q h k n (mkF m pc' Ls (x :: y :: x :: st))) : Wp p l e R s m args below meth c n0 Q h k n (mkF m pc Ls (x :: y :: st)) := by
  subst hp; exact own_lift (fun T A t q => XS.dupX1 A C.1 rfl (hb C.2.2.1 hd) rfl hc hc' q) W
theorem own_dup2 (C : Cx p s m meth c Z cd ml ret own nm) {x y : Value} (hd : decode cd pc = .ok (.dup2, 1)) (hc : x.category = 1) (hc' : y.category = 1) (hp : pc + 1 = pc') (W : Wp p l e R s m args below meth c n0 Q h k n (mkF m pc' Ls (x :: y :: x :: y :: st))) : Wp p l e R s m args below meth c n0 Q h k n (mkF m pc Ls (x :: y :: st)) := by
  subst hp; exact own_lift (fun T A t q => Jvm.Free.XT.dup2 A C.1 rfl (hb C.2.2.1 hd) rfl hc hc' q) W
theorem own_iinc (C : Cx p s m meth c Z cd ml ret own nm) {i : Nat} {d : Int} {x v : Int32} (hd : decode cd pc = .ok (.iinc i d, 3)) (hl : Ls[i]? = some (.val (.int x))) (hv : x + Int32.ofInt d = v) (hl' : storeLocals Ls i (.int v) = some Ls') (hp : pc + 3 = pc') (W : Wp p l e R s m args below meth c n0 Q h k n (mkF m pc' Ls' st)) : Wp p l e R s m args below meth c n0 Q h k n (mkF m pc Ls st) := by
  subst hp hv; exact own_lift (fun T A t q => XS.iinc A C.1 rfl (hb C.2.2.1 hd) hl hl' q) W
theorem own_goto (C : Cx p s m meth c Z cd ml ret own nm) {o : Int} (hd : decode cd pc = .ok (.goto o, 3)) (ho : 0 ≤ (pc : Int) + o) (hp : ((pc : Int) + o).toNat = pc') (W : Wp p l e R s m args below meth c n0 Q h k n (mkF m pc' Ls st)) : Wp p l e R s m args below meth c n0 Q h k n (mkF m pc Ls st) :=
  own_lift (fun T A t q => XS.goto A C.1 rfl (pc0 := pc) (pc' := pc') rfl (hb C.2.2.1 hd) ho hp q) W
theorem own_icmp_lt (C : Cx p s m meth c Z cd ml ret own nm) {o : Int} {x y : Int32} {pt pf : Nat} (hd : decode cd pc = .ok (.if_icmp .lt o, 3)) (ho : 0 ≤ (pc : Int) + o) (hp : ((pc : Int) + o).toNat = pt) (hf : pc + 3 = pf) (WT : x < y → Wp p l e R s m args below meth c n0 Q h k n (mkF m pt Ls st)) (WF : ¬ x < y → Wp p l e R s m args below meth c n0 Q h k n (mkF m pf Ls st)) : Wp p l e R s m args below meth c n0 Q h k n (mkF m pc Ls (.int y :: .int x :: st)) := by
  subst hf
  by_cases g : x < y
  · exact own_lift (fun T A t q => XS.icmpYes A C.1 rfl (pc0 := pc) (pc' := pt) rfl (hb C.2.2.1 hd) rfl (tlt g).1 ho hp q) (WT g)
  · exact own_lift (fun T A t q => XS.icmpNo A C.1 rfl (hb C.2.2.1 hd) rfl (flt g).1 q) (WF g)
theorem own_if_lt (C : Cx p s m meth c Z cd ml ret own nm) {o : Int} {x : Int32} {pt pf : Nat} (hd : decode cd pc = .ok (.ifCond .lt o, 3)) (ho : 0 ≤ (pc : Int) + o) (hp : ((pc : Int) + o).toNat = pt) (hf : pc + 3 = pf) (WT : x < 0 → Wp p l e R s m args below meth c n0 Q h k n (mkF m pt Ls st)) (WF : ¬ x < 0 → Wp p l e R s m args below meth c n0 Q h k n (mkF m pf Ls st)) : Wp p l e R s m args below meth c n0 Q h k n (mkF m pc Ls (.int x :: st)) := by
  subst hf
  by_cases g : x < 0
  · exact own_lift (fun T A t q => XS.ifYes A C.1 rfl (pc0 := pc) (pc' := pt) rfl (hb C.2.2.1 hd) rfl ((if0 _ _).trans (tlt g).1) ho hp q) (WT g)
  · exact own_lift (fun T A t q => XS.ifNo A C.1 rfl (hb C.2.2.1 hd) rfl ((if0 _ _).trans (flt g).1) q) (WF g)
theorem own_lcmp_lt (C : Cx p s m meth c Z cd ml ret own nm) {o : Int} {x y : Int64} {p1 pt pf : Nat} (hd0 : decode cd pc = .ok (.lcmp, 1)) (h1 : pc + 1 = p1) (hd : decode cd p1 = .ok (.ifCond .lt o, 3)) (ho : 0 ≤ (p1 : Int) + o) (hp : ((p1 : Int) + o).toNat = pt) (hf : p1 + 3 = pf) (WT : x < y → Wp p l e R s m args below meth c n0 Q h k n (mkF m pt Ls st)) (WF : ¬ x < y → Wp p l e R s m args below meth c n0 Q h k n (mkF m pf Ls st)) : Wp p l e R s m args below meth c n0 Q h k n (mkF m pc Ls (.long y :: .long x :: st)) :=
  own_lcmp C hd0 h1 (own_if_lt C hd ho hp hf (fun g => WT ((lw_lt x y).mp g)) (fun g => WF (fun q => g ((lw_lt x y).mpr q))))
theorem own_icmp_ge (C : Cx p s m meth c Z cd ml ret own nm) {o : Int} {x y : Int32} {pt pf : Nat} (hd : decode cd pc = .ok (.if_icmp .ge o, 3)) (ho : 0 ≤ (pc : Int) + o) (hp : ((pc : Int) + o).toNat = pt) (hf : pc + 3 = pf) (WT : ¬ x < y → Wp p l e R s m args below meth c n0 Q h k n (mkF m pt Ls st)) (WF : x < y → Wp p l e R s m args below meth c n0 Q h k n (mkF m pf Ls st)) : Wp p l e R s m args below meth c n0 Q h k n (mkF m pc Ls (.int y :: .int x :: st)) := by
  subst hf
  by_cases g : x < y
  · exact own_lift (fun T A t q => XS.icmpNo A C.1 rfl (hb C.2.2.1 hd) rfl (tlt g).2.1 q) (WF g)
  · exact own_lift (fun T A t q => XS.icmpYes A C.1 rfl (pc0 := pc) (pc' := pt) rfl (hb C.2.2.1 hd) rfl (flt g).2.1 ho hp q) (WT g)
theorem own_if_ge (C : Cx p s m meth c Z cd ml ret own nm) {o : Int} {x : Int32} {pt pf : Nat} (hd : decode cd pc = .ok (.ifCond .ge o, 3)) (ho : 0 ≤ (pc : Int) + o) (hp : ((pc : Int) + o).toNat = pt) (hf : pc + 3 = pf) (WT : ¬ x < 0 → Wp p l e R s m args below meth c n0 Q h k n (mkF m pt Ls st)) (WF : x < 0 → Wp p l e R s m args below meth c n0 Q h k n (mkF m pf Ls st)) : Wp p l e R s m args below meth c n0 Q h k n (mkF m pc Ls (.int x :: st)) := by
  subst hf
  by_cases g : x < 0
  · exact own_lift (fun T A t q => XS.ifNo A C.1 rfl (hb C.2.2.1 hd) rfl ((if0 _ _).trans (tlt g).2.1) q) (WF g)
  · exact own_lift (fun T A t q => XS.ifYes A C.1 rfl (pc0 := pc) (pc' := pt) rfl (hb C.2.2.1 hd) rfl ((if0 _ _).trans (flt g).2.1) ho hp q) (WT g)
theorem own_lcmp_ge (C : Cx p s m meth c Z cd ml ret own nm) {o : Int} {x y : Int64} {p1 pt pf : Nat} (hd0 : decode cd pc = .ok (.lcmp, 1)) (h1 : pc + 1 = p1) (hd : decode cd p1 = .ok (.ifCond .ge o, 3)) (ho : 0 ≤ (p1 : Int) + o) (hp : ((p1 : Int) + o).toNat = pt) (hf : p1 + 3 = pf) (WT : ¬ x < y → Wp p l e R s m args below meth c n0 Q h k n (mkF m pt Ls st)) (WF : x < y → Wp p l e R s m args below meth c n0 Q h k n (mkF m pf Ls st)) : Wp p l e R s m args below meth c n0 Q h k n (mkF m pc Ls (.long y :: .long x :: st)) :=
  own_lcmp C hd0 h1 (own_if_ge C hd ho hp hf (fun g => WT (fun q => g ((lw_lt x y).mpr q))) (fun g => WF ((lw_lt x y).mp g)))
theorem own_icmp_gt (C : Cx p s m meth c Z cd ml ret own nm) {o : Int} {x y : Int32} {pt pf : Nat} (hd : decode cd pc = .ok (.if_icmp .gt o, 3)) (ho : 0 ≤ (pc : Int) + o) (hp : ((pc : Int) + o).toNat = pt) (hf : pc + 3 = pf) (WT : y < x → Wp p l e R s m args below meth c n0 Q h k n (mkF m pt Ls st)) (WF : ¬ y < x → Wp p l e R s m args below meth c n0 Q h k n (mkF m pf Ls st)) : Wp p l e R s m args below meth c n0 Q h k n (mkF m pc Ls (.int y :: .int x :: st)) := by
  subst hf
  by_cases g : y < x
  · exact own_lift (fun T A t q => XS.icmpYes A C.1 rfl (pc0 := pc) (pc' := pt) rfl (hb C.2.2.1 hd) rfl (tlt g).2.2.1 ho hp q) (WT g)
  · exact own_lift (fun T A t q => XS.icmpNo A C.1 rfl (hb C.2.2.1 hd) rfl (flt g).2.2.1 q) (WF g)
theorem own_if_gt (C : Cx p s m meth c Z cd ml ret own nm) {o : Int} {x : Int32} {pt pf : Nat} (hd : decode cd pc = .ok (.ifCond .gt o, 3)) (ho : 0 ≤ (pc : Int) + o) (hp : ((pc : Int) + o).toNat = pt) (hf : pc + 3 = pf) (WT : 0 < x → Wp p l e R s m args below meth c n0 Q h k n (mkF m pt Ls st)) (WF : ¬ 0 < x → Wp p l e R s m args below meth c n0 Q h k n (mkF m pf Ls st)) : Wp p l e R s m args below meth c n0 Q h k n (mkF m pc Ls (.int x :: st)) := by
  subst hf
  by_cases g : 0 < x
  · exact own_lift (fun T A t q => XS.ifYes A C.1 rfl (pc0 := pc) (pc' := pt) rfl (hb C.2.2.1 hd) rfl ((if0 _ _).trans (tlt g).2.2.1) ho hp q) (WT g)
  · exact own_lift (fun T A t q => XS.ifNo A C.1 rfl (hb C.2.2.1 hd) rfl ((if0 _ _).trans (flt g).2.2.1) q) (WF g)
theorem own_lcmp_gt (C : Cx p s m meth c Z cd ml ret own nm) {o : Int} {x y : Int64} {p1 pt pf : Nat} (hd0 : decode cd pc = .ok (.lcmp, 1)) (h1 : pc + 1 = p1) (hd : decode cd p1 = .ok (.ifCond .gt o, 3)) (ho : 0 ≤ (p1 : Int) + o) (hp : ((p1 : Int) + o).toNat = pt) (hf : p1 + 3 = pf) (WT : y < x → Wp p l e R s m args below meth c n0 Q h k n (mkF m pt Ls st)) (WF : ¬ y < x → Wp p l e R s m args below meth c n0 Q h k n (mkF m pf Ls st)) : Wp p l e R s m args below meth c n0 Q h k n (mkF m pc Ls (.long y :: .long x :: st)) :=
  own_lcmp C hd0 h1 (own_if_gt C hd ho hp hf (fun g => WT ((lw_gt x y).mp g)) (fun g => WF (fun q => g ((lw_gt x y).mpr q))))
theorem own_icmp_le (C : Cx p s m meth c Z cd ml ret own nm) {o : Int} {x y : Int32} {pt pf : Nat} (hd : decode cd pc = .ok (.if_icmp .le o, 3)) (ho : 0 ≤ (pc : Int) + o) (hp : ((pc : Int) + o).toNat = pt) (hf : pc + 3 = pf) (WT : ¬ y < x → Wp p l e R s m args below meth c n0 Q h k n (mkF m pt Ls st)) (WF : y < x → Wp p l e R s m args below meth c n0 Q h k n (mkF m pf Ls st)) : Wp p l e R s m args below meth c n0 Q h k n (mkF m pc Ls (.int y :: .int x :: st)) := by
  subst hf
  by_cases g : y < x
  · exact own_lift (fun T A t q => XS.icmpNo A C.1 rfl (hb C.2.2.1 hd) rfl (tlt g).2.2.2 q) (WF g)
  · exact own_lift (fun T A t q => XS.icmpYes A C.1 rfl (pc0 := pc) (pc' := pt) rfl (hb C.2.2.1 hd) rfl (flt g).2.2.2 ho hp q) (WT g)
theorem own_if_le (C : Cx p s m meth c Z cd ml ret own nm) {o : Int} {x : Int32} {pt pf : Nat} (hd : decode cd pc = .ok (.ifCond .le o, 3)) (ho : 0 ≤ (pc : Int) + o) (hp : ((pc : Int) + o).toNat = pt) (hf : pc + 3 = pf) (WT : ¬ 0 < x → Wp p l e R s m args below meth c n0 Q h k n (mkF m pt Ls st)) (WF : 0 < x → Wp p l e R s m args below meth c n0 Q h k n (mkF m pf Ls st)) : Wp p l e R s m args below meth c n0 Q h k n (mkF m pc Ls (.int x :: st)) := by
  subst hf
  by_cases g : 0 < x
  · exact own_lift (fun T A t q => XS.ifNo A C.1 rfl (hb C.2.2.1 hd) rfl ((if0 _ _).trans (tlt g).2.2.2) q) (WF g)
  · exact own_lift (fun T A t q => XS.ifYes A C.1 rfl (pc0 := pc) (pc' := pt) rfl (hb C.2.2.1 hd) rfl ((if0 _ _).trans (flt g).2.2.2) ho hp q) (WT g)
theorem own_lcmp_le (C : Cx p s m meth c Z cd ml ret own nm) {o : Int} {x y : Int64} {p1 pt pf : Nat} (hd0 : decode cd pc = .ok (.lcmp, 1)) (h1 : pc + 1 = p1) (hd : decode cd p1 = .ok (.ifCond .le o, 3)) (ho : 0 ≤ (p1 : Int) + o) (hp : ((p1 : Int) + o).toNat = pt) (hf : p1 + 3 = pf) (WT : ¬ y < x → Wp p l e R s m args below meth c n0 Q h k n (mkF m pt Ls st)) (WF : y < x → Wp p l e R s m args below meth c n0 Q h k n (mkF m pf Ls st)) : Wp p l e R s m args below meth c n0 Q h k n (mkF m pc Ls (.long y :: .long x :: st)) :=
  own_lcmp C hd0 h1 (own_if_le C hd ho hp hf (fun g => WT (fun q => g ((lw_gt x y).mpr q))) (fun g => WF ((lw_gt x y).mp g)))
theorem own_icmp_eq (C : Cx p s m meth c Z cd ml ret own nm) {o : Int} {x y : Int32} {pt pf : Nat} (hd : decode cd pc = .ok (.if_icmp .eq o, 3)) (ho : 0 ≤ (pc : Int) + o) (hp : ((pc : Int) + o).toNat = pt) (hf : pc + 3 = pf) (WT : x = y → Wp p l e R s m args below meth c n0 Q h k n (mkF m pt Ls st)) (WF : ¬ x = y → Wp p l e R s m args below meth c n0 Q h k n (mkF m pf Ls st)) : Wp p l e R s m args below meth c n0 Q h k n (mkF m pc Ls (.int y :: .int x :: st)) := by
  subst hf
  by_cases g : x = y
  · exact own_lift (fun T A t q => XS.icmpYes A C.1 rfl (pc0 := pc) (pc' := pt) rfl (hb C.2.2.1 hd) rfl (teq g).1 ho hp q) (WT g)
  · exact own_lift (fun T A t q => XS.icmpNo A C.1 rfl (hb C.2.2.1 hd) rfl (feq g).1 q) (WF g)
theorem own_if_eq (C : Cx p s m meth c Z cd ml ret own nm) {o : Int} {x : Int32} {pt pf : Nat} (hd : decode cd pc = .ok (.ifCond .eq o, 3)) (ho : 0 ≤ (pc : Int) + o) (hp : ((pc : Int) + o).toNat = pt) (hf : pc + 3 = pf) (WT : x = 0 → Wp p l e R s m args below meth c n0 Q h k n (mkF m pt Ls st)) (WF : ¬ x = 0 → Wp p l e R s m args below meth c n0 Q h k n (mkF m pf Ls st)) : Wp p l e R s m args below meth c n0 Q h k n (mkF m pc Ls (.int x :: st)) := by
  subst hf
  by_cases g : x = 0
  · exact own_lift (fun T A t q => XS.ifYes A C.1 rfl (pc0 := pc) (pc' := pt) rfl (hb C.2.2.1 hd) rfl ((if0 _ _).trans (teq g).1) ho hp q) (WT g)
  · exact own_lift (fun T A t q => XS.ifNo A C.1 rfl (hb C.2.2.1 hd) rfl ((if0 _ _).trans (feq g).1) q) (WF g)
theorem own_lcmp_eq (C : Cx p s m meth c Z cd ml ret own nm) {o : Int} {x y : Int64} {p1 pt pf : Nat} (hd0 : decode cd pc = .ok (.lcmp, 1)) (h1 : pc + 1 = p1) (hd : decode cd p1 = .ok (.ifCond .eq o, 3)) (ho : 0 ≤ (p1 : Int) + o) (hp : ((p1 : Int) + o).toNat = pt) (hf : p1 + 3 = pf) (WT : x = y → Wp p l e R s m args below meth c n0 Q h k n (mkF m pt Ls st)) (WF : ¬ x = y → Wp p l e R s m args below meth c n0 Q h k n (mkF m pf Ls st)) : Wp p l e R s m args below meth c n0 Q h k n (mkF m pc Ls (.long y :: .long x :: st)) :=
  own_lcmp C hd0 h1 (own_if_eq C hd ho hp hf (fun g => WT ((lw_eq x y).mp g)) (fun g => WF (fun q => g ((lw_eq x y).mpr q))))
theorem own_icmp_ne (C : Cx p s m meth c Z cd ml ret own nm) {o : Int} {x y : Int32} {pt pf : Nat} (hd : decode cd pc = .ok (.if_icmp .ne o, 3)) (ho : 0 ≤ (pc : Int) + o) (hp : ((pc : Int) + o).toNat = pt) (hf : pc + 3 = pf) (WT : ¬ x = y → Wp p l e R s m args below meth c n0 Q h k n (mkF m pt Ls st)) (WF : x = y → Wp p l e R s m args below meth c n0 Q h k n (mkF m pf Ls st)) : Wp p l e R s m args below meth c n0 Q h k n (mkF m pc Ls (.int y :: .int x :: st)) := by
  subst hf
  by_cases g : x = y
  · exact own_lift (fun T A t q => XS.icmpNo A C.1 rfl (hb C.2.2.1 hd) rfl (teq g).2 q) (WF g)
  · exact own_lift (fun T A t q => XS.icmpYes A C.1 rfl (pc0 := pc) (pc' := pt) rfl (hb C.2.2.1 hd) rfl (feq g).2 ho hp q) (WT g)
theorem own_if_ne (C : Cx p s m meth c Z cd ml ret own nm) {o : Int} {x : Int32} {pt pf : Nat} (hd : decode cd pc = .ok (.ifCond .ne o, 3)) (ho : 0 ≤ (pc : Int) + o) (hp : ((pc : Int) + o).toNat = pt) (hf : pc + 3 = pf) (WT : ¬ x = 0 → Wp p l e R s m args below meth c n0 Q h k n (mkF m pt Ls st)) (WF : x = 0 → Wp p l e R s m args below meth c n0 Q h k n (mkF m pf Ls st)) : Wp p l e R s m args below meth c n0 Q h k n (mkF m pc Ls (.int x :: st)) := by
  subst hf
  by_cases g : x = 0
  · exact own_lift (fun T A t q => XS.ifNo A C.1 rfl (hb C.2.2.1 hd) rfl ((if0 _ _).trans (teq g).2) q) (WF g)
  · exact own_lift (fun T A t q => XS.ifYes A C.1 rfl (pc0 := pc) (pc' := pt) rfl (hb C.2.2.1 hd) rfl ((if0 _ _).trans (feq g).2) ho hp q) (WT g)
theorem own_lcmp_ne (C : Cx p s m meth c Z cd ml ret own nm) {o : Int} {x y : Int64} {p1 pt pf : Nat} (hd0 : decode cd pc = .ok (.lcmp, 1)) (h1 : pc + 1 = p1) (hd : decode cd p1 = .ok (.ifCond .ne o, 3)) (ho : 0 ≤ (p1 : Int) + o) (hp : ((p1 : Int) + o).toNat = pt) (hf : p1 + 3 = pf) (WT : ¬ x = y → Wp p l e R s m args below meth c n0 Q h k n (mkF m pt Ls st)) (WF : x = y → Wp p l e R s m args below meth c n0 Q h k n (mkF m pf Ls st)) : Wp p l e R s m args below meth c n0 Q h k n (mkF m pc Ls (.long y :: .long x :: st)) :=
  own_lcmp C hd0 h1 (own_if_ne C hd ho hp hf (fun g => WT (fun q => g ((lw_eq x y).mpr q))) (fun g => WF ((lw_eq x y).mp g)))
theorem own_acmp_eq (C : Cx p s m meth c Z cd ml ret own nm) {o : Int} {a b : Addr} {pt pf : Nat} (hd : decode cd pc = .ok (.if_acmp .eq o, 3)) (ho : 0 ≤ (pc : Int) + o) (hp : ((pc : Int) + o).toNat = pt) (hf : pc + 3 = pf) (WT : a = b → Wp p l e R s m args below meth c n0 Q h k n (mkF m pt Ls st)) (WF : ¬ a = b → Wp p l e R s m args below meth c n0 Q h k n (mkF m pf Ls st)) : Wp p l e R s m args below meth c n0 Q h k n (mkF m pc Ls (.ref b :: .ref a :: st)) := by
  subst hf
  by_cases g : a = b
  · exact own_lift (fun T A t q => XS.acmpYes A C.1 rfl (pc0 := pc) (pc' := pt) rfl (hb C.2.2.1 hd) rfl (by simp [if_acmp.holds, g]) ho hp q) (WT g)
  · exact own_lift (fun T A t q => XS.acmpNo A C.1 rfl (hb C.2.2.1 hd) rfl (by simp [if_acmp.holds, g]) q) (WF g)
theorem own_acmp_ne (C : Cx p s m meth c Z cd ml ret own nm) {o : Int} {a b : Addr} {pt pf : Nat} (hd : decode cd pc = .ok (.if_acmp .ne o, 3)) (ho : 0 ≤ (pc : Int) + o) (hp : ((pc : Int) + o).toNat = pt) (hf : pc + 3 = pf) (WT : ¬ a = b → Wp p l e R s m args below meth c n0 Q h k n (mkF m pt Ls st)) (WF : a = b → Wp p l e R s m args below meth c n0 Q h k n (mkF m pf Ls st)) : Wp p l e R s m args below meth c n0 Q h k n (mkF m pc Ls (.ref b :: .ref a :: st)) := by
  subst hf
  by_cases g : a = b
  · exact own_lift (fun T A t q => XS.acmpNo A C.1 rfl (hb C.2.2.1 hd) rfl (by simp [if_acmp.holds, g]) q) (WF g)
  · exact own_lift (fun T A t q => XS.acmpYes A C.1 rfl (pc0 := pc) (pc' := pt) rfl (hb C.2.2.1 hd) rfl (by simp [if_acmp.holds, g]) ho hp q) (WT g)
theorem own_ifnull_y (C : Cx p s m meth c Z cd ml ret own nm) {o : Int} {pt : Nat} (hd : decode cd pc = .ok (.ifnull o, 3)) (ho : 0 ≤ (pc : Int) + o) (hp : ((pc : Int) + o).toNat = pt) (W : Wp p l e R s m args below meth c n0 Q h k n (mkF m pt Ls st)) : Wp p l e R s m args below meth c n0 Q h k n (mkF m pc Ls (.null :: st)) :=
  own_lift (fun T A t q => XS.ifnullYes A C.1 rfl (pc0 := pc) (pc' := pt) rfl (hb C.2.2.1 hd) rfl ho hp q) W
theorem own_ifnull_n (C : Cx p s m meth c Z cd ml ret own nm) {o : Int} {a : Addr} (hd : decode cd pc = .ok (.ifnull o, 3)) (hp : pc + 3 = pc') (W : Wp p l e R s m args below meth c n0 Q h k n (mkF m pc' Ls st)) : Wp p l e R s m args below meth c n0 Q h k n (mkF m pc Ls (.ref a :: st)) := by
  subst hp; exact own_lift (fun T A t q => XS.ifnullNo A C.1 rfl (hb C.2.2.1 hd) rfl q) W
theorem own_ifnonnull_y (C : Cx p s m meth c Z cd ml ret own nm) {o : Int} {a : Addr} {pt : Nat} (hd : decode cd pc = .ok (.ifnonnull o, 3)) (ho : 0 ≤ (pc : Int) + o) (hp : ((pc : Int) + o).toNat = pt) (W : Wp p l e R s m args below meth c n0 Q h k n (mkF m pt Ls st)) : Wp p l e R s m args below meth c n0 Q h k n (mkF m pc Ls (.ref a :: st)) :=
  own_lift (fun T A t q => XS.ifnonnullYes A C.1 rfl (pc0 := pc) (pc' := pt) rfl (hb C.2.2.1 hd) rfl ho hp q) W
theorem own_ifnonnull_n (C : Cx p s m meth c Z cd ml ret own nm) {o : Int} (hd : decode cd pc = .ok (.ifnonnull o, 3)) (hp : pc + 3 = pc') (W : Wp p l e R s m args below meth c n0 Q h k n (mkF m pc' Ls st)) : Wp p l e R s m args below meth c n0 Q h k n (mkF m pc Ls (.null :: st)) := by
  subst hp; exact own_lift (fun T A t q => XS.ifnonnullNo A C.1 rfl (hb C.2.2.1 hd) rfl q) W
theorem own_ldc (C : Cx p s m meth c Z cd ml ret own nm) {i : Nat} {v : Int32} (hd : decode cd pc = .ok (.ldc i, 2)) (w : (Jvm.Cond.constant own i v).before a0 Z = true) (hp : pc + 2 = pc') (W : Wp p l e R s m args below meth c n0 Q h k n (mkF m pc' Ls (.int v :: st))) : Wp p l e R s m args below meth c n0 Q h k n (mkF m pc Ls st) := by
  subst hp; exact own_liftX (fun T locs X eT t q => X.ldcInt C.1 C.2.2.2.2.1 (mvT C.2.1 w) (g := mkF m pc Ls st) rfl (hb C.2.2.1 hd) t q) W
theorem own_ldcw (C : Cx p s m meth c Z cd ml ret own nm) {i : Nat} {v : Int32} (hd : decode cd pc = .ok (.ldc_w i, 3)) (w : (Jvm.Cond.constant own i v).before a0 Z = true) (hp : pc + 3 = pc') (W : Wp p l e R s m args below meth c n0 Q h k n (mkF m pc' Ls (.int v :: st))) : Wp p l e R s m args below meth c n0 Q h k n (mkF m pc Ls st) := by
  subst hp; exact own_liftX (fun T locs X eT t q => X.ldcwInt C.1 C.2.2.2.2.1 (mvT C.2.1 w) (g := mkF m pc Ls st) rfl (hb C.2.2.1 hd) t q) W
theorem own_ldc2 (C : Cx p s m meth c Z cd ml ret own nm) {i : Nat} {v : Int64} (hd : decode cd pc = .ok (.ldc2_w i, 3)) (w : (Jvm.Cond.constantLong own i v).before a0 Z = true) (hp : pc + 3 = pc') (W : Wp p l e R s m args below meth c n0 Q h k n (mkF m pc' Ls (.long v :: st))) : Wp p l e R s m args below meth c n0 Q h k n (mkF m pc Ls st) := by
  subst hp; exact own_liftX (fun T locs X eT t q => X.ldc2Long C.1 C.2.2.2.2.1 (mvT C.2.1 w) (g := mkF m pc Ls st) rfl (hb C.2.2.1 hd) t q) W
/-! objects -/
theorem own_getfield (C : Cx p s m meth c Z cd ml ret own nm) {i : Nat} {O f d : String} {a : Addr} {v : Value} (hd : decode cd pc = .ok (.getfield i, 3)) (w : (Jvm.Cond.fieldLink own i O f d).before a0 Z = true) (F : Fld Z h a O f d v) (hp : pc + 3 = pc') (W : Wp p l e R s m args below meth c n0 Q h k n (mkF m pc' Ls (v :: st))) : Wp p l e R s m args below meth c n0 Q h k n (mkF m pc Ls (.ref a :: st)) := fun T locs X eT N => by
  subst hp
  obtain ⟨T', X', e', st'⟩ := getF X C.1 C.2.1 C.2.2.2.2.1 (host := "") (Or.inl w) Via.refl eT F (g := mkF m pc Ls (.ref a :: st)) rfl rfl (hb C.2.2.1 hd)
  obtain ⟨s₂, o, q, r⟩ := W T' locs X' e' N
  exact ⟨s₂, o, st' _ q, r⟩
theorem own_getstatic (C : Cx p s m meth c Z cd ml ret own nm) {i : Nat} {O f d : String} {v : Value} (hd : decode cd pc = .ok (.getstatic i, 3)) (w : (Jvm.Cond.fieldLink own i O f d).before a0 Z = true) (F : Sta Z h O f d v) (hp : pc + 3 = pc') (W : Wp p l e R s m args below meth c n0 Q h k n (mkF m pc' Ls (v :: st))) : Wp p l e R s m args below meth c n0 Q h k n (mkF m pc Ls st) := fun T locs X eT N => by
  subst hp
  obtain ⟨T', X', e', st'⟩ := getS2 X C.1 C.2.1 C.2.2.2.2.1 (host := "") (Or.inl w) Via.refl eT F (g := mkF m pc Ls st) rfl (hb C.2.2.1 hd)
  obtain ⟨s₂, o, q, r⟩ := W T' locs X' e' N
  exact ⟨s₂, o, st' _ q, r⟩
theorem own_putfield (C : Cx p s m meth c Z cd ml ret own nm) {i kk : Nat} {O f d K : String} {ty : FieldType} {a : Addr} {v old : Value} (hd : decode cd pc = .ok (.putfield i, 3)) (w : (Jvm.Cond.fieldLink own i O f d).before a0 Z = true) (F : Fld Z h a O f d old) (E : Exa Z h a K) (L : (Jvm.Cond.lays K O f d).before a0 Z = true ∨ ((Jvm.Cond.laysFinal K O f d).before a0 Z = true ∧ own = O ∧ nm = "<init>")) (wi : (Jvm.Cond.instantiable K kk).before a0 Z = true)
    (hty : parseFieldDescriptor d = some ty) (hn : narrow ty v = v) (hf : fits ty v = true) (ha : n0 ≤ a) (hp : pc + 3 = pc') (W : ∀ h', Wr h h' a (RoadKit.slotOf Z O f d) v → Fld Z h' a O f d v → Wp p l e R s m args below meth c n0 Q h' k n (mkF m pc' Ls st)) : Wp p l e R s m args below meth c n0 Q h k n (mkF m pc Ls (v :: .ref a :: st)) := fun T locs X eT N => by
  subst hp
  obtain ⟨T', h', X', e', Wr', st'⟩ := putF X C.1 C.2.1 C.2.2.2.2.1 (host := "") (Or.inl w) Via.refl eT F E (L.imp id fun q => ⟨q.1, q.2.1, C.2.2.2.2.2.2.2.trans q.2.2⟩) wi hty hn hf (g := mkF m pc Ls (v :: .ref a :: st)) rfl rfl (hb C.2.2.1 hd)
  obtain ⟨s₂, o, q, r⟩ := W h' Wr' (F.same Wr') T' _ X' e' (Fr.snoc X' N ha)
  exact ⟨s₂, o, st' _ q, r⟩
theorem own_new (C : Cx p s m meth c Z cd ml ret own nm) {i nn : Nat} {K : String} (hd : decode cd pc = .ok (.new i, 3)) (w : (Jvm.Cond.classLink own i K).before a0 Z = true) (wi : (Jvm.Cond.instantiable K nn).before a0 Z = true) (wz : (Jvm.Cond.initialized K).before a0 Z = true) (hc : k + 1 ≤ R.cells) (hl : n + nn ≤ R.slots) (hp : pc + 3 = pc')
    (W : ∀ h' a, a = h.size → Ext h h' → Exa Z h' a K → (∀ {O f d : String} {ty : FieldType}, Laid Z a0 K O f d → parseFieldDescriptor d = some ty → Fld Z h' a O f d (defaultValue ty)) → Wp p l e R s m args below meth c n0 Q h' (k + 1) (n + nn) (mkF m pc' Ls (.ref a :: st))) : Wp p l e R s m args below meth c n0 Q h k n (mkF m pc Ls st) := fun T locs X eT N => by
  subst hp
  obtain ⟨T', h', X', e', E', A', D', -, st'⟩ := newO X C.1 C.2.1 C.2.2.2.2.1 w wi wz eT (g := mkF m pc Ls st) rfl (hb C.2.2.1 hd) hc hl
  obtain ⟨s₂, o, q, r⟩ := W h' h.size rfl E' A' D' T' _ X' e' N
  exact ⟨s₂, o, st' _ q, r⟩
/-- java.lang.Object's own constructor -/
theorem own_initO (C : Cx p s m meth c Z cd ml ret own nm) {i : Nat} {wL : Nat} (hd : decode cd pc = .ok (.invokespecial i, 3)) (w1 : (Jvm.Cond.methodLink own i Lib.objectInit).before a0 Z = true) (w2 : (Jvm.Cond.instanceMethod Lib.objectInit).before a0 Z = true) (w3 : (Jvm.Cond.code Lib.objectInit ⟨#[0xb1]⟩ 1 none).before a0 Z = true)
    {a : Addr} (hsz : Ls.size = ml) (hf : 1 ≤ R.frames) (hW : 0 + (st.map fun v => v.category).sum ≤ wL) (hl : wL + 12 ≤ R.locals) (hp : pc + 3 = pc') (W : Wp p l e R s m args below meth c n0 Q h k n (mkF m pc' Ls st)) : Wp p l e R s m args below meth c n0 Q h k n (mkF m pc Ls (.ref a :: st)) := fun T locs X eT N => by
  subst hp
  obtain ⟨T', X', e', st'⟩ := initO X C.1 C.2.1 C.2.2.2.2.1 w1 w2 w3 eT (g := mkF m pc Ls (.ref a :: st)) rfl (by rw [C.2.2.2.1]; exact hsz) rfl (hb C.2.2.1 hd) hf (W := wL) hW hl
  obtain ⟨s₂, o, q, r⟩ := W T' locs X' e' N
  exact ⟨s₂, o, st' _ q, r⟩
/-! arrays: of ints (of any narrow kind), of longs -/
def AI (Z : State) (h : Heap) (a : Addr) (ty : FieldType) (xs : List Int32) : Prop := ∃ cl : Cell, Arr Z h a cl ty ∧ cl.slots = (xs.map Value.int).toArray ∧ xs.length < 2 ^ 31
def AJ (Z : State) (h : Heap) (a : Addr) (xs : List Int64) : Prop := ∃ cl : Cell, Arr Z h a cl .long ∧ cl.slots = (xs.map Value.long).toArray ∧ xs.length < 2 ^ 31
theorem AI.lt {a : Addr} {ty : FieldType} {xs : List Int32} (A : AI Z h a ty xs) : a < h.size := by obtain ⟨cl, A, -⟩ := A; exact A.lt
theorem AJ.lt {a : Addr} {xs : List Int64} (A : AJ Z h a xs) : a < h.size := by obtain ⟨cl, A, -⟩ := A; exact A.lt
theorem AI.ext {h' : Heap} {a : Addr} {ty : FieldType} {xs : List Int32} (A : AI Z h a ty xs) (E : Ext h h') : AI Z h' a ty xs := by obtain ⟨cl, A, r⟩ := A; exact ⟨cl, A.ext E, r⟩
theorem AJ.ext {h' : Heap} {a : Addr} {xs : List Int64} (A : AJ Z h a xs) (E : Ext h h') : AJ Z h' a xs := by obtain ⟨cl, A, r⟩ := A; exact ⟨cl, A.ext E, r⟩
theorem AI.other {h' : Heap} {a b : Addr} {sl : Nat} {v : Value} {ty : FieldType} {xs : List Int32} (A : AI Z h a ty xs) (W : Wr h h' b sl v) (q : a ≠ b) : AI Z h' a ty xs := by obtain ⟨cl, A, r⟩ := A; exact ⟨cl, A.other W q, r⟩
theorem AJ.other {h' : Heap} {a b : Addr} {sl : Nat} {v : Value} {xs : List Int64} (A : AJ Z h a xs) (W : Wr h h' b sl v) (q : a ≠ b) : AJ Z h' a xs := by obtain ⟨cl, A, r⟩ := A; exact ⟨cl, A.other W q, r⟩
theorem AI.keep {h' : Heap} {a : Addr} {ws : List Addr} {ty : FieldType} {xs : List Int32} (A : AI Z h a ty xs) (K : Keep h h' ws) (q : a ∉ ws) : AI Z h' a ty xs := by obtain ⟨cl, A, r⟩ := A; exact ⟨cl, ⟨K.2.1 a cl A.1 q, A.2⟩, r⟩
theorem AJ.keep {h' : Heap} {a : Addr} {ws : List Addr} {xs : List Int64} (A : AJ Z h a xs) (K : Keep h h' ws) (q : a ∉ ws) : AJ Z h' a xs := by obtain ⟨cl, A, r⟩ := A; exact ⟨cl, ⟨K.2.1 a cl A.1 q, A.2⟩, r⟩
theorem AI.same {h' : Heap} {a : Addr} {i : Nat} {x : Int32} {ty : FieldType} {xs : List Int32} (A : AI Z h a ty xs) (W : Wr h h' a i (.int x)) : AI Z h' a ty (xs.set i x) := by
  obtain ⟨cl, A, r1, r2⟩ := A
  exact ⟨_, A.same W, by simp [Cell.setSlot, r1, List.map_set], by simpa using r2⟩
theorem AJ.same {h' : Heap} {a : Addr} {i : Nat} {x : Int64} {xs : List Int64} (A : AJ Z h a xs) (W : Wr h h' a i (.long x)) : AJ Z h' a (xs.set i x) := by
  obtain ⟨cl, A, r1, r2⟩ := A
  exact ⟨_, A.same W, by simp [Cell.setSlot, r1, List.map_set], by simpa using r2⟩
theorem own_iaload (C : Cx p s m meth c Z cd ml ret own nm) {a : Addr} {j v : Int32} {i : Nat} {xs : List Int32} (hd : decode cd pc = .ok (.iaload, 1)) (A : AI Z h a .int xs) (hj : ¬ j < 0) (hi : j.toNatClampNeg = i) (hv : xs[i]? = some v) (hp : pc + 1 = pc') (W : Wp p l e R s m args below meth c n0 Q h k n (mkF m pc' Ls (.int v :: st))) : Wp p l e R s m args below meth c n0 Q h k n (mkF m pc Ls (.int j :: .ref a :: st)) := by
  subst hp hi
  obtain ⟨cl, A, r1, r2⟩ := A
  have hlt := (List.getElem?_eq_some_iff.mp hv).1
  exact own_liftX (fun T locs X eT t q => X.iaload C.1 (j := j) (v := .int v) (by rw [eT]; exact A.1) (State.isArrayOf_alike C.2.1.alike A.2.1) A.2.2 (fun z => z.elim hj fun y => by rw [r1] at y; simp at y; omega) (by rw [r1]; simp [hv]) (g := mkF m pc Ls (.int j :: .ref a :: st)) rfl rfl (hb C.2.2.1 hd) t q) W
theorem own_baload (C : Cx p s m meth c Z cd ml ret own nm) {a : Addr} {j v : Int32} {i : Nat} {xs : List Int32} (hd : decode cd pc = .ok (.baload, 1)) (A : AI Z h a .byte xs) (hj : ¬ j < 0) (hi : j.toNatClampNeg = i) (hv : xs[i]? = some v) (hp : pc + 1 = pc') (W : Wp p l e R s m args below meth c n0 Q h k n (mkF m pc' Ls (.int v :: st))) : Wp p l e R s m args below meth c n0 Q h k n (mkF m pc Ls (.int j :: .ref a :: st)) := by
  subst hp hi
  obtain ⟨cl, A, r1, r2⟩ := A
  have hlt := (List.getElem?_eq_some_iff.mp hv).1
  exact own_liftX (fun T locs X eT t q => X.baloadBytes C.1 (j := j) (v := .int v) (by rw [eT]; exact A.1) (State.isArrayOf_alike C.2.1.alike A.2.1) A.2.2 (fun z => z.elim hj fun y => by rw [r1] at y; simp at y; omega) (by rw [r1]; simp [hv]) (g := mkF m pc Ls (.int j :: .ref a :: st)) rfl rfl (hb C.2.2.1 hd) t q) W
theorem own_laload (C : Cx p s m meth c Z cd ml ret own nm) {a : Addr} {j : Int32} {v : Int64} {i : Nat} {xs : List Int64} (hd : decode cd pc = .ok (.laload, 1)) (A : AJ Z h a xs) (hj : ¬ j < 0) (hi : j.toNatClampNeg = i) (hv : xs[i]? = some v) (hp : pc + 1 = pc') (W : Wp p l e R s m args below meth c n0 Q h k n (mkF m pc' Ls (.long v :: st))) : Wp p l e R s m args below meth c n0 Q h k n (mkF m pc Ls (.int j :: .ref a :: st)) := by
  subst hp hi
  obtain ⟨cl, A, r1, r2⟩ := A
  have hlt := (List.getElem?_eq_some_iff.mp hv).1
  exact own_liftX (fun T locs X eT t q => X.laload C.1 (j := j) (v := .long v) (by rw [eT]; exact A.1) (State.isArrayOf_alike C.2.1.alike A.2.1) A.2.2 (fun z => z.elim hj fun y => by rw [r1] at y; simp at y; omega) (by rw [r1]; simp [hv]) (g := mkF m pc Ls (.int j :: .ref a :: st)) rfl rfl (hb C.2.2.1 hd) t q) W
theorem own_lenI (C : Cx p s m meth c Z cd ml ret own nm) {a : Addr} {v : Int32} {ty : FieldType} {xs : List Int32} (hd : decode cd pc = .ok (.arraylength, 1)) (A : AI Z h a ty xs) (hv : xs.length.toInt32 = v) (hp : pc + 1 = pc') (W : Wp p l e R s m args below meth c n0 Q h k n (mkF m pc' Ls (.int v :: st))) : Wp p l e R s m args below meth c n0 Q h k n (mkF m pc Ls (.ref a :: st)) := by
  subst hp hv
  obtain ⟨cl, A, r1, r2⟩ := A
  have e1 : cl.slots.size = xs.length := by rw [r1]; simp
  exact own_liftX (fun T locs X eT t q => X.arraylength C.1 (by rw [eT]; exact A.1) (State.isArrayOf_alike C.2.1.alike A.2.1) (g := mkF m pc Ls (.ref a :: st)) rfl rfl (hb C.2.2.1 hd) t (by rw [e1]; exact q)) W
theorem own_lenJ (C : Cx p s m meth c Z cd ml ret own nm) {a : Addr} {v : Int32} {xs : List Int64} (hd : decode cd pc = .ok (.arraylength, 1)) (A : AJ Z h a xs) (hv : xs.length.toInt32 = v) (hp : pc + 1 = pc') (W : Wp p l e R s m args below meth c n0 Q h k n (mkF m pc' Ls (.int v :: st))) : Wp p l e R s m args below meth c n0 Q h k n (mkF m pc Ls (.ref a :: st)) := by
  subst hp hv
  obtain ⟨cl, A, r1, r2⟩ := A
  have e1 : cl.slots.size = xs.length := by rw [r1]; simp
  exact own_liftX (fun T locs X eT t q => X.arraylength C.1 (by rw [eT]; exact A.1) (State.isArrayOf_alike C.2.1.alike A.2.1) (g := mkF m pc Ls (.ref a :: st)) rfl rfl (hb C.2.2.1 hd) t (by rw [e1]; exact q)) W
theorem own_iastore (C : Cx p s m meth c Z cd ml ret own nm) {a : Addr} {j x : Int32} {i : Nat} {xs ys : List Int32} (hd : decode cd pc = .ok (.iastore, 1)) (A : AI Z h a .int xs) (hj : ¬ j < 0) (hi : j.toNatClampNeg = i) (hlt : i < xs.length) (hys : xs.set i x = ys) (ha : n0 ≤ a) (hp : pc + 1 = pc') (W : ∀ h', Wr h h' a i (.int x) → AI Z h' a .int ys → Wp p l e R s m args below meth c n0 Q h' k n (mkF m pc' Ls st)) : Wp p l e R s m args below meth c n0 Q h k n (mkF m pc Ls (.int x :: .int j :: .ref a :: st)) := fun T locs X eT N => by
  subst hp hi hys
  have A' := A
  obtain ⟨cl, A, r1, r2⟩ := A
  obtain ⟨T', h', X', e', Wr', st'⟩ := stI X C.1 C.2.1 eT A (j := j) (x := x) (fun z => z.elim hj fun y => by rw [r1] at y; simp at y; omega) (g := mkF m pc Ls (.int x :: .int j :: .ref a :: st)) rfl rfl (hb C.2.2.1 hd)
  obtain ⟨s₂, o, q, r⟩ := W h' Wr' (A'.same Wr') T' _ X' e' (Fr.snoc X' N ha)
  exact ⟨s₂, o, st' _ q, r⟩
theorem own_lastore (C : Cx p s m meth c Z cd ml ret own nm) {a : Addr} {j : Int32} {x : Int64} {i : Nat} {xs ys : List Int64} (hd : decode cd pc = .ok (.lastore, 1)) (A : AJ Z h a xs) (hj : ¬ j < 0) (hi : j.toNatClampNeg = i) (hlt : i < xs.length) (hys : xs.set i x = ys) (ha : n0 ≤ a) (hp : pc + 1 = pc') (W : ∀ h', Wr h h' a i (.long x) → AJ Z h' a ys → Wp p l e R s m args below meth c n0 Q h' k n (mkF m pc' Ls st)) : Wp p l e R s m args below meth c n0 Q h k n (mkF m pc Ls (.long x :: .int j :: .ref a :: st)) := fun T locs X eT N => by
  subst hp hi hys
  have A' := A
  obtain ⟨cl, A, r1, r2⟩ := A
  obtain ⟨T', h', X', e', Wr', st'⟩ := stJ X C.1 C.2.1 eT A (j := j) (x := x) (fun z => z.elim hj fun y => by rw [r1] at y; simp at y; omega) (g := mkF m pc Ls (.long x :: .int j :: .ref a :: st)) rfl rfl (hb C.2.2.1 hd)
  obtain ⟨s₂, o, q, r⟩ := W h' Wr' (A'.same Wr') T' _ X' e' (Fr.snoc X' N ha)
  exact ⟨s₂, o, st' _ q, r⟩
theorem own_bastore (C : Cx p s m meth c Z cd ml ret own nm) {a : Addr} {j x : Int32} {i : Nat} {xs ys : List Int32} (hd : decode cd pc = .ok (.bastore, 1)) (A : AI Z h a .byte xs) (hj : ¬ j < 0) (hi : j.toNatClampNeg = i) (hlt : i < xs.length) (hys : xs.set i (nar .byte x) = ys) (ha : n0 ≤ a) (hp : pc + 1 = pc') (W : ∀ h', Wr h h' a i (.int (nar .byte x)) → AI Z h' a .byte ys → Wp p l e R s m args below meth c n0 Q h' k n (mkF m pc' Ls st)) : Wp p l e R s m args below meth c n0 Q h k n (mkF m pc Ls (.int x :: .int j :: .ref a :: st)) := fun T locs X eT N => by
  subst hp hi hys
  have A' := A
  obtain ⟨cl, A, r1, r2⟩ := A
  obtain ⟨T', h', X', e', Wr', st'⟩ := stB X C.1 C.2.1 eT A (j := j) (x := x) (fun z => z.elim hj fun y => by rw [r1] at y; simp at y; omega) (g := mkF m pc Ls (.int x :: .int j :: .ref a :: st)) rfl rfl (hb C.2.2.1 hd)
  obtain ⟨s₂, o, q, r⟩ := W h' Wr' (A'.same Wr') T' _ X' e' (Fr.snoc X' N ha)
  exact ⟨s₂, o, st' _ q, r⟩
theorem own_newI (C : Cx p s m meth c Z cd ml ret own nm) {aty : ArrayType} {ty : FieldType} {z : Int32} {len cap : Nat} (hd : decode cd pc = .ok (.newarray aty, 2)) (hty : newarray.typeOf aty = ty) (hdv : defaultValue ty = .int 0) (w : (Jvm.Cond.arrayClass ty).before a0 Z = true) (hz : ¬ z < 0) (hlen : z.toNatClampNeg = len) (hcap : len ≤ cap) (hb8 : cap * 8 ≤ 536870912) (hc : k + 1 ≤ R.cells) (hl : n + cap ≤ R.slots) (hp : pc + 2 = pc')
    (W : ∀ h' a, a = h.size → Ext h h' → AI Z h' a ty (List.replicate len 0) → Wp p l e R s m args below meth c n0 Q h' (k + 1) (n + cap) (mkF m pc' Ls (.ref a :: st))) : Wp p l e R s m args below meth c n0 Q h k n (mkF m pc Ls (.int z :: st)) := fun T locs X eT N => by
  subst hp hlen hty
  obtain ⟨T', h', cA, X', e', E', A', st'⟩ := newP X C.1 C.2.1 w eT (g := mkF m pc Ls (.int z :: st)) rfl (hb C.2.2.1 hd) rfl hz hcap hb8 hc hl
  obtain ⟨s₂, o, q, r⟩ := W h' h.size rfl E' ⟨_, A', by simp [newA, hdv], by simp; exact (back32 hz).2⟩ T' _ X' e' N
  exact ⟨s₂, o, st' _ q, r⟩
theorem own_newJ (C : Cx p s m meth c Z cd ml ret own nm) {z : Int32} {len cap : Nat} (hd : decode cd pc = .ok (.newarray .long, 2)) (w : (Jvm.Cond.arrayClass .long).before a0 Z = true) (hz : ¬ z < 0) (hlen : z.toNatClampNeg = len) (hcap : len ≤ cap) (hb8 : cap * 8 ≤ 536870912) (hc : k + 1 ≤ R.cells) (hl : n + cap ≤ R.slots) (hp : pc + 2 = pc')
    (W : ∀ h' a, a = h.size → Ext h h' → AJ Z h' a (List.replicate len 0) → Wp p l e R s m args below meth c n0 Q h' (k + 1) (n + cap) (mkF m pc' Ls (.ref a :: st))) : Wp p l e R s m args below meth c n0 Q h k n (mkF m pc Ls (.int z :: st)) := fun T locs X eT N => by
  subst hp hlen
  obtain ⟨T', h', cA, X', e', E', A', st'⟩ := newP X C.1 C.2.1 (aty := .long) w eT (g := mkF m pc Ls (.int z :: st)) rfl (hb C.2.2.1 hd) rfl hz hcap hb8 hc hl
  obtain ⟨s₂, o, q, r⟩ := W h' h.size rfl E' ⟨_, A', by simp [newA, newarray.typeOf, defaultValue], by simp; exact (back32 hz).2⟩ T' _ X' e' N
  exact ⟨s₂, o, st' _ q, r⟩
/-! calls -/
theorem own_callS (C : Cx p s m meth c Z cd ml ret own nm) {i : Nat} {y : MethodName} {bytes : ByteArray} {mL wL : Nat} {rt : Option FieldType} {rm : Room} {as : Array Value} {Qc : Option Value → Heap → Prop} {argsL rest : List Value}
    (M : Met l y bytes mL rt [] rm Z n0 as h Qc)
    (hd : decode cd pc = .ok (.invokestatic i, 3)) (w1 : (Jvm.Cond.methodLink own i y).before a0 Z = true) (w2 : (Jvm.Cond.static y).before a0 Z = true) (w3 : (Jvm.Cond.initialized y.cls).before a0 Z = true) (w4 : (Jvm.Cond.code y bytes mL rt).before a0 Z = true)
    (hy : y.cls ≠ "java/lang/invoke/MethodHandle" ∧ y.cls ≠ "java/lang/invoke/VarHandle") (hfr : rm.frames + 1 ≤ R.frames) (hlo : wL + (mL + 11) + rm.locals ≤ R.locals) (hsz : Ls.size = ml) (hlen : ∀ sig, parseMethodDescriptor y.desc = some sig → argsL.length = sig.parameters.length)
    (hst : st = argsL.reverse ++ rest) (has : argsL.toArray = as) (hW : 0 + (rest.map fun v => v.category).sum ≤ wL) (hc : k + rm.cells ≤ R.cells) (hs : n + rm.slots ≤ R.slots) (hp : pc + 3 = pc')
    (W : ∀ v h', Qc v h' → Wp p l e R s m args below meth c n0 Q h' (k + rm.cells) (n + rm.slots) (mkF m pc' Ls (v.toList ++ rest))) : Wp p l e R s m args below meth c n0 Q h k n (mkF m pc Ls st) := fun T locs X eT N => by
  subst hp has
  obtain ⟨_, _, ⟨T', L', k', n'⟩, -, X', ⟨Lc, hQ, l1, y1, z1⟩, st'⟩ := Jvm.LawKit.callS X C.1 (y := y) C.2.2.2.2.1 (mvT C.2.1 w1) (mvT C.2.1 w2) (mvT C.2.1 w3) (mvT C.2.1 w4) hy (backOf (W := wL) (Q := fun v h L => Qc v h ∧ Fr n0 L) M C.2.1 w4 w3 hfr hlo) (g := mkF m pc Ls st) rfl (by rw [C.2.2.2.1]; exact hsz) (argsL := argsL) (rest := rest) hlen hst hW (hb C.2.2.1 hd) (fun _ _ => ⟨rfl, eT, hc, hs⟩)
  dsimp only [Pt.U, Pt.locs, Pt.cells, Pt.slots] at X' l1 y1 z1 st' hQ
  subst l1 y1 z1
  obtain ⟨s₂, o, q, r⟩ := W _ _ hQ.1 T' _ X' rfl (Fr.app N hQ.2)
  exact ⟨s₂, o, st' _ q, r⟩
theorem own_callI (C : Cx p s m meth c Z cd ml ret own nm) {i : Nat} {K : String} {dsc : String} {bytes : ByteArray} {mL wL : Nat} {rm : Room} {as : Array Value} {Qc : Option Value → Heap → Prop} {argsL rest : List Value} {a : Addr}
    (M : Met l ⟨K, "<init>", dsc⟩ bytes mL none [] rm Z n0 as h Qc)
    (hd : decode cd pc = .ok (.invokespecial i, 3)) (w1 : (Jvm.Cond.methodLink own i ⟨K, "<init>", dsc⟩).before a0 Z = true) (w2 : (Jvm.Cond.instanceMethod ⟨K, "<init>", dsc⟩).before a0 Z = true) (w3 : (Jvm.Cond.initialized K).before a0 Z = true) (w4 : (Jvm.Cond.code ⟨K, "<init>", dsc⟩ bytes mL none).before a0 Z = true)
    (hy : K ≠ "java/lang/invoke/MethodHandle" ∧ K ≠ "java/lang/invoke/VarHandle") (hfr : rm.frames + 1 ≤ R.frames) (hlo : wL + (mL + 11) + rm.locals ≤ R.locals) (hsz : Ls.size = ml) (hlen : ∀ sig, parseMethodDescriptor dsc = some sig → argsL.length = sig.parameters.length)
    (hst : st = argsL.reverse ++ .ref a :: rest) (has : (Value.ref a :: argsL).toArray = as) (hW : 0 + (rest.map fun v => v.category).sum ≤ wL) (hc : k + rm.cells ≤ R.cells) (hs : n + rm.slots ≤ R.slots) (hp : pc + 3 = pc')
    (W : ∀ v h', Qc v h' → Wp p l e R s m args below meth c n0 Q h' (k + rm.cells) (n + rm.slots) (mkF m pc' Ls (v.toList ++ rest))) : Wp p l e R s m args below meth c n0 Q h k n (mkF m pc Ls st) := fun T locs X eT N => by
  subst hp has
  obtain ⟨_, _, ⟨T', L', k', n'⟩, -, X', ⟨Lc, hQ, l1, y1, z1⟩, st'⟩ := X.specialBack C.1 (y := ⟨K, "<init>", dsc⟩) rfl C.2.2.2.2.1 (mvT C.2.1 w1) (mvT C.2.1 w2) (mvT C.2.1 w4) hy (backOf (W := wL) (Q := fun v h L => Qc v h ∧ Fr n0 L) M C.2.1 w4 w3 hfr hlo) (g := mkF m pc Ls st) rfl (by rw [C.2.2.2.1]; exact hsz) (Steps.refl _) (a := a) (argsL := argsL) (rest := rest) hlen hst hW (hb C.2.2.1 hd) (fun _ _ => ⟨rfl, eT, hc, hs⟩)
  dsimp only [Pt.U, Pt.locs, Pt.cells, Pt.slots] at X' l1 y1 z1 st' hQ
  subst l1 y1 z1
  obtain ⟨s₂, o, q, r⟩ := W _ _ hQ.1 T' _ X' rfl (Fr.app N hQ.2)
  exact ⟨s₂, o, st'.trans q, r⟩
theorem own_callV (C : Cx p s m meth c Z cd ml ret own nm) {i : Nat} {y : MethodName} {bytes : ByteArray} {mL wL : Nat} {rt : Option FieldType} {rm : Room} {as : Array Value} {Qc : Option Value → Heap → Prop} {argsL rest : List Value} {a : Addr}
    (M : Met l y bytes mL rt [] rm Z n0 as h Qc) (E : Exa Z h a y.cls)
    (hd : decode cd pc = .ok (.invokevirtual i, 3)) (w1 : (Jvm.Cond.methodLink own i y).before a0 Z = true) (w2 : (Jvm.Cond.declares y).before a0 Z = true) (w5 : (Jvm.Cond.selects y.cls y y).before a0 Z = true) (w6 : (Jvm.Cond.instanceMethod y).before a0 Z = true) (w3 : (Jvm.Cond.initialized y.cls).before a0 Z = true) (w4 : (Jvm.Cond.code y bytes mL rt).before a0 Z = true)
    (hy : y.cls ≠ "java/lang/invoke/MethodHandle" ∧ y.cls ≠ "java/lang/invoke/VarHandle") (hfr : rm.frames + 1 ≤ R.frames) (hlo : wL + (mL + 11) + rm.locals ≤ R.locals) (hsz : Ls.size = ml) (hlen : ∀ sig, parseMethodDescriptor y.desc = some sig → argsL.length = sig.parameters.length)
    (hst : st = argsL.reverse ++ .ref a :: rest) (has : (Value.ref a :: argsL).toArray = as) (hW : 0 + (rest.map fun v => v.category).sum ≤ wL) (hc : k + rm.cells ≤ R.cells) (hs : n + rm.slots ≤ R.slots) (hp : pc + 3 = pc')
    (W : ∀ v h', Qc v h' → Wp p l e R s m args below meth c n0 Q h' (k + rm.cells) (n + rm.slots) (mkF m pc' Ls (v.toList ++ rest))) : Wp p l e R s m args below meth c n0 Q h k n (mkF m pc Ls st) := fun T locs X eT N => by
  subst hp has
  obtain ⟨cq, kq, qa, qb, qc⟩ := isOf C.2.1 eT E
  obtain ⟨_, _, ⟨T', L', k', n'⟩, -, X', ⟨Lc, hQ, l1, y1, z1⟩, st'⟩ := X.virtualBack C.1 (y := y) (z := y) C.2.2.2.2.1 (mvT C.2.1 w1) (mvT C.2.1 w2) (notFace_of_selects (args := #[]) (mvT C.2.1 w5)) (mvT C.2.1 w5) (mvT C.2.1 w6) hy (backOf (W := wL) (Q := fun v h L => Qc v h ∧ Fr n0 L) M C.2.1 w4 w3 hfr hlo) qa qc (g := mkF m pc Ls st) rfl (by rw [C.2.2.2.1]; exact hsz) (Steps.refl _) (argsL := argsL) (rest := rest) hlen hst hW (hb C.2.2.1 hd) (fun _ _ => ⟨rfl, eT, hc, hs⟩)
  dsimp only [Pt.U, Pt.locs, Pt.cells, Pt.slots] at X' l1 y1 z1 st' hQ
  subst l1 y1 z1
  obtain ⟨s₂, o, q, r⟩ := W _ _ hQ.1 T' _ X' rfl (Fr.app N hQ.2)
  exact ⟨s₂, o, st'.trans q, r⟩
theorem own_callP (C : Cx p s m meth c Z cd ml ret own nm) {i : Nat} {y : MethodName} {bytes : ByteArray} {mL wL : Nat} {rt : Option FieldType} {rm : Room} {as : Array Value} {Qc : Option Value → Heap → Prop} {argsL rest : List Value} {a : Addr}
    (M : Met l y bytes mL rt [] rm Z n0 as h Qc) (E : Exa Z h a y.cls)
    (hd : decode cd pc = .ok (.invokevirtual i, 3)) (w1 : (Jvm.Cond.methodLink own i y).before a0 Z = true) (w2 : (Jvm.Cond.privateMethod y).before a0 Z = true) (w5 : (Jvm.Cond.selects y.cls y y).before a0 Z = true) (w6 : (Jvm.Cond.instanceMethod y).before a0 Z = true) (w3 : (Jvm.Cond.initialized y.cls).before a0 Z = true) (w4 : (Jvm.Cond.code y bytes mL rt).before a0 Z = true)
    (hy : y.cls ≠ "java/lang/invoke/MethodHandle" ∧ y.cls ≠ "java/lang/invoke/VarHandle") (hfr : rm.frames + 1 ≤ R.frames) (hlo : wL + (mL + 11) + rm.locals ≤ R.locals) (hsz : Ls.size = ml) (hlen : ∀ sig, parseMethodDescriptor y.desc = some sig → argsL.length = sig.parameters.length)
    (hst : st = argsL.reverse ++ .ref a :: rest) (has : (Value.ref a :: argsL).toArray = as) (hW : 0 + (rest.map fun v => v.category).sum ≤ wL) (hc : k + rm.cells ≤ R.cells) (hs : n + rm.slots ≤ R.slots) (hp : pc + 3 = pc')
    (W : ∀ v h', Qc v h' → Wp p l e R s m args below meth c n0 Q h' (k + rm.cells) (n + rm.slots) (mkF m pc' Ls (v.toList ++ rest))) : Wp p l e R s m args below meth c n0 Q h k n (mkF m pc Ls st) := fun T locs X eT N => by
  subst hp has
  obtain ⟨cq, q1, q2⟩ := E.cell
  obtain ⟨_, _, ⟨T', L', k', n'⟩, -, X', ⟨Lc, hQ, l1, y1, z1⟩, st'⟩ := X.privateBack C.1 (y := y) C.2.2.2.2.1 (mvT C.2.1 w1) (mvT C.2.1 w6) (mvT C.2.1 w5) (Cond.privateMethod_at (mvP C.2.1 w2 (args := #[]))) (mvT C.2.1 w4) hy (backOf (W := wL) (Q := fun v h L => Qc v h ∧ Fr n0 L) M C.2.1 w4 w3 hfr hlo) (g := mkF m pc Ls st) rfl (by rw [C.2.2.2.1]; exact hsz) (Steps.refl _) (a := a) (by rw [eT]; exact q1) q2 (argsL := argsL) (rest := rest) hlen hst hW (hb C.2.2.1 hd) (fun _ _ => ⟨rfl, eT, hc, hs⟩)
  dsimp only [Pt.U, Pt.locs, Pt.cells, Pt.slots] at X' l1 y1 z1 st' hQ
  subst l1 y1 z1
  obtain ⟨s₂, o, q, r⟩ := W _ _ hQ.1 T' _ X' rfl (Fr.app N hQ.2)
  exact ⟨s₂, o, st'.trans q, r⟩
end OwnKit
def own_f1 (w : Int32) (k : Int32) (near : Int32) : Int32 := (nar .byte (if near = 0 then (((w >>> (((8 : Int32) * k) &&& 31)) &&& (255 : Int32)).toInt8.toInt32) else (((44 : Int32) + (((w >>> (((8 : Int32) * k) &&& 31)) &&& (255 : Int32)) &&& (15 : Int32))).toInt8.toInt32)))
theorem d1_0 : decode method_3_code 0 = .ok (.iload_n 0, 1) := by decide +kernel
theorem d1_1 : decode method_3_code 1 = .ok (.bipush 8, 2) := by decide +kernel
theorem d1_3 : decode method_3_code 3 = .ok (.iload_n 1, 1) := by decide +kernel
theorem d1_4 : decode method_3_code 4 = .ok (.imul, 1) := by decide +kernel
theorem d1_5 : decode method_3_code 5 = .ok (.ishr, 1) := by decide +kernel
theorem d1_6 : decode method_3_code 6 = .ok (.sipush 255, 3) := by decide +kernel
theorem d1_9 : decode method_3_code 9 = .ok (.iand, 1) := by decide +kernel
theorem d1_10 : decode method_3_code 10 = .ok (.istore_n 3, 1) := by decide +kernel
theorem d1_11 : decode method_3_code 11 = .ok (.iload_n 2, 1) := by decide +kernel
theorem d1_12 : decode method_3_code 12 = .ok (.ifCond .eq 14, 3) := by decide +kernel
theorem d1_15 : decode method_3_code 15 = .ok (.bipush 44, 2) := by decide +kernel
theorem d1_17 : decode method_3_code 17 = .ok (.iload_n 3, 1) := by decide +kernel
theorem d1_18 : decode method_3_code 18 = .ok (.bipush 15, 2) := by decide +kernel
theorem d1_20 : decode method_3_code 20 = .ok (.iand, 1) := by decide +kernel
theorem d1_21 : decode method_3_code 21 = .ok (.iadd, 1) := by decide +kernel
theorem d1_22 : decode method_3_code 22 = .ok (.i2b, 1) := by decide +kernel
theorem d1_23 : decode method_3_code 23 = .ok (.goto 5, 3) := by decide +kernel
theorem d1_26 : decode method_3_code 26 = .ok (.iload_n 3, 1) := by decide +kernel
theorem d1_27 : decode method_3_code 27 = .ok (.i2b, 1) := by decide +kernel
theorem d1_28 : decode method_3_code 28 = .ok (.ireturn, 1) := by decide +kernel
theorem pn1 : plainName "com/example/vestwork/vestwork/io/PlainDatesIsMonthPinLaw" = true := by first | (simp [plainName, overriddenIn]; done) | decide +kernel
theorem ef1 (m : MethodId) (x0 : Int32) (x1 : Int32) (x2 : Int32) : entryFrame m #[(.int x0), (.int x1), (.int x2)] 4 = mkF m 0 #[.val (.int x0), .val (.int x1), .val (.int x2), .unset] [] := by first | (simp [entryFrame, mkF, argsToLocals, Value.category]; done) | rfl
theorem own_kb_8 : (Int8.ofInt (8)).toInt32 = (8 : Int32) := by decide
theorem own_ks_255 : (Int16.ofInt (255)).toInt32 = (255 : Int32) := by decide
theorem own_kb_44 : (Int8.ofInt (44)).toInt32 = (44 : Int32) := by decide
theorem own_kb_15 : (Int8.ofInt (15)).toInt32 = (15 : Int32) := by decide
set_option maxRecDepth 65536 in
set_option maxHeartbeats 40000000 in
theorem own_m1 (l : Launch) (Z : State) (a0 : Array Value) (hw : ∀ d ∈ tables_1, d.before a0 Z = true) (w : Int32) (k : Int32) (near : Int32)  (h0 : Heap) (n0 : Nat) (Z_ : n0 ≤ h0.size)  :
    Met l (⟨"com/example/vestwork/vestwork/io/PlainDatesIsMonthPinLaw", "pick", "(IIZ)B"⟩ : MethodName) method_3_code 4 (some .byte) [] ({ frames := 0, cells := 0, slots := 0, locals := 0 } : Room) Z n0 #[(.int w), (.int k), (.int near)] h0 (fun v h => v = some (.int (own_f1 w k near)) ∧ h0 = h) := by
  refine own_met pn1 (fun m => ef1 m w k near) ?_
  intro p e s m below meth c C
  refine own_iloadN (pc' := 1) C d1_0 rfl rfl ?_
  refine own_bipush (pc' := 3) (v := (8 : Int32)) C d1_1 own_kb_8 rfl ?_
  refine own_iloadN (pc' := 4) C d1_3 rfl rfl ?_
  refine own_imul (pc' := 5) C d1_4 rfl rfl ?_
  refine own_ishr (pc' := 6) (v := (w >>> (((8 : Int32) * k) &&& 31))) C d1_5 rfl rfl ?_
  refine own_sipush (pc' := 9) (v := (255 : Int32)) C d1_6 own_ks_255 rfl ?_
  refine own_iand (pc' := 10) C d1_9 rfl rfl ?_
  obtain ⟨v3_10, hv3_10⟩ : ∃ z : Int32, z = ((w >>> (((8 : Int32) * k) &&& 31)) &&& (255 : Int32)) := ⟨_, rfl⟩
  refine own_istoreN (pc' := 11) (y := v3_10) (Ls' := #[.val (.int w), .val (.int k), .val (.int near), .val (.int v3_10)]) C d1_10 hv3_10.symm rfl rfl ?_
  refine own_iloadN (pc' := 12) C d1_11 rfl rfl ?_
  obtain ⟨vs_28, hvs_28⟩ : ∃ z : Int32, z = (if near = 0 then (v3_10.toInt8.toInt32) else (((44 : Int32) + (v3_10 &&& (15 : Int32))).toInt8.toInt32)) := ⟨_, rfl⟩
  refine own_seq (g' := mkF m 28 #[.val (.int w), .val (.int k), .val (.int near), .val (.int v3_10)] [(.int vs_28)]) (fun J28 => ?_) ?_
  · refine own_if_eq (pt := 26) (pf := 15) C d1_12 (by decide) (by decide) rfl ?_ ?_
    · intro hc12
      refine own_iloadN (pc' := 27) C d1_26 rfl rfl ?_
      refine own_i2b (pc' := 28) C d1_27 rfl rfl ?_
      exact own_cast (by simp only [hvs_28, if_pos hc12]) (J28)
    · intro hc12
      refine own_bipush (pc' := 17) (v := (44 : Int32)) C d1_15 own_kb_44 rfl ?_
      refine own_iloadN (pc' := 18) C d1_17 rfl rfl ?_
      refine own_bipush (pc' := 20) (v := (15 : Int32)) C d1_18 own_kb_15 rfl ?_
      refine own_iand (pc' := 21) C d1_20 rfl rfl ?_
      refine own_iadd (pc' := 22) C d1_21 rfl rfl ?_
      refine own_i2b (pc' := 23) C d1_22 rfl rfl ?_
      refine own_goto (pc' := 28) C d1_23 (by decide) (by decide) ?_
      exact own_cast (by simp only [hvs_28, if_neg hc12]) (J28)
  refine own_nret C (by simp) d1_28 (by decide) (by decide) ?_
  exact ⟨by simp only [own_f1, hv3_10, hvs_28], rfl⟩

def own_f3 (b : Int32) : Int32 := (if b < (48 : Int32) then (0 : Int32) else (if (57 : Int32) < b then (0 : Int32) else (1 : Int32)))
theorem own_f3_z (b : Int32) : own_f3 b = 0 ∨ own_f3 b = 1 := by
  simp only [own_f3]; repeat (first | exact Or.inl rfl | exact Or.inr rfl | split)
theorem d3_0 : decode method_4_code 0 = .ok (.iload_n 0, 1) := by decide +kernel
theorem d3_1 : decode method_4_code 1 = .ok (.bipush 48, 2) := by decide +kernel
theorem d3_3 : decode method_4_code 3 = .ok (.if_icmp .lt 13, 3) := by decide +kernel
theorem d3_6 : decode method_4_code 6 = .ok (.iload_n 0, 1) := by decide +kernel
theorem d3_7 : decode method_4_code 7 = .ok (.bipush 57, 2) := by decide +kernel
theorem d3_9 : decode method_4_code 9 = .ok (.if_icmp .gt 7, 3) := by decide +kernel
theorem d3_12 : decode method_4_code 12 = .ok (.iconst 1, 1) := by decide +kernel
theorem d3_13 : decode method_4_code 13 = .ok (.goto 4, 3) := by decide +kernel
theorem d3_16 : decode method_4_code 16 = .ok (.iconst 0, 1) := by decide +kernel
theorem d3_17 : decode method_4_code 17 = .ok (.ireturn, 1) := by decide +kernel
theorem pn3 : plainName "com/example/vestwork/vestwork/io/PlainDatesIsMonthPinLaw" = true := by first | (simp [plainName, overriddenIn]; done) | decide +kernel
theorem ef3 (m : MethodId) (x0 : Int32) : entryFrame m #[(.int x0)] 1 = mkF m 0 #[.val (.int x0)] [] := by first | (simp [entryFrame, mkF, argsToLocals, Value.category]; done) | rfl
theorem own_kb_48 : (Int8.ofInt (48)).toInt32 = (48 : Int32) := by decide
theorem own_ki_0 : Int32.ofInt (0) = (0 : Int32) := by decide
theorem own_kb_57 : (Int8.ofInt (57)).toInt32 = (57 : Int32) := by decide
theorem own_ki_1 : Int32.ofInt (1) = (1 : Int32) := by decide
set_option maxRecDepth 65536 in
set_option maxHeartbeats 40000000 in
theorem own_m3 (l : Launch) (Z : State) (a0 : Array Value) (hw : ∀ d ∈ tables_1, d.before a0 Z = true) (b : Int32)  (h0 : Heap) (n0 : Nat) (Z_ : n0 ≤ h0.size)  :
    Met l (⟨"com/example/vestwork/vestwork/io/PlainDatesIsMonthPinLaw", "digit", "(B)Z"⟩ : MethodName) method_4_code 1 (some .boolean) [] ({ frames := 0, cells := 0, slots := 0, locals := 0 } : Room) Z n0 #[(.int b)] h0 (fun v h => v = some (.int (own_f3 b)) ∧ h0 = h) := by
  refine own_met pn3 (fun m => ef3 m b) ?_
  intro p e s m below meth c C
  refine own_iloadN (pc' := 1) C d3_0 rfl rfl ?_
  refine own_bipush (pc' := 3) (v := (48 : Int32)) C d3_1 own_kb_48 rfl ?_
  obtain ⟨vs_17, hvs_17⟩ : ∃ z : Int32, z = (if b < (48 : Int32) then (0 : Int32) else (if (57 : Int32) < b then (0 : Int32) else (1 : Int32))) := ⟨_, rfl⟩
  have hzvs_17 : vs_17 = 0 ∨ vs_17 = 1 := by rw [hvs_17]; repeat (first | exact Or.inl rfl | exact Or.inr rfl | split)
  refine own_seq (g' := mkF m 17 #[.val (.int b)] [(.int vs_17)]) (fun J17 => ?_) ?_
  · refine own_icmp_lt (pt := 16) (pf := 6) C d3_3 (by decide) (by decide) rfl ?_ ?_
    · intro hc3
      refine own_iconst (pc' := 17) (v := (0 : Int32)) C d3_16 own_ki_0 rfl ?_
      exact own_cast (by simp only [hvs_17, if_pos hc3]) (J17)
    · intro hc3
      refine own_iloadN (pc' := 7) C d3_6 rfl rfl ?_
      refine own_bipush (pc' := 9) (v := (57 : Int32)) C d3_7 own_kb_57 rfl ?_
      refine own_icmp_gt (pt := 16) (pf := 12) C d3_9 (by decide) (by decide) rfl ?_ ?_
      · intro hc9
        refine own_iconst (pc' := 17) (v := (0 : Int32)) C d3_16 own_ki_0 rfl ?_
        exact own_cast (by simp only [hvs_17, if_neg hc3, if_pos hc9]) (J17)
      · intro hc9
        refine own_iconst (pc' := 13) (v := (1 : Int32)) C d3_12 own_ki_1 rfl ?_
        refine own_goto (pc' := 17) C d3_13 (by decide) (by decide) ?_
        exact own_cast (by simp only [hvs_17, if_neg hc3, if_neg hc9]) (J17)
  refine own_zret C d3_17 (by decide) (by decide) hzvs_17 ?_
  exact ⟨by simp only [own_f3, hvs_17], rfl⟩

def own_month (n x0 x1 x2 x3 x4 x5 x6 : Int32) : Int32 := if n = 7 then (if x0 < 48 then 0 else if 57 < x0 then 0 else if x1 < 48 then 0 else if 57 < x1 then 0 else if x2 < 48 then 0 else if 57 < x2 then 0 else if x3 < 48 then 0 else if 57 < x3 then 0 else if x4 = 45 then (if x5 < 48 then 0 else if 57 < x5 then 0 else if x6 < 48 then 0 else if 57 < x6 then 0 else 1) else 0) else 0

theorem d2_0 : decode prog_99_method_3_code 0 = .ok (.iload_n 2, 1) := by decide +kernel
theorem d2_1 : decode prog_99_method_3_code 1 = .ok (.iload_n 1, 1) := by decide +kernel
theorem d2_2 : decode prog_99_method_3_code 2 = .ok (.isub, 1) := by decide +kernel
theorem d2_3 : decode prog_99_method_3_code 3 = .ok (.bipush 7, 2) := by decide +kernel
theorem d2_5 : decode prog_99_method_3_code 5 = .ok (.if_icmp .eq 5, 3) := by decide +kernel
theorem d2_8 : decode prog_99_method_3_code 8 = .ok (.iconst 0, 1) := by decide +kernel
theorem d2_9 : decode prog_99_method_3_code 9 = .ok (.ireturn, 1) := by decide +kernel
theorem d2_10 : decode prog_99_method_3_code 10 = .ok (.iconst 1, 1) := by decide +kernel
theorem d2_11 : decode prog_99_method_3_code 11 = .ok (.istore_n 3, 1) := by decide +kernel
theorem d2_12 : decode prog_99_method_3_code 12 = .ok (.iconst 0, 1) := by decide +kernel
theorem d2_13 : decode prog_99_method_3_code 13 = .ok (.istore 4, 2) := by decide +kernel
theorem d2_15 : decode prog_99_method_3_code 15 = .ok (.iload_n 3, 1) := by decide +kernel
theorem d2_16 : decode prog_99_method_3_code 16 = .ok (.ifCond .eq 65, 3) := by decide +kernel
theorem d2_19 : decode prog_99_method_3_code 19 = .ok (.iload 4, 2) := by decide +kernel
theorem d2_21 : decode prog_99_method_3_code 21 = .ok (.bipush 7, 2) := by decide +kernel
theorem d2_23 : decode prog_99_method_3_code 23 = .ok (.if_icmp .ge 58, 3) := by decide +kernel
theorem d2_26 : decode prog_99_method_3_code 26 = .ok (.aload_n 0, 1) := by decide +kernel
theorem d2_27 : decode prog_99_method_3_code 27 = .ok (.iload_n 1, 1) := by decide +kernel
theorem d2_28 : decode prog_99_method_3_code 28 = .ok (.iload 4, 2) := by decide +kernel
theorem d2_30 : decode prog_99_method_3_code 30 = .ok (.iadd, 1) := by decide +kernel
theorem d2_31 : decode prog_99_method_3_code 31 = .ok (.baload, 1) := by decide +kernel
theorem d2_32 : decode prog_99_method_3_code 32 = .ok (.istore 5, 2) := by decide +kernel
theorem d2_34 : decode prog_99_method_3_code 34 = .ok (.iload 4, 2) := by decide +kernel
theorem d2_36 : decode prog_99_method_3_code 36 = .ok (.iconst 4, 1) := by decide +kernel
theorem d2_37 : decode prog_99_method_3_code 37 = .ok (.if_icmp .ne 18, 3) := by decide +kernel
theorem d2_40 : decode prog_99_method_3_code 40 = .ok (.iload 5, 2) := by decide +kernel
theorem d2_42 : decode prog_99_method_3_code 42 = .ok (.bipush 45, 2) := by decide +kernel
theorem d2_44 : decode prog_99_method_3_code 44 = .ok (.if_icmp .ne 7, 3) := by decide +kernel
theorem d2_47 : decode prog_99_method_3_code 47 = .ok (.iconst 1, 1) := by decide +kernel
theorem d2_48 : decode prog_99_method_3_code 48 = .ok (.goto 26, 3) := by decide +kernel
theorem d2_51 : decode prog_99_method_3_code 51 = .ok (.iconst 0, 1) := by decide +kernel
theorem d2_52 : decode prog_99_method_3_code 52 = .ok (.goto 22, 3) := by decide +kernel
theorem d2_55 : decode prog_99_method_3_code 55 = .ok (.iload 5, 2) := by decide +kernel
theorem d2_57 : decode prog_99_method_3_code 57 = .ok (.bipush 48, 2) := by decide +kernel
theorem d2_59 : decode prog_99_method_3_code 59 = .ok (.if_icmp .lt 14, 3) := by decide +kernel
theorem d2_62 : decode prog_99_method_3_code 62 = .ok (.iload 5, 2) := by decide +kernel
theorem d2_64 : decode prog_99_method_3_code 64 = .ok (.bipush 57, 2) := by decide +kernel
theorem d2_66 : decode prog_99_method_3_code 66 = .ok (.if_icmp .gt 7, 3) := by decide +kernel
theorem d2_69 : decode prog_99_method_3_code 69 = .ok (.iconst 1, 1) := by decide +kernel
theorem d2_70 : decode prog_99_method_3_code 70 = .ok (.goto 4, 3) := by decide +kernel
theorem d2_73 : decode prog_99_method_3_code 73 = .ok (.iconst 0, 1) := by decide +kernel
theorem d2_74 : decode prog_99_method_3_code 74 = .ok (.istore_n 3, 1) := by decide +kernel
theorem d2_75 : decode prog_99_method_3_code 75 = .ok (.iinc 4 1, 3) := by decide +kernel
theorem d2_78 : decode prog_99_method_3_code 78 = .ok (.goto (-63), 3) := by decide +kernel
theorem d2_81 : decode prog_99_method_3_code 81 = .ok (.iload_n 3, 1) := by decide +kernel
theorem d2_82 : decode prog_99_method_3_code 82 = .ok (.ireturn, 1) := by decide +kernel
theorem pn2 : plainName "com/example/vestwork/vestwork/io/PlainDates" = true := by first | (simp [plainName, overriddenIn]; done) | decide +kernel
theorem ef2 (m : MethodId) (x0 : Addr) (x1 : Int32) (x2 : Int32) : entryFrame m #[(.ref x0), (.int x1), (.int x2)] 6 = mkF m 0 #[.val (.ref x0), .val (.int x1), .val (.int x2), .unset, .unset, .unset] [] := by first | (simp [entryFrame, mkF, argsToLocals, Value.category]; done) | rfl
theorem own_kb_7 : (Int8.ofInt (7)).toInt32 = (7 : Int32) := by decide
theorem own_ki_4 : Int32.ofInt (4) = (4 : Int32) := by decide
theorem own_kb_45 : (Int8.ofInt (45)).toInt32 = (45 : Int32) := by decide
set_option maxRecDepth 65536 in
set_option maxHeartbeats 40000000 in
theorem own_isM0 (l : Launch) (Z : State) (a0 : Array Value) (hw : ∀ d ∈ tables_1, d.before a0 Z = true) (t : Addr) (to : Int32) (x0_ x1_ x2_ x3_ x4_ x5_ x6_ x7_ x8_ : Int32) (h0 : Heap) (n0 : Nat) (Z_ : n0 ≤ h0.size) (A_t : AI Z h0 t .byte [x0_, x1_, x2_, x3_, x4_, x5_, x6_, x7_, x8_]) :
    Met l (⟨"com/example/vestwork/vestwork/io/PlainDates", "isMonth", "([BII)Z"⟩ : MethodName) prog_99_method_3_code 6 (some .boolean) [] ({ frames := 0, cells := 0, slots := 0, locals := 0 } : Room) Z n0 #[(.ref t), (.int (0 : Int32)), (.int to)] h0 (fun v h => v = some (.int (own_month (to - 0) x0_ x1_ x2_ x3_ x4_ x5_ x6_)) ∧ h0 = h) := by
  refine own_met pn2 (fun m => ef2 m t (0 : Int32) to) ?_
  intro p e s m below meth c C
  refine own_iloadN (pc' := 1) C d2_0 rfl rfl ?_
  refine own_iloadN (pc' := 2) C d2_1 rfl rfl ?_
  refine own_isub (pc' := 3) C d2_2 rfl rfl ?_
  refine own_bipush (pc' := 5) (v := (7 : Int32)) C d2_3 own_kb_7 rfl ?_
  refine own_icmp_eq (pt := 10) (pf := 8) C d2_5 (by decide) (by decide) rfl ?_ ?_
  · intro hc5
    refine own_iconst (pc' := 11) (v := (1 : Int32)) C d2_10 own_ki_1 rfl ?_
    refine own_istoreN (pc' := 12) (y := (1 : Int32)) (Ls' := #[.val (.ref t), .val (.int (0 : Int32)), .val (.int to), .val (.int (1 : Int32)), .unset, .unset]) C d2_11 rfl rfl rfl ?_
    refine own_iconst (pc' := 13) (v := (0 : Int32)) C d2_12 own_ki_0 rfl ?_
    refine own_istore (pc' := 15) (y := (0 : Int32)) (Ls' := #[.val (.ref t), .val (.int (0 : Int32)), .val (.int to), .val (.int (1 : Int32)), .val (.int (0 : Int32)), .unset]) C d2_13 rfl rfl rfl ?_
    refine own_iloadN (pc' := 16) C d2_15 rfl rfl ?_
    refine own_if_eq (pt := 81) (pf := 19) C d2_16 (by decide) (by decide) rfl (fun q => absurd q (by decide)) (fun _ => ?_)
    refine own_iload (pc' := 21) C d2_19 rfl rfl ?_
    refine own_bipush (pc' := 23) (v := (7 : Int32)) C d2_21 own_kb_7 rfl ?_
    refine own_icmp_ge (pt := 81) (pf := 26) C d2_23 (by decide) (by decide) rfl (fun q => absurd (by decide) q) (fun _ => ?_)
    refine own_aloadN (pc' := 27) C d2_26 rfl rfl rfl ?_
    refine own_iloadN (pc' := 28) C d2_27 rfl rfl ?_
    refine own_iload (pc' := 30) C d2_28 rfl rfl ?_
    refine own_iadd (pc' := 31) (v := (0 : Int32)) C d2_30 (by decide) rfl ?_
    refine own_baload (pc' := 32) (v := x0_) (i := 0) C d2_31 A_t (by decide) rfl rfl rfl ?_
    refine own_istore (pc' := 34) (y := x0_) (Ls' := #[.val (.ref t), .val (.int (0 : Int32)), .val (.int to), .val (.int (1 : Int32)), .val (.int (0 : Int32)), .val (.int x0_)]) C d2_32 rfl rfl rfl ?_
    refine own_iload (pc' := 36) C d2_34 rfl rfl ?_
    refine own_iconst (pc' := 37) (v := (4 : Int32)) C d2_36 own_ki_4 rfl ?_
    refine own_icmp_ne (pt := 55) (pf := 40) C d2_37 (by decide) (by decide) rfl (fun _ => ?_) (fun q => absurd q (by decide))
    refine own_iload (pc' := 57) C d2_55 rfl rfl ?_
    refine own_bipush (pc' := 59) (v := (48 : Int32)) C d2_57 own_kb_48 rfl ?_
    refine own_icmp_lt (pt := 73) (pf := 62) C d2_59 (by decide) (by decide) rfl ?_ ?_
    · intro hc59
      refine own_iconst (pc' := 74) (v := (0 : Int32)) C d2_73 own_ki_0 rfl ?_
      refine own_istoreN (pc' := 75) (y := (0 : Int32)) (Ls' := #[.val (.ref t), .val (.int (0 : Int32)), .val (.int to), .val (.int (0 : Int32)), .val (.int (0 : Int32)), .val (.int x0_)]) C d2_74 rfl rfl rfl ?_
      refine own_iinc (pc' := 78) (v := (1 : Int32)) (Ls' := #[.val (.ref t), .val (.int (0 : Int32)), .val (.int to), .val (.int (0 : Int32)), .val (.int (1 : Int32)), .val (.int x0_)]) C d2_75 rfl (by decide) rfl rfl ?_
      refine own_goto (pc' := 15) C d2_78 (by decide) (by decide) ?_
      refine own_iloadN (pc' := 16) C d2_15 rfl rfl ?_
      refine own_if_eq (pt := 81) (pf := 19) C d2_16 (by decide) (by decide) rfl (fun _ => ?_) (fun q => absurd (by decide) q)
      refine own_iloadN (pc' := 82) C d2_81 rfl rfl ?_
      refine own_zret C d2_82 (by decide) (by decide) (Or.inl rfl) ?_
      exact ⟨by simp only [own_month, if_pos hc5, if_pos hc59, if_true, if_false], rfl⟩
    · intro hc59
      refine own_iload (pc' := 64) C d2_62 rfl rfl ?_
      refine own_bipush (pc' := 66) (v := (57 : Int32)) C d2_64 own_kb_57 rfl ?_
      refine own_icmp_gt (pt := 73) (pf := 69) C d2_66 (by decide) (by decide) rfl ?_ ?_
      · intro hc66
        refine own_iconst (pc' := 74) (v := (0 : Int32)) C d2_73 own_ki_0 rfl ?_
        refine own_istoreN (pc' := 75) (y := (0 : Int32)) (Ls' := #[.val (.ref t), .val (.int (0 : Int32)), .val (.int to), .val (.int (0 : Int32)), .val (.int (0 : Int32)), .val (.int x0_)]) C d2_74 rfl rfl rfl ?_
        refine own_iinc (pc' := 78) (v := (1 : Int32)) (Ls' := #[.val (.ref t), .val (.int (0 : Int32)), .val (.int to), .val (.int (0 : Int32)), .val (.int (1 : Int32)), .val (.int x0_)]) C d2_75 rfl (by decide) rfl rfl ?_
        refine own_goto (pc' := 15) C d2_78 (by decide) (by decide) ?_
        refine own_iloadN (pc' := 16) C d2_15 rfl rfl ?_
        refine own_if_eq (pt := 81) (pf := 19) C d2_16 (by decide) (by decide) rfl (fun _ => ?_) (fun q => absurd (by decide) q)
        refine own_iloadN (pc' := 82) C d2_81 rfl rfl ?_
        refine own_zret C d2_82 (by decide) (by decide) (Or.inl rfl) ?_
        exact ⟨by simp only [own_month, if_pos hc5, if_neg hc59, if_pos hc66, if_true, if_false], rfl⟩
      · intro hc66
        refine own_iconst (pc' := 70) (v := (1 : Int32)) C d2_69 own_ki_1 rfl ?_
        refine own_goto (pc' := 74) C d2_70 (by decide) (by decide) ?_
        refine own_istoreN (pc' := 75) (y := (1 : Int32)) (Ls' := #[.val (.ref t), .val (.int (0 : Int32)), .val (.int to), .val (.int (1 : Int32)), .val (.int (0 : Int32)), .val (.int x0_)]) C d2_74 rfl rfl rfl ?_
        refine own_iinc (pc' := 78) (v := (1 : Int32)) (Ls' := #[.val (.ref t), .val (.int (0 : Int32)), .val (.int to), .val (.int (1 : Int32)), .val (.int (1 : Int32)), .val (.int x0_)]) C d2_75 rfl (by decide) rfl rfl ?_
        refine own_goto (pc' := 15) C d2_78 (by decide) (by decide) ?_
        refine own_iloadN (pc' := 16) C d2_15 rfl rfl ?_
        refine own_if_eq (pt := 81) (pf := 19) C d2_16 (by decide) (by decide) rfl (fun q => absurd q (by decide)) (fun _ => ?_)
        refine own_iload (pc' := 21) C d2_19 rfl rfl ?_
        refine own_bipush (pc' := 23) (v := (7 : Int32)) C d2_21 own_kb_7 rfl ?_
        refine own_icmp_ge (pt := 81) (pf := 26) C d2_23 (by decide) (by decide) rfl (fun q => absurd (by decide) q) (fun _ => ?_)
        refine own_aloadN (pc' := 27) C d2_26 rfl rfl rfl ?_
        refine own_iloadN (pc' := 28) C d2_27 rfl rfl ?_
        refine own_iload (pc' := 30) C d2_28 rfl rfl ?_
        refine own_iadd (pc' := 31) (v := (1 : Int32)) C d2_30 (by decide) rfl ?_
        refine own_baload (pc' := 32) (v := x1_) (i := 1) C d2_31 A_t (by decide) rfl rfl rfl ?_
        refine own_istore (pc' := 34) (y := x1_) (Ls' := #[.val (.ref t), .val (.int (0 : Int32)), .val (.int to), .val (.int (1 : Int32)), .val (.int (1 : Int32)), .val (.int x1_)]) C d2_32 rfl rfl rfl ?_
        refine own_iload (pc' := 36) C d2_34 rfl rfl ?_
        refine own_iconst (pc' := 37) (v := (4 : Int32)) C d2_36 own_ki_4 rfl ?_
        refine own_icmp_ne (pt := 55) (pf := 40) C d2_37 (by decide) (by decide) rfl (fun _ => ?_) (fun q => absurd q (by decide))
        refine own_iload (pc' := 57) C d2_55 rfl rfl ?_
        refine own_bipush (pc' := 59) (v := (48 : Int32)) C d2_57 own_kb_48 rfl ?_
        refine own_icmp_lt (pt := 73) (pf := 62) C d2_59 (by decide) (by decide) rfl ?_ ?_
        · intro hc59_2
          refine own_iconst (pc' := 74) (v := (0 : Int32)) C d2_73 own_ki_0 rfl ?_
          refine own_istoreN (pc' := 75) (y := (0 : Int32)) (Ls' := #[.val (.ref t), .val (.int (0 : Int32)), .val (.int to), .val (.int (0 : Int32)), .val (.int (1 : Int32)), .val (.int x1_)]) C d2_74 rfl rfl rfl ?_
          refine own_iinc (pc' := 78) (v := (2 : Int32)) (Ls' := #[.val (.ref t), .val (.int (0 : Int32)), .val (.int to), .val (.int (0 : Int32)), .val (.int (2 : Int32)), .val (.int x1_)]) C d2_75 rfl (by decide) rfl rfl ?_
          refine own_goto (pc' := 15) C d2_78 (by decide) (by decide) ?_
          refine own_iloadN (pc' := 16) C d2_15 rfl rfl ?_
          refine own_if_eq (pt := 81) (pf := 19) C d2_16 (by decide) (by decide) rfl (fun _ => ?_) (fun q => absurd (by decide) q)
          refine own_iloadN (pc' := 82) C d2_81 rfl rfl ?_
          refine own_zret C d2_82 (by decide) (by decide) (Or.inl rfl) ?_
          exact ⟨by simp only [own_month, if_pos hc5, if_neg hc59, if_neg hc66, if_pos hc59_2, if_true, if_false], rfl⟩
        · intro hc59_2
          refine own_iload (pc' := 64) C d2_62 rfl rfl ?_
          refine own_bipush (pc' := 66) (v := (57 : Int32)) C d2_64 own_kb_57 rfl ?_
          refine own_icmp_gt (pt := 73) (pf := 69) C d2_66 (by decide) (by decide) rfl ?_ ?_
          · intro hc66_2
            refine own_iconst (pc' := 74) (v := (0 : Int32)) C d2_73 own_ki_0 rfl ?_
            refine own_istoreN (pc' := 75) (y := (0 : Int32)) (Ls' := #[.val (.ref t), .val (.int (0 : Int32)), .val (.int to), .val (.int (0 : Int32)), .val (.int (1 : Int32)), .val (.int x1_)]) C d2_74 rfl rfl rfl ?_
            refine own_iinc (pc' := 78) (v := (2 : Int32)) (Ls' := #[.val (.ref t), .val (.int (0 : Int32)), .val (.int to), .val (.int (0 : Int32)), .val (.int (2 : Int32)), .val (.int x1_)]) C d2_75 rfl (by decide) rfl rfl ?_
            refine own_goto (pc' := 15) C d2_78 (by decide) (by decide) ?_
            refine own_iloadN (pc' := 16) C d2_15 rfl rfl ?_
            refine own_if_eq (pt := 81) (pf := 19) C d2_16 (by decide) (by decide) rfl (fun _ => ?_) (fun q => absurd (by decide) q)
            refine own_iloadN (pc' := 82) C d2_81 rfl rfl ?_
            refine own_zret C d2_82 (by decide) (by decide) (Or.inl rfl) ?_
            exact ⟨by simp only [own_month, if_pos hc5, if_neg hc59, if_neg hc66, if_neg hc59_2, if_pos hc66_2, if_true, if_false], rfl⟩
          · intro hc66_2
            refine own_iconst (pc' := 70) (v := (1 : Int32)) C d2_69 own_ki_1 rfl ?_
            refine own_goto (pc' := 74) C d2_70 (by decide) (by decide) ?_
            refine own_istoreN (pc' := 75) (y := (1 : Int32)) (Ls' := #[.val (.ref t), .val (.int (0 : Int32)), .val (.int to), .val (.int (1 : Int32)), .val (.int (1 : Int32)), .val (.int x1_)]) C d2_74 rfl rfl rfl ?_
            refine own_iinc (pc' := 78) (v := (2 : Int32)) (Ls' := #[.val (.ref t), .val (.int (0 : Int32)), .val (.int to), .val (.int (1 : Int32)), .val (.int (2 : Int32)), .val (.int x1_)]) C d2_75 rfl (by decide) rfl rfl ?_
            refine own_goto (pc' := 15) C d2_78 (by decide) (by decide) ?_
            refine own_iloadN (pc' := 16) C d2_15 rfl rfl ?_
            refine own_if_eq (pt := 81) (pf := 19) C d2_16 (by decide) (by decide) rfl (fun q => absurd q (by decide)) (fun _ => ?_)
            refine own_iload (pc' := 21) C d2_19 rfl rfl ?_
            refine own_bipush (pc' := 23) (v := (7 : Int32)) C d2_21 own_kb_7 rfl ?_
            refine own_icmp_ge (pt := 81) (pf := 26) C d2_23 (by decide) (by decide) rfl (fun q => absurd (by decide) q) (fun _ => ?_)
            refine own_aloadN (pc' := 27) C d2_26 rfl rfl rfl ?_
            refine own_iloadN (pc' := 28) C d2_27 rfl rfl ?_
            refine own_iload (pc' := 30) C d2_28 rfl rfl ?_
            refine own_iadd (pc' := 31) (v := (2 : Int32)) C d2_30 (by decide) rfl ?_
            refine own_baload (pc' := 32) (v := x2_) (i := 2) C d2_31 A_t (by decide) rfl rfl rfl ?_
            refine own_istore (pc' := 34) (y := x2_) (Ls' := #[.val (.ref t), .val (.int (0 : Int32)), .val (.int to), .val (.int (1 : Int32)), .val (.int (2 : Int32)), .val (.int x2_)]) C d2_32 rfl rfl rfl ?_
            refine own_iload (pc' := 36) C d2_34 rfl rfl ?_
            refine own_iconst (pc' := 37) (v := (4 : Int32)) C d2_36 own_ki_4 rfl ?_
            refine own_icmp_ne (pt := 55) (pf := 40) C d2_37 (by decide) (by decide) rfl (fun _ => ?_) (fun q => absurd q (by decide))
            refine own_iload (pc' := 57) C d2_55 rfl rfl ?_
            refine own_bipush (pc' := 59) (v := (48 : Int32)) C d2_57 own_kb_48 rfl ?_
            refine own_icmp_lt (pt := 73) (pf := 62) C d2_59 (by decide) (by decide) rfl ?_ ?_
            · intro hc59_3
              refine own_iconst (pc' := 74) (v := (0 : Int32)) C d2_73 own_ki_0 rfl ?_
              refine own_istoreN (pc' := 75) (y := (0 : Int32)) (Ls' := #[.val (.ref t), .val (.int (0 : Int32)), .val (.int to), .val (.int (0 : Int32)), .val (.int (2 : Int32)), .val (.int x2_)]) C d2_74 rfl rfl rfl ?_
              refine own_iinc (pc' := 78) (v := (3 : Int32)) (Ls' := #[.val (.ref t), .val (.int (0 : Int32)), .val (.int to), .val (.int (0 : Int32)), .val (.int (3 : Int32)), .val (.int x2_)]) C d2_75 rfl (by decide) rfl rfl ?_
              refine own_goto (pc' := 15) C d2_78 (by decide) (by decide) ?_
              refine own_iloadN (pc' := 16) C d2_15 rfl rfl ?_
              refine own_if_eq (pt := 81) (pf := 19) C d2_16 (by decide) (by decide) rfl (fun _ => ?_) (fun q => absurd (by decide) q)
              refine own_iloadN (pc' := 82) C d2_81 rfl rfl ?_
              refine own_zret C d2_82 (by decide) (by decide) (Or.inl rfl) ?_
              exact ⟨by simp only [own_month, if_pos hc5, if_neg hc59, if_neg hc66, if_neg hc59_2, if_neg hc66_2, if_pos hc59_3, if_true, if_false], rfl⟩
            · intro hc59_3
              refine own_iload (pc' := 64) C d2_62 rfl rfl ?_
              refine own_bipush (pc' := 66) (v := (57 : Int32)) C d2_64 own_kb_57 rfl ?_
              refine own_icmp_gt (pt := 73) (pf := 69) C d2_66 (by decide) (by decide) rfl ?_ ?_
              · intro hc66_3
                refine own_iconst (pc' := 74) (v := (0 : Int32)) C d2_73 own_ki_0 rfl ?_
                refine own_istoreN (pc' := 75) (y := (0 : Int32)) (Ls' := #[.val (.ref t), .val (.int (0 : Int32)), .val (.int to), .val (.int (0 : Int32)), .val (.int (2 : Int32)), .val (.int x2_)]) C d2_74 rfl rfl rfl ?_
                refine own_iinc (pc' := 78) (v := (3 : Int32)) (Ls' := #[.val (.ref t), .val (.int (0 : Int32)), .val (.int to), .val (.int (0 : Int32)), .val (.int (3 : Int32)), .val (.int x2_)]) C d2_75 rfl (by decide) rfl rfl ?_
                refine own_goto (pc' := 15) C d2_78 (by decide) (by decide) ?_
                refine own_iloadN (pc' := 16) C d2_15 rfl rfl ?_
                refine own_if_eq (pt := 81) (pf := 19) C d2_16 (by decide) (by decide) rfl (fun _ => ?_) (fun q => absurd (by decide) q)
                refine own_iloadN (pc' := 82) C d2_81 rfl rfl ?_
                refine own_zret C d2_82 (by decide) (by decide) (Or.inl rfl) ?_
                exact ⟨by simp only [own_month, if_pos hc5, if_neg hc59, if_neg hc66, if_neg hc59_2, if_neg hc66_2, if_neg hc59_3, if_pos hc66_3, if_true, if_false], rfl⟩
              · intro hc66_3
                refine own_iconst (pc' := 70) (v := (1 : Int32)) C d2_69 own_ki_1 rfl ?_
                refine own_goto (pc' := 74) C d2_70 (by decide) (by decide) ?_
                refine own_istoreN (pc' := 75) (y := (1 : Int32)) (Ls' := #[.val (.ref t), .val (.int (0 : Int32)), .val (.int to), .val (.int (1 : Int32)), .val (.int (2 : Int32)), .val (.int x2_)]) C d2_74 rfl rfl rfl ?_
                refine own_iinc (pc' := 78) (v := (3 : Int32)) (Ls' := #[.val (.ref t), .val (.int (0 : Int32)), .val (.int to), .val (.int (1 : Int32)), .val (.int (3 : Int32)), .val (.int x2_)]) C d2_75 rfl (by decide) rfl rfl ?_
                refine own_goto (pc' := 15) C d2_78 (by decide) (by decide) ?_
                refine own_iloadN (pc' := 16) C d2_15 rfl rfl ?_
                refine own_if_eq (pt := 81) (pf := 19) C d2_16 (by decide) (by decide) rfl (fun q => absurd q (by decide)) (fun _ => ?_)
                refine own_iload (pc' := 21) C d2_19 rfl rfl ?_
                refine own_bipush (pc' := 23) (v := (7 : Int32)) C d2_21 own_kb_7 rfl ?_
                refine own_icmp_ge (pt := 81) (pf := 26) C d2_23 (by decide) (by decide) rfl (fun q => absurd (by decide) q) (fun _ => ?_)
                refine own_aloadN (pc' := 27) C d2_26 rfl rfl rfl ?_
                refine own_iloadN (pc' := 28) C d2_27 rfl rfl ?_
                refine own_iload (pc' := 30) C d2_28 rfl rfl ?_
                refine own_iadd (pc' := 31) (v := (3 : Int32)) C d2_30 (by decide) rfl ?_
                refine own_baload (pc' := 32) (v := x3_) (i := 3) C d2_31 A_t (by decide) rfl rfl rfl ?_
                refine own_istore (pc' := 34) (y := x3_) (Ls' := #[.val (.ref t), .val (.int (0 : Int32)), .val (.int to), .val (.int (1 : Int32)), .val (.int (3 : Int32)), .val (.int x3_)]) C d2_32 rfl rfl rfl ?_
                refine own_iload (pc' := 36) C d2_34 rfl rfl ?_
                refine own_iconst (pc' := 37) (v := (4 : Int32)) C d2_36 own_ki_4 rfl ?_
                refine own_icmp_ne (pt := 55) (pf := 40) C d2_37 (by decide) (by decide) rfl (fun _ => ?_) (fun q => absurd q (by decide))
                refine own_iload (pc' := 57) C d2_55 rfl rfl ?_
                refine own_bipush (pc' := 59) (v := (48 : Int32)) C d2_57 own_kb_48 rfl ?_
                refine own_icmp_lt (pt := 73) (pf := 62) C d2_59 (by decide) (by decide) rfl ?_ ?_
                · intro hc59_4
                  refine own_iconst (pc' := 74) (v := (0 : Int32)) C d2_73 own_ki_0 rfl ?_
                  refine own_istoreN (pc' := 75) (y := (0 : Int32)) (Ls' := #[.val (.ref t), .val (.int (0 : Int32)), .val (.int to), .val (.int (0 : Int32)), .val (.int (3 : Int32)), .val (.int x3_)]) C d2_74 rfl rfl rfl ?_
                  refine own_iinc (pc' := 78) (v := (4 : Int32)) (Ls' := #[.val (.ref t), .val (.int (0 : Int32)), .val (.int to), .val (.int (0 : Int32)), .val (.int (4 : Int32)), .val (.int x3_)]) C d2_75 rfl (by decide) rfl rfl ?_
                  refine own_goto (pc' := 15) C d2_78 (by decide) (by decide) ?_
                  refine own_iloadN (pc' := 16) C d2_15 rfl rfl ?_
                  refine own_if_eq (pt := 81) (pf := 19) C d2_16 (by decide) (by decide) rfl (fun _ => ?_) (fun q => absurd (by decide) q)
                  refine own_iloadN (pc' := 82) C d2_81 rfl rfl ?_
                  refine own_zret C d2_82 (by decide) (by decide) (Or.inl rfl) ?_
                  exact ⟨by simp only [own_month, if_pos hc5, if_neg hc59, if_neg hc66, if_neg hc59_2, if_neg hc66_2, if_neg hc59_3, if_neg hc66_3, if_pos hc59_4, if_true, if_false], rfl⟩
                · intro hc59_4
                  refine own_iload (pc' := 64) C d2_62 rfl rfl ?_
                  refine own_bipush (pc' := 66) (v := (57 : Int32)) C d2_64 own_kb_57 rfl ?_
                  refine own_icmp_gt (pt := 73) (pf := 69) C d2_66 (by decide) (by decide) rfl ?_ ?_
                  · intro hc66_4
                    refine own_iconst (pc' := 74) (v := (0 : Int32)) C d2_73 own_ki_0 rfl ?_
                    refine own_istoreN (pc' := 75) (y := (0 : Int32)) (Ls' := #[.val (.ref t), .val (.int (0 : Int32)), .val (.int to), .val (.int (0 : Int32)), .val (.int (3 : Int32)), .val (.int x3_)]) C d2_74 rfl rfl rfl ?_
                    refine own_iinc (pc' := 78) (v := (4 : Int32)) (Ls' := #[.val (.ref t), .val (.int (0 : Int32)), .val (.int to), .val (.int (0 : Int32)), .val (.int (4 : Int32)), .val (.int x3_)]) C d2_75 rfl (by decide) rfl rfl ?_
                    refine own_goto (pc' := 15) C d2_78 (by decide) (by decide) ?_
                    refine own_iloadN (pc' := 16) C d2_15 rfl rfl ?_
                    refine own_if_eq (pt := 81) (pf := 19) C d2_16 (by decide) (by decide) rfl (fun _ => ?_) (fun q => absurd (by decide) q)
                    refine own_iloadN (pc' := 82) C d2_81 rfl rfl ?_
                    refine own_zret C d2_82 (by decide) (by decide) (Or.inl rfl) ?_
                    exact ⟨by simp only [own_month, if_pos hc5, if_neg hc59, if_neg hc66, if_neg hc59_2, if_neg hc66_2, if_neg hc59_3, if_neg hc66_3, if_neg hc59_4, if_pos hc66_4, if_true, if_false], rfl⟩
                  · intro hc66_4
                    refine own_iconst (pc' := 70) (v := (1 : Int32)) C d2_69 own_ki_1 rfl ?_
                    refine own_goto (pc' := 74) C d2_70 (by decide) (by decide) ?_
                    refine own_istoreN (pc' := 75) (y := (1 : Int32)) (Ls' := #[.val (.ref t), .val (.int (0 : Int32)), .val (.int to), .val (.int (1 : Int32)), .val (.int (3 : Int32)), .val (.int x3_)]) C d2_74 rfl rfl rfl ?_
                    refine own_iinc (pc' := 78) (v := (4 : Int32)) (Ls' := #[.val (.ref t), .val (.int (0 : Int32)), .val (.int to), .val (.int (1 : Int32)), .val (.int (4 : Int32)), .val (.int x3_)]) C d2_75 rfl (by decide) rfl rfl ?_
                    refine own_goto (pc' := 15) C d2_78 (by decide) (by decide) ?_
                    refine own_iloadN (pc' := 16) C d2_15 rfl rfl ?_
                    refine own_if_eq (pt := 81) (pf := 19) C d2_16 (by decide) (by decide) rfl (fun q => absurd q (by decide)) (fun _ => ?_)
                    refine own_iload (pc' := 21) C d2_19 rfl rfl ?_
                    refine own_bipush (pc' := 23) (v := (7 : Int32)) C d2_21 own_kb_7 rfl ?_
                    refine own_icmp_ge (pt := 81) (pf := 26) C d2_23 (by decide) (by decide) rfl (fun q => absurd (by decide) q) (fun _ => ?_)
                    refine own_aloadN (pc' := 27) C d2_26 rfl rfl rfl ?_
                    refine own_iloadN (pc' := 28) C d2_27 rfl rfl ?_
                    refine own_iload (pc' := 30) C d2_28 rfl rfl ?_
                    refine own_iadd (pc' := 31) (v := (4 : Int32)) C d2_30 (by decide) rfl ?_
                    refine own_baload (pc' := 32) (v := x4_) (i := 4) C d2_31 A_t (by decide) rfl rfl rfl ?_
                    refine own_istore (pc' := 34) (y := x4_) (Ls' := #[.val (.ref t), .val (.int (0 : Int32)), .val (.int to), .val (.int (1 : Int32)), .val (.int (4 : Int32)), .val (.int x4_)]) C d2_32 rfl rfl rfl ?_
                    refine own_iload (pc' := 36) C d2_34 rfl rfl ?_
                    refine own_iconst (pc' := 37) (v := (4 : Int32)) C d2_36 own_ki_4 rfl ?_
                    refine own_icmp_ne (pt := 55) (pf := 40) C d2_37 (by decide) (by decide) rfl (fun q => absurd (by decide) q) (fun _ => ?_)
                    refine own_iload (pc' := 42) C d2_40 rfl rfl ?_
                    refine own_bipush (pc' := 44) (v := (45 : Int32)) C d2_42 own_kb_45 rfl ?_
                    refine own_icmp_ne (pt := 51) (pf := 47) C d2_44 (by decide) (by decide) rfl ?_ ?_
                    · intro hc44
                      refine own_iconst (pc' := 52) (v := (0 : Int32)) C d2_51 own_ki_0 rfl ?_
                      refine own_goto (pc' := 74) C d2_52 (by decide) (by decide) ?_
                      refine own_istoreN (pc' := 75) (y := (0 : Int32)) (Ls' := #[.val (.ref t), .val (.int (0 : Int32)), .val (.int to), .val (.int (0 : Int32)), .val (.int (4 : Int32)), .val (.int x4_)]) C d2_74 rfl rfl rfl ?_
                      refine own_iinc (pc' := 78) (v := (5 : Int32)) (Ls' := #[.val (.ref t), .val (.int (0 : Int32)), .val (.int to), .val (.int (0 : Int32)), .val (.int (5 : Int32)), .val (.int x4_)]) C d2_75 rfl (by decide) rfl rfl ?_
                      refine own_goto (pc' := 15) C d2_78 (by decide) (by decide) ?_
                      refine own_iloadN (pc' := 16) C d2_15 rfl rfl ?_
                      refine own_if_eq (pt := 81) (pf := 19) C d2_16 (by decide) (by decide) rfl (fun _ => ?_) (fun q => absurd (by decide) q)
                      refine own_iloadN (pc' := 82) C d2_81 rfl rfl ?_
                      refine own_zret C d2_82 (by decide) (by decide) (Or.inl rfl) ?_
                      exact ⟨by simp only [own_month, if_pos hc5, if_neg hc59, if_neg hc66, if_neg hc59_2, if_neg hc66_2, if_neg hc59_3, if_neg hc66_3, if_neg hc59_4, if_neg hc66_4, if_neg hc44, if_true, if_false], rfl⟩
                    · intro hc44
                      refine own_iconst (pc' := 48) (v := (1 : Int32)) C d2_47 own_ki_1 rfl ?_
                      refine own_goto (pc' := 74) C d2_48 (by decide) (by decide) ?_
                      refine own_istoreN (pc' := 75) (y := (1 : Int32)) (Ls' := #[.val (.ref t), .val (.int (0 : Int32)), .val (.int to), .val (.int (1 : Int32)), .val (.int (4 : Int32)), .val (.int x4_)]) C d2_74 rfl rfl rfl ?_
                      refine own_iinc (pc' := 78) (v := (5 : Int32)) (Ls' := #[.val (.ref t), .val (.int (0 : Int32)), .val (.int to), .val (.int (1 : Int32)), .val (.int (5 : Int32)), .val (.int x4_)]) C d2_75 rfl (by decide) rfl rfl ?_
                      refine own_goto (pc' := 15) C d2_78 (by decide) (by decide) ?_
                      refine own_iloadN (pc' := 16) C d2_15 rfl rfl ?_
                      refine own_if_eq (pt := 81) (pf := 19) C d2_16 (by decide) (by decide) rfl (fun q => absurd q (by decide)) (fun _ => ?_)
                      refine own_iload (pc' := 21) C d2_19 rfl rfl ?_
                      refine own_bipush (pc' := 23) (v := (7 : Int32)) C d2_21 own_kb_7 rfl ?_
                      refine own_icmp_ge (pt := 81) (pf := 26) C d2_23 (by decide) (by decide) rfl (fun q => absurd (by decide) q) (fun _ => ?_)
                      refine own_aloadN (pc' := 27) C d2_26 rfl rfl rfl ?_
                      refine own_iloadN (pc' := 28) C d2_27 rfl rfl ?_
                      refine own_iload (pc' := 30) C d2_28 rfl rfl ?_
                      refine own_iadd (pc' := 31) (v := (5 : Int32)) C d2_30 (by decide) rfl ?_
                      refine own_baload (pc' := 32) (v := x5_) (i := 5) C d2_31 A_t (by decide) rfl rfl rfl ?_
                      refine own_istore (pc' := 34) (y := x5_) (Ls' := #[.val (.ref t), .val (.int (0 : Int32)), .val (.int to), .val (.int (1 : Int32)), .val (.int (5 : Int32)), .val (.int x5_)]) C d2_32 rfl rfl rfl ?_
                      refine own_iload (pc' := 36) C d2_34 rfl rfl ?_
                      refine own_iconst (pc' := 37) (v := (4 : Int32)) C d2_36 own_ki_4 rfl ?_
                      refine own_icmp_ne (pt := 55) (pf := 40) C d2_37 (by decide) (by decide) rfl (fun _ => ?_) (fun q => absurd q (by decide))
                      refine own_iload (pc' := 57) C d2_55 rfl rfl ?_
                      refine own_bipush (pc' := 59) (v := (48 : Int32)) C d2_57 own_kb_48 rfl ?_
                      refine own_icmp_lt (pt := 73) (pf := 62) C d2_59 (by decide) (by decide) rfl ?_ ?_
                      · intro hc59_5
                        refine own_iconst (pc' := 74) (v := (0 : Int32)) C d2_73 own_ki_0 rfl ?_
                        refine own_istoreN (pc' := 75) (y := (0 : Int32)) (Ls' := #[.val (.ref t), .val (.int (0 : Int32)), .val (.int to), .val (.int (0 : Int32)), .val (.int (5 : Int32)), .val (.int x5_)]) C d2_74 rfl rfl rfl ?_
                        refine own_iinc (pc' := 78) (v := (6 : Int32)) (Ls' := #[.val (.ref t), .val (.int (0 : Int32)), .val (.int to), .val (.int (0 : Int32)), .val (.int (6 : Int32)), .val (.int x5_)]) C d2_75 rfl (by decide) rfl rfl ?_
                        refine own_goto (pc' := 15) C d2_78 (by decide) (by decide) ?_
                        refine own_iloadN (pc' := 16) C d2_15 rfl rfl ?_
                        refine own_if_eq (pt := 81) (pf := 19) C d2_16 (by decide) (by decide) rfl (fun _ => ?_) (fun q => absurd (by decide) q)
                        refine own_iloadN (pc' := 82) C d2_81 rfl rfl ?_
                        refine own_zret C d2_82 (by decide) (by decide) (Or.inl rfl) ?_
                        exact ⟨by simp only [own_month, if_pos hc5, if_neg hc59, if_neg hc66, if_neg hc59_2, if_neg hc66_2, if_neg hc59_3, if_neg hc66_3, if_neg hc59_4, if_neg hc66_4, if_pos hc44, if_pos hc59_5, if_true, if_false], rfl⟩
                      · intro hc59_5
                        refine own_iload (pc' := 64) C d2_62 rfl rfl ?_
                        refine own_bipush (pc' := 66) (v := (57 : Int32)) C d2_64 own_kb_57 rfl ?_
                        refine own_icmp_gt (pt := 73) (pf := 69) C d2_66 (by decide) (by decide) rfl ?_ ?_
                        · intro hc66_5
                          refine own_iconst (pc' := 74) (v := (0 : Int32)) C d2_73 own_ki_0 rfl ?_
                          refine own_istoreN (pc' := 75) (y := (0 : Int32)) (Ls' := #[.val (.ref t), .val (.int (0 : Int32)), .val (.int to), .val (.int (0 : Int32)), .val (.int (5 : Int32)), .val (.int x5_)]) C d2_74 rfl rfl rfl ?_
                          refine own_iinc (pc' := 78) (v := (6 : Int32)) (Ls' := #[.val (.ref t), .val (.int (0 : Int32)), .val (.int to), .val (.int (0 : Int32)), .val (.int (6 : Int32)), .val (.int x5_)]) C d2_75 rfl (by decide) rfl rfl ?_
                          refine own_goto (pc' := 15) C d2_78 (by decide) (by decide) ?_
                          refine own_iloadN (pc' := 16) C d2_15 rfl rfl ?_
                          refine own_if_eq (pt := 81) (pf := 19) C d2_16 (by decide) (by decide) rfl (fun _ => ?_) (fun q => absurd (by decide) q)
                          refine own_iloadN (pc' := 82) C d2_81 rfl rfl ?_
                          refine own_zret C d2_82 (by decide) (by decide) (Or.inl rfl) ?_
                          exact ⟨by simp only [own_month, if_pos hc5, if_neg hc59, if_neg hc66, if_neg hc59_2, if_neg hc66_2, if_neg hc59_3, if_neg hc66_3, if_neg hc59_4, if_neg hc66_4, if_pos hc44, if_neg hc59_5, if_pos hc66_5, if_true, if_false], rfl⟩
                        · intro hc66_5
                          refine own_iconst (pc' := 70) (v := (1 : Int32)) C d2_69 own_ki_1 rfl ?_
                          refine own_goto (pc' := 74) C d2_70 (by decide) (by decide) ?_
                          refine own_istoreN (pc' := 75) (y := (1 : Int32)) (Ls' := #[.val (.ref t), .val (.int (0 : Int32)), .val (.int to), .val (.int (1 : Int32)), .val (.int (5 : Int32)), .val (.int x5_)]) C d2_74 rfl rfl rfl ?_
                          refine own_iinc (pc' := 78) (v := (6 : Int32)) (Ls' := #[.val (.ref t), .val (.int (0 : Int32)), .val (.int to), .val (.int (1 : Int32)), .val (.int (6 : Int32)), .val (.int x5_)]) C d2_75 rfl (by decide) rfl rfl ?_
                          refine own_goto (pc' := 15) C d2_78 (by decide) (by decide) ?_
                          refine own_iloadN (pc' := 16) C d2_15 rfl rfl ?_
                          refine own_if_eq (pt := 81) (pf := 19) C d2_16 (by decide) (by decide) rfl (fun q => absurd q (by decide)) (fun _ => ?_)
                          refine own_iload (pc' := 21) C d2_19 rfl rfl ?_
                          refine own_bipush (pc' := 23) (v := (7 : Int32)) C d2_21 own_kb_7 rfl ?_
                          refine own_icmp_ge (pt := 81) (pf := 26) C d2_23 (by decide) (by decide) rfl (fun q => absurd (by decide) q) (fun _ => ?_)
                          refine own_aloadN (pc' := 27) C d2_26 rfl rfl rfl ?_
                          refine own_iloadN (pc' := 28) C d2_27 rfl rfl ?_
                          refine own_iload (pc' := 30) C d2_28 rfl rfl ?_
                          refine own_iadd (pc' := 31) (v := (6 : Int32)) C d2_30 (by decide) rfl ?_
                          refine own_baload (pc' := 32) (v := x6_) (i := 6) C d2_31 A_t (by decide) rfl rfl rfl ?_
                          refine own_istore (pc' := 34) (y := x6_) (Ls' := #[.val (.ref t), .val (.int (0 : Int32)), .val (.int to), .val (.int (1 : Int32)), .val (.int (6 : Int32)), .val (.int x6_)]) C d2_32 rfl rfl rfl ?_
                          refine own_iload (pc' := 36) C d2_34 rfl rfl ?_
                          refine own_iconst (pc' := 37) (v := (4 : Int32)) C d2_36 own_ki_4 rfl ?_
                          refine own_icmp_ne (pt := 55) (pf := 40) C d2_37 (by decide) (by decide) rfl (fun _ => ?_) (fun q => absurd q (by decide))
                          refine own_iload (pc' := 57) C d2_55 rfl rfl ?_
                          refine own_bipush (pc' := 59) (v := (48 : Int32)) C d2_57 own_kb_48 rfl ?_
                          refine own_icmp_lt (pt := 73) (pf := 62) C d2_59 (by decide) (by decide) rfl ?_ ?_
                          · intro hc59_6
                            refine own_iconst (pc' := 74) (v := (0 : Int32)) C d2_73 own_ki_0 rfl ?_
                            refine own_istoreN (pc' := 75) (y := (0 : Int32)) (Ls' := #[.val (.ref t), .val (.int (0 : Int32)), .val (.int to), .val (.int (0 : Int32)), .val (.int (6 : Int32)), .val (.int x6_)]) C d2_74 rfl rfl rfl ?_
                            refine own_iinc (pc' := 78) (v := (7 : Int32)) (Ls' := #[.val (.ref t), .val (.int (0 : Int32)), .val (.int to), .val (.int (0 : Int32)), .val (.int (7 : Int32)), .val (.int x6_)]) C d2_75 rfl (by decide) rfl rfl ?_
                            refine own_goto (pc' := 15) C d2_78 (by decide) (by decide) ?_
                            refine own_iloadN (pc' := 16) C d2_15 rfl rfl ?_
                            refine own_if_eq (pt := 81) (pf := 19) C d2_16 (by decide) (by decide) rfl (fun _ => ?_) (fun q => absurd (by decide) q)
                            refine own_iloadN (pc' := 82) C d2_81 rfl rfl ?_
                            refine own_zret C d2_82 (by decide) (by decide) (Or.inl rfl) ?_
                            exact ⟨by simp only [own_month, if_pos hc5, if_neg hc59, if_neg hc66, if_neg hc59_2, if_neg hc66_2, if_neg hc59_3, if_neg hc66_3, if_neg hc59_4, if_neg hc66_4, if_pos hc44, if_neg hc59_5, if_neg hc66_5, if_pos hc59_6, if_true, if_false], rfl⟩
                          · intro hc59_6
                            refine own_iload (pc' := 64) C d2_62 rfl rfl ?_
                            refine own_bipush (pc' := 66) (v := (57 : Int32)) C d2_64 own_kb_57 rfl ?_
                            refine own_icmp_gt (pt := 73) (pf := 69) C d2_66 (by decide) (by decide) rfl ?_ ?_
                            · intro hc66_6
                              refine own_iconst (pc' := 74) (v := (0 : Int32)) C d2_73 own_ki_0 rfl ?_
                              refine own_istoreN (pc' := 75) (y := (0 : Int32)) (Ls' := #[.val (.ref t), .val (.int (0 : Int32)), .val (.int to), .val (.int (0 : Int32)), .val (.int (6 : Int32)), .val (.int x6_)]) C d2_74 rfl rfl rfl ?_
                              refine own_iinc (pc' := 78) (v := (7 : Int32)) (Ls' := #[.val (.ref t), .val (.int (0 : Int32)), .val (.int to), .val (.int (0 : Int32)), .val (.int (7 : Int32)), .val (.int x6_)]) C d2_75 rfl (by decide) rfl rfl ?_
                              refine own_goto (pc' := 15) C d2_78 (by decide) (by decide) ?_
                              refine own_iloadN (pc' := 16) C d2_15 rfl rfl ?_
                              refine own_if_eq (pt := 81) (pf := 19) C d2_16 (by decide) (by decide) rfl (fun _ => ?_) (fun q => absurd (by decide) q)
                              refine own_iloadN (pc' := 82) C d2_81 rfl rfl ?_
                              refine own_zret C d2_82 (by decide) (by decide) (Or.inl rfl) ?_
                              exact ⟨by simp only [own_month, if_pos hc5, if_neg hc59, if_neg hc66, if_neg hc59_2, if_neg hc66_2, if_neg hc59_3, if_neg hc66_3, if_neg hc59_4, if_neg hc66_4, if_pos hc44, if_neg hc59_5, if_neg hc66_5, if_neg hc59_6, if_pos hc66_6, if_true, if_false], rfl⟩
                            · intro hc66_6
                              refine own_iconst (pc' := 70) (v := (1 : Int32)) C d2_69 own_ki_1 rfl ?_
                              refine own_goto (pc' := 74) C d2_70 (by decide) (by decide) ?_
                              refine own_istoreN (pc' := 75) (y := (1 : Int32)) (Ls' := #[.val (.ref t), .val (.int (0 : Int32)), .val (.int to), .val (.int (1 : Int32)), .val (.int (6 : Int32)), .val (.int x6_)]) C d2_74 rfl rfl rfl ?_
                              refine own_iinc (pc' := 78) (v := (7 : Int32)) (Ls' := #[.val (.ref t), .val (.int (0 : Int32)), .val (.int to), .val (.int (1 : Int32)), .val (.int (7 : Int32)), .val (.int x6_)]) C d2_75 rfl (by decide) rfl rfl ?_
                              refine own_goto (pc' := 15) C d2_78 (by decide) (by decide) ?_
                              refine own_iloadN (pc' := 16) C d2_15 rfl rfl ?_
                              refine own_if_eq (pt := 81) (pf := 19) C d2_16 (by decide) (by decide) rfl (fun q => absurd q (by decide)) (fun _ => ?_)
                              refine own_iload (pc' := 21) C d2_19 rfl rfl ?_
                              refine own_bipush (pc' := 23) (v := (7 : Int32)) C d2_21 own_kb_7 rfl ?_
                              refine own_icmp_ge (pt := 81) (pf := 26) C d2_23 (by decide) (by decide) rfl (fun _ => ?_) (fun q => absurd q (by decide))
                              refine own_iloadN (pc' := 82) C d2_81 rfl rfl ?_
                              refine own_zret C d2_82 (by decide) (by decide) (Or.inr rfl) ?_
                              exact ⟨by simp only [own_month, if_pos hc5, if_neg hc59, if_neg hc66, if_neg hc59_2, if_neg hc66_2, if_neg hc59_3, if_neg hc66_3, if_neg hc59_4, if_neg hc66_4, if_pos hc44, if_neg hc59_5, if_neg hc66_5, if_neg hc59_6, if_neg hc66_6, if_true, if_false], rfl⟩
  · intro hc5
    refine own_iconst (pc' := 9) (v := (0 : Int32)) C d2_8 own_ki_0 rfl ?_
    refine own_zret C d2_9 (by decide) (by decide) (Or.inl rfl) ?_
    exact ⟨by simp only [own_month, if_neg hc5, if_true, if_false], rfl⟩

set_option maxRecDepth 65536 in
set_option maxHeartbeats 40000000 in
theorem own_isM1 (l : Launch) (Z : State) (a0 : Array Value) (hw : ∀ d ∈ tables_1, d.before a0 Z = true) (t : Addr) (to : Int32) (x0_ x1_ x2_ x3_ x4_ x5_ x6_ x7_ x8_ : Int32) (h0 : Heap) (n0 : Nat) (Z_ : n0 ≤ h0.size) (A_t : AI Z h0 t .byte [x0_, x1_, x2_, x3_, x4_, x5_, x6_, x7_, x8_]) :
    Met l (⟨"com/example/vestwork/vestwork/io/PlainDates", "isMonth", "([BII)Z"⟩ : MethodName) prog_99_method_3_code 6 (some .boolean) [] ({ frames := 0, cells := 0, slots := 0, locals := 0 } : Room) Z n0 #[(.ref t), (.int (1 : Int32)), (.int to)] h0 (fun v h => v = some (.int (own_month (to - 1) x1_ x2_ x3_ x4_ x5_ x6_ x7_)) ∧ h0 = h) := by
  refine own_met pn2 (fun m => ef2 m t (1 : Int32) to) ?_
  intro p e s m below meth c C
  refine own_iloadN (pc' := 1) C d2_0 rfl rfl ?_
  refine own_iloadN (pc' := 2) C d2_1 rfl rfl ?_
  refine own_isub (pc' := 3) C d2_2 rfl rfl ?_
  refine own_bipush (pc' := 5) (v := (7 : Int32)) C d2_3 own_kb_7 rfl ?_
  refine own_icmp_eq (pt := 10) (pf := 8) C d2_5 (by decide) (by decide) rfl ?_ ?_
  · intro hc5
    refine own_iconst (pc' := 11) (v := (1 : Int32)) C d2_10 own_ki_1 rfl ?_
    refine own_istoreN (pc' := 12) (y := (1 : Int32)) (Ls' := #[.val (.ref t), .val (.int (1 : Int32)), .val (.int to), .val (.int (1 : Int32)), .unset, .unset]) C d2_11 rfl rfl rfl ?_
    refine own_iconst (pc' := 13) (v := (0 : Int32)) C d2_12 own_ki_0 rfl ?_
    refine own_istore (pc' := 15) (y := (0 : Int32)) (Ls' := #[.val (.ref t), .val (.int (1 : Int32)), .val (.int to), .val (.int (1 : Int32)), .val (.int (0 : Int32)), .unset]) C d2_13 rfl rfl rfl ?_
    refine own_iloadN (pc' := 16) C d2_15 rfl rfl ?_
    refine own_if_eq (pt := 81) (pf := 19) C d2_16 (by decide) (by decide) rfl (fun q => absurd q (by decide)) (fun _ => ?_)
    refine own_iload (pc' := 21) C d2_19 rfl rfl ?_
    refine own_bipush (pc' := 23) (v := (7 : Int32)) C d2_21 own_kb_7 rfl ?_
    refine own_icmp_ge (pt := 81) (pf := 26) C d2_23 (by decide) (by decide) rfl (fun q => absurd (by decide) q) (fun _ => ?_)
    refine own_aloadN (pc' := 27) C d2_26 rfl rfl rfl ?_
    refine own_iloadN (pc' := 28) C d2_27 rfl rfl ?_
    refine own_iload (pc' := 30) C d2_28 rfl rfl ?_
    refine own_iadd (pc' := 31) (v := (1 : Int32)) C d2_30 (by decide) rfl ?_
    refine own_baload (pc' := 32) (v := x1_) (i := 1) C d2_31 A_t (by decide) rfl rfl rfl ?_
    refine own_istore (pc' := 34) (y := x1_) (Ls' := #[.val (.ref t), .val (.int (1 : Int32)), .val (.int to), .val (.int (1 : Int32)), .val (.int (0 : Int32)), .val (.int x1_)]) C d2_32 rfl rfl rfl ?_
    refine own_iload (pc' := 36) C d2_34 rfl rfl ?_
    refine own_iconst (pc' := 37) (v := (4 : Int32)) C d2_36 own_ki_4 rfl ?_
    refine own_icmp_ne (pt := 55) (pf := 40) C d2_37 (by decide) (by decide) rfl (fun _ => ?_) (fun q => absurd q (by decide))
    refine own_iload (pc' := 57) C d2_55 rfl rfl ?_
    refine own_bipush (pc' := 59) (v := (48 : Int32)) C d2_57 own_kb_48 rfl ?_
    refine own_icmp_lt (pt := 73) (pf := 62) C d2_59 (by decide) (by decide) rfl ?_ ?_
    · intro hc59
      refine own_iconst (pc' := 74) (v := (0 : Int32)) C d2_73 own_ki_0 rfl ?_
      refine own_istoreN (pc' := 75) (y := (0 : Int32)) (Ls' := #[.val (.ref t), .val (.int (1 : Int32)), .val (.int to), .val (.int (0 : Int32)), .val (.int (0 : Int32)), .val (.int x1_)]) C d2_74 rfl rfl rfl ?_
      refine own_iinc (pc' := 78) (v := (1 : Int32)) (Ls' := #[.val (.ref t), .val (.int (1 : Int32)), .val (.int to), .val (.int (0 : Int32)), .val (.int (1 : Int32)), .val (.int x1_)]) C d2_75 rfl (by decide) rfl rfl ?_
      refine own_goto (pc' := 15) C d2_78 (by decide) (by decide) ?_
      refine own_iloadN (pc' := 16) C d2_15 rfl rfl ?_
      refine own_if_eq (pt := 81) (pf := 19) C d2_16 (by decide) (by decide) rfl (fun _ => ?_) (fun q => absurd (by decide) q)
      refine own_iloadN (pc' := 82) C d2_81 rfl rfl ?_
      refine own_zret C d2_82 (by decide) (by decide) (Or.inl rfl) ?_
      exact ⟨by simp only [own_month, if_pos hc5, if_pos hc59, if_true, if_false], rfl⟩
    · intro hc59
      refine own_iload (pc' := 64) C d2_62 rfl rfl ?_
      refine own_bipush (pc' := 66) (v := (57 : Int32)) C d2_64 own_kb_57 rfl ?_
      refine own_icmp_gt (pt := 73) (pf := 69) C d2_66 (by decide) (by decide) rfl ?_ ?_
      · intro hc66
        refine own_iconst (pc' := 74) (v := (0 : Int32)) C d2_73 own_ki_0 rfl ?_
        refine own_istoreN (pc' := 75) (y := (0 : Int32)) (Ls' := #[.val (.ref t), .val (.int (1 : Int32)), .val (.int to), .val (.int (0 : Int32)), .val (.int (0 : Int32)), .val (.int x1_)]) C d2_74 rfl rfl rfl ?_
        refine own_iinc (pc' := 78) (v := (1 : Int32)) (Ls' := #[.val (.ref t), .val (.int (1 : Int32)), .val (.int to), .val (.int (0 : Int32)), .val (.int (1 : Int32)), .val (.int x1_)]) C d2_75 rfl (by decide) rfl rfl ?_
        refine own_goto (pc' := 15) C d2_78 (by decide) (by decide) ?_
        refine own_iloadN (pc' := 16) C d2_15 rfl rfl ?_
        refine own_if_eq (pt := 81) (pf := 19) C d2_16 (by decide) (by decide) rfl (fun _ => ?_) (fun q => absurd (by decide) q)
        refine own_iloadN (pc' := 82) C d2_81 rfl rfl ?_
        refine own_zret C d2_82 (by decide) (by decide) (Or.inl rfl) ?_
        exact ⟨by simp only [own_month, if_pos hc5, if_neg hc59, if_pos hc66, if_true, if_false], rfl⟩
      · intro hc66
        refine own_iconst (pc' := 70) (v := (1 : Int32)) C d2_69 own_ki_1 rfl ?_
        refine own_goto (pc' := 74) C d2_70 (by decide) (by decide) ?_
        refine own_istoreN (pc' := 75) (y := (1 : Int32)) (Ls' := #[.val (.ref t), .val (.int (1 : Int32)), .val (.int to), .val (.int (1 : Int32)), .val (.int (0 : Int32)), .val (.int x1_)]) C d2_74 rfl rfl rfl ?_
        refine own_iinc (pc' := 78) (v := (1 : Int32)) (Ls' := #[.val (.ref t), .val (.int (1 : Int32)), .val (.int to), .val (.int (1 : Int32)), .val (.int (1 : Int32)), .val (.int x1_)]) C d2_75 rfl (by decide) rfl rfl ?_
        refine own_goto (pc' := 15) C d2_78 (by decide) (by decide) ?_
        refine own_iloadN (pc' := 16) C d2_15 rfl rfl ?_
        refine own_if_eq (pt := 81) (pf := 19) C d2_16 (by decide) (by decide) rfl (fun q => absurd q (by decide)) (fun _ => ?_)
        refine own_iload (pc' := 21) C d2_19 rfl rfl ?_
        refine own_bipush (pc' := 23) (v := (7 : Int32)) C d2_21 own_kb_7 rfl ?_
        refine own_icmp_ge (pt := 81) (pf := 26) C d2_23 (by decide) (by decide) rfl (fun q => absurd (by decide) q) (fun _ => ?_)
        refine own_aloadN (pc' := 27) C d2_26 rfl rfl rfl ?_
        refine own_iloadN (pc' := 28) C d2_27 rfl rfl ?_
        refine own_iload (pc' := 30) C d2_28 rfl rfl ?_
        refine own_iadd (pc' := 31) (v := (2 : Int32)) C d2_30 (by decide) rfl ?_
        refine own_baload (pc' := 32) (v := x2_) (i := 2) C d2_31 A_t (by decide) rfl rfl rfl ?_
        refine own_istore (pc' := 34) (y := x2_) (Ls' := #[.val (.ref t), .val (.int (1 : Int32)), .val (.int to), .val (.int (1 : Int32)), .val (.int (1 : Int32)), .val (.int x2_)]) C d2_32 rfl rfl rfl ?_
        refine own_iload (pc' := 36) C d2_34 rfl rfl ?_
        refine own_iconst (pc' := 37) (v := (4 : Int32)) C d2_36 own_ki_4 rfl ?_
        refine own_icmp_ne (pt := 55) (pf := 40) C d2_37 (by decide) (by decide) rfl (fun _ => ?_) (fun q => absurd q (by decide))
        refine own_iload (pc' := 57) C d2_55 rfl rfl ?_
        refine own_bipush (pc' := 59) (v := (48 : Int32)) C d2_57 own_kb_48 rfl ?_
        refine own_icmp_lt (pt := 73) (pf := 62) C d2_59 (by decide) (by decide) rfl ?_ ?_
        · intro hc59_2
          refine own_iconst (pc' := 74) (v := (0 : Int32)) C d2_73 own_ki_0 rfl ?_
          refine own_istoreN (pc' := 75) (y := (0 : Int32)) (Ls' := #[.val (.ref t), .val (.int (1 : Int32)), .val (.int to), .val (.int (0 : Int32)), .val (.int (1 : Int32)), .val (.int x2_)]) C d2_74 rfl rfl rfl ?_
          refine own_iinc (pc' := 78) (v := (2 : Int32)) (Ls' := #[.val (.ref t), .val (.int (1 : Int32)), .val (.int to), .val (.int (0 : Int32)), .val (.int (2 : Int32)), .val (.int x2_)]) C d2_75 rfl (by decide) rfl rfl ?_
          refine own_goto (pc' := 15) C d2_78 (by decide) (by decide) ?_
          refine own_iloadN (pc' := 16) C d2_15 rfl rfl ?_
          refine own_if_eq (pt := 81) (pf := 19) C d2_16 (by decide) (by decide) rfl (fun _ => ?_) (fun q => absurd (by decide) q)
          refine own_iloadN (pc' := 82) C d2_81 rfl rfl ?_
          refine own_zret C d2_82 (by decide) (by decide) (Or.inl rfl) ?_
          exact ⟨by simp only [own_month, if_pos hc5, if_neg hc59, if_neg hc66, if_pos hc59_2, if_true, if_false], rfl⟩
        · intro hc59_2
          refine own_iload (pc' := 64) C d2_62 rfl rfl ?_
          refine own_bipush (pc' := 66) (v := (57 : Int32)) C d2_64 own_kb_57 rfl ?_
          refine own_icmp_gt (pt := 73) (pf := 69) C d2_66 (by decide) (by decide) rfl ?_ ?_
          · intro hc66_2
            refine own_iconst (pc' := 74) (v := (0 : Int32)) C d2_73 own_ki_0 rfl ?_
            refine own_istoreN (pc' := 75) (y := (0 : Int32)) (Ls' := #[.val (.ref t), .val (.int (1 : Int32)), .val (.int to), .val (.int (0 : Int32)), .val (.int (1 : Int32)), .val (.int x2_)]) C d2_74 rfl rfl rfl ?_
            refine own_iinc (pc' := 78) (v := (2 : Int32)) (Ls' := #[.val (.ref t), .val (.int (1 : Int32)), .val (.int to), .val (.int (0 : Int32)), .val (.int (2 : Int32)), .val (.int x2_)]) C d2_75 rfl (by decide) rfl rfl ?_
            refine own_goto (pc' := 15) C d2_78 (by decide) (by decide) ?_
            refine own_iloadN (pc' := 16) C d2_15 rfl rfl ?_
            refine own_if_eq (pt := 81) (pf := 19) C d2_16 (by decide) (by decide) rfl (fun _ => ?_) (fun q => absurd (by decide) q)
            refine own_iloadN (pc' := 82) C d2_81 rfl rfl ?_
            refine own_zret C d2_82 (by decide) (by decide) (Or.inl rfl) ?_
            exact ⟨by simp only [own_month, if_pos hc5, if_neg hc59, if_neg hc66, if_neg hc59_2, if_pos hc66_2, if_true, if_false], rfl⟩
          · intro hc66_2
            refine own_iconst (pc' := 70) (v := (1 : Int32)) C d2_69 own_ki_1 rfl ?_
            refine own_goto (pc' := 74) C d2_70 (by decide) (by decide) ?_
            refine own_istoreN (pc' := 75) (y := (1 : Int32)) (Ls' := #[.val (.ref t), .val (.int (1 : Int32)), .val (.int to), .val (.int (1 : Int32)), .val (.int (1 : Int32)), .val (.int x2_)]) C d2_74 rfl rfl rfl ?_
            refine own_iinc (pc' := 78) (v := (2 : Int32)) (Ls' := #[.val (.ref t), .val (.int (1 : Int32)), .val (.int to), .val (.int (1 : Int32)), .val (.int (2 : Int32)), .val (.int x2_)]) C d2_75 rfl (by decide) rfl rfl ?_
            refine own_goto (pc' := 15) C d2_78 (by decide) (by decide) ?_
            refine own_iloadN (pc' := 16) C d2_15 rfl rfl ?_
            refine own_if_eq (pt := 81) (pf := 19) C d2_16 (by decide) (by decide) rfl (fun q => absurd q (by decide)) (fun _ => ?_)
            refine own_iload (pc' := 21) C d2_19 rfl rfl ?_
            refine own_bipush (pc' := 23) (v := (7 : Int32)) C d2_21 own_kb_7 rfl ?_
            refine own_icmp_ge (pt := 81) (pf := 26) C d2_23 (by decide) (by decide) rfl (fun q => absurd (by decide) q) (fun _ => ?_)
            refine own_aloadN (pc' := 27) C d2_26 rfl rfl rfl ?_
            refine own_iloadN (pc' := 28) C d2_27 rfl rfl ?_
            refine own_iload (pc' := 30) C d2_28 rfl rfl ?_
            refine own_iadd (pc' := 31) (v := (3 : Int32)) C d2_30 (by decide) rfl ?_
            refine own_baload (pc' := 32) (v := x3_) (i := 3) C d2_31 A_t (by decide) rfl rfl rfl ?_
            refine own_istore (pc' := 34) (y := x3_) (Ls' := #[.val (.ref t), .val (.int (1 : Int32)), .val (.int to), .val (.int (1 : Int32)), .val (.int (2 : Int32)), .val (.int x3_)]) C d2_32 rfl rfl rfl ?_
            refine own_iload (pc' := 36) C d2_34 rfl rfl ?_
            refine own_iconst (pc' := 37) (v := (4 : Int32)) C d2_36 own_ki_4 rfl ?_
            refine own_icmp_ne (pt := 55) (pf := 40) C d2_37 (by decide) (by decide) rfl (fun _ => ?_) (fun q => absurd q (by decide))
            refine own_iload (pc' := 57) C d2_55 rfl rfl ?_
            refine own_bipush (pc' := 59) (v := (48 : Int32)) C d2_57 own_kb_48 rfl ?_
            refine own_icmp_lt (pt := 73) (pf := 62) C d2_59 (by decide) (by decide) rfl ?_ ?_
            · intro hc59_3
              refine own_iconst (pc' := 74) (v := (0 : Int32)) C d2_73 own_ki_0 rfl ?_
              refine own_istoreN (pc' := 75) (y := (0 : Int32)) (Ls' := #[.val (.ref t), .val (.int (1 : Int32)), .val (.int to), .val (.int (0 : Int32)), .val (.int (2 : Int32)), .val (.int x3_)]) C d2_74 rfl rfl rfl ?_
              refine own_iinc (pc' := 78) (v := (3 : Int32)) (Ls' := #[.val (.ref t), .val (.int (1 : Int32)), .val (.int to), .val (.int (0 : Int32)), .val (.int (3 : Int32)), .val (.int x3_)]) C d2_75 rfl (by decide) rfl rfl ?_
              refine own_goto (pc' := 15) C d2_78 (by decide) (by decide) ?_
              refine own_iloadN (pc' := 16) C d2_15 rfl rfl ?_
              refine own_if_eq (pt := 81) (pf := 19) C d2_16 (by decide) (by decide) rfl (fun _ => ?_) (fun q => absurd (by decide) q)
              refine own_iloadN (pc' := 82) C d2_81 rfl rfl ?_
              refine own_zret C d2_82 (by decide) (by decide) (Or.inl rfl) ?_
              exact ⟨by simp only [own_month, if_pos hc5, if_neg hc59, if_neg hc66, if_neg hc59_2, if_neg hc66_2, if_pos hc59_3, if_true, if_false], rfl⟩
            · intro hc59_3
              refine own_iload (pc' := 64) C d2_62 rfl rfl ?_
              refine own_bipush (pc' := 66) (v := (57 : Int32)) C d2_64 own_kb_57 rfl ?_
              refine own_icmp_gt (pt := 73) (pf := 69) C d2_66 (by decide) (by decide) rfl ?_ ?_
              · intro hc66_3
                refine own_iconst (pc' := 74) (v := (0 : Int32)) C d2_73 own_ki_0 rfl ?_
                refine own_istoreN (pc' := 75) (y := (0 : Int32)) (Ls' := #[.val (.ref t), .val (.int (1 : Int32)), .val (.int to), .val (.int (0 : Int32)), .val (.int (2 : Int32)), .val (.int x3_)]) C d2_74 rfl rfl rfl ?_
                refine own_iinc (pc' := 78) (v := (3 : Int32)) (Ls' := #[.val (.ref t), .val (.int (1 : Int32)), .val (.int to), .val (.int (0 : Int32)), .val (.int (3 : Int32)), .val (.int x3_)]) C d2_75 rfl (by decide) rfl rfl ?_
                refine own_goto (pc' := 15) C d2_78 (by decide) (by decide) ?_
                refine own_iloadN (pc' := 16) C d2_15 rfl rfl ?_
                refine own_if_eq (pt := 81) (pf := 19) C d2_16 (by decide) (by decide) rfl (fun _ => ?_) (fun q => absurd (by decide) q)
                refine own_iloadN (pc' := 82) C d2_81 rfl rfl ?_
                refine own_zret C d2_82 (by decide) (by decide) (Or.inl rfl) ?_
                exact ⟨by simp only [own_month, if_pos hc5, if_neg hc59, if_neg hc66, if_neg hc59_2, if_neg hc66_2, if_neg hc59_3, if_pos hc66_3, if_true, if_false], rfl⟩
              · intro hc66_3
                refine own_iconst (pc' := 70) (v := (1 : Int32)) C d2_69 own_ki_1 rfl ?_
                refine own_goto (pc' := 74) C d2_70 (by decide) (by decide) ?_
                refine own_istoreN (pc' := 75) (y := (1 : Int32)) (Ls' := #[.val (.ref t), .val (.int (1 : Int32)), .val (.int to), .val (.int (1 : Int32)), .val (.int (2 : Int32)), .val (.int x3_)]) C d2_74 rfl rfl rfl ?_
                refine own_iinc (pc' := 78) (v := (3 : Int32)) (Ls' := #[.val (.ref t), .val (.int (1 : Int32)), .val (.int to), .val (.int (1 : Int32)), .val (.int (3 : Int32)), .val (.int x3_)]) C d2_75 rfl (by decide) rfl rfl ?_
                refine own_goto (pc' := 15) C d2_78 (by decide) (by decide) ?_
                refine own_iloadN (pc' := 16) C d2_15 rfl rfl ?_
                refine own_if_eq (pt := 81) (pf := 19) C d2_16 (by decide) (by decide) rfl (fun q => absurd q (by decide)) (fun _ => ?_)
                refine own_iload (pc' := 21) C d2_19 rfl rfl ?_
                refine own_bipush (pc' := 23) (v := (7 : Int32)) C d2_21 own_kb_7 rfl ?_
                refine own_icmp_ge (pt := 81) (pf := 26) C d2_23 (by decide) (by decide) rfl (fun q => absurd (by decide) q) (fun _ => ?_)
                refine own_aloadN (pc' := 27) C d2_26 rfl rfl rfl ?_
                refine own_iloadN (pc' := 28) C d2_27 rfl rfl ?_
                refine own_iload (pc' := 30) C d2_28 rfl rfl ?_
                refine own_iadd (pc' := 31) (v := (4 : Int32)) C d2_30 (by decide) rfl ?_
                refine own_baload (pc' := 32) (v := x4_) (i := 4) C d2_31 A_t (by decide) rfl rfl rfl ?_
                refine own_istore (pc' := 34) (y := x4_) (Ls' := #[.val (.ref t), .val (.int (1 : Int32)), .val (.int to), .val (.int (1 : Int32)), .val (.int (3 : Int32)), .val (.int x4_)]) C d2_32 rfl rfl rfl ?_
                refine own_iload (pc' := 36) C d2_34 rfl rfl ?_
                refine own_iconst (pc' := 37) (v := (4 : Int32)) C d2_36 own_ki_4 rfl ?_
                refine own_icmp_ne (pt := 55) (pf := 40) C d2_37 (by decide) (by decide) rfl (fun _ => ?_) (fun q => absurd q (by decide))
                refine own_iload (pc' := 57) C d2_55 rfl rfl ?_
                refine own_bipush (pc' := 59) (v := (48 : Int32)) C d2_57 own_kb_48 rfl ?_
                refine own_icmp_lt (pt := 73) (pf := 62) C d2_59 (by decide) (by decide) rfl ?_ ?_
                · intro hc59_4
                  refine own_iconst (pc' := 74) (v := (0 : Int32)) C d2_73 own_ki_0 rfl ?_
                  refine own_istoreN (pc' := 75) (y := (0 : Int32)) (Ls' := #[.val (.ref t), .val (.int (1 : Int32)), .val (.int to), .val (.int (0 : Int32)), .val (.int (3 : Int32)), .val (.int x4_)]) C d2_74 rfl rfl rfl ?_
                  refine own_iinc (pc' := 78) (v := (4 : Int32)) (Ls' := #[.val (.ref t), .val (.int (1 : Int32)), .val (.int to), .val (.int (0 : Int32)), .val (.int (4 : Int32)), .val (.int x4_)]) C d2_75 rfl (by decide) rfl rfl ?_
                  refine own_goto (pc' := 15) C d2_78 (by decide) (by decide) ?_
                  refine own_iloadN (pc' := 16) C d2_15 rfl rfl ?_
                  refine own_if_eq (pt := 81) (pf := 19) C d2_16 (by decide) (by decide) rfl (fun _ => ?_) (fun q => absurd (by decide) q)
                  refine own_iloadN (pc' := 82) C d2_81 rfl rfl ?_
                  refine own_zret C d2_82 (by decide) (by decide) (Or.inl rfl) ?_
                  exact ⟨by simp only [own_month, if_pos hc5, if_neg hc59, if_neg hc66, if_neg hc59_2, if_neg hc66_2, if_neg hc59_3, if_neg hc66_3, if_pos hc59_4, if_true, if_false], rfl⟩
                · intro hc59_4
                  refine own_iload (pc' := 64) C d2_62 rfl rfl ?_
                  refine own_bipush (pc' := 66) (v := (57 : Int32)) C d2_64 own_kb_57 rfl ?_
                  refine own_icmp_gt (pt := 73) (pf := 69) C d2_66 (by decide) (by decide) rfl ?_ ?_
                  · intro hc66_4
                    refine own_iconst (pc' := 74) (v := (0 : Int32)) C d2_73 own_ki_0 rfl ?_
                    refine own_istoreN (pc' := 75) (y := (0 : Int32)) (Ls' := #[.val (.ref t), .val (.int (1 : Int32)), .val (.int to), .val (.int (0 : Int32)), .val (.int (3 : Int32)), .val (.int x4_)]) C d2_74 rfl rfl rfl ?_
                    refine own_iinc (pc' := 78) (v := (4 : Int32)) (Ls' := #[.val (.ref t), .val (.int (1 : Int32)), .val (.int to), .val (.int (0 : Int32)), .val (.int (4 : Int32)), .val (.int x4_)]) C d2_75 rfl (by decide) rfl rfl ?_
                    refine own_goto (pc' := 15) C d2_78 (by decide) (by decide) ?_
                    refine own_iloadN (pc' := 16) C d2_15 rfl rfl ?_
                    refine own_if_eq (pt := 81) (pf := 19) C d2_16 (by decide) (by decide) rfl (fun _ => ?_) (fun q => absurd (by decide) q)
                    refine own_iloadN (pc' := 82) C d2_81 rfl rfl ?_
                    refine own_zret C d2_82 (by decide) (by decide) (Or.inl rfl) ?_
                    exact ⟨by simp only [own_month, if_pos hc5, if_neg hc59, if_neg hc66, if_neg hc59_2, if_neg hc66_2, if_neg hc59_3, if_neg hc66_3, if_neg hc59_4, if_pos hc66_4, if_true, if_false], rfl⟩
                  · intro hc66_4
                    refine own_iconst (pc' := 70) (v := (1 : Int32)) C d2_69 own_ki_1 rfl ?_
                    refine own_goto (pc' := 74) C d2_70 (by decide) (by decide) ?_
                    refine own_istoreN (pc' := 75) (y := (1 : Int32)) (Ls' := #[.val (.ref t), .val (.int (1 : Int32)), .val (.int to), .val (.int (1 : Int32)), .val (.int (3 : Int32)), .val (.int x4_)]) C d2_74 rfl rfl rfl ?_
                    refine own_iinc (pc' := 78) (v := (4 : Int32)) (Ls' := #[.val (.ref t), .val (.int (1 : Int32)), .val (.int to), .val (.int (1 : Int32)), .val (.int (4 : Int32)), .val (.int x4_)]) C d2_75 rfl (by decide) rfl rfl ?_
                    refine own_goto (pc' := 15) C d2_78 (by decide) (by decide) ?_
                    refine own_iloadN (pc' := 16) C d2_15 rfl rfl ?_
                    refine own_if_eq (pt := 81) (pf := 19) C d2_16 (by decide) (by decide) rfl (fun q => absurd q (by decide)) (fun _ => ?_)
                    refine own_iload (pc' := 21) C d2_19 rfl rfl ?_
                    refine own_bipush (pc' := 23) (v := (7 : Int32)) C d2_21 own_kb_7 rfl ?_
                    refine own_icmp_ge (pt := 81) (pf := 26) C d2_23 (by decide) (by decide) rfl (fun q => absurd (by decide) q) (fun _ => ?_)
                    refine own_aloadN (pc' := 27) C d2_26 rfl rfl rfl ?_
                    refine own_iloadN (pc' := 28) C d2_27 rfl rfl ?_
                    refine own_iload (pc' := 30) C d2_28 rfl rfl ?_
                    refine own_iadd (pc' := 31) (v := (5 : Int32)) C d2_30 (by decide) rfl ?_
                    refine own_baload (pc' := 32) (v := x5_) (i := 5) C d2_31 A_t (by decide) rfl rfl rfl ?_
                    refine own_istore (pc' := 34) (y := x5_) (Ls' := #[.val (.ref t), .val (.int (1 : Int32)), .val (.int to), .val (.int (1 : Int32)), .val (.int (4 : Int32)), .val (.int x5_)]) C d2_32 rfl rfl rfl ?_
                    refine own_iload (pc' := 36) C d2_34 rfl rfl ?_
                    refine own_iconst (pc' := 37) (v := (4 : Int32)) C d2_36 own_ki_4 rfl ?_
                    refine own_icmp_ne (pt := 55) (pf := 40) C d2_37 (by decide) (by decide) rfl (fun q => absurd (by decide) q) (fun _ => ?_)
                    refine own_iload (pc' := 42) C d2_40 rfl rfl ?_
                    refine own_bipush (pc' := 44) (v := (45 : Int32)) C d2_42 own_kb_45 rfl ?_
                    refine own_icmp_ne (pt := 51) (pf := 47) C d2_44 (by decide) (by decide) rfl ?_ ?_
                    · intro hc44
                      refine own_iconst (pc' := 52) (v := (0 : Int32)) C d2_51 own_ki_0 rfl ?_
                      refine own_goto (pc' := 74) C d2_52 (by decide) (by decide) ?_
                      refine own_istoreN (pc' := 75) (y := (0 : Int32)) (Ls' := #[.val (.ref t), .val (.int (1 : Int32)), .val (.int to), .val (.int (0 : Int32)), .val (.int (4 : Int32)), .val (.int x5_)]) C d2_74 rfl rfl rfl ?_
                      refine own_iinc (pc' := 78) (v := (5 : Int32)) (Ls' := #[.val (.ref t), .val (.int (1 : Int32)), .val (.int to), .val (.int (0 : Int32)), .val (.int (5 : Int32)), .val (.int x5_)]) C d2_75 rfl (by decide) rfl rfl ?_
                      refine own_goto (pc' := 15) C d2_78 (by decide) (by decide) ?_
                      refine own_iloadN (pc' := 16) C d2_15 rfl rfl ?_
                      refine own_if_eq (pt := 81) (pf := 19) C d2_16 (by decide) (by decide) rfl (fun _ => ?_) (fun q => absurd (by decide) q)
                      refine own_iloadN (pc' := 82) C d2_81 rfl rfl ?_
                      refine own_zret C d2_82 (by decide) (by decide) (Or.inl rfl) ?_
                      exact ⟨by simp only [own_month, if_pos hc5, if_neg hc59, if_neg hc66, if_neg hc59_2, if_neg hc66_2, if_neg hc59_3, if_neg hc66_3, if_neg hc59_4, if_neg hc66_4, if_neg hc44, if_true, if_false], rfl⟩
                    · intro hc44
                      refine own_iconst (pc' := 48) (v := (1 : Int32)) C d2_47 own_ki_1 rfl ?_
                      refine own_goto (pc' := 74) C d2_48 (by decide) (by decide) ?_
                      refine own_istoreN (pc' := 75) (y := (1 : Int32)) (Ls' := #[.val (.ref t), .val (.int (1 : Int32)), .val (.int to), .val (.int (1 : Int32)), .val (.int (4 : Int32)), .val (.int x5_)]) C d2_74 rfl rfl rfl ?_
                      refine own_iinc (pc' := 78) (v := (5 : Int32)) (Ls' := #[.val (.ref t), .val (.int (1 : Int32)), .val (.int to), .val (.int (1 : Int32)), .val (.int (5 : Int32)), .val (.int x5_)]) C d2_75 rfl (by decide) rfl rfl ?_
                      refine own_goto (pc' := 15) C d2_78 (by decide) (by decide) ?_
                      refine own_iloadN (pc' := 16) C d2_15 rfl rfl ?_
                      refine own_if_eq (pt := 81) (pf := 19) C d2_16 (by decide) (by decide) rfl (fun q => absurd q (by decide)) (fun _ => ?_)
                      refine own_iload (pc' := 21) C d2_19 rfl rfl ?_
                      refine own_bipush (pc' := 23) (v := (7 : Int32)) C d2_21 own_kb_7 rfl ?_
                      refine own_icmp_ge (pt := 81) (pf := 26) C d2_23 (by decide) (by decide) rfl (fun q => absurd (by decide) q) (fun _ => ?_)
                      refine own_aloadN (pc' := 27) C d2_26 rfl rfl rfl ?_
                      refine own_iloadN (pc' := 28) C d2_27 rfl rfl ?_
                      refine own_iload (pc' := 30) C d2_28 rfl rfl ?_
                      refine own_iadd (pc' := 31) (v := (6 : Int32)) C d2_30 (by decide) rfl ?_
                      refine own_baload (pc' := 32) (v := x6_) (i := 6) C d2_31 A_t (by decide) rfl rfl rfl ?_
                      refine own_istore (pc' := 34) (y := x6_) (Ls' := #[.val (.ref t), .val (.int (1 : Int32)), .val (.int to), .val (.int (1 : Int32)), .val (.int (5 : Int32)), .val (.int x6_)]) C d2_32 rfl rfl rfl ?_
                      refine own_iload (pc' := 36) C d2_34 rfl rfl ?_
                      refine own_iconst (pc' := 37) (v := (4 : Int32)) C d2_36 own_ki_4 rfl ?_
                      refine own_icmp_ne (pt := 55) (pf := 40) C d2_37 (by decide) (by decide) rfl (fun _ => ?_) (fun q => absurd q (by decide))
                      refine own_iload (pc' := 57) C d2_55 rfl rfl ?_
                      refine own_bipush (pc' := 59) (v := (48 : Int32)) C d2_57 own_kb_48 rfl ?_
                      refine own_icmp_lt (pt := 73) (pf := 62) C d2_59 (by decide) (by decide) rfl ?_ ?_
                      · intro hc59_5
                        refine own_iconst (pc' := 74) (v := (0 : Int32)) C d2_73 own_ki_0 rfl ?_
                        refine own_istoreN (pc' := 75) (y := (0 : Int32)) (Ls' := #[.val (.ref t), .val (.int (1 : Int32)), .val (.int to), .val (.int (0 : Int32)), .val (.int (5 : Int32)), .val (.int x6_)]) C d2_74 rfl rfl rfl ?_
                        refine own_iinc (pc' := 78) (v := (6 : Int32)) (Ls' := #[.val (.ref t), .val (.int (1 : Int32)), .val (.int to), .val (.int (0 : Int32)), .val (.int (6 : Int32)), .val (.int x6_)]) C d2_75 rfl (by decide) rfl rfl ?_
                        refine own_goto (pc' := 15) C d2_78 (by decide) (by decide) ?_
                        refine own_iloadN (pc' := 16) C d2_15 rfl rfl ?_
                        refine own_if_eq (pt := 81) (pf := 19) C d2_16 (by decide) (by decide) rfl (fun _ => ?_) (fun q => absurd (by decide) q)
                        refine own_iloadN (pc' := 82) C d2_81 rfl rfl ?_
                        refine own_zret C d2_82 (by decide) (by decide) (Or.inl rfl) ?_
                        exact ⟨by simp only [own_month, if_pos hc5, if_neg hc59, if_neg hc66, if_neg hc59_2, if_neg hc66_2, if_neg hc59_3, if_neg hc66_3, if_neg hc59_4, if_neg hc66_4, if_pos hc44, if_pos hc59_5, if_true, if_false], rfl⟩
                      · intro hc59_5
                        refine own_iload (pc' := 64) C d2_62 rfl rfl ?_
                        refine own_bipush (pc' := 66) (v := (57 : Int32)) C d2_64 own_kb_57 rfl ?_
                        refine own_icmp_gt (pt := 73) (pf := 69) C d2_66 (by decide) (by decide) rfl ?_ ?_
                        · intro hc66_5
                          refine own_iconst (pc' := 74) (v := (0 : Int32)) C d2_73 own_ki_0 rfl ?_
                          refine own_istoreN (pc' := 75) (y := (0 : Int32)) (Ls' := #[.val (.ref t), .val (.int (1 : Int32)), .val (.int to), .val (.int (0 : Int32)), .val (.int (5 : Int32)), .val (.int x6_)]) C d2_74 rfl rfl rfl ?_
                          refine own_iinc (pc' := 78) (v := (6 : Int32)) (Ls' := #[.val (.ref t), .val (.int (1 : Int32)), .val (.int to), .val (.int (0 : Int32)), .val (.int (6 : Int32)), .val (.int x6_)]) C d2_75 rfl (by decide) rfl rfl ?_
                          refine own_goto (pc' := 15) C d2_78 (by decide) (by decide) ?_
                          refine own_iloadN (pc' := 16) C d2_15 rfl rfl ?_
                          refine own_if_eq (pt := 81) (pf := 19) C d2_16 (by decide) (by decide) rfl (fun _ => ?_) (fun q => absurd (by decide) q)
                          refine own_iloadN (pc' := 82) C d2_81 rfl rfl ?_
                          refine own_zret C d2_82 (by decide) (by decide) (Or.inl rfl) ?_
                          exact ⟨by simp only [own_month, if_pos hc5, if_neg hc59, if_neg hc66, if_neg hc59_2, if_neg hc66_2, if_neg hc59_3, if_neg hc66_3, if_neg hc59_4, if_neg hc66_4, if_pos hc44, if_neg hc59_5, if_pos hc66_5, if_true, if_false], rfl⟩
                        · intro hc66_5
                          refine own_iconst (pc' := 70) (v := (1 : Int32)) C d2_69 own_ki_1 rfl ?_
                          refine own_goto (pc' := 74) C d2_70 (by decide) (by decide) ?_
                          refine own_istoreN (pc' := 75) (y := (1 : Int32)) (Ls' := #[.val (.ref t), .val (.int (1 : Int32)), .val (.int to), .val (.int (1 : Int32)), .val (.int (5 : Int32)), .val (.int x6_)]) C d2_74 rfl rfl rfl ?_
                          refine own_iinc (pc' := 78) (v := (6 : Int32)) (Ls' := #[.val (.ref t), .val (.int (1 : Int32)), .val (.int to), .val (.int (1 : Int32)), .val (.int (6 : Int32)), .val (.int x6_)]) C d2_75 rfl (by decide) rfl rfl ?_
                          refine own_goto (pc' := 15) C d2_78 (by decide) (by decide) ?_
                          refine own_iloadN (pc' := 16) C d2_15 rfl rfl ?_
                          refine own_if_eq (pt := 81) (pf := 19) C d2_16 (by decide) (by decide) rfl (fun q => absurd q (by decide)) (fun _ => ?_)
                          refine own_iload (pc' := 21) C d2_19 rfl rfl ?_
                          refine own_bipush (pc' := 23) (v := (7 : Int32)) C d2_21 own_kb_7 rfl ?_
                          refine own_icmp_ge (pt := 81) (pf := 26) C d2_23 (by decide) (by decide) rfl (fun q => absurd (by decide) q) (fun _ => ?_)
                          refine own_aloadN (pc' := 27) C d2_26 rfl rfl rfl ?_
                          refine own_iloadN (pc' := 28) C d2_27 rfl rfl ?_
                          refine own_iload (pc' := 30) C d2_28 rfl rfl ?_
                          refine own_iadd (pc' := 31) (v := (7 : Int32)) C d2_30 (by decide) rfl ?_
                          refine own_baload (pc' := 32) (v := x7_) (i := 7) C d2_31 A_t (by decide) rfl rfl rfl ?_
                          refine own_istore (pc' := 34) (y := x7_) (Ls' := #[.val (.ref t), .val (.int (1 : Int32)), .val (.int to), .val (.int (1 : Int32)), .val (.int (6 : Int32)), .val (.int x7_)]) C d2_32 rfl rfl rfl ?_
                          refine own_iload (pc' := 36) C d2_34 rfl rfl ?_
                          refine own_iconst (pc' := 37) (v := (4 : Int32)) C d2_36 own_ki_4 rfl ?_
                          refine own_icmp_ne (pt := 55) (pf := 40) C d2_37 (by decide) (by decide) rfl (fun _ => ?_) (fun q => absurd q (by decide))
                          refine own_iload (pc' := 57) C d2_55 rfl rfl ?_
                          refine own_bipush (pc' := 59) (v := (48 : Int32)) C d2_57 own_kb_48 rfl ?_
                          refine own_icmp_lt (pt := 73) (pf := 62) C d2_59 (by decide) (by decide) rfl ?_ ?_
                          · intro hc59_6
                            refine own_iconst (pc' := 74) (v := (0 : Int32)) C d2_73 own_ki_0 rfl ?_
                            refine own_istoreN (pc' := 75) (y := (0 : Int32)) (Ls' := #[.val (.ref t), .val (.int (1 : Int32)), .val (.int to), .val (.int (0 : Int32)), .val (.int (6 : Int32)), .val (.int x7_)]) C d2_74 rfl rfl rfl ?_
                            refine own_iinc (pc' := 78) (v := (7 : Int32)) (Ls' := #[.val (.ref t), .val (.int (1 : Int32)), .val (.int to), .val (.int (0 : Int32)), .val (.int (7 : Int32)), .val (.int x7_)]) C d2_75 rfl (by decide) rfl rfl ?_
                            refine own_goto (pc' := 15) C d2_78 (by decide) (by decide) ?_
                            refine own_iloadN (pc' := 16) C d2_15 rfl rfl ?_
                            refine own_if_eq (pt := 81) (pf := 19) C d2_16 (by decide) (by decide) rfl (fun _ => ?_) (fun q => absurd (by decide) q)
                            refine own_iloadN (pc' := 82) C d2_81 rfl rfl ?_
                            refine own_zret C d2_82 (by decide) (by decide) (Or.inl rfl) ?_
                            exact ⟨by simp only [own_month, if_pos hc5, if_neg hc59, if_neg hc66, if_neg hc59_2, if_neg hc66_2, if_neg hc59_3, if_neg hc66_3, if_neg hc59_4, if_neg hc66_4, if_pos hc44, if_neg hc59_5, if_neg hc66_5, if_pos hc59_6, if_true, if_false], rfl⟩
                          · intro hc59_6
                            refine own_iload (pc' := 64) C d2_62 rfl rfl ?_
                            refine own_bipush (pc' := 66) (v := (57 : Int32)) C d2_64 own_kb_57 rfl ?_
                            refine own_icmp_gt (pt := 73) (pf := 69) C d2_66 (by decide) (by decide) rfl ?_ ?_
                            · intro hc66_6
                              refine own_iconst (pc' := 74) (v := (0 : Int32)) C d2_73 own_ki_0 rfl ?_
                              refine own_istoreN (pc' := 75) (y := (0 : Int32)) (Ls' := #[.val (.ref t), .val (.int (1 : Int32)), .val (.int to), .val (.int (0 : Int32)), .val (.int (6 : Int32)), .val (.int x7_)]) C d2_74 rfl rfl rfl ?_
                              refine own_iinc (pc' := 78) (v := (7 : Int32)) (Ls' := #[.val (.ref t), .val (.int (1 : Int32)), .val (.int to), .val (.int (0 : Int32)), .val (.int (7 : Int32)), .val (.int x7_)]) C d2_75 rfl (by decide) rfl rfl ?_
                              refine own_goto (pc' := 15) C d2_78 (by decide) (by decide) ?_
                              refine own_iloadN (pc' := 16) C d2_15 rfl rfl ?_
                              refine own_if_eq (pt := 81) (pf := 19) C d2_16 (by decide) (by decide) rfl (fun _ => ?_) (fun q => absurd (by decide) q)
                              refine own_iloadN (pc' := 82) C d2_81 rfl rfl ?_
                              refine own_zret C d2_82 (by decide) (by decide) (Or.inl rfl) ?_
                              exact ⟨by simp only [own_month, if_pos hc5, if_neg hc59, if_neg hc66, if_neg hc59_2, if_neg hc66_2, if_neg hc59_3, if_neg hc66_3, if_neg hc59_4, if_neg hc66_4, if_pos hc44, if_neg hc59_5, if_neg hc66_5, if_neg hc59_6, if_pos hc66_6, if_true, if_false], rfl⟩
                            · intro hc66_6
                              refine own_iconst (pc' := 70) (v := (1 : Int32)) C d2_69 own_ki_1 rfl ?_
                              refine own_goto (pc' := 74) C d2_70 (by decide) (by decide) ?_
                              refine own_istoreN (pc' := 75) (y := (1 : Int32)) (Ls' := #[.val (.ref t), .val (.int (1 : Int32)), .val (.int to), .val (.int (1 : Int32)), .val (.int (6 : Int32)), .val (.int x7_)]) C d2_74 rfl rfl rfl ?_
                              refine own_iinc (pc' := 78) (v := (7 : Int32)) (Ls' := #[.val (.ref t), .val (.int (1 : Int32)), .val (.int to), .val (.int (1 : Int32)), .val (.int (7 : Int32)), .val (.int x7_)]) C d2_75 rfl (by decide) rfl rfl ?_
                              refine own_goto (pc' := 15) C d2_78 (by decide) (by decide) ?_
                              refine own_iloadN (pc' := 16) C d2_15 rfl rfl ?_
                              refine own_if_eq (pt := 81) (pf := 19) C d2_16 (by decide) (by decide) rfl (fun q => absurd q (by decide)) (fun _ => ?_)
                              refine own_iload (pc' := 21) C d2_19 rfl rfl ?_
                              refine own_bipush (pc' := 23) (v := (7 : Int32)) C d2_21 own_kb_7 rfl ?_
                              refine own_icmp_ge (pt := 81) (pf := 26) C d2_23 (by decide) (by decide) rfl (fun _ => ?_) (fun q => absurd q (by decide))
                              refine own_iloadN (pc' := 82) C d2_81 rfl rfl ?_
                              refine own_zret C d2_82 (by decide) (by decide) (Or.inr rfl) ?_
                              exact ⟨by simp only [own_month, if_pos hc5, if_neg hc59, if_neg hc66, if_neg hc59_2, if_neg hc66_2, if_neg hc59_3, if_neg hc66_3, if_neg hc59_4, if_neg hc66_4, if_pos hc44, if_neg hc59_5, if_neg hc66_5, if_neg hc59_6, if_neg hc66_6, if_true, if_false], rfl⟩
  · intro hc5
    refine own_iconst (pc' := 9) (v := (0 : Int32)) C d2_8 own_ki_0 rfl ?_
    refine own_zret C d2_9 (by decide) (by decide) (Or.inl rfl) ?_
    exact ⟨by simp only [own_month, if_neg hc5, if_true, if_false], rfl⟩

set_option maxRecDepth 65536 in
set_option maxHeartbeats 40000000 in
theorem own_isM2 (l : Launch) (Z : State) (a0 : Array Value) (hw : ∀ d ∈ tables_1, d.before a0 Z = true) (t : Addr) (to : Int32) (x0_ x1_ x2_ x3_ x4_ x5_ x6_ x7_ x8_ : Int32) (h0 : Heap) (n0 : Nat) (Z_ : n0 ≤ h0.size) (A_t : AI Z h0 t .byte [x0_, x1_, x2_, x3_, x4_, x5_, x6_, x7_, x8_]) :
    Met l (⟨"com/example/vestwork/vestwork/io/PlainDates", "isMonth", "([BII)Z"⟩ : MethodName) prog_99_method_3_code 6 (some .boolean) [] ({ frames := 0, cells := 0, slots := 0, locals := 0 } : Room) Z n0 #[(.ref t), (.int (2 : Int32)), (.int to)] h0 (fun v h => v = some (.int (own_month (to - 2) x2_ x3_ x4_ x5_ x6_ x7_ x8_)) ∧ h0 = h) := by
  refine own_met pn2 (fun m => ef2 m t (2 : Int32) to) ?_
  intro p e s m below meth c C
  refine own_iloadN (pc' := 1) C d2_0 rfl rfl ?_
  refine own_iloadN (pc' := 2) C d2_1 rfl rfl ?_
  refine own_isub (pc' := 3) C d2_2 rfl rfl ?_
  refine own_bipush (pc' := 5) (v := (7 : Int32)) C d2_3 own_kb_7 rfl ?_
  refine own_icmp_eq (pt := 10) (pf := 8) C d2_5 (by decide) (by decide) rfl ?_ ?_
  · intro hc5
    refine own_iconst (pc' := 11) (v := (1 : Int32)) C d2_10 own_ki_1 rfl ?_
    refine own_istoreN (pc' := 12) (y := (1 : Int32)) (Ls' := #[.val (.ref t), .val (.int (2 : Int32)), .val (.int to), .val (.int (1 : Int32)), .unset, .unset]) C d2_11 rfl rfl rfl ?_
    refine own_iconst (pc' := 13) (v := (0 : Int32)) C d2_12 own_ki_0 rfl ?_
    refine own_istore (pc' := 15) (y := (0 : Int32)) (Ls' := #[.val (.ref t), .val (.int (2 : Int32)), .val (.int to), .val (.int (1 : Int32)), .val (.int (0 : Int32)), .unset]) C d2_13 rfl rfl rfl ?_
    refine own_iloadN (pc' := 16) C d2_15 rfl rfl ?_
    refine own_if_eq (pt := 81) (pf := 19) C d2_16 (by decide) (by decide) rfl (fun q => absurd q (by decide)) (fun _ => ?_)
    refine own_iload (pc' := 21) C d2_19 rfl rfl ?_
    refine own_bipush (pc' := 23) (v := (7 : Int32)) C d2_21 own_kb_7 rfl ?_
    refine own_icmp_ge (pt := 81) (pf := 26) C d2_23 (by decide) (by decide) rfl (fun q => absurd (by decide) q) (fun _ => ?_)
    refine own_aloadN (pc' := 27) C d2_26 rfl rfl rfl ?_
    refine own_iloadN (pc' := 28) C d2_27 rfl rfl ?_
    refine own_iload (pc' := 30) C d2_28 rfl rfl ?_
    refine own_iadd (pc' := 31) (v := (2 : Int32)) C d2_30 (by decide) rfl ?_
    refine own_baload (pc' := 32) (v := x2_) (i := 2) C d2_31 A_t (by decide) rfl rfl rfl ?_
    refine own_istore (pc' := 34) (y := x2_) (Ls' := #[.val (.ref t), .val (.int (2 : Int32)), .val (.int to), .val (.int (1 : Int32)), .val (.int (0 : Int32)), .val (.int x2_)]) C d2_32 rfl rfl rfl ?_
    refine own_iload (pc' := 36) C d2_34 rfl rfl ?_
    refine own_iconst (pc' := 37) (v := (4 : Int32)) C d2_36 own_ki_4 rfl ?_
    refine own_icmp_ne (pt := 55) (pf := 40) C d2_37 (by decide) (by decide) rfl (fun _ => ?_) (fun q => absurd q (by decide))
    refine own_iload (pc' := 57) C d2_55 rfl rfl ?_
    refine own_bipush (pc' := 59) (v := (48 : Int32)) C d2_57 own_kb_48 rfl ?_
    refine own_icmp_lt (pt := 73) (pf := 62) C d2_59 (by decide) (by decide) rfl ?_ ?_
    · intro hc59
      refine own_iconst (pc' := 74) (v := (0 : Int32)) C d2_73 own_ki_0 rfl ?_
      refine own_istoreN (pc' := 75) (y := (0 : Int32)) (Ls' := #[.val (.ref t), .val (.int (2 : Int32)), .val (.int to), .val (.int (0 : Int32)), .val (.int (0 : Int32)), .val (.int x2_)]) C d2_74 rfl rfl rfl ?_
      refine own_iinc (pc' := 78) (v := (1 : Int32)) (Ls' := #[.val (.ref t), .val (.int (2 : Int32)), .val (.int to), .val (.int (0 : Int32)), .val (.int (1 : Int32)), .val (.int x2_)]) C d2_75 rfl (by decide) rfl rfl ?_
      refine own_goto (pc' := 15) C d2_78 (by decide) (by decide) ?_
      refine own_iloadN (pc' := 16) C d2_15 rfl rfl ?_
      refine own_if_eq (pt := 81) (pf := 19) C d2_16 (by decide) (by decide) rfl (fun _ => ?_) (fun q => absurd (by decide) q)
      refine own_iloadN (pc' := 82) C d2_81 rfl rfl ?_
      refine own_zret C d2_82 (by decide) (by decide) (Or.inl rfl) ?_
      exact ⟨by simp only [own_month, if_pos hc5, if_pos hc59, if_true, if_false], rfl⟩
    · intro hc59
      refine own_iload (pc' := 64) C d2_62 rfl rfl ?_
      refine own_bipush (pc' := 66) (v := (57 : Int32)) C d2_64 own_kb_57 rfl ?_
      refine own_icmp_gt (pt := 73) (pf := 69) C d2_66 (by decide) (by decide) rfl ?_ ?_
      · intro hc66
        refine own_iconst (pc' := 74) (v := (0 : Int32)) C d2_73 own_ki_0 rfl ?_
        refine own_istoreN (pc' := 75) (y := (0 : Int32)) (Ls' := #[.val (.ref t), .val (.int (2 : Int32)), .val (.int to), .val (.int (0 : Int32)), .val (.int (0 : Int32)), .val (.int x2_)]) C d2_74 rfl rfl rfl ?_
        refine own_iinc (pc' := 78) (v := (1 : Int32)) (Ls' := #[.val (.ref t), .val (.int (2 : Int32)), .val (.int to), .val (.int (0 : Int32)), .val (.int (1 : Int32)), .val (.int x2_)]) C d2_75 rfl (by decide) rfl rfl ?_
        refine own_goto (pc' := 15) C d2_78 (by decide) (by decide) ?_
        refine own_iloadN (pc' := 16) C d2_15 rfl rfl ?_
        refine own_if_eq (pt := 81) (pf := 19) C d2_16 (by decide) (by decide) rfl (fun _ => ?_) (fun q => absurd (by decide) q)
        refine own_iloadN (pc' := 82) C d2_81 rfl rfl ?_
        refine own_zret C d2_82 (by decide) (by decide) (Or.inl rfl) ?_
        exact ⟨by simp only [own_month, if_pos hc5, if_neg hc59, if_pos hc66, if_true, if_false], rfl⟩
      · intro hc66
        refine own_iconst (pc' := 70) (v := (1 : Int32)) C d2_69 own_ki_1 rfl ?_
        refine own_goto (pc' := 74) C d2_70 (by decide) (by decide) ?_
        refine own_istoreN (pc' := 75) (y := (1 : Int32)) (Ls' := #[.val (.ref t), .val (.int (2 : Int32)), .val (.int to), .val (.int (1 : Int32)), .val (.int (0 : Int32)), .val (.int x2_)]) C d2_74 rfl rfl rfl ?_
        refine own_iinc (pc' := 78) (v := (1 : Int32)) (Ls' := #[.val (.ref t), .val (.int (2 : Int32)), .val (.int to), .val (.int (1 : Int32)), .val (.int (1 : Int32)), .val (.int x2_)]) C d2_75 rfl (by decide) rfl rfl ?_
        refine own_goto (pc' := 15) C d2_78 (by decide) (by decide) ?_
        refine own_iloadN (pc' := 16) C d2_15 rfl rfl ?_
        refine own_if_eq (pt := 81) (pf := 19) C d2_16 (by decide) (by decide) rfl (fun q => absurd q (by decide)) (fun _ => ?_)
        refine own_iload (pc' := 21) C d2_19 rfl rfl ?_
        refine own_bipush (pc' := 23) (v := (7 : Int32)) C d2_21 own_kb_7 rfl ?_
        refine own_icmp_ge (pt := 81) (pf := 26) C d2_23 (by decide) (by decide) rfl (fun q => absurd (by decide) q) (fun _ => ?_)
        refine own_aloadN (pc' := 27) C d2_26 rfl rfl rfl ?_
        refine own_iloadN (pc' := 28) C d2_27 rfl rfl ?_
        refine own_iload (pc' := 30) C d2_28 rfl rfl ?_
        refine own_iadd (pc' := 31) (v := (3 : Int32)) C d2_30 (by decide) rfl ?_
        refine own_baload (pc' := 32) (v := x3_) (i := 3) C d2_31 A_t (by decide) rfl rfl rfl ?_
        refine own_istore (pc' := 34) (y := x3_) (Ls' := #[.val (.ref t), .val (.int (2 : Int32)), .val (.int to), .val (.int (1 : Int32)), .val (.int (1 : Int32)), .val (.int x3_)]) C d2_32 rfl rfl rfl ?_
        refine own_iload (pc' := 36) C d2_34 rfl rfl ?_
        refine own_iconst (pc' := 37) (v := (4 : Int32)) C d2_36 own_ki_4 rfl ?_
        refine own_icmp_ne (pt := 55) (pf := 40) C d2_37 (by decide) (by decide) rfl (fun _ => ?_) (fun q => absurd q (by decide))
        refine own_iload (pc' := 57) C d2_55 rfl rfl ?_
        refine own_bipush (pc' := 59) (v := (48 : Int32)) C d2_57 own_kb_48 rfl ?_
        refine own_icmp_lt (pt := 73) (pf := 62) C d2_59 (by decide) (by decide) rfl ?_ ?_
        · intro hc59_2
          refine own_iconst (pc' := 74) (v := (0 : Int32)) C d2_73 own_ki_0 rfl ?_
          refine own_istoreN (pc' := 75) (y := (0 : Int32)) (Ls' := #[.val (.ref t), .val (.int (2 : Int32)), .val (.int to), .val (.int (0 : Int32)), .val (.int (1 : Int32)), .val (.int x3_)]) C d2_74 rfl rfl rfl ?_
          refine own_iinc (pc' := 78) (v := (2 : Int32)) (Ls' := #[.val (.ref t), .val (.int (2 : Int32)), .val (.int to), .val (.int (0 : Int32)), .val (.int (2 : Int32)), .val (.int x3_)]) C d2_75 rfl (by decide) rfl rfl ?_
          refine own_goto (pc' := 15) C d2_78 (by decide) (by decide) ?_
          refine own_iloadN (pc' := 16) C d2_15 rfl rfl ?_
          refine own_if_eq (pt := 81) (pf := 19) C d2_16 (by decide) (by decide) rfl (fun _ => ?_) (fun q => absurd (by decide) q)
          refine own_iloadN (pc' := 82) C d2_81 rfl rfl ?_
          refine own_zret C d2_82 (by decide) (by decide) (Or.inl rfl) ?_
          exact ⟨by simp only [own_month, if_pos hc5, if_neg hc59, if_neg hc66, if_pos hc59_2, if_true, if_false], rfl⟩
        · intro hc59_2
          refine own_iload (pc' := 64) C d2_62 rfl rfl ?_
          refine own_bipush (pc' := 66) (v := (57 : Int32)) C d2_64 own_kb_57 rfl ?_
          refine own_icmp_gt (pt := 73) (pf := 69) C d2_66 (by decide) (by decide) rfl ?_ ?_
          · intro hc66_2
            refine own_iconst (pc' := 74) (v := (0 : Int32)) C d2_73 own_ki_0 rfl ?_
            refine own_istoreN (pc' := 75) (y := (0 : Int32)) (Ls' := #[.val (.ref t), .val (.int (2 : Int32)), .val (.int to), .val (.int (0 : Int32)), .val (.int (1 : Int32)), .val (.int x3_)]) C d2_74 rfl rfl rfl ?_
            refine own_iinc (pc' := 78) (v := (2 : Int32)) (Ls' := #[.val (.ref t), .val (.int (2 : Int32)), .val (.int to), .val (.int (0 : Int32)), .val (.int (2 : Int32)), .val (.int x3_)]) C d2_75 rfl (by decide) rfl rfl ?_
            refine own_goto (pc' := 15) C d2_78 (by decide) (by decide) ?_
            refine own_iloadN (pc' := 16) C d2_15 rfl rfl ?_
            refine own_if_eq (pt := 81) (pf := 19) C d2_16 (by decide) (by decide) rfl (fun _ => ?_) (fun q => absurd (by decide) q)
            refine own_iloadN (pc' := 82) C d2_81 rfl rfl ?_
            refine own_zret C d2_82 (by decide) (by decide) (Or.inl rfl) ?_
            exact ⟨by simp only [own_month, if_pos hc5, if_neg hc59, if_neg hc66, if_neg hc59_2, if_pos hc66_2, if_true, if_false], rfl⟩
          · intro hc66_2
            refine own_iconst (pc' := 70) (v := (1 : Int32)) C d2_69 own_ki_1 rfl ?_
            refine own_goto (pc' := 74) C d2_70 (by decide) (by decide) ?_
            refine own_istoreN (pc' := 75) (y := (1 : Int32)) (Ls' := #[.val (.ref t), .val (.int (2 : Int32)), .val (.int to), .val (.int (1 : Int32)), .val (.int (1 : Int32)), .val (.int x3_)]) C d2_74 rfl rfl rfl ?_
            refine own_iinc (pc' := 78) (v := (2 : Int32)) (Ls' := #[.val (.ref t), .val (.int (2 : Int32)), .val (.int to), .val (.int (1 : Int32)), .val (.int (2 : Int32)), .val (.int x3_)]) C d2_75 rfl (by decide) rfl rfl ?_
            refine own_goto (pc' := 15) C d2_78 (by decide) (by decide) ?_
            refine own_iloadN (pc' := 16) C d2_15 rfl rfl ?_
            refine own_if_eq (pt := 81) (pf := 19) C d2_16 (by decide) (by decide) rfl (fun q => absurd q (by decide)) (fun _ => ?_)
            refine own_iload (pc' := 21) C d2_19 rfl rfl ?_
            refine own_bipush (pc' := 23) (v := (7 : Int32)) C d2_21 own_kb_7 rfl ?_
            refine own_icmp_ge (pt := 81) (pf := 26) C d2_23 (by decide) (by decide) rfl (fun q => absurd (by decide) q) (fun _ => ?_)
            refine own_aloadN (pc' := 27) C d2_26 rfl rfl rfl ?_
            refine own_iloadN (pc' := 28) C d2_27 rfl rfl ?_
            refine own_iload (pc' := 30) C d2_28 rfl rfl ?_
            refine own_iadd (pc' := 31) (v := (4 : Int32)) C d2_30 (by decide) rfl ?_
            refine own_baload (pc' := 32) (v := x4_) (i := 4) C d2_31 A_t (by decide) rfl rfl rfl ?_
            refine own_istore (pc' := 34) (y := x4_) (Ls' := #[.val (.ref t), .val (.int (2 : Int32)), .val (.int to), .val (.int (1 : Int32)), .val (.int (2 : Int32)), .val (.int x4_)]) C d2_32 rfl rfl rfl ?_
            refine own_iload (pc' := 36) C d2_34 rfl rfl ?_
            refine own_iconst (pc' := 37) (v := (4 : Int32)) C d2_36 own_ki_4 rfl ?_
            refine own_icmp_ne (pt := 55) (pf := 40) C d2_37 (by decide) (by decide) rfl (fun _ => ?_) (fun q => absurd q (by decide))
            refine own_iload (pc' := 57) C d2_55 rfl rfl ?_
            refine own_bipush (pc' := 59) (v := (48 : Int32)) C d2_57 own_kb_48 rfl ?_
            refine own_icmp_lt (pt := 73) (pf := 62) C d2_59 (by decide) (by decide) rfl ?_ ?_
            · intro hc59_3
              refine own_iconst (pc' := 74) (v := (0 : Int32)) C d2_73 own_ki_0 rfl ?_
              refine own_istoreN (pc' := 75) (y := (0 : Int32)) (Ls' := #[.val (.ref t), .val (.int (2 : Int32)), .val (.int to), .val (.int (0 : Int32)), .val (.int (2 : Int32)), .val (.int x4_)]) C d2_74 rfl rfl rfl ?_
              refine own_iinc (pc' := 78) (v := (3 : Int32)) (Ls' := #[.val (.ref t), .val (.int (2 : Int32)), .val (.int to), .val (.int (0 : Int32)), .val (.int (3 : Int32)), .val (.int x4_)]) C d2_75 rfl (by decide) rfl rfl ?_
              refine own_goto (pc' := 15) C d2_78 (by decide) (by decide) ?_
              refine own_iloadN (pc' := 16) C d2_15 rfl rfl ?_
              refine own_if_eq (pt := 81) (pf := 19) C d2_16 (by decide) (by decide) rfl (fun _ => ?_) (fun q => absurd (by decide) q)
              refine own_iloadN (pc' := 82) C d2_81 rfl rfl ?_
              refine own_zret C d2_82 (by decide) (by decide) (Or.inl rfl) ?_
              exact ⟨by simp only [own_month, if_pos hc5, if_neg hc59, if_neg hc66, if_neg hc59_2, if_neg hc66_2, if_pos hc59_3, if_true, if_false], rfl⟩
            · intro hc59_3
              refine own_iload (pc' := 64) C d2_62 rfl rfl ?_
              refine own_bipush (pc' := 66) (v := (57 : Int32)) C d2_64 own_kb_57 rfl ?_
              refine own_icmp_gt (pt := 73) (pf := 69) C d2_66 (by decide) (by decide) rfl ?_ ?_
              · intro hc66_3
                refine own_iconst (pc' := 74) (v := (0 : Int32)) C d2_73 own_ki_0 rfl ?_
                refine own_istoreN (pc' := 75) (y := (0 : Int32)) (Ls' := #[.val (.ref t), .val (.int (2 : Int32)), .val (.int to), .val (.int (0 : Int32)), .val (.int (2 : Int32)), .val (.int x4_)]) C d2_74 rfl rfl rfl ?_
                refine own_iinc (pc' := 78) (v := (3 : Int32)) (Ls' := #[.val (.ref t), .val (.int (2 : Int32)), .val (.int to), .val (.int (0 : Int32)), .val (.int (3 : Int32)), .val (.int x4_)]) C d2_75 rfl (by decide) rfl rfl ?_
                refine own_goto (pc' := 15) C d2_78 (by decide) (by decide) ?_
                refine own_iloadN (pc' := 16) C d2_15 rfl rfl ?_
                refine own_if_eq (pt := 81) (pf := 19) C d2_16 (by decide) (by decide) rfl (fun _ => ?_) (fun q => absurd (by decide) q)
                refine own_iloadN (pc' := 82) C d2_81 rfl rfl ?_
                refine own_zret C d2_82 (by decide) (by decide) (Or.inl rfl) ?_
                exact ⟨by simp only [own_month, if_pos hc5, if_neg hc59, if_neg hc66, if_neg hc59_2, if_neg hc66_2, if_neg hc59_3, if_pos hc66_3, if_true, if_false], rfl⟩
              · intro hc66_3
                refine own_iconst (pc' := 70) (v := (1 : Int32)) C d2_69 own_ki_1 rfl ?_
                refine own_goto (pc' := 74) C d2_70 (by decide) (by decide) ?_
                refine own_istoreN (pc' := 75) (y := (1 : Int32)) (Ls' := #[.val (.ref t), .val (.int (2 : Int32)), .val (.int to), .val (.int (1 : Int32)), .val (.int (2 : Int32)), .val (.int x4_)]) C d2_74 rfl rfl rfl ?_
                refine own_iinc (pc' := 78) (v := (3 : Int32)) (Ls' := #[.val (.ref t), .val (.int (2 : Int32)), .val (.int to), .val (.int (1 : Int32)), .val (.int (3 : Int32)), .val (.int x4_)]) C d2_75 rfl (by decide) rfl rfl ?_
                refine own_goto (pc' := 15) C d2_78 (by decide) (by decide) ?_
                refine own_iloadN (pc' := 16) C d2_15 rfl rfl ?_
                refine own_if_eq (pt := 81) (pf := 19) C d2_16 (by decide) (by decide) rfl (fun q => absurd q (by decide)) (fun _ => ?_)
                refine own_iload (pc' := 21) C d2_19 rfl rfl ?_
                refine own_bipush (pc' := 23) (v := (7 : Int32)) C d2_21 own_kb_7 rfl ?_
                refine own_icmp_ge (pt := 81) (pf := 26) C d2_23 (by decide) (by decide) rfl (fun q => absurd (by decide) q) (fun _ => ?_)
                refine own_aloadN (pc' := 27) C d2_26 rfl rfl rfl ?_
                refine own_iloadN (pc' := 28) C d2_27 rfl rfl ?_
                refine own_iload (pc' := 30) C d2_28 rfl rfl ?_
                refine own_iadd (pc' := 31) (v := (5 : Int32)) C d2_30 (by decide) rfl ?_
                refine own_baload (pc' := 32) (v := x5_) (i := 5) C d2_31 A_t (by decide) rfl rfl rfl ?_
                refine own_istore (pc' := 34) (y := x5_) (Ls' := #[.val (.ref t), .val (.int (2 : Int32)), .val (.int to), .val (.int (1 : Int32)), .val (.int (3 : Int32)), .val (.int x5_)]) C d2_32 rfl rfl rfl ?_
                refine own_iload (pc' := 36) C d2_34 rfl rfl ?_
                refine own_iconst (pc' := 37) (v := (4 : Int32)) C d2_36 own_ki_4 rfl ?_
                refine own_icmp_ne (pt := 55) (pf := 40) C d2_37 (by decide) (by decide) rfl (fun _ => ?_) (fun q => absurd q (by decide))
                refine own_iload (pc' := 57) C d2_55 rfl rfl ?_
                refine own_bipush (pc' := 59) (v := (48 : Int32)) C d2_57 own_kb_48 rfl ?_
                refine own_icmp_lt (pt := 73) (pf := 62) C d2_59 (by decide) (by decide) rfl ?_ ?_
                · intro hc59_4
                  refine own_iconst (pc' := 74) (v := (0 : Int32)) C d2_73 own_ki_0 rfl ?_
                  refine own_istoreN (pc' := 75) (y := (0 : Int32)) (Ls' := #[.val (.ref t), .val (.int (2 : Int32)), .val (.int to), .val (.int (0 : Int32)), .val (.int (3 : Int32)), .val (.int x5_)]) C d2_74 rfl rfl rfl ?_
                  refine own_iinc (pc' := 78) (v := (4 : Int32)) (Ls' := #[.val (.ref t), .val (.int (2 : Int32)), .val (.int to), .val (.int (0 : Int32)), .val (.int (4 : Int32)), .val (.int x5_)]) C d2_75 rfl (by decide) rfl rfl ?_
                  refine own_goto (pc' := 15) C d2_78 (by decide) (by decide) ?_
                  refine own_iloadN (pc' := 16) C d2_15 rfl rfl ?_
                  refine own_if_eq (pt := 81) (pf := 19) C d2_16 (by decide) (by decide) rfl (fun _ => ?_) (fun q => absurd (by decide) q)
                  refine own_iloadN (pc' := 82) C d2_81 rfl rfl ?_
                  refine own_zret C d2_82 (by decide) (by decide) (Or.inl rfl) ?_
                  exact ⟨by simp only [own_month, if_pos hc5, if_neg hc59, if_neg hc66, if_neg hc59_2, if_neg hc66_2, if_neg hc59_3, if_neg hc66_3, if_pos hc59_4, if_true, if_false], rfl⟩
                · intro hc59_4
                  refine own_iload (pc' := 64) C d2_62 rfl rfl ?_
                  refine own_bipush (pc' := 66) (v := (57 : Int32)) C d2_64 own_kb_57 rfl ?_
                  refine own_icmp_gt (pt := 73) (pf := 69) C d2_66 (by decide) (by decide) rfl ?_ ?_
                  · intro hc66_4
                    refine own_iconst (pc' := 74) (v := (0 : Int32)) C d2_73 own_ki_0 rfl ?_
                    refine own_istoreN (pc' := 75) (y := (0 : Int32)) (Ls' := #[.val (.ref t), .val (.int (2 : Int32)), .val (.int to), .val (.int (0 : Int32)), .val (.int (3 : Int32)), .val (.int x5_)]) C d2_74 rfl rfl rfl ?_
                    refine own_iinc (pc' := 78) (v := (4 : Int32)) (Ls' := #[.val (.ref t), .val (.int (2 : Int32)), .val (.int to), .val (.int (0 : Int32)), .val (.int (4 : Int32)), .val (.int x5_)]) C d2_75 rfl (by decide) rfl rfl ?_
                    refine own_goto (pc' := 15) C d2_78 (by decide) (by decide) ?_
                    refine own_iloadN (pc' := 16) C d2_15 rfl rfl ?_
                    refine own_if_eq (pt := 81) (pf := 19) C d2_16 (by decide) (by decide) rfl (fun _ => ?_) (fun q => absurd (by decide) q)
                    refine own_iloadN (pc' := 82) C d2_81 rfl rfl ?_
                    refine own_zret C d2_82 (by decide) (by decide) (Or.inl rfl) ?_
                    exact ⟨by simp only [own_month, if_pos hc5, if_neg hc59, if_neg hc66, if_neg hc59_2, if_neg hc66_2, if_neg hc59_3, if_neg hc66_3, if_neg hc59_4, if_pos hc66_4, if_true, if_false], rfl⟩
                  · intro hc66_4
                    refine own_iconst (pc' := 70) (v := (1 : Int32)) C d2_69 own_ki_1 rfl ?_
                    refine own_goto (pc' := 74) C d2_70 (by decide) (by decide) ?_
                    refine own_istoreN (pc' := 75) (y := (1 : Int32)) (Ls' := #[.val (.ref t), .val (.int (2 : Int32)), .val (.int to), .val (.int (1 : Int32)), .val (.int (3 : Int32)), .val (.int x5_)]) C d2_74 rfl rfl rfl ?_
                    refine own_iinc (pc' := 78) (v := (4 : Int32)) (Ls' := #[.val (.ref t), .val (.int (2 : Int32)), .val (.int to), .val (.int (1 : Int32)), .val (.int (4 : Int32)), .val (.int x5_)]) C d2_75 rfl (by decide) rfl rfl ?_
                    refine own_goto (pc' := 15) C d2_78 (by decide) (by decide) ?_
                    refine own_iloadN (pc' := 16) C d2_15 rfl rfl ?_
                    refine own_if_eq (pt := 81) (pf := 19) C d2_16 (by decide) (by decide) rfl (fun q => absurd q (by decide)) (fun _ => ?_)
                    refine own_iload (pc' := 21) C d2_19 rfl rfl ?_
                    refine own_bipush (pc' := 23) (v := (7 : Int32)) C d2_21 own_kb_7 rfl ?_
                    refine own_icmp_ge (pt := 81) (pf := 26) C d2_23 (by decide) (by decide) rfl (fun q => absurd (by decide) q) (fun _ => ?_)
                    refine own_aloadN (pc' := 27) C d2_26 rfl rfl rfl ?_
                    refine own_iloadN (pc' := 28) C d2_27 rfl rfl ?_
                    refine own_iload (pc' := 30) C d2_28 rfl rfl ?_
                    refine own_iadd (pc' := 31) (v := (6 : Int32)) C d2_30 (by decide) rfl ?_
                    refine own_baload (pc' := 32) (v := x6_) (i := 6) C d2_31 A_t (by decide) rfl rfl rfl ?_
                    refine own_istore (pc' := 34) (y := x6_) (Ls' := #[.val (.ref t), .val (.int (2 : Int32)), .val (.int to), .val (.int (1 : Int32)), .val (.int (4 : Int32)), .val (.int x6_)]) C d2_32 rfl rfl rfl ?_
                    refine own_iload (pc' := 36) C d2_34 rfl rfl ?_
                    refine own_iconst (pc' := 37) (v := (4 : Int32)) C d2_36 own_ki_4 rfl ?_
                    refine own_icmp_ne (pt := 55) (pf := 40) C d2_37 (by decide) (by decide) rfl (fun q => absurd (by decide) q) (fun _ => ?_)
                    refine own_iload (pc' := 42) C d2_40 rfl rfl ?_
                    refine own_bipush (pc' := 44) (v := (45 : Int32)) C d2_42 own_kb_45 rfl ?_
                    refine own_icmp_ne (pt := 51) (pf := 47) C d2_44 (by decide) (by decide) rfl ?_ ?_
                    · intro hc44
                      refine own_iconst (pc' := 52) (v := (0 : Int32)) C d2_51 own_ki_0 rfl ?_
                      refine own_goto (pc' := 74) C d2_52 (by decide) (by decide) ?_
                      refine own_istoreN (pc' := 75) (y := (0 : Int32)) (Ls' := #[.val (.ref t), .val (.int (2 : Int32)), .val (.int to), .val (.int (0 : Int32)), .val (.int (4 : Int32)), .val (.int x6_)]) C d2_74 rfl rfl rfl ?_
                      refine own_iinc (pc' := 78) (v := (5 : Int32)) (Ls' := #[.val (.ref t), .val (.int (2 : Int32)), .val (.int to), .val (.int (0 : Int32)), .val (.int (5 : Int32)), .val (.int x6_)]) C d2_75 rfl (by decide) rfl rfl ?_
                      refine own_goto (pc' := 15) C d2_78 (by decide) (by decide) ?_
                      refine own_iloadN (pc' := 16) C d2_15 rfl rfl ?_
                      refine own_if_eq (pt := 81) (pf := 19) C d2_16 (by decide) (by decide) rfl (fun _ => ?_) (fun q => absurd (by decide) q)
                      refine own_iloadN (pc' := 82) C d2_81 rfl rfl ?_
                      refine own_zret C d2_82 (by decide) (by decide) (Or.inl rfl) ?_
                      exact ⟨by simp only [own_month, if_pos hc5, if_neg hc59, if_neg hc66, if_neg hc59_2, if_neg hc66_2, if_neg hc59_3, if_neg hc66_3, if_neg hc59_4, if_neg hc66_4, if_neg hc44, if_true, if_false], rfl⟩
                    · intro hc44
                      refine own_iconst (pc' := 48) (v := (1 : Int32)) C d2_47 own_ki_1 rfl ?_
                      refine own_goto (pc' := 74) C d2_48 (by decide) (by decide) ?_
                      refine own_istoreN (pc' := 75) (y := (1 : Int32)) (Ls' := #[.val (.ref t), .val (.int (2 : Int32)), .val (.int to), .val (.int (1 : Int32)), .val (.int (4 : Int32)), .val (.int x6_)]) C d2_74 rfl rfl rfl ?_
                      refine own_iinc (pc' := 78) (v := (5 : Int32)) (Ls' := #[.val (.ref t), .val (.int (2 : Int32)), .val (.int to), .val (.int (1 : Int32)), .val (.int (5 : Int32)), .val (.int x6_)]) C d2_75 rfl (by decide) rfl rfl ?_
                      refine own_goto (pc' := 15) C d2_78 (by decide) (by decide) ?_
                      refine own_iloadN (pc' := 16) C d2_15 rfl rfl ?_
                      refine own_if_eq (pt := 81) (pf := 19) C d2_16 (by decide) (by decide) rfl (fun q => absurd q (by decide)) (fun _ => ?_)
                      refine own_iload (pc' := 21) C d2_19 rfl rfl ?_
                      refine own_bipush (pc' := 23) (v := (7 : Int32)) C d2_21 own_kb_7 rfl ?_
                      refine own_icmp_ge (pt := 81) (pf := 26) C d2_23 (by decide) (by decide) rfl (fun q => absurd (by decide) q) (fun _ => ?_)
                      refine own_aloadN (pc' := 27) C d2_26 rfl rfl rfl ?_
                      refine own_iloadN (pc' := 28) C d2_27 rfl rfl ?_
                      refine own_iload (pc' := 30) C d2_28 rfl rfl ?_
                      refine own_iadd (pc' := 31) (v := (7 : Int32)) C d2_30 (by decide) rfl ?_
                      refine own_baload (pc' := 32) (v := x7_) (i := 7) C d2_31 A_t (by decide) rfl rfl rfl ?_
                      refine own_istore (pc' := 34) (y := x7_) (Ls' := #[.val (.ref t), .val (.int (2 : Int32)), .val (.int to), .val (.int (1 : Int32)), .val (.int (5 : Int32)), .val (.int x7_)]) C d2_32 rfl rfl rfl ?_
                      refine own_iload (pc' := 36) C d2_34 rfl rfl ?_
                      refine own_iconst (pc' := 37) (v := (4 : Int32)) C d2_36 own_ki_4 rfl ?_
                      refine own_icmp_ne (pt := 55) (pf := 40) C d2_37 (by decide) (by decide) rfl (fun _ => ?_) (fun q => absurd q (by decide))
                      refine own_iload (pc' := 57) C d2_55 rfl rfl ?_
                      refine own_bipush (pc' := 59) (v := (48 : Int32)) C d2_57 own_kb_48 rfl ?_
                      refine own_icmp_lt (pt := 73) (pf := 62) C d2_59 (by decide) (by decide) rfl ?_ ?_
                      · intro hc59_5
                        refine own_iconst (pc' := 74) (v := (0 : Int32)) C d2_73 own_ki_0 rfl ?_
                        refine own_istoreN (pc' := 75) (y := (0 : Int32)) (Ls' := #[.val (.ref t), .val (.int (2 : Int32)), .val (.int to), .val (.int (0 : Int32)), .val (.int (5 : Int32)), .val (.int x7_)]) C d2_74 rfl rfl rfl ?_
                        refine own_iinc (pc' := 78) (v := (6 : Int32)) (Ls' := #[.val (.ref t), .val (.int (2 : Int32)), .val (.int to), .val (.int (0 : Int32)), .val (.int (6 : Int32)), .val (.int x7_)]) C d2_75 rfl (by decide) rfl rfl ?_
                        refine own_goto (pc' := 15) C d2_78 (by decide) (by decide) ?_
                        refine own_iloadN (pc' := 16) C d2_15 rfl rfl ?_
                        refine own_if_eq (pt := 81) (pf := 19) C d2_16 (by decide) (by decide) rfl (fun _ => ?_) (fun q => absurd (by decide) q)
                        refine own_iloadN (pc' := 82) C d2_81 rfl rfl ?_
                        refine own_zret C d2_82 (by decide) (by decide) (Or.inl rfl) ?_
                        exact ⟨by simp only [own_month, if_pos hc5, if_neg hc59, if_neg hc66, if_neg hc59_2, if_neg hc66_2, if_neg hc59_3, if_neg hc66_3, if_neg hc59_4, if_neg hc66_4, if_pos hc44, if_pos hc59_5, if_true, if_false], rfl⟩
                      · intro hc59_5
                        refine own_iload (pc' := 64) C d2_62 rfl rfl ?_
                        refine own_bipush (pc' := 66) (v := (57 : Int32)) C d2_64 own_kb_57 rfl ?_
                        refine own_icmp_gt (pt := 73) (pf := 69) C d2_66 (by decide) (by decide) rfl ?_ ?_
                        · intro hc66_5
                          refine own_iconst (pc' := 74) (v := (0 : Int32)) C d2_73 own_ki_0 rfl ?_
                          refine own_istoreN (pc' := 75) (y := (0 : Int32)) (Ls' := #[.val (.ref t), .val (.int (2 : Int32)), .val (.int to), .val (.int (0 : Int32)), .val (.int (5 : Int32)), .val (.int x7_)]) C d2_74 rfl rfl rfl ?_
                          refine own_iinc (pc' := 78) (v := (6 : Int32)) (Ls' := #[.val (.ref t), .val (.int (2 : Int32)), .val (.int to), .val (.int (0 : Int32)), .val (.int (6 : Int32)), .val (.int x7_)]) C d2_75 rfl (by decide) rfl rfl ?_
                          refine own_goto (pc' := 15) C d2_78 (by decide) (by decide) ?_
                          refine own_iloadN (pc' := 16) C d2_15 rfl rfl ?_
                          refine own_if_eq (pt := 81) (pf := 19) C d2_16 (by decide) (by decide) rfl (fun _ => ?_) (fun q => absurd (by decide) q)
                          refine own_iloadN (pc' := 82) C d2_81 rfl rfl ?_
                          refine own_zret C d2_82 (by decide) (by decide) (Or.inl rfl) ?_
                          exact ⟨by simp only [own_month, if_pos hc5, if_neg hc59, if_neg hc66, if_neg hc59_2, if_neg hc66_2, if_neg hc59_3, if_neg hc66_3, if_neg hc59_4, if_neg hc66_4, if_pos hc44, if_neg hc59_5, if_pos hc66_5, if_true, if_false], rfl⟩
                        · intro hc66_5
                          refine own_iconst (pc' := 70) (v := (1 : Int32)) C d2_69 own_ki_1 rfl ?_
                          refine own_goto (pc' := 74) C d2_70 (by decide) (by decide) ?_
                          refine own_istoreN (pc' := 75) (y := (1 : Int32)) (Ls' := #[.val (.ref t), .val (.int (2 : Int32)), .val (.int to), .val (.int (1 : Int32)), .val (.int (5 : Int32)), .val (.int x7_)]) C d2_74 rfl rfl rfl ?_
                          refine own_iinc (pc' := 78) (v := (6 : Int32)) (Ls' := #[.val (.ref t), .val (.int (2 : Int32)), .val (.int to), .val (.int (1 : Int32)), .val (.int (6 : Int32)), .val (.int x7_)]) C d2_75 rfl (by decide) rfl rfl ?_
                          refine own_goto (pc' := 15) C d2_78 (by decide) (by decide) ?_
                          refine own_iloadN (pc' := 16) C d2_15 rfl rfl ?_
                          refine own_if_eq (pt := 81) (pf := 19) C d2_16 (by decide) (by decide) rfl (fun q => absurd q (by decide)) (fun _ => ?_)
                          refine own_iload (pc' := 21) C d2_19 rfl rfl ?_
                          refine own_bipush (pc' := 23) (v := (7 : Int32)) C d2_21 own_kb_7 rfl ?_
                          refine own_icmp_ge (pt := 81) (pf := 26) C d2_23 (by decide) (by decide) rfl (fun q => absurd (by decide) q) (fun _ => ?_)
                          refine own_aloadN (pc' := 27) C d2_26 rfl rfl rfl ?_
                          refine own_iloadN (pc' := 28) C d2_27 rfl rfl ?_
                          refine own_iload (pc' := 30) C d2_28 rfl rfl ?_
                          refine own_iadd (pc' := 31) (v := (8 : Int32)) C d2_30 (by decide) rfl ?_
                          refine own_baload (pc' := 32) (v := x8_) (i := 8) C d2_31 A_t (by decide) rfl rfl rfl ?_
                          refine own_istore (pc' := 34) (y := x8_) (Ls' := #[.val (.ref t), .val (.int (2 : Int32)), .val (.int to), .val (.int (1 : Int32)), .val (.int (6 : Int32)), .val (.int x8_)]) C d2_32 rfl rfl rfl ?_
                          refine own_iload (pc' := 36) C d2_34 rfl rfl ?_
                          refine own_iconst (pc' := 37) (v := (4 : Int32)) C d2_36 own_ki_4 rfl ?_
                          refine own_icmp_ne (pt := 55) (pf := 40) C d2_37 (by decide) (by decide) rfl (fun _ => ?_) (fun q => absurd q (by decide))
                          refine own_iload (pc' := 57) C d2_55 rfl rfl ?_
                          refine own_bipush (pc' := 59) (v := (48 : Int32)) C d2_57 own_kb_48 rfl ?_
                          refine own_icmp_lt (pt := 73) (pf := 62) C d2_59 (by decide) (by decide) rfl ?_ ?_
                          · intro hc59_6
                            refine own_iconst (pc' := 74) (v := (0 : Int32)) C d2_73 own_ki_0 rfl ?_
                            refine own_istoreN (pc' := 75) (y := (0 : Int32)) (Ls' := #[.val (.ref t), .val (.int (2 : Int32)), .val (.int to), .val (.int (0 : Int32)), .val (.int (6 : Int32)), .val (.int x8_)]) C d2_74 rfl rfl rfl ?_
                            refine own_iinc (pc' := 78) (v := (7 : Int32)) (Ls' := #[.val (.ref t), .val (.int (2 : Int32)), .val (.int to), .val (.int (0 : Int32)), .val (.int (7 : Int32)), .val (.int x8_)]) C d2_75 rfl (by decide) rfl rfl ?_
                            refine own_goto (pc' := 15) C d2_78 (by decide) (by decide) ?_
                            refine own_iloadN (pc' := 16) C d2_15 rfl rfl ?_
                            refine own_if_eq (pt := 81) (pf := 19) C d2_16 (by decide) (by decide) rfl (fun _ => ?_) (fun q => absurd (by decide) q)
                            refine own_iloadN (pc' := 82) C d2_81 rfl rfl ?_
                            refine own_zret C d2_82 (by decide) (by decide) (Or.inl rfl) ?_
                            exact ⟨by simp only [own_month, if_pos hc5, if_neg hc59, if_neg hc66, if_neg hc59_2, if_neg hc66_2, if_neg hc59_3, if_neg hc66_3, if_neg hc59_4, if_neg hc66_4, if_pos hc44, if_neg hc59_5, if_neg hc66_5, if_pos hc59_6, if_true, if_false], rfl⟩
                          · intro hc59_6
                            refine own_iload (pc' := 64) C d2_62 rfl rfl ?_
                            refine own_bipush (pc' := 66) (v := (57 : Int32)) C d2_64 own_kb_57 rfl ?_
                            refine own_icmp_gt (pt := 73) (pf := 69) C d2_66 (by decide) (by decide) rfl ?_ ?_
                            · intro hc66_6
                              refine own_iconst (pc' := 74) (v := (0 : Int32)) C d2_73 own_ki_0 rfl ?_
                              refine own_istoreN (pc' := 75) (y := (0 : Int32)) (Ls' := #[.val (.ref t), .val (.int (2 : Int32)), .val (.int to), .val (.int (0 : Int32)), .val (.int (6 : Int32)), .val (.int x8_)]) C d2_74 rfl rfl rfl ?_
                              refine own_iinc (pc' := 78) (v := (7 : Int32)) (Ls' := #[.val (.ref t), .val (.int (2 : Int32)), .val (.int to), .val (.int (0 : Int32)), .val (.int (7 : Int32)), .val (.int x8_)]) C d2_75 rfl (by decide) rfl rfl ?_
                              refine own_goto (pc' := 15) C d2_78 (by decide) (by decide) ?_
                              refine own_iloadN (pc' := 16) C d2_15 rfl rfl ?_
                              refine own_if_eq (pt := 81) (pf := 19) C d2_16 (by decide) (by decide) rfl (fun _ => ?_) (fun q => absurd (by decide) q)
                              refine own_iloadN (pc' := 82) C d2_81 rfl rfl ?_
                              refine own_zret C d2_82 (by decide) (by decide) (Or.inl rfl) ?_
                              exact ⟨by simp only [own_month, if_pos hc5, if_neg hc59, if_neg hc66, if_neg hc59_2, if_neg hc66_2, if_neg hc59_3, if_neg hc66_3, if_neg hc59_4, if_neg hc66_4, if_pos hc44, if_neg hc59_5, if_neg hc66_5, if_neg hc59_6, if_pos hc66_6, if_true, if_false], rfl⟩
                            · intro hc66_6
                              refine own_iconst (pc' := 70) (v := (1 : Int32)) C d2_69 own_ki_1 rfl ?_
                              refine own_goto (pc' := 74) C d2_70 (by decide) (by decide) ?_
                              refine own_istoreN (pc' := 75) (y := (1 : Int32)) (Ls' := #[.val (.ref t), .val (.int (2 : Int32)), .val (.int to), .val (.int (1 : Int32)), .val (.int (6 : Int32)), .val (.int x8_)]) C d2_74 rfl rfl rfl ?_
                              refine own_iinc (pc' := 78) (v := (7 : Int32)) (Ls' := #[.val (.ref t), .val (.int (2 : Int32)), .val (.int to), .val (.int (1 : Int32)), .val (.int (7 : Int32)), .val (.int x8_)]) C d2_75 rfl (by decide) rfl rfl ?_
                              refine own_goto (pc' := 15) C d2_78 (by decide) (by decide) ?_
                              refine own_iloadN (pc' := 16) C d2_15 rfl rfl ?_
                              refine own_if_eq (pt := 81) (pf := 19) C d2_16 (by decide) (by decide) rfl (fun q => absurd q (by decide)) (fun _ => ?_)
                              refine own_iload (pc' := 21) C d2_19 rfl rfl ?_
                              refine own_bipush (pc' := 23) (v := (7 : Int32)) C d2_21 own_kb_7 rfl ?_
                              refine own_icmp_ge (pt := 81) (pf := 26) C d2_23 (by decide) (by decide) rfl (fun _ => ?_) (fun q => absurd q (by decide))
                              refine own_iloadN (pc' := 82) C d2_81 rfl rfl ?_
                              refine own_zret C d2_82 (by decide) (by decide) (Or.inr rfl) ?_
                              exact ⟨by simp only [own_month, if_pos hc5, if_neg hc59, if_neg hc66, if_neg hc59_2, if_neg hc66_2, if_neg hc59_3, if_neg hc66_3, if_neg hc59_4, if_neg hc66_4, if_pos hc44, if_neg hc59_5, if_neg hc66_5, if_neg hc59_6, if_neg hc66_6, if_true, if_false], rfl⟩
  · intro hc5
    refine own_iconst (pc' := 9) (v := (0 : Int32)) C d2_8 own_ki_0 rfl ?_
    refine own_zret C d2_9 (by decide) (by decide) (Or.inl rfl) ?_
    exact ⟨by simp only [own_month, if_neg hc5, if_true, if_false], rfl⟩

theorem own_from3 {x z : Int32} (h : z = (x &&& 255) % 3) : z = 0 ∨ z = 1 ∨ z = 2 := by
  have h1 := c_and x 255 (by decide)
  have h2 := c_irem (x &&& 255) 3 3 rfl
  rw [← h] at h2
  have k : z.toInt = 0 ∨ z.toInt = 1 ∨ z.toInt = 2 := by omega
  rcases k with k | k | k
  · left; exact Int32.toInt_inj.mp k
  · right; left; exact Int32.toInt_inj.mp k
  · right; right; exact Int32.toInt_inj.mp k
theorem own_dig (x : Int32) : (own_f3 x = 0) ↔ (x < 48 ∨ 57 < x) := by
  simp only [own_f3]
  by_cases q : x < 48 <;> by_cases r : 57 < x <;> simp [q, r]
theorem own_plain {n m f r x0 x1 x2 x3 x4 x5 x6 : Int32} (hm : m = f + n) (hr : r = (if n = 7 then (if own_f3 x0 = 0 then 0 else (if own_f3 x1 = 0 then 0 else (if own_f3 x2 = 0 then 0 else (if own_f3 x3 = 0 then 0 else (if x4 = 45 then (if own_f3 x5 = 0 then 0 else (if own_f3 x6 = 0 then 0 else 1)) else 0))))) else 0)) : own_month (m - f) x0 x1 x2 x3 x4 x5 x6 = r := by
  have e : m - f = n := by rw [hm, Int32.add_comm, Int32.add_sub_cancel]
  rw [hr, e, own_month]
  simp only [own_dig]
  have two : ∀ (x a : Int32), (if x < 48 then (0 : Int32) else if 57 < x then 0 else a) = if (x < 48 ∨ 57 < x) then 0 else a := fun x a => by
    by_cases q : x < 48 <;> by_cases r : 57 < x <;> simp [q, r]
  simp only [two]

theorem pn0 : plainName "com/example/vestwork/vestwork/io/PlainDatesIsMonthPinLaw" = true := by first | (simp [plainName, overriddenIn]; done) | decide +kernel
theorem ef0 (m : MethodId) (x0 : Int32) (x1 : Int32) (x2 : Int32) (x3 : Int32) : entryFrame m #[(.int x0), (.int x1), (.int x2), (.int x3)] maxLocals = mkF m 0 #[.val (.int x0), .val (.int x1), .val (.int x2), .val (.int x3), .unset, .unset, .unset, .unset, .unset, .unset] [] := by first | (simp [entryFrame, mkF, argsToLocals, Value.category, maxLocals]; done) | rfl
theorem pd1 : parseMethodDescriptor "(IIZ)B" = some ⟨[.int, .int, .boolean], some .byte⟩ := by decide +kernel
theorem pd2 : parseMethodDescriptor "([BII)Z" = some ⟨[(.array .byte), .int, .int], some .boolean⟩ := by decide +kernel
theorem pd3 : parseMethodDescriptor "(B)Z" = some ⟨[.byte], some .boolean⟩ := by decide +kernel
theorem own_kb_9 : (Int8.ofInt (9)).toInt32 = (9 : Int32) := by decide
theorem own_sishr_9 (x : Int32) : x >>> ((9 : Int32) &&& 31) = x >>> (9 : Int32) := by rw [show ((9 : Int32) &&& 31) = (9 : Int32) from by decide]
theorem own_ki_2 : Int32.ofInt (2) = (2 : Int32) := by decide
theorem own_ki_3 : Int32.ofInt (3) = (3 : Int32) := by decide
theorem own_ki_5 : Int32.ofInt (5) = (5 : Int32) := by decide
theorem own_kb_6 : (Int8.ofInt (6)).toInt32 = (6 : Int32) := by decide
theorem own_sishr_8 (x : Int32) : x >>> ((8 : Int32) &&& 31) = x >>> (8 : Int32) := by rw [show ((8 : Int32) &&& 31) = (8 : Int32) from by decide]
theorem own_kb_16 : (Int8.ofInt (16)).toInt32 = (16 : Int32) := by decide
theorem own_siushr_16 (x : Int32) : (x.toUInt32 >>> ((16 : Int32) &&& 31).toUInt32).toInt32 = (x.toUInt32 >>> (16 : UInt32)).toInt32 := by rw [show ((16 : Int32) &&& 31).toUInt32 = (16 : UInt32) from by decide]
theorem own_kb_10 : (Int8.ofInt (10)).toInt32 = (10 : Int32) := by decide
set_option maxRecDepth 65536 in
set_option maxHeartbeats 40000000 in
theorem own_law (l : Launch) (Z : State) (a0 : Array Value) (hw : ∀ d ∈ tables_1, d.before a0 Z = true) (ws : List Jvm.Cond) (p0 : Int32) (p1 : Int32) (p2 : Int32) (p3 : Int32)  (h0 : Heap) (n0 : Nat) (Z_ : n0 ≤ h0.size)  :
    Met l x code maxLocals ret ws room_1 Z n0 #[(.int p0), (.int p1), (.int p2), (.int p3)] h0 (fun v h => v = some (.int 1)) := by
  refine own_met pn0 (fun m => ef0 m p0 p1 p2 p3) ?_
  intro p e s m below meth c C0
  have C : Cx p s m meth c Z code 10 (some .boolean) "com/example/vestwork/vestwork/io/PlainDatesIsMonthPinLaw" "law" := C0
  refine own_iloadN (pc' := 1) C at_0 rfl rfl ?_
  refine own_bipush (pc' := 3) (v := (9 : Int32)) C at_1 own_kb_9 rfl ?_
  refine own_ishr (pc' := 4) (v := (p3 >>> (9 : Int32))) C at_3 (own_sishr_9 _) rfl ?_
  refine own_iconst (pc' := 5) (v := (1 : Int32)) C at_4 own_ki_1 rfl ?_
  refine own_iand (pc' := 6) C at_5 rfl rfl ?_
  obtain ⟨vs_14, hvs_14⟩ : ∃ z : Int32, z = (if ((p3 >>> (9 : Int32)) &&& (1 : Int32)) = 0 then (0 : Int32) else (1 : Int32)) := ⟨_, rfl⟩
  have hzvs_14 : vs_14 = 0 ∨ vs_14 = 1 := by rw [hvs_14]; repeat (first | exact Or.inl rfl | exact Or.inr rfl | split)
  refine own_seq (g' := mkF m 14 #[.val (.int p0), .val (.int p1), .val (.int p2), .val (.int p3), .unset, .unset, .unset, .unset, .unset, .unset] [(.int vs_14)]) (fun J14 => ?_) ?_
  · refine own_if_eq (pt := 13) (pf := 9) C at_6 (by decide) (by decide) rfl ?_ ?_
    · intro hc6
      refine own_iconst (pc' := 14) (v := (0 : Int32)) C at_13 own_ki_0 rfl ?_
      exact own_cast (by simp only [hvs_14, if_pos hc6]) (J14)
    · intro hc6
      refine own_iconst (pc' := 10) (v := (1 : Int32)) C at_9 own_ki_1 rfl ?_
      refine own_goto (pc' := 14) C at_10 (by decide) (by decide) ?_
      exact own_cast (by simp only [hvs_14, if_neg hc6]) (J14)
  refine own_istore (pc' := 16) (y := vs_14) (Ls' := #[.val (.int p0), .val (.int p1), .val (.int p2), .val (.int p3), .val (.int vs_14), .unset, .unset, .unset, .unset, .unset]) C at_14 rfl rfl rfl ?_
  refine own_bipush (pc' := 18) (v := (9 : Int32)) C at_16 own_kb_9 rfl ?_
  refine own_newI (pc' := 20) (len := 9) (cap := 9) C at_18 rfl rfl (hw _ (List.mem_of_getElem? (i := 0) rfl)) (by decide) rfl (by decide) (by decide) (by decide) (by decide) rfl ?_
  intro h1 b1 g1 X1 A_b1
  have g_b1 : n0 ≤ b1 := g1 ▸ Z_
  replace Z_ := Nat.le_trans Z_ X1.1
  replace A_b1 : AI Z h1 b1 .byte [(0 : Int32), (0 : Int32), (0 : Int32), (0 : Int32), (0 : Int32), (0 : Int32), (0 : Int32), (0 : Int32), (0 : Int32)] := A_b1
  refine own_astore (pc' := 22) (Ls' := #[.val (.int p0), .val (.int p1), .val (.int p2), .val (.int p3), .val (.int vs_14), .val (.ref b1), .unset, .unset, .unset, .unset]) C at_20 rfl rfl rfl ?_
  refine own_aload (pc' := 24) C at_22 rfl rfl rfl ?_
  refine own_iconst (pc' := 25) (v := (0 : Int32)) C at_24 own_ki_0 rfl ?_
  refine own_iloadN (pc' := 26) C at_25 rfl rfl ?_
  refine own_iconst (pc' := 27) (v := (0 : Int32)) C at_26 own_ki_0 rfl ?_
  refine own_iload (pc' := 29) C at_27 rfl rfl ?_
  refine own_callS (pc' := 32) (wL := 2) (argsL := [(.int p0), (.int (0 : Int32)), (.int vs_14)]) (rest := [(.int (0 : Int32)), (.ref b1)]) C (own_m1 l Z a0 hw p0 (0 : Int32) vs_14 h1 n0 Z_) at_29 (hw _ (List.mem_of_getElem? (i := 1) rfl)) (hw _ (List.mem_of_getElem? (i := 2) rfl)) (hw _ (List.mem_of_getElem? (i := 3) rfl)) (hw _ (List.mem_of_getElem? (i := 4) rfl)) (by decide) (by decide) (by decide) rfl (lenOf pd1 rfl) rfl rfl (Nat.le_of_eq rfl) (by decide) (by decide) rfl ?_
  rintro _ _ ⟨rfl, rfl⟩
  show Wp p l e _ s m _ below meth c n0 _ h1 (0 + 1) (0 + 9) (mkF m 32 #[.val (.int p0), .val (.int p1), .val (.int p2), .val (.int p3), .val (.int vs_14), .val (.ref b1), .unset, .unset, .unset, .unset] [(.int (own_f1 p0 (0 : Int32) vs_14)), (.int (0 : Int32)), (.ref b1)])
  obtain ⟨y32, hy32⟩ : ∃ z : Int32, z = (nar .byte (own_f1 p0 (0 : Int32) vs_14)) := ⟨_, rfl⟩
  refine own_bastore (pc' := 33) (i := 0) (ys := [y32, (0 : Int32), (0 : Int32), (0 : Int32), (0 : Int32), (0 : Int32), (0 : Int32), (0 : Int32), (0 : Int32)]) C at_32 A_b1 (by decide) rfl (Nat.le_of_ble_eq_true rfl) (by rw [hy32]; rfl) g_b1 rfl ?_
  intro h2 W2 A2_
  replace A_b1 := A2_
  replace Z_ : n0 ≤ _ := Nat.le_trans Z_ (Nat.le_of_eq W2.size.symm)
  refine own_aload (pc' := 35) C at_33 rfl rfl rfl ?_
  refine own_iconst (pc' := 36) (v := (1 : Int32)) C at_35 own_ki_1 rfl ?_
  refine own_iloadN (pc' := 37) C at_36 rfl rfl ?_
  refine own_iconst (pc' := 38) (v := (1 : Int32)) C at_37 own_ki_1 rfl ?_
  refine own_iload (pc' := 40) C at_38 rfl rfl ?_
  refine own_callS (pc' := 43) (wL := 2) (argsL := [(.int p0), (.int (1 : Int32)), (.int vs_14)]) (rest := [(.int (1 : Int32)), (.ref b1)]) C (own_m1 l Z a0 hw p0 (1 : Int32) vs_14 h2 n0 Z_) at_40 (hw _ (List.mem_of_getElem? (i := 1) rfl)) (hw _ (List.mem_of_getElem? (i := 2) rfl)) (hw _ (List.mem_of_getElem? (i := 3) rfl)) (hw _ (List.mem_of_getElem? (i := 4) rfl)) (by decide) (by decide) (by decide) rfl (lenOf pd1 rfl) rfl rfl (Nat.le_of_eq rfl) (by decide) (by decide) rfl ?_
  rintro _ _ ⟨rfl, rfl⟩
  show Wp p l e _ s m _ below meth c n0 _ h2 (0 + 1) (0 + 9) (mkF m 43 #[.val (.int p0), .val (.int p1), .val (.int p2), .val (.int p3), .val (.int vs_14), .val (.ref b1), .unset, .unset, .unset, .unset] [(.int (own_f1 p0 (1 : Int32) vs_14)), (.int (1 : Int32)), (.ref b1)])
  obtain ⟨y43, hy43⟩ : ∃ z : Int32, z = (nar .byte (own_f1 p0 (1 : Int32) vs_14)) := ⟨_, rfl⟩
  refine own_bastore (pc' := 44) (i := 1) (ys := [y32, y43, (0 : Int32), (0 : Int32), (0 : Int32), (0 : Int32), (0 : Int32), (0 : Int32), (0 : Int32)]) C at_43 A_b1 (by decide) rfl (Nat.le_of_ble_eq_true rfl) (by rw [hy43]; rfl) g_b1 rfl ?_
  intro h3 W3 A3_
  replace A_b1 := A3_
  replace Z_ : n0 ≤ _ := Nat.le_trans Z_ (Nat.le_of_eq W3.size.symm)
  refine own_aload (pc' := 46) C at_44 rfl rfl rfl ?_
  refine own_iconst (pc' := 47) (v := (2 : Int32)) C at_46 own_ki_2 rfl ?_
  refine own_iloadN (pc' := 48) C at_47 rfl rfl ?_
  refine own_iconst (pc' := 49) (v := (2 : Int32)) C at_48 own_ki_2 rfl ?_
  refine own_iload (pc' := 51) C at_49 rfl rfl ?_
  refine own_callS (pc' := 54) (wL := 2) (argsL := [(.int p0), (.int (2 : Int32)), (.int vs_14)]) (rest := [(.int (2 : Int32)), (.ref b1)]) C (own_m1 l Z a0 hw p0 (2 : Int32) vs_14 h3 n0 Z_) at_51 (hw _ (List.mem_of_getElem? (i := 1) rfl)) (hw _ (List.mem_of_getElem? (i := 2) rfl)) (hw _ (List.mem_of_getElem? (i := 3) rfl)) (hw _ (List.mem_of_getElem? (i := 4) rfl)) (by decide) (by decide) (by decide) rfl (lenOf pd1 rfl) rfl rfl (Nat.le_of_eq rfl) (by decide) (by decide) rfl ?_
  rintro _ _ ⟨rfl, rfl⟩
  show Wp p l e _ s m _ below meth c n0 _ h3 (0 + 1) (0 + 9) (mkF m 54 #[.val (.int p0), .val (.int p1), .val (.int p2), .val (.int p3), .val (.int vs_14), .val (.ref b1), .unset, .unset, .unset, .unset] [(.int (own_f1 p0 (2 : Int32) vs_14)), (.int (2 : Int32)), (.ref b1)])
  obtain ⟨y54, hy54⟩ : ∃ z : Int32, z = (nar .byte (own_f1 p0 (2 : Int32) vs_14)) := ⟨_, rfl⟩
  refine own_bastore (pc' := 55) (i := 2) (ys := [y32, y43, y54, (0 : Int32), (0 : Int32), (0 : Int32), (0 : Int32), (0 : Int32), (0 : Int32)]) C at_54 A_b1 (by decide) rfl (Nat.le_of_ble_eq_true rfl) (by rw [hy54]; rfl) g_b1 rfl ?_
  intro h4 W4 A4_
  replace A_b1 := A4_
  replace Z_ : n0 ≤ _ := Nat.le_trans Z_ (Nat.le_of_eq W4.size.symm)
  refine own_aload (pc' := 57) C at_55 rfl rfl rfl ?_
  refine own_iconst (pc' := 58) (v := (3 : Int32)) C at_57 own_ki_3 rfl ?_
  refine own_iloadN (pc' := 59) C at_58 rfl rfl ?_
  refine own_iconst (pc' := 60) (v := (3 : Int32)) C at_59 own_ki_3 rfl ?_
  refine own_iload (pc' := 62) C at_60 rfl rfl ?_
  refine own_callS (pc' := 65) (wL := 2) (argsL := [(.int p0), (.int (3 : Int32)), (.int vs_14)]) (rest := [(.int (3 : Int32)), (.ref b1)]) C (own_m1 l Z a0 hw p0 (3 : Int32) vs_14 h4 n0 Z_) at_62 (hw _ (List.mem_of_getElem? (i := 1) rfl)) (hw _ (List.mem_of_getElem? (i := 2) rfl)) (hw _ (List.mem_of_getElem? (i := 3) rfl)) (hw _ (List.mem_of_getElem? (i := 4) rfl)) (by decide) (by decide) (by decide) rfl (lenOf pd1 rfl) rfl rfl (Nat.le_of_eq rfl) (by decide) (by decide) rfl ?_
  rintro _ _ ⟨rfl, rfl⟩
  show Wp p l e _ s m _ below meth c n0 _ h4 (0 + 1) (0 + 9) (mkF m 65 #[.val (.int p0), .val (.int p1), .val (.int p2), .val (.int p3), .val (.int vs_14), .val (.ref b1), .unset, .unset, .unset, .unset] [(.int (own_f1 p0 (3 : Int32) vs_14)), (.int (3 : Int32)), (.ref b1)])
  obtain ⟨y65, hy65⟩ : ∃ z : Int32, z = (nar .byte (own_f1 p0 (3 : Int32) vs_14)) := ⟨_, rfl⟩
  refine own_bastore (pc' := 66) (i := 3) (ys := [y32, y43, y54, y65, (0 : Int32), (0 : Int32), (0 : Int32), (0 : Int32), (0 : Int32)]) C at_65 A_b1 (by decide) rfl (Nat.le_of_ble_eq_true rfl) (by rw [hy65]; rfl) g_b1 rfl ?_
  intro h5 W5 A5_
  replace A_b1 := A5_
  replace Z_ : n0 ≤ _ := Nat.le_trans Z_ (Nat.le_of_eq W5.size.symm)
  refine own_aload (pc' := 68) C at_66 rfl rfl rfl ?_
  refine own_iconst (pc' := 69) (v := (4 : Int32)) C at_68 own_ki_4 rfl ?_
  refine own_iloadN (pc' := 70) C at_69 rfl rfl ?_
  refine own_iconst (pc' := 71) (v := (0 : Int32)) C at_70 own_ki_0 rfl ?_
  refine own_iload (pc' := 73) C at_71 rfl rfl ?_
  refine own_callS (pc' := 76) (wL := 2) (argsL := [(.int p1), (.int (0 : Int32)), (.int vs_14)]) (rest := [(.int (4 : Int32)), (.ref b1)]) C (own_m1 l Z a0 hw p1 (0 : Int32) vs_14 h5 n0 Z_) at_73 (hw _ (List.mem_of_getElem? (i := 1) rfl)) (hw _ (List.mem_of_getElem? (i := 2) rfl)) (hw _ (List.mem_of_getElem? (i := 3) rfl)) (hw _ (List.mem_of_getElem? (i := 4) rfl)) (by decide) (by decide) (by decide) rfl (lenOf pd1 rfl) rfl rfl (Nat.le_of_eq rfl) (by decide) (by decide) rfl ?_
  rintro _ _ ⟨rfl, rfl⟩
  show Wp p l e _ s m _ below meth c n0 _ h5 (0 + 1) (0 + 9) (mkF m 76 #[.val (.int p0), .val (.int p1), .val (.int p2), .val (.int p3), .val (.int vs_14), .val (.ref b1), .unset, .unset, .unset, .unset] [(.int (own_f1 p1 (0 : Int32) vs_14)), (.int (4 : Int32)), (.ref b1)])
  obtain ⟨y76, hy76⟩ : ∃ z : Int32, z = (nar .byte (own_f1 p1 (0 : Int32) vs_14)) := ⟨_, rfl⟩
  refine own_bastore (pc' := 77) (i := 4) (ys := [y32, y43, y54, y65, y76, (0 : Int32), (0 : Int32), (0 : Int32), (0 : Int32)]) C at_76 A_b1 (by decide) rfl (Nat.le_of_ble_eq_true rfl) (by rw [hy76]; rfl) g_b1 rfl ?_
  intro h6 W6 A6_
  replace A_b1 := A6_
  replace Z_ : n0 ≤ _ := Nat.le_trans Z_ (Nat.le_of_eq W6.size.symm)
  refine own_aload (pc' := 79) C at_77 rfl rfl rfl ?_
  refine own_iconst (pc' := 80) (v := (5 : Int32)) C at_79 own_ki_5 rfl ?_
  refine own_iloadN (pc' := 81) C at_80 rfl rfl ?_
  refine own_iconst (pc' := 82) (v := (1 : Int32)) C at_81 own_ki_1 rfl ?_
  refine own_iload (pc' := 84) C at_82 rfl rfl ?_
  refine own_callS (pc' := 87) (wL := 2) (argsL := [(.int p1), (.int (1 : Int32)), (.int vs_14)]) (rest := [(.int (5 : Int32)), (.ref b1)]) C (own_m1 l Z a0 hw p1 (1 : Int32) vs_14 h6 n0 Z_) at_84 (hw _ (List.mem_of_getElem? (i := 1) rfl)) (hw _ (List.mem_of_getElem? (i := 2) rfl)) (hw _ (List.mem_of_getElem? (i := 3) rfl)) (hw _ (List.mem_of_getElem? (i := 4) rfl)) (by decide) (by decide) (by decide) rfl (lenOf pd1 rfl) rfl rfl (Nat.le_of_eq rfl) (by decide) (by decide) rfl ?_
  rintro _ _ ⟨rfl, rfl⟩
  show Wp p l e _ s m _ below meth c n0 _ h6 (0 + 1) (0 + 9) (mkF m 87 #[.val (.int p0), .val (.int p1), .val (.int p2), .val (.int p3), .val (.int vs_14), .val (.ref b1), .unset, .unset, .unset, .unset] [(.int (own_f1 p1 (1 : Int32) vs_14)), (.int (5 : Int32)), (.ref b1)])
  obtain ⟨y87, hy87⟩ : ∃ z : Int32, z = (nar .byte (own_f1 p1 (1 : Int32) vs_14)) := ⟨_, rfl⟩
  refine own_bastore (pc' := 88) (i := 5) (ys := [y32, y43, y54, y65, y76, y87, (0 : Int32), (0 : Int32), (0 : Int32)]) C at_87 A_b1 (by decide) rfl (Nat.le_of_ble_eq_true rfl) (by rw [hy87]; rfl) g_b1 rfl ?_
  intro h7 W7 A7_
  replace A_b1 := A7_
  replace Z_ : n0 ≤ _ := Nat.le_trans Z_ (Nat.le_of_eq W7.size.symm)
  refine own_aload (pc' := 90) C at_88 rfl rfl rfl ?_
  refine own_bipush (pc' := 92) (v := (6 : Int32)) C at_90 own_kb_6 rfl ?_
  refine own_iloadN (pc' := 93) C at_92 rfl rfl ?_
  refine own_iconst (pc' := 94) (v := (2 : Int32)) C at_93 own_ki_2 rfl ?_
  refine own_iload (pc' := 96) C at_94 rfl rfl ?_
  refine own_callS (pc' := 99) (wL := 2) (argsL := [(.int p1), (.int (2 : Int32)), (.int vs_14)]) (rest := [(.int (6 : Int32)), (.ref b1)]) C (own_m1 l Z a0 hw p1 (2 : Int32) vs_14 h7 n0 Z_) at_96 (hw _ (List.mem_of_getElem? (i := 1) rfl)) (hw _ (List.mem_of_getElem? (i := 2) rfl)) (hw _ (List.mem_of_getElem? (i := 3) rfl)) (hw _ (List.mem_of_getElem? (i := 4) rfl)) (by decide) (by decide) (by decide) rfl (lenOf pd1 rfl) rfl rfl (Nat.le_of_eq rfl) (by decide) (by decide) rfl ?_
  rintro _ _ ⟨rfl, rfl⟩
  show Wp p l e _ s m _ below meth c n0 _ h7 (0 + 1) (0 + 9) (mkF m 99 #[.val (.int p0), .val (.int p1), .val (.int p2), .val (.int p3), .val (.int vs_14), .val (.ref b1), .unset, .unset, .unset, .unset] [(.int (own_f1 p1 (2 : Int32) vs_14)), (.int (6 : Int32)), (.ref b1)])
  obtain ⟨y99, hy99⟩ : ∃ z : Int32, z = (nar .byte (own_f1 p1 (2 : Int32) vs_14)) := ⟨_, rfl⟩
  refine own_bastore (pc' := 100) (i := 6) (ys := [y32, y43, y54, y65, y76, y87, y99, (0 : Int32), (0 : Int32)]) C at_99 A_b1 (by decide) rfl (Nat.le_of_ble_eq_true rfl) (by rw [hy99]; rfl) g_b1 rfl ?_
  intro h8 W8 A8_
  replace A_b1 := A8_
  replace Z_ : n0 ≤ _ := Nat.le_trans Z_ (Nat.le_of_eq W8.size.symm)
  refine own_aload (pc' := 102) C at_100 rfl rfl rfl ?_
  refine own_bipush (pc' := 104) (v := (7 : Int32)) C at_102 own_kb_7 rfl ?_
  refine own_iloadN (pc' := 105) C at_104 rfl rfl ?_
  refine own_iconst (pc' := 106) (v := (3 : Int32)) C at_105 own_ki_3 rfl ?_
  refine own_iload (pc' := 108) C at_106 rfl rfl ?_
  refine own_callS (pc' := 111) (wL := 2) (argsL := [(.int p1), (.int (3 : Int32)), (.int vs_14)]) (rest := [(.int (7 : Int32)), (.ref b1)]) C (own_m1 l Z a0 hw p1 (3 : Int32) vs_14 h8 n0 Z_) at_108 (hw _ (List.mem_of_getElem? (i := 1) rfl)) (hw _ (List.mem_of_getElem? (i := 2) rfl)) (hw _ (List.mem_of_getElem? (i := 3) rfl)) (hw _ (List.mem_of_getElem? (i := 4) rfl)) (by decide) (by decide) (by decide) rfl (lenOf pd1 rfl) rfl rfl (Nat.le_of_eq rfl) (by decide) (by decide) rfl ?_
  rintro _ _ ⟨rfl, rfl⟩
  show Wp p l e _ s m _ below meth c n0 _ h8 (0 + 1) (0 + 9) (mkF m 111 #[.val (.int p0), .val (.int p1), .val (.int p2), .val (.int p3), .val (.int vs_14), .val (.ref b1), .unset, .unset, .unset, .unset] [(.int (own_f1 p1 (3 : Int32) vs_14)), (.int (7 : Int32)), (.ref b1)])
  obtain ⟨y111, hy111⟩ : ∃ z : Int32, z = (nar .byte (own_f1 p1 (3 : Int32) vs_14)) := ⟨_, rfl⟩
  refine own_bastore (pc' := 112) (i := 7) (ys := [y32, y43, y54, y65, y76, y87, y99, y111, (0 : Int32)]) C at_111 A_b1 (by decide) rfl (Nat.le_of_ble_eq_true rfl) (by rw [hy111]; rfl) g_b1 rfl ?_
  intro h9 W9 A9_
  replace A_b1 := A9_
  replace Z_ : n0 ≤ _ := Nat.le_trans Z_ (Nat.le_of_eq W9.size.symm)
  refine own_aload (pc' := 114) C at_112 rfl rfl rfl ?_
  refine own_bipush (pc' := 116) (v := (8 : Int32)) C at_114 own_kb_8 rfl ?_
  refine own_iloadN (pc' := 117) C at_116 rfl rfl ?_
  refine own_iconst (pc' := 118) (v := (0 : Int32)) C at_117 own_ki_0 rfl ?_
  refine own_iload (pc' := 120) C at_118 rfl rfl ?_
  refine own_callS (pc' := 123) (wL := 2) (argsL := [(.int p2), (.int (0 : Int32)), (.int vs_14)]) (rest := [(.int (8 : Int32)), (.ref b1)]) C (own_m1 l Z a0 hw p2 (0 : Int32) vs_14 h9 n0 Z_) at_120 (hw _ (List.mem_of_getElem? (i := 1) rfl)) (hw _ (List.mem_of_getElem? (i := 2) rfl)) (hw _ (List.mem_of_getElem? (i := 3) rfl)) (hw _ (List.mem_of_getElem? (i := 4) rfl)) (by decide) (by decide) (by decide) rfl (lenOf pd1 rfl) rfl rfl (Nat.le_of_eq rfl) (by decide) (by decide) rfl ?_
  rintro _ _ ⟨rfl, rfl⟩
  show Wp p l e _ s m _ below meth c n0 _ h9 (0 + 1) (0 + 9) (mkF m 123 #[.val (.int p0), .val (.int p1), .val (.int p2), .val (.int p3), .val (.int vs_14), .val (.ref b1), .unset, .unset, .unset, .unset] [(.int (own_f1 p2 (0 : Int32) vs_14)), (.int (8 : Int32)), (.ref b1)])
  obtain ⟨y123, hy123⟩ : ∃ z : Int32, z = (nar .byte (own_f1 p2 (0 : Int32) vs_14)) := ⟨_, rfl⟩
  refine own_bastore (pc' := 124) (i := 8) (ys := [y32, y43, y54, y65, y76, y87, y99, y111, y123]) C at_123 A_b1 (by decide) rfl (Nat.le_of_ble_eq_true rfl) (by rw [hy123]; rfl) g_b1 rfl ?_
  intro h10 W10 A10_
  replace A_b1 := A10_
  replace Z_ : n0 ≤ _ := Nat.le_trans Z_ (Nat.le_of_eq W10.size.symm)
  refine own_iloadN (pc' := 125) C at_124 rfl rfl ?_
  refine own_sipush (pc' := 128) (v := (255 : Int32)) C at_125 own_ks_255 rfl ?_
  refine own_iand (pc' := 129) C at_128 rfl rfl ?_
  refine own_iconst (pc' := 130) (v := (3 : Int32)) C at_129 own_ki_3 rfl ?_
  refine own_irem (pc' := 131) C at_130 (by decide) rfl rfl ?_
  obtain ⟨v6_131, hv6_131⟩ : ∃ z : Int32, z = ((p3 &&& (255 : Int32)) % (3 : Int32)) := ⟨_, rfl⟩
  refine own_istore (pc' := 133) (y := v6_131) (Ls' := #[.val (.int p0), .val (.int p1), .val (.int p2), .val (.int p3), .val (.int vs_14), .val (.ref b1), .val (.int v6_131), .unset, .unset, .unset]) C at_131 hv6_131.symm rfl rfl ?_
  rcases own_from3 hv6_131 with q | q | q
  · subst q
    refine own_iloadN (pc' := 134) C at_133 rfl rfl ?_
    refine own_bipush (pc' := 136) (v := (8 : Int32)) C at_134 own_kb_8 rfl ?_
    refine own_ishr (pc' := 137) (v := (p3 >>> (8 : Int32))) C at_136 (own_sishr_8 _) rfl ?_
    refine own_iconst (pc' := 138) (v := (1 : Int32)) C at_137 own_ki_1 rfl ?_
    refine own_iand (pc' := 139) C at_138 rfl rfl ?_
    obtain ⟨vs_161, hvs_161⟩ : ∃ z : Int32, z = (if ((p3 >>> (8 : Int32)) &&& (1 : Int32)) = 0 then (((p3.toUInt32 >>> (16 : UInt32)).toInt32 &&& (255 : Int32)) % (10 : Int32)) else (7 : Int32)) := ⟨_, rfl⟩
    refine own_seq (g' := mkF m 161 #[.val (.int p0), .val (.int p1), .val (.int p2), .val (.int p3), .val (.int vs_14), .val (.ref b1), .val (.int (0 : Int32)), .unset, .unset, .unset] [(.int vs_161)]) (fun J161 => ?_) ?_
    · refine own_if_eq (pt := 147) (pf := 142) C at_139 (by decide) (by decide) rfl ?_ ?_
      · intro hc139
        refine own_iloadN (pc' := 148) C at_147 rfl rfl ?_
        refine own_bipush (pc' := 150) (v := (16 : Int32)) C at_148 own_kb_16 rfl ?_
        refine own_iushr (pc' := 151) (v := (p3.toUInt32 >>> (16 : UInt32)).toInt32) C at_150 (own_siushr_16 _) rfl ?_
        refine own_sipush (pc' := 154) (v := (255 : Int32)) C at_151 own_ks_255 rfl ?_
        refine own_iand (pc' := 155) C at_154 rfl rfl ?_
        refine own_bipush (pc' := 157) (v := (10 : Int32)) C at_155 own_kb_10 rfl ?_
        refine own_iload (pc' := 159) C at_157 rfl rfl ?_
        refine own_isub (pc' := 160) (v := (10 : Int32)) C at_159 (by decide) rfl ?_
        refine own_irem (pc' := 161) C at_160 (by decide) rfl rfl ?_
        exact own_cast (by simp only [hvs_161, if_pos hc139]) (J161)
      · intro hc139
        refine own_bipush (pc' := 144) (v := (7 : Int32)) C at_142 own_kb_7 rfl ?_
        refine own_goto (pc' := 161) C at_144 (by decide) (by decide) ?_
        exact own_cast (by simp only [hvs_161, if_neg hc139]) (J161)
    refine own_istore (pc' := 163) (y := vs_161) (Ls' := #[.val (.int p0), .val (.int p1), .val (.int p2), .val (.int p3), .val (.int vs_14), .val (.ref b1), .val (.int (0 : Int32)), .val (.int vs_161), .unset, .unset]) C at_161 rfl rfl rfl ?_
    refine own_iload (pc' := 165) C at_163 rfl rfl ?_
    refine own_iload (pc' := 167) C at_165 rfl rfl ?_
    refine own_iadd (pc' := 168) C at_167 rfl rfl ?_
    obtain ⟨v8_168, hv8_168⟩ : ∃ z : Int32, z = ((0 : Int32) + vs_161) := ⟨_, rfl⟩
    refine own_istore (pc' := 170) (y := v8_168) (Ls' := #[.val (.int p0), .val (.int p1), .val (.int p2), .val (.int p3), .val (.int vs_14), .val (.ref b1), .val (.int (0 : Int32)), .val (.int vs_161), .val (.int v8_168), .unset]) C at_168 hv8_168.symm rfl rfl ?_
    refine own_iload (pc' := 172) C at_170 rfl rfl ?_
    refine own_bipush (pc' := 174) (v := (7 : Int32)) C at_172 own_kb_7 rfl ?_
    obtain ⟨vs_271, hvs_271⟩ : ∃ z : Int32, z = (if vs_161 = (7 : Int32) then (if (own_f3 y32) = 0 then (0 : Int32) else (if (own_f3 y43) = 0 then (0 : Int32) else (if (own_f3 y54) = 0 then (0 : Int32) else (if (own_f3 y65) = 0 then (0 : Int32) else (if y76 = (45 : Int32) then (if (own_f3 y87) = 0 then (0 : Int32) else (if (own_f3 y99) = 0 then (0 : Int32) else (1 : Int32))) else (0 : Int32)))))) else (0 : Int32)) := ⟨_, rfl⟩
    have hzvs_271 : vs_271 = 0 ∨ vs_271 = 1 := by rw [hvs_271]; repeat (first | exact Or.inl rfl | exact Or.inr rfl | split)
    refine own_seq (g' := mkF m 271 #[.val (.int p0), .val (.int p1), .val (.int p2), .val (.int p3), .val (.int vs_14), .val (.ref b1), .val (.int (0 : Int32)), .val (.int vs_161), .val (.int v8_168), .unset] [(.int vs_271)]) (fun J271 => ?_) ?_
    · refine own_icmp_ne (pt := 270) (pf := 177) C at_174 (by decide) (by decide) rfl ?_ ?_
      · intro hc174
        refine own_iconst (pc' := 271) (v := (0 : Int32)) C at_270 own_ki_0 rfl ?_
        exact own_cast (by simp only [hvs_271, if_neg hc174]) (J271)
      · intro hc174
        refine own_aload (pc' := 179) C at_177 rfl rfl rfl ?_
        refine own_iload (pc' := 181) C at_179 rfl rfl ?_
        refine own_baload (pc' := 182) (v := y32) (i := 0) C at_181 A_b1 (by decide) rfl rfl rfl ?_
        refine own_callS (pc' := 185) (wL := 0) (argsL := [(.int y32)]) (rest := []) C (own_m3 l Z a0 hw y32 h10 n0 Z_) at_182 (hw _ (List.mem_of_getElem? (i := 9) rfl)) (hw _ (List.mem_of_getElem? (i := 10) rfl)) (hw _ (List.mem_of_getElem? (i := 3) rfl)) (hw _ (List.mem_of_getElem? (i := 11) rfl)) (by decide) (by decide) (by decide) rfl (lenOf pd3 rfl) rfl rfl (Nat.le_of_eq rfl) (by decide) (by decide) rfl ?_
        rintro _ _ ⟨rfl, rfl⟩
        show Wp p l e _ s m _ below meth c n0 _ h10 (0 + 1) (0 + 9) (mkF m 185 #[.val (.int p0), .val (.int p1), .val (.int p2), .val (.int p3), .val (.int vs_14), .val (.ref b1), .val (.int (0 : Int32)), .val (.int vs_161), .val (.int v8_168), .unset] [(.int (own_f3 y32))])
        refine own_if_eq (pt := 270) (pf := 188) C at_185 (by decide) (by decide) rfl ?_ ?_
        · intro hc185
          refine own_iconst (pc' := 271) (v := (0 : Int32)) C at_270 own_ki_0 rfl ?_
          exact own_cast (by simp only [hvs_271, if_pos hc174, if_pos hc185]) (J271)
        · intro hc185
          refine own_aload (pc' := 190) C at_188 rfl rfl rfl ?_
          refine own_iload (pc' := 192) C at_190 rfl rfl ?_
          refine own_iconst (pc' := 193) (v := (1 : Int32)) C at_192 own_ki_1 rfl ?_
          refine own_iadd (pc' := 194) (v := (1 : Int32)) C at_193 (by decide) rfl ?_
          refine own_baload (pc' := 195) (v := y43) (i := 1) C at_194 A_b1 (by decide) rfl rfl rfl ?_
          refine own_callS (pc' := 198) (wL := 0) (argsL := [(.int y43)]) (rest := []) C (own_m3 l Z a0 hw y43 h10 n0 Z_) at_195 (hw _ (List.mem_of_getElem? (i := 9) rfl)) (hw _ (List.mem_of_getElem? (i := 10) rfl)) (hw _ (List.mem_of_getElem? (i := 3) rfl)) (hw _ (List.mem_of_getElem? (i := 11) rfl)) (by decide) (by decide) (by decide) rfl (lenOf pd3 rfl) rfl rfl (Nat.le_of_eq rfl) (by decide) (by decide) rfl ?_
          rintro _ _ ⟨rfl, rfl⟩
          show Wp p l e _ s m _ below meth c n0 _ h10 (0 + 1) (0 + 9) (mkF m 198 #[.val (.int p0), .val (.int p1), .val (.int p2), .val (.int p3), .val (.int vs_14), .val (.ref b1), .val (.int (0 : Int32)), .val (.int vs_161), .val (.int v8_168), .unset] [(.int (own_f3 y43))])
          refine own_if_eq (pt := 270) (pf := 201) C at_198 (by decide) (by decide) rfl ?_ ?_
          · intro hc198
            refine own_iconst (pc' := 271) (v := (0 : Int32)) C at_270 own_ki_0 rfl ?_
            exact own_cast (by simp only [hvs_271, if_pos hc174, if_neg hc185, if_pos hc198]) (J271)
          · intro hc198
            refine own_aload (pc' := 203) C at_201 rfl rfl rfl ?_
            refine own_iload (pc' := 205) C at_203 rfl rfl ?_
            refine own_iconst (pc' := 206) (v := (2 : Int32)) C at_205 own_ki_2 rfl ?_
            refine own_iadd (pc' := 207) (v := (2 : Int32)) C at_206 (by decide) rfl ?_
            refine own_baload (pc' := 208) (v := y54) (i := 2) C at_207 A_b1 (by decide) rfl rfl rfl ?_
            refine own_callS (pc' := 211) (wL := 0) (argsL := [(.int y54)]) (rest := []) C (own_m3 l Z a0 hw y54 h10 n0 Z_) at_208 (hw _ (List.mem_of_getElem? (i := 9) rfl)) (hw _ (List.mem_of_getElem? (i := 10) rfl)) (hw _ (List.mem_of_getElem? (i := 3) rfl)) (hw _ (List.mem_of_getElem? (i := 11) rfl)) (by decide) (by decide) (by decide) rfl (lenOf pd3 rfl) rfl rfl (Nat.le_of_eq rfl) (by decide) (by decide) rfl ?_
            rintro _ _ ⟨rfl, rfl⟩
            show Wp p l e _ s m _ below meth c n0 _ h10 (0 + 1) (0 + 9) (mkF m 211 #[.val (.int p0), .val (.int p1), .val (.int p2), .val (.int p3), .val (.int vs_14), .val (.ref b1), .val (.int (0 : Int32)), .val (.int vs_161), .val (.int v8_168), .unset] [(.int (own_f3 y54))])
            refine own_if_eq (pt := 270) (pf := 214) C at_211 (by decide) (by decide) rfl ?_ ?_
            · intro hc211
              refine own_iconst (pc' := 271) (v := (0 : Int32)) C at_270 own_ki_0 rfl ?_
              exact own_cast (by simp only [hvs_271, if_pos hc174, if_neg hc185, if_neg hc198, if_pos hc211]) (J271)
            · intro hc211
              refine own_aload (pc' := 216) C at_214 rfl rfl rfl ?_
              refine own_iload (pc' := 218) C at_216 rfl rfl ?_
              refine own_iconst (pc' := 219) (v := (3 : Int32)) C at_218 own_ki_3 rfl ?_
              refine own_iadd (pc' := 220) (v := (3 : Int32)) C at_219 (by decide) rfl ?_
              refine own_baload (pc' := 221) (v := y65) (i := 3) C at_220 A_b1 (by decide) rfl rfl rfl ?_
              refine own_callS (pc' := 224) (wL := 0) (argsL := [(.int y65)]) (rest := []) C (own_m3 l Z a0 hw y65 h10 n0 Z_) at_221 (hw _ (List.mem_of_getElem? (i := 9) rfl)) (hw _ (List.mem_of_getElem? (i := 10) rfl)) (hw _ (List.mem_of_getElem? (i := 3) rfl)) (hw _ (List.mem_of_getElem? (i := 11) rfl)) (by decide) (by decide) (by decide) rfl (lenOf pd3 rfl) rfl rfl (Nat.le_of_eq rfl) (by decide) (by decide) rfl ?_
              rintro _ _ ⟨rfl, rfl⟩
              show Wp p l e _ s m _ below meth c n0 _ h10 (0 + 1) (0 + 9) (mkF m 224 #[.val (.int p0), .val (.int p1), .val (.int p2), .val (.int p3), .val (.int vs_14), .val (.ref b1), .val (.int (0 : Int32)), .val (.int vs_161), .val (.int v8_168), .unset] [(.int (own_f3 y65))])
              refine own_if_eq (pt := 270) (pf := 227) C at_224 (by decide) (by decide) rfl ?_ ?_
              · intro hc224
                refine own_iconst (pc' := 271) (v := (0 : Int32)) C at_270 own_ki_0 rfl ?_
                exact own_cast (by simp only [hvs_271, if_pos hc174, if_neg hc185, if_neg hc198, if_neg hc211, if_pos hc224]) (J271)
              · intro hc224
                refine own_aload (pc' := 229) C at_227 rfl rfl rfl ?_
                refine own_iload (pc' := 231) C at_229 rfl rfl ?_
                refine own_iconst (pc' := 232) (v := (4 : Int32)) C at_231 own_ki_4 rfl ?_
                refine own_iadd (pc' := 233) (v := (4 : Int32)) C at_232 (by decide) rfl ?_
                refine own_baload (pc' := 234) (v := y76) (i := 4) C at_233 A_b1 (by decide) rfl rfl rfl ?_
                refine own_bipush (pc' := 236) (v := (45 : Int32)) C at_234 own_kb_45 rfl ?_
                refine own_icmp_ne (pt := 270) (pf := 239) C at_236 (by decide) (by decide) rfl ?_ ?_
                · intro hc236
                  refine own_iconst (pc' := 271) (v := (0 : Int32)) C at_270 own_ki_0 rfl ?_
                  exact own_cast (by simp only [hvs_271, if_pos hc174, if_neg hc185, if_neg hc198, if_neg hc211, if_neg hc224, if_neg hc236]) (J271)
                · intro hc236
                  refine own_aload (pc' := 241) C at_239 rfl rfl rfl ?_
                  refine own_iload (pc' := 243) C at_241 rfl rfl ?_
                  refine own_iconst (pc' := 244) (v := (5 : Int32)) C at_243 own_ki_5 rfl ?_
                  refine own_iadd (pc' := 245) (v := (5 : Int32)) C at_244 (by decide) rfl ?_
                  refine own_baload (pc' := 246) (v := y87) (i := 5) C at_245 A_b1 (by decide) rfl rfl rfl ?_
                  refine own_callS (pc' := 249) (wL := 0) (argsL := [(.int y87)]) (rest := []) C (own_m3 l Z a0 hw y87 h10 n0 Z_) at_246 (hw _ (List.mem_of_getElem? (i := 9) rfl)) (hw _ (List.mem_of_getElem? (i := 10) rfl)) (hw _ (List.mem_of_getElem? (i := 3) rfl)) (hw _ (List.mem_of_getElem? (i := 11) rfl)) (by decide) (by decide) (by decide) rfl (lenOf pd3 rfl) rfl rfl (Nat.le_of_eq rfl) (by decide) (by decide) rfl ?_
                  rintro _ _ ⟨rfl, rfl⟩
                  show Wp p l e _ s m _ below meth c n0 _ h10 (0 + 1) (0 + 9) (mkF m 249 #[.val (.int p0), .val (.int p1), .val (.int p2), .val (.int p3), .val (.int vs_14), .val (.ref b1), .val (.int (0 : Int32)), .val (.int vs_161), .val (.int v8_168), .unset] [(.int (own_f3 y87))])
                  refine own_if_eq (pt := 270) (pf := 252) C at_249 (by decide) (by decide) rfl ?_ ?_
                  · intro hc249
                    refine own_iconst (pc' := 271) (v := (0 : Int32)) C at_270 own_ki_0 rfl ?_
                    exact own_cast (by simp only [hvs_271, if_pos hc174, if_neg hc185, if_neg hc198, if_neg hc211, if_neg hc224, if_pos hc236, if_pos hc249]) (J271)
                  · intro hc249
                    refine own_aload (pc' := 254) C at_252 rfl rfl rfl ?_
                    refine own_iload (pc' := 256) C at_254 rfl rfl ?_
                    refine own_bipush (pc' := 258) (v := (6 : Int32)) C at_256 own_kb_6 rfl ?_
                    refine own_iadd (pc' := 259) (v := (6 : Int32)) C at_258 (by decide) rfl ?_
                    refine own_baload (pc' := 260) (v := y99) (i := 6) C at_259 A_b1 (by decide) rfl rfl rfl ?_
                    refine own_callS (pc' := 263) (wL := 0) (argsL := [(.int y99)]) (rest := []) C (own_m3 l Z a0 hw y99 h10 n0 Z_) at_260 (hw _ (List.mem_of_getElem? (i := 9) rfl)) (hw _ (List.mem_of_getElem? (i := 10) rfl)) (hw _ (List.mem_of_getElem? (i := 3) rfl)) (hw _ (List.mem_of_getElem? (i := 11) rfl)) (by decide) (by decide) (by decide) rfl (lenOf pd3 rfl) rfl rfl (Nat.le_of_eq rfl) (by decide) (by decide) rfl ?_
                    rintro _ _ ⟨rfl, rfl⟩
                    show Wp p l e _ s m _ below meth c n0 _ h10 (0 + 1) (0 + 9) (mkF m 263 #[.val (.int p0), .val (.int p1), .val (.int p2), .val (.int p3), .val (.int vs_14), .val (.ref b1), .val (.int (0 : Int32)), .val (.int vs_161), .val (.int v8_168), .unset] [(.int (own_f3 y99))])
                    refine own_if_eq (pt := 270) (pf := 266) C at_263 (by decide) (by decide) rfl ?_ ?_
                    · intro hc263
                      refine own_iconst (pc' := 271) (v := (0 : Int32)) C at_270 own_ki_0 rfl ?_
                      exact own_cast (by simp only [hvs_271, if_pos hc174, if_neg hc185, if_neg hc198, if_neg hc211, if_neg hc224, if_pos hc236, if_neg hc249, if_pos hc263]) (J271)
                    · intro hc263
                      refine own_iconst (pc' := 267) (v := (1 : Int32)) C at_266 own_ki_1 rfl ?_
                      refine own_goto (pc' := 271) C at_267 (by decide) (by decide) ?_
                      exact own_cast (by simp only [hvs_271, if_pos hc174, if_neg hc185, if_neg hc198, if_neg hc211, if_neg hc224, if_pos hc236, if_neg hc249, if_neg hc263]) (J271)
    refine own_istore (pc' := 273) (y := vs_271) (Ls' := #[.val (.int p0), .val (.int p1), .val (.int p2), .val (.int p3), .val (.int vs_14), .val (.ref b1), .val (.int (0 : Int32)), .val (.int vs_161), .val (.int v8_168), .val (.int vs_271)]) C at_271 rfl rfl rfl ?_
    refine own_aload (pc' := 275) C at_273 rfl rfl rfl ?_
    refine own_iload (pc' := 277) C at_275 rfl rfl ?_
    refine own_iload (pc' := 279) C at_277 rfl rfl ?_
    refine own_callS (pc' := 282) (wL := 0) (argsL := [(.ref b1), (.int (0 : Int32)), (.int v8_168)]) (rest := []) C (own_isM0 l Z a0 hw b1 v8_168 y32 y43 y54 y65 y76 y87 y99 y111 y123 h10 n0 Z_ A_b1) at_279 (hw _ (List.mem_of_getElem? (i := 5) rfl)) (hw _ (List.mem_of_getElem? (i := 6) rfl)) (hw _ (List.mem_of_getElem? (i := 7) rfl)) (hw _ (List.mem_of_getElem? (i := 8) rfl)) (by decide) (by decide) (by decide) rfl (lenOf pd2 rfl) rfl rfl (Nat.le_of_eq rfl) (by decide) (by decide) rfl ?_
    rintro _ _ ⟨rfl, rfl⟩
    show Wp p l e _ s m _ below meth c n0 _ h10 (0 + 1) (0 + 9) (mkF m 282 #[.val (.int p0), .val (.int p1), .val (.int p2), .val (.int p3), .val (.int vs_14), .val (.ref b1), .val (.int (0 : Int32)), .val (.int vs_161), .val (.int v8_168), .val (.int vs_271)] [(.int (own_month (v8_168 - 0) y32 y43 y54 y65 y76 y87 y99))])
    refine own_iload (pc' := 284) C at_282 rfl rfl ?_
    refine own_icmp_ne (pt := 291) (pf := 287) C at_284 (by decide) (by decide) rfl (fun q => absurd (own_plain hv8_168 hvs_271) q) (fun _ => ?_)
    refine own_iconst (pc' := 288) (v := (1 : Int32)) C at_287 own_ki_1 rfl ?_
    refine own_goto (pc' := 292) C at_288 (by decide) (by decide) ?_
    refine own_zret C at_292 (by decide) (by decide) (Or.inr rfl) ?_
    exact rfl
  · subst q
    refine own_iloadN (pc' := 134) C at_133 rfl rfl ?_
    refine own_bipush (pc' := 136) (v := (8 : Int32)) C at_134 own_kb_8 rfl ?_
    refine own_ishr (pc' := 137) (v := (p3 >>> (8 : Int32))) C at_136 (own_sishr_8 _) rfl ?_
    refine own_iconst (pc' := 138) (v := (1 : Int32)) C at_137 own_ki_1 rfl ?_
    refine own_iand (pc' := 139) C at_138 rfl rfl ?_
    obtain ⟨vs_161, hvs_161⟩ : ∃ z : Int32, z = (if ((p3 >>> (8 : Int32)) &&& (1 : Int32)) = 0 then (((p3.toUInt32 >>> (16 : UInt32)).toInt32 &&& (255 : Int32)) % (9 : Int32)) else (7 : Int32)) := ⟨_, rfl⟩
    refine own_seq (g' := mkF m 161 #[.val (.int p0), .val (.int p1), .val (.int p2), .val (.int p3), .val (.int vs_14), .val (.ref b1), .val (.int (1 : Int32)), .unset, .unset, .unset] [(.int vs_161)]) (fun J161 => ?_) ?_
    · refine own_if_eq (pt := 147) (pf := 142) C at_139 (by decide) (by decide) rfl ?_ ?_
      · intro hc139
        refine own_iloadN (pc' := 148) C at_147 rfl rfl ?_
        refine own_bipush (pc' := 150) (v := (16 : Int32)) C at_148 own_kb_16 rfl ?_
        refine own_iushr (pc' := 151) (v := (p3.toUInt32 >>> (16 : UInt32)).toInt32) C at_150 (own_siushr_16 _) rfl ?_
        refine own_sipush (pc' := 154) (v := (255 : Int32)) C at_151 own_ks_255 rfl ?_
        refine own_iand (pc' := 155) C at_154 rfl rfl ?_
        refine own_bipush (pc' := 157) (v := (10 : Int32)) C at_155 own_kb_10 rfl ?_
        refine own_iload (pc' := 159) C at_157 rfl rfl ?_
        refine own_isub (pc' := 160) (v := (9 : Int32)) C at_159 (by decide) rfl ?_
        refine own_irem (pc' := 161) C at_160 (by decide) rfl rfl ?_
        exact own_cast (by simp only [hvs_161, if_pos hc139]) (J161)
      · intro hc139
        refine own_bipush (pc' := 144) (v := (7 : Int32)) C at_142 own_kb_7 rfl ?_
        refine own_goto (pc' := 161) C at_144 (by decide) (by decide) ?_
        exact own_cast (by simp only [hvs_161, if_neg hc139]) (J161)
    refine own_istore (pc' := 163) (y := vs_161) (Ls' := #[.val (.int p0), .val (.int p1), .val (.int p2), .val (.int p3), .val (.int vs_14), .val (.ref b1), .val (.int (1 : Int32)), .val (.int vs_161), .unset, .unset]) C at_161 rfl rfl rfl ?_
    refine own_iload (pc' := 165) C at_163 rfl rfl ?_
    refine own_iload (pc' := 167) C at_165 rfl rfl ?_
    refine own_iadd (pc' := 168) C at_167 rfl rfl ?_
    obtain ⟨v8_168, hv8_168⟩ : ∃ z : Int32, z = ((1 : Int32) + vs_161) := ⟨_, rfl⟩
    refine own_istore (pc' := 170) (y := v8_168) (Ls' := #[.val (.int p0), .val (.int p1), .val (.int p2), .val (.int p3), .val (.int vs_14), .val (.ref b1), .val (.int (1 : Int32)), .val (.int vs_161), .val (.int v8_168), .unset]) C at_168 hv8_168.symm rfl rfl ?_
    refine own_iload (pc' := 172) C at_170 rfl rfl ?_
    refine own_bipush (pc' := 174) (v := (7 : Int32)) C at_172 own_kb_7 rfl ?_
    obtain ⟨vs_271, hvs_271⟩ : ∃ z : Int32, z = (if vs_161 = (7 : Int32) then (if (own_f3 y43) = 0 then (0 : Int32) else (if (own_f3 y54) = 0 then (0 : Int32) else (if (own_f3 y65) = 0 then (0 : Int32) else (if (own_f3 y76) = 0 then (0 : Int32) else (if y87 = (45 : Int32) then (if (own_f3 y99) = 0 then (0 : Int32) else (if (own_f3 y111) = 0 then (0 : Int32) else (1 : Int32))) else (0 : Int32)))))) else (0 : Int32)) := ⟨_, rfl⟩
    have hzvs_271 : vs_271 = 0 ∨ vs_271 = 1 := by rw [hvs_271]; repeat (first | exact Or.inl rfl | exact Or.inr rfl | split)
    refine own_seq (g' := mkF m 271 #[.val (.int p0), .val (.int p1), .val (.int p2), .val (.int p3), .val (.int vs_14), .val (.ref b1), .val (.int (1 : Int32)), .val (.int vs_161), .val (.int v8_168), .unset] [(.int vs_271)]) (fun J271 => ?_) ?_
    · refine own_icmp_ne (pt := 270) (pf := 177) C at_174 (by decide) (by decide) rfl ?_ ?_
      · intro hc174
        refine own_iconst (pc' := 271) (v := (0 : Int32)) C at_270 own_ki_0 rfl ?_
        exact own_cast (by simp only [hvs_271, if_neg hc174]) (J271)
      · intro hc174
        refine own_aload (pc' := 179) C at_177 rfl rfl rfl ?_
        refine own_iload (pc' := 181) C at_179 rfl rfl ?_
        refine own_baload (pc' := 182) (v := y43) (i := 1) C at_181 A_b1 (by decide) rfl rfl rfl ?_
        refine own_callS (pc' := 185) (wL := 0) (argsL := [(.int y43)]) (rest := []) C (own_m3 l Z a0 hw y43 h10 n0 Z_) at_182 (hw _ (List.mem_of_getElem? (i := 9) rfl)) (hw _ (List.mem_of_getElem? (i := 10) rfl)) (hw _ (List.mem_of_getElem? (i := 3) rfl)) (hw _ (List.mem_of_getElem? (i := 11) rfl)) (by decide) (by decide) (by decide) rfl (lenOf pd3 rfl) rfl rfl (Nat.le_of_eq rfl) (by decide) (by decide) rfl ?_
        rintro _ _ ⟨rfl, rfl⟩
        show Wp p l e _ s m _ below meth c n0 _ h10 (0 + 1) (0 + 9) (mkF m 185 #[.val (.int p0), .val (.int p1), .val (.int p2), .val (.int p3), .val (.int vs_14), .val (.ref b1), .val (.int (1 : Int32)), .val (.int vs_161), .val (.int v8_168), .unset] [(.int (own_f3 y43))])
        refine own_if_eq (pt := 270) (pf := 188) C at_185 (by decide) (by decide) rfl ?_ ?_
        · intro hc185
          refine own_iconst (pc' := 271) (v := (0 : Int32)) C at_270 own_ki_0 rfl ?_
          exact own_cast (by simp only [hvs_271, if_pos hc174, if_pos hc185]) (J271)
        · intro hc185
          refine own_aload (pc' := 190) C at_188 rfl rfl rfl ?_
          refine own_iload (pc' := 192) C at_190 rfl rfl ?_
          refine own_iconst (pc' := 193) (v := (1 : Int32)) C at_192 own_ki_1 rfl ?_
          refine own_iadd (pc' := 194) (v := (2 : Int32)) C at_193 (by decide) rfl ?_
          refine own_baload (pc' := 195) (v := y54) (i := 2) C at_194 A_b1 (by decide) rfl rfl rfl ?_
          refine own_callS (pc' := 198) (wL := 0) (argsL := [(.int y54)]) (rest := []) C (own_m3 l Z a0 hw y54 h10 n0 Z_) at_195 (hw _ (List.mem_of_getElem? (i := 9) rfl)) (hw _ (List.mem_of_getElem? (i := 10) rfl)) (hw _ (List.mem_of_getElem? (i := 3) rfl)) (hw _ (List.mem_of_getElem? (i := 11) rfl)) (by decide) (by decide) (by decide) rfl (lenOf pd3 rfl) rfl rfl (Nat.le_of_eq rfl) (by decide) (by decide) rfl ?_
          rintro _ _ ⟨rfl, rfl⟩
          show Wp p l e _ s m _ below meth c n0 _ h10 (0 + 1) (0 + 9) (mkF m 198 #[.val (.int p0), .val (.int p1), .val (.int p2), .val (.int p3), .val (.int vs_14), .val (.ref b1), .val (.int (1 : Int32)), .val (.int vs_161), .val (.int v8_168), .unset] [(.int (own_f3 y54))])
          refine own_if_eq (pt := 270) (pf := 201) C at_198 (by decide) (by decide) rfl ?_ ?_
          · intro hc198
            refine own_iconst (pc' := 271) (v := (0 : Int32)) C at_270 own_ki_0 rfl ?_
            exact own_cast (by simp only [hvs_271, if_pos hc174, if_neg hc185, if_pos hc198]) (J271)
          · intro hc198
            refine own_aload (pc' := 203) C at_201 rfl rfl rfl ?_
            refine own_iload (pc' := 205) C at_203 rfl rfl ?_
            refine own_iconst (pc' := 206) (v := (2 : Int32)) C at_205 own_ki_2 rfl ?_
            refine own_iadd (pc' := 207) (v := (3 : Int32)) C at_206 (by decide) rfl ?_
            refine own_baload (pc' := 208) (v := y65) (i := 3) C at_207 A_b1 (by decide) rfl rfl rfl ?_
            refine own_callS (pc' := 211) (wL := 0) (argsL := [(.int y65)]) (rest := []) C (own_m3 l Z a0 hw y65 h10 n0 Z_) at_208 (hw _ (List.mem_of_getElem? (i := 9) rfl)) (hw _ (List.mem_of_getElem? (i := 10) rfl)) (hw _ (List.mem_of_getElem? (i := 3) rfl)) (hw _ (List.mem_of_getElem? (i := 11) rfl)) (by decide) (by decide) (by decide) rfl (lenOf pd3 rfl) rfl rfl (Nat.le_of_eq rfl) (by decide) (by decide) rfl ?_
            rintro _ _ ⟨rfl, rfl⟩
            show Wp p l e _ s m _ below meth c n0 _ h10 (0 + 1) (0 + 9) (mkF m 211 #[.val (.int p0), .val (.int p1), .val (.int p2), .val (.int p3), .val (.int vs_14), .val (.ref b1), .val (.int (1 : Int32)), .val (.int vs_161), .val (.int v8_168), .unset] [(.int (own_f3 y65))])
            refine own_if_eq (pt := 270) (pf := 214) C at_211 (by decide) (by decide) rfl ?_ ?_
            · intro hc211
              refine own_iconst (pc' := 271) (v := (0 : Int32)) C at_270 own_ki_0 rfl ?_
              exact own_cast (by simp only [hvs_271, if_pos hc174, if_neg hc185, if_neg hc198, if_pos hc211]) (J271)
            · intro hc211
              refine own_aload (pc' := 216) C at_214 rfl rfl rfl ?_
              refine own_iload (pc' := 218) C at_216 rfl rfl ?_
              refine own_iconst (pc' := 219) (v := (3 : Int32)) C at_218 own_ki_3 rfl ?_
              refine own_iadd (pc' := 220) (v := (4 : Int32)) C at_219 (by decide) rfl ?_
              refine own_baload (pc' := 221) (v := y76) (i := 4) C at_220 A_b1 (by decide) rfl rfl rfl ?_
              refine own_callS (pc' := 224) (wL := 0) (argsL := [(.int y76)]) (rest := []) C (own_m3 l Z a0 hw y76 h10 n0 Z_) at_221 (hw _ (List.mem_of_getElem? (i := 9) rfl)) (hw _ (List.mem_of_getElem? (i := 10) rfl)) (hw _ (List.mem_of_getElem? (i := 3) rfl)) (hw _ (List.mem_of_getElem? (i := 11) rfl)) (by decide) (by decide) (by decide) rfl (lenOf pd3 rfl) rfl rfl (Nat.le_of_eq rfl) (by decide) (by decide) rfl ?_
              rintro _ _ ⟨rfl, rfl⟩
              show Wp p l e _ s m _ below meth c n0 _ h10 (0 + 1) (0 + 9) (mkF m 224 #[.val (.int p0), .val (.int p1), .val (.int p2), .val (.int p3), .val (.int vs_14), .val (.ref b1), .val (.int (1 : Int32)), .val (.int vs_161), .val (.int v8_168), .unset] [(.int (own_f3 y76))])
              refine own_if_eq (pt := 270) (pf := 227) C at_224 (by decide) (by decide) rfl ?_ ?_
              · intro hc224
                refine own_iconst (pc' := 271) (v := (0 : Int32)) C at_270 own_ki_0 rfl ?_
                exact own_cast (by simp only [hvs_271, if_pos hc174, if_neg hc185, if_neg hc198, if_neg hc211, if_pos hc224]) (J271)
              · intro hc224
                refine own_aload (pc' := 229) C at_227 rfl rfl rfl ?_
                refine own_iload (pc' := 231) C at_229 rfl rfl ?_
                refine own_iconst (pc' := 232) (v := (4 : Int32)) C at_231 own_ki_4 rfl ?_
                refine own_iadd (pc' := 233) (v := (5 : Int32)) C at_232 (by decide) rfl ?_
                refine own_baload (pc' := 234) (v := y87) (i := 5) C at_233 A_b1 (by decide) rfl rfl rfl ?_
                refine own_bipush (pc' := 236) (v := (45 : Int32)) C at_234 own_kb_45 rfl ?_
                refine own_icmp_ne (pt := 270) (pf := 239) C at_236 (by decide) (by decide) rfl ?_ ?_
                · intro hc236
                  refine own_iconst (pc' := 271) (v := (0 : Int32)) C at_270 own_ki_0 rfl ?_
                  exact own_cast (by simp only [hvs_271, if_pos hc174, if_neg hc185, if_neg hc198, if_neg hc211, if_neg hc224, if_neg hc236]) (J271)
                · intro hc236
                  refine own_aload (pc' := 241) C at_239 rfl rfl rfl ?_
                  refine own_iload (pc' := 243) C at_241 rfl rfl ?_
                  refine own_iconst (pc' := 244) (v := (5 : Int32)) C at_243 own_ki_5 rfl ?_
                  refine own_iadd (pc' := 245) (v := (6 : Int32)) C at_244 (by decide) rfl ?_
                  refine own_baload (pc' := 246) (v := y99) (i := 6) C at_245 A_b1 (by decide) rfl rfl rfl ?_
                  refine own_callS (pc' := 249) (wL := 0) (argsL := [(.int y99)]) (rest := []) C (own_m3 l Z a0 hw y99 h10 n0 Z_) at_246 (hw _ (List.mem_of_getElem? (i := 9) rfl)) (hw _ (List.mem_of_getElem? (i := 10) rfl)) (hw _ (List.mem_of_getElem? (i := 3) rfl)) (hw _ (List.mem_of_getElem? (i := 11) rfl)) (by decide) (by decide) (by decide) rfl (lenOf pd3 rfl) rfl rfl (Nat.le_of_eq rfl) (by decide) (by decide) rfl ?_
                  rintro _ _ ⟨rfl, rfl⟩
                  show Wp p l e _ s m _ below meth c n0 _ h10 (0 + 1) (0 + 9) (mkF m 249 #[.val (.int p0), .val (.int p1), .val (.int p2), .val (.int p3), .val (.int vs_14), .val (.ref b1), .val (.int (1 : Int32)), .val (.int vs_161), .val (.int v8_168), .unset] [(.int (own_f3 y99))])
                  refine own_if_eq (pt := 270) (pf := 252) C at_249 (by decide) (by decide) rfl ?_ ?_
                  · intro hc249
                    refine own_iconst (pc' := 271) (v := (0 : Int32)) C at_270 own_ki_0 rfl ?_
                    exact own_cast (by simp only [hvs_271, if_pos hc174, if_neg hc185, if_neg hc198, if_neg hc211, if_neg hc224, if_pos hc236, if_pos hc249]) (J271)
                  · intro hc249
                    refine own_aload (pc' := 254) C at_252 rfl rfl rfl ?_
                    refine own_iload (pc' := 256) C at_254 rfl rfl ?_
                    refine own_bipush (pc' := 258) (v := (6 : Int32)) C at_256 own_kb_6 rfl ?_
                    refine own_iadd (pc' := 259) (v := (7 : Int32)) C at_258 (by decide) rfl ?_
                    refine own_baload (pc' := 260) (v := y111) (i := 7) C at_259 A_b1 (by decide) rfl rfl rfl ?_
                    refine own_callS (pc' := 263) (wL := 0) (argsL := [(.int y111)]) (rest := []) C (own_m3 l Z a0 hw y111 h10 n0 Z_) at_260 (hw _ (List.mem_of_getElem? (i := 9) rfl)) (hw _ (List.mem_of_getElem? (i := 10) rfl)) (hw _ (List.mem_of_getElem? (i := 3) rfl)) (hw _ (List.mem_of_getElem? (i := 11) rfl)) (by decide) (by decide) (by decide) rfl (lenOf pd3 rfl) rfl rfl (Nat.le_of_eq rfl) (by decide) (by decide) rfl ?_
                    rintro _ _ ⟨rfl, rfl⟩
                    show Wp p l e _ s m _ below meth c n0 _ h10 (0 + 1) (0 + 9) (mkF m 263 #[.val (.int p0), .val (.int p1), .val (.int p2), .val (.int p3), .val (.int vs_14), .val (.ref b1), .val (.int (1 : Int32)), .val (.int vs_161), .val (.int v8_168), .unset] [(.int (own_f3 y111))])
                    refine own_if_eq (pt := 270) (pf := 266) C at_263 (by decide) (by decide) rfl ?_ ?_
                    · intro hc263
                      refine own_iconst (pc' := 271) (v := (0 : Int32)) C at_270 own_ki_0 rfl ?_
                      exact own_cast (by simp only [hvs_271, if_pos hc174, if_neg hc185, if_neg hc198, if_neg hc211, if_neg hc224, if_pos hc236, if_neg hc249, if_pos hc263]) (J271)
                    · intro hc263
                      refine own_iconst (pc' := 267) (v := (1 : Int32)) C at_266 own_ki_1 rfl ?_
                      refine own_goto (pc' := 271) C at_267 (by decide) (by decide) ?_
                      exact own_cast (by simp only [hvs_271, if_pos hc174, if_neg hc185, if_neg hc198, if_neg hc211, if_neg hc224, if_pos hc236, if_neg hc249, if_neg hc263]) (J271)
    refine own_istore (pc' := 273) (y := vs_271) (Ls' := #[.val (.int p0), .val (.int p1), .val (.int p2), .val (.int p3), .val (.int vs_14), .val (.ref b1), .val (.int (1 : Int32)), .val (.int vs_161), .val (.int v8_168), .val (.int vs_271)]) C at_271 rfl rfl rfl ?_
    refine own_aload (pc' := 275) C at_273 rfl rfl rfl ?_
    refine own_iload (pc' := 277) C at_275 rfl rfl ?_
    refine own_iload (pc' := 279) C at_277 rfl rfl ?_
    refine own_callS (pc' := 282) (wL := 0) (argsL := [(.ref b1), (.int (1 : Int32)), (.int v8_168)]) (rest := []) C (own_isM1 l Z a0 hw b1 v8_168 y32 y43 y54 y65 y76 y87 y99 y111 y123 h10 n0 Z_ A_b1) at_279 (hw _ (List.mem_of_getElem? (i := 5) rfl)) (hw _ (List.mem_of_getElem? (i := 6) rfl)) (hw _ (List.mem_of_getElem? (i := 7) rfl)) (hw _ (List.mem_of_getElem? (i := 8) rfl)) (by decide) (by decide) (by decide) rfl (lenOf pd2 rfl) rfl rfl (Nat.le_of_eq rfl) (by decide) (by decide) rfl ?_
    rintro _ _ ⟨rfl, rfl⟩
    show Wp p l e _ s m _ below meth c n0 _ h10 (0 + 1) (0 + 9) (mkF m 282 #[.val (.int p0), .val (.int p1), .val (.int p2), .val (.int p3), .val (.int vs_14), .val (.ref b1), .val (.int (1 : Int32)), .val (.int vs_161), .val (.int v8_168), .val (.int vs_271)] [(.int (own_month (v8_168 - 1) y43 y54 y65 y76 y87 y99 y111))])
    refine own_iload (pc' := 284) C at_282 rfl rfl ?_
    refine own_icmp_ne (pt := 291) (pf := 287) C at_284 (by decide) (by decide) rfl (fun q => absurd (own_plain hv8_168 hvs_271) q) (fun _ => ?_)
    refine own_iconst (pc' := 288) (v := (1 : Int32)) C at_287 own_ki_1 rfl ?_
    refine own_goto (pc' := 292) C at_288 (by decide) (by decide) ?_
    refine own_zret C at_292 (by decide) (by decide) (Or.inr rfl) ?_
    exact rfl
  · subst q
    refine own_iloadN (pc' := 134) C at_133 rfl rfl ?_
    refine own_bipush (pc' := 136) (v := (8 : Int32)) C at_134 own_kb_8 rfl ?_
    refine own_ishr (pc' := 137) (v := (p3 >>> (8 : Int32))) C at_136 (own_sishr_8 _) rfl ?_
    refine own_iconst (pc' := 138) (v := (1 : Int32)) C at_137 own_ki_1 rfl ?_
    refine own_iand (pc' := 139) C at_138 rfl rfl ?_
    obtain ⟨vs_161, hvs_161⟩ : ∃ z : Int32, z = (if ((p3 >>> (8 : Int32)) &&& (1 : Int32)) = 0 then (((p3.toUInt32 >>> (16 : UInt32)).toInt32 &&& (255 : Int32)) % (8 : Int32)) else (7 : Int32)) := ⟨_, rfl⟩
    refine own_seq (g' := mkF m 161 #[.val (.int p0), .val (.int p1), .val (.int p2), .val (.int p3), .val (.int vs_14), .val (.ref b1), .val (.int (2 : Int32)), .unset, .unset, .unset] [(.int vs_161)]) (fun J161 => ?_) ?_
    · refine own_if_eq (pt := 147) (pf := 142) C at_139 (by decide) (by decide) rfl ?_ ?_
      · intro hc139
        refine own_iloadN (pc' := 148) C at_147 rfl rfl ?_
        refine own_bipush (pc' := 150) (v := (16 : Int32)) C at_148 own_kb_16 rfl ?_
        refine own_iushr (pc' := 151) (v := (p3.toUInt32 >>> (16 : UInt32)).toInt32) C at_150 (own_siushr_16 _) rfl ?_
        refine own_sipush (pc' := 154) (v := (255 : Int32)) C at_151 own_ks_255 rfl ?_
        refine own_iand (pc' := 155) C at_154 rfl rfl ?_
        refine own_bipush (pc' := 157) (v := (10 : Int32)) C at_155 own_kb_10 rfl ?_
        refine own_iload (pc' := 159) C at_157 rfl rfl ?_
        refine own_isub (pc' := 160) (v := (8 : Int32)) C at_159 (by decide) rfl ?_
        refine own_irem (pc' := 161) C at_160 (by decide) rfl rfl ?_
        exact own_cast (by simp only [hvs_161, if_pos hc139]) (J161)
      · intro hc139
        refine own_bipush (pc' := 144) (v := (7 : Int32)) C at_142 own_kb_7 rfl ?_
        refine own_goto (pc' := 161) C at_144 (by decide) (by decide) ?_
        exact own_cast (by simp only [hvs_161, if_neg hc139]) (J161)
    refine own_istore (pc' := 163) (y := vs_161) (Ls' := #[.val (.int p0), .val (.int p1), .val (.int p2), .val (.int p3), .val (.int vs_14), .val (.ref b1), .val (.int (2 : Int32)), .val (.int vs_161), .unset, .unset]) C at_161 rfl rfl rfl ?_
    refine own_iload (pc' := 165) C at_163 rfl rfl ?_
    refine own_iload (pc' := 167) C at_165 rfl rfl ?_
    refine own_iadd (pc' := 168) C at_167 rfl rfl ?_
    obtain ⟨v8_168, hv8_168⟩ : ∃ z : Int32, z = ((2 : Int32) + vs_161) := ⟨_, rfl⟩
    refine own_istore (pc' := 170) (y := v8_168) (Ls' := #[.val (.int p0), .val (.int p1), .val (.int p2), .val (.int p3), .val (.int vs_14), .val (.ref b1), .val (.int (2 : Int32)), .val (.int vs_161), .val (.int v8_168), .unset]) C at_168 hv8_168.symm rfl rfl ?_
    refine own_iload (pc' := 172) C at_170 rfl rfl ?_
    refine own_bipush (pc' := 174) (v := (7 : Int32)) C at_172 own_kb_7 rfl ?_
    obtain ⟨vs_271, hvs_271⟩ : ∃ z : Int32, z = (if vs_161 = (7 : Int32) then (if (own_f3 y54) = 0 then (0 : Int32) else (if (own_f3 y65) = 0 then (0 : Int32) else (if (own_f3 y76) = 0 then (0 : Int32) else (if (own_f3 y87) = 0 then (0 : Int32) else (if y99 = (45 : Int32) then (if (own_f3 y111) = 0 then (0 : Int32) else (if (own_f3 y123) = 0 then (0 : Int32) else (1 : Int32))) else (0 : Int32)))))) else (0 : Int32)) := ⟨_, rfl⟩
    have hzvs_271 : vs_271 = 0 ∨ vs_271 = 1 := by rw [hvs_271]; repeat (first | exact Or.inl rfl | exact Or.inr rfl | split)
    refine own_seq (g' := mkF m 271 #[.val (.int p0), .val (.int p1), .val (.int p2), .val (.int p3), .val (.int vs_14), .val (.ref b1), .val (.int (2 : Int32)), .val (.int vs_161), .val (.int v8_168), .unset] [(.int vs_271)]) (fun J271 => ?_) ?_
    · refine own_icmp_ne (pt := 270) (pf := 177) C at_174 (by decide) (by decide) rfl ?_ ?_
      · intro hc174
        refine own_iconst (pc' := 271) (v := (0 : Int32)) C at_270 own_ki_0 rfl ?_
        exact own_cast (by simp only [hvs_271, if_neg hc174]) (J271)
      · intro hc174
        refine own_aload (pc' := 179) C at_177 rfl rfl rfl ?_
        refine own_iload (pc' := 181) C at_179 rfl rfl ?_
        refine own_baload (pc' := 182) (v := y54) (i := 2) C at_181 A_b1 (by decide) rfl rfl rfl ?_
        refine own_callS (pc' := 185) (wL := 0) (argsL := [(.int y54)]) (rest := []) C (own_m3 l Z a0 hw y54 h10 n0 Z_) at_182 (hw _ (List.mem_of_getElem? (i := 9) rfl)) (hw _ (List.mem_of_getElem? (i := 10) rfl)) (hw _ (List.mem_of_getElem? (i := 3) rfl)) (hw _ (List.mem_of_getElem? (i := 11) rfl)) (by decide) (by decide) (by decide) rfl (lenOf pd3 rfl) rfl rfl (Nat.le_of_eq rfl) (by decide) (by decide) rfl ?_
        rintro _ _ ⟨rfl, rfl⟩
        show Wp p l e _ s m _ below meth c n0 _ h10 (0 + 1) (0 + 9) (mkF m 185 #[.val (.int p0), .val (.int p1), .val (.int p2), .val (.int p3), .val (.int vs_14), .val (.ref b1), .val (.int (2 : Int32)), .val (.int vs_161), .val (.int v8_168), .unset] [(.int (own_f3 y54))])
        refine own_if_eq (pt := 270) (pf := 188) C at_185 (by decide) (by decide) rfl ?_ ?_
        · intro hc185
          refine own_iconst (pc' := 271) (v := (0 : Int32)) C at_270 own_ki_0 rfl ?_
          exact own_cast (by simp only [hvs_271, if_pos hc174, if_pos hc185]) (J271)
        · intro hc185
          refine own_aload (pc' := 190) C at_188 rfl rfl rfl ?_
          refine own_iload (pc' := 192) C at_190 rfl rfl ?_
          refine own_iconst (pc' := 193) (v := (1 : Int32)) C at_192 own_ki_1 rfl ?_
          refine own_iadd (pc' := 194) (v := (3 : Int32)) C at_193 (by decide) rfl ?_
          refine own_baload (pc' := 195) (v := y65) (i := 3) C at_194 A_b1 (by decide) rfl rfl rfl ?_
          refine own_callS (pc' := 198) (wL := 0) (argsL := [(.int y65)]) (rest := []) C (own_m3 l Z a0 hw y65 h10 n0 Z_) at_195 (hw _ (List.mem_of_getElem? (i := 9) rfl)) (hw _ (List.mem_of_getElem? (i := 10) rfl)) (hw _ (List.mem_of_getElem? (i := 3) rfl)) (hw _ (List.mem_of_getElem? (i := 11) rfl)) (by decide) (by decide) (by decide) rfl (lenOf pd3 rfl) rfl rfl (Nat.le_of_eq rfl) (by decide) (by decide) rfl ?_
          rintro _ _ ⟨rfl, rfl⟩
          show Wp p l e _ s m _ below meth c n0 _ h10 (0 + 1) (0 + 9) (mkF m 198 #[.val (.int p0), .val (.int p1), .val (.int p2), .val (.int p3), .val (.int vs_14), .val (.ref b1), .val (.int (2 : Int32)), .val (.int vs_161), .val (.int v8_168), .unset] [(.int (own_f3 y65))])
          refine own_if_eq (pt := 270) (pf := 201) C at_198 (by decide) (by decide) rfl ?_ ?_
          · intro hc198
            refine own_iconst (pc' := 271) (v := (0 : Int32)) C at_270 own_ki_0 rfl ?_
            exact own_cast (by simp only [hvs_271, if_pos hc174, if_neg hc185, if_pos hc198]) (J271)
          · intro hc198
            refine own_aload (pc' := 203) C at_201 rfl rfl rfl ?_
            refine own_iload (pc' := 205) C at_203 rfl rfl ?_
            refine own_iconst (pc' := 206) (v := (2 : Int32)) C at_205 own_ki_2 rfl ?_
            refine own_iadd (pc' := 207) (v := (4 : Int32)) C at_206 (by decide) rfl ?_
            refine own_baload (pc' := 208) (v := y76) (i := 4) C at_207 A_b1 (by decide) rfl rfl rfl ?_
            refine own_callS (pc' := 211) (wL := 0) (argsL := [(.int y76)]) (rest := []) C (own_m3 l Z a0 hw y76 h10 n0 Z_) at_208 (hw _ (List.mem_of_getElem? (i := 9) rfl)) (hw _ (List.mem_of_getElem? (i := 10) rfl)) (hw _ (List.mem_of_getElem? (i := 3) rfl)) (hw _ (List.mem_of_getElem? (i := 11) rfl)) (by decide) (by decide) (by decide) rfl (lenOf pd3 rfl) rfl rfl (Nat.le_of_eq rfl) (by decide) (by decide) rfl ?_
            rintro _ _ ⟨rfl, rfl⟩
            show Wp p l e _ s m _ below meth c n0 _ h10 (0 + 1) (0 + 9) (mkF m 211 #[.val (.int p0), .val (.int p1), .val (.int p2), .val (.int p3), .val (.int vs_14), .val (.ref b1), .val (.int (2 : Int32)), .val (.int vs_161), .val (.int v8_168), .unset] [(.int (own_f3 y76))])
            refine own_if_eq (pt := 270) (pf := 214) C at_211 (by decide) (by decide) rfl ?_ ?_
            · intro hc211
              refine own_iconst (pc' := 271) (v := (0 : Int32)) C at_270 own_ki_0 rfl ?_
              exact own_cast (by simp only [hvs_271, if_pos hc174, if_neg hc185, if_neg hc198, if_pos hc211]) (J271)
            · intro hc211
              refine own_aload (pc' := 216) C at_214 rfl rfl rfl ?_
              refine own_iload (pc' := 218) C at_216 rfl rfl ?_
              refine own_iconst (pc' := 219) (v := (3 : Int32)) C at_218 own_ki_3 rfl ?_
              refine own_iadd (pc' := 220) (v := (5 : Int32)) C at_219 (by decide) rfl ?_
              refine own_baload (pc' := 221) (v := y87) (i := 5) C at_220 A_b1 (by decide) rfl rfl rfl ?_
              refine own_callS (pc' := 224) (wL := 0) (argsL := [(.int y87)]) (rest := []) C (own_m3 l Z a0 hw y87 h10 n0 Z_) at_221 (hw _ (List.mem_of_getElem? (i := 9) rfl)) (hw _ (List.mem_of_getElem? (i := 10) rfl)) (hw _ (List.mem_of_getElem? (i := 3) rfl)) (hw _ (List.mem_of_getElem? (i := 11) rfl)) (by decide) (by decide) (by decide) rfl (lenOf pd3 rfl) rfl rfl (Nat.le_of_eq rfl) (by decide) (by decide) rfl ?_
              rintro _ _ ⟨rfl, rfl⟩
              show Wp p l e _ s m _ below meth c n0 _ h10 (0 + 1) (0 + 9) (mkF m 224 #[.val (.int p0), .val (.int p1), .val (.int p2), .val (.int p3), .val (.int vs_14), .val (.ref b1), .val (.int (2 : Int32)), .val (.int vs_161), .val (.int v8_168), .unset] [(.int (own_f3 y87))])
              refine own_if_eq (pt := 270) (pf := 227) C at_224 (by decide) (by decide) rfl ?_ ?_
              · intro hc224
                refine own_iconst (pc' := 271) (v := (0 : Int32)) C at_270 own_ki_0 rfl ?_
                exact own_cast (by simp only [hvs_271, if_pos hc174, if_neg hc185, if_neg hc198, if_neg hc211, if_pos hc224]) (J271)
              · intro hc224
                refine own_aload (pc' := 229) C at_227 rfl rfl rfl ?_
                refine own_iload (pc' := 231) C at_229 rfl rfl ?_
                refine own_iconst (pc' := 232) (v := (4 : Int32)) C at_231 own_ki_4 rfl ?_
                refine own_iadd (pc' := 233) (v := (6 : Int32)) C at_232 (by decide) rfl ?_
                refine own_baload (pc' := 234) (v := y99) (i := 6) C at_233 A_b1 (by decide) rfl rfl rfl ?_
                refine own_bipush (pc' := 236) (v := (45 : Int32)) C at_234 own_kb_45 rfl ?_
                refine own_icmp_ne (pt := 270) (pf := 239) C at_236 (by decide) (by decide) rfl ?_ ?_
                · intro hc236
                  refine own_iconst (pc' := 271) (v := (0 : Int32)) C at_270 own_ki_0 rfl ?_
                  exact own_cast (by simp only [hvs_271, if_pos hc174, if_neg hc185, if_neg hc198, if_neg hc211, if_neg hc224, if_neg hc236]) (J271)
                · intro hc236
                  refine own_aload (pc' := 241) C at_239 rfl rfl rfl ?_
                  refine own_iload (pc' := 243) C at_241 rfl rfl ?_
                  refine own_iconst (pc' := 244) (v := (5 : Int32)) C at_243 own_ki_5 rfl ?_
                  refine own_iadd (pc' := 245) (v := (7 : Int32)) C at_244 (by decide) rfl ?_
                  refine own_baload (pc' := 246) (v := y111) (i := 7) C at_245 A_b1 (by decide) rfl rfl rfl ?_
                  refine own_callS (pc' := 249) (wL := 0) (argsL := [(.int y111)]) (rest := []) C (own_m3 l Z a0 hw y111 h10 n0 Z_) at_246 (hw _ (List.mem_of_getElem? (i := 9) rfl)) (hw _ (List.mem_of_getElem? (i := 10) rfl)) (hw _ (List.mem_of_getElem? (i := 3) rfl)) (hw _ (List.mem_of_getElem? (i := 11) rfl)) (by decide) (by decide) (by decide) rfl (lenOf pd3 rfl) rfl rfl (Nat.le_of_eq rfl) (by decide) (by decide) rfl ?_
                  rintro _ _ ⟨rfl, rfl⟩
                  show Wp p l e _ s m _ below meth c n0 _ h10 (0 + 1) (0 + 9) (mkF m 249 #[.val (.int p0), .val (.int p1), .val (.int p2), .val (.int p3), .val (.int vs_14), .val (.ref b1), .val (.int (2 : Int32)), .val (.int vs_161), .val (.int v8_168), .unset] [(.int (own_f3 y111))])
                  refine own_if_eq (pt := 270) (pf := 252) C at_249 (by decide) (by decide) rfl ?_ ?_
                  · intro hc249
                    refine own_iconst (pc' := 271) (v := (0 : Int32)) C at_270 own_ki_0 rfl ?_
                    exact own_cast (by simp only [hvs_271, if_pos hc174, if_neg hc185, if_neg hc198, if_neg hc211, if_neg hc224, if_pos hc236, if_pos hc249]) (J271)
                  · intro hc249
                    refine own_aload (pc' := 254) C at_252 rfl rfl rfl ?_
                    refine own_iload (pc' := 256) C at_254 rfl rfl ?_
                    refine own_bipush (pc' := 258) (v := (6 : Int32)) C at_256 own_kb_6 rfl ?_
                    refine own_iadd (pc' := 259) (v := (8 : Int32)) C at_258 (by decide) rfl ?_
                    refine own_baload (pc' := 260) (v := y123) (i := 8) C at_259 A_b1 (by decide) rfl rfl rfl ?_
                    refine own_callS (pc' := 263) (wL := 0) (argsL := [(.int y123)]) (rest := []) C (own_m3 l Z a0 hw y123 h10 n0 Z_) at_260 (hw _ (List.mem_of_getElem? (i := 9) rfl)) (hw _ (List.mem_of_getElem? (i := 10) rfl)) (hw _ (List.mem_of_getElem? (i := 3) rfl)) (hw _ (List.mem_of_getElem? (i := 11) rfl)) (by decide) (by decide) (by decide) rfl (lenOf pd3 rfl) rfl rfl (Nat.le_of_eq rfl) (by decide) (by decide) rfl ?_
                    rintro _ _ ⟨rfl, rfl⟩
                    show Wp p l e _ s m _ below meth c n0 _ h10 (0 + 1) (0 + 9) (mkF m 263 #[.val (.int p0), .val (.int p1), .val (.int p2), .val (.int p3), .val (.int vs_14), .val (.ref b1), .val (.int (2 : Int32)), .val (.int vs_161), .val (.int v8_168), .unset] [(.int (own_f3 y123))])
                    refine own_if_eq (pt := 270) (pf := 266) C at_263 (by decide) (by decide) rfl ?_ ?_
                    · intro hc263
                      refine own_iconst (pc' := 271) (v := (0 : Int32)) C at_270 own_ki_0 rfl ?_
                      exact own_cast (by simp only [hvs_271, if_pos hc174, if_neg hc185, if_neg hc198, if_neg hc211, if_neg hc224, if_pos hc236, if_neg hc249, if_pos hc263]) (J271)
                    · intro hc263
                      refine own_iconst (pc' := 267) (v := (1 : Int32)) C at_266 own_ki_1 rfl ?_
                      refine own_goto (pc' := 271) C at_267 (by decide) (by decide) ?_
                      exact own_cast (by simp only [hvs_271, if_pos hc174, if_neg hc185, if_neg hc198, if_neg hc211, if_neg hc224, if_pos hc236, if_neg hc249, if_neg hc263]) (J271)
    refine own_istore (pc' := 273) (y := vs_271) (Ls' := #[.val (.int p0), .val (.int p1), .val (.int p2), .val (.int p3), .val (.int vs_14), .val (.ref b1), .val (.int (2 : Int32)), .val (.int vs_161), .val (.int v8_168), .val (.int vs_271)]) C at_271 rfl rfl rfl ?_
    refine own_aload (pc' := 275) C at_273 rfl rfl rfl ?_
    refine own_iload (pc' := 277) C at_275 rfl rfl ?_
    refine own_iload (pc' := 279) C at_277 rfl rfl ?_
    refine own_callS (pc' := 282) (wL := 0) (argsL := [(.ref b1), (.int (2 : Int32)), (.int v8_168)]) (rest := []) C (own_isM2 l Z a0 hw b1 v8_168 y32 y43 y54 y65 y76 y87 y99 y111 y123 h10 n0 Z_ A_b1) at_279 (hw _ (List.mem_of_getElem? (i := 5) rfl)) (hw _ (List.mem_of_getElem? (i := 6) rfl)) (hw _ (List.mem_of_getElem? (i := 7) rfl)) (hw _ (List.mem_of_getElem? (i := 8) rfl)) (by decide) (by decide) (by decide) rfl (lenOf pd2 rfl) rfl rfl (Nat.le_of_eq rfl) (by decide) (by decide) rfl ?_
    rintro _ _ ⟨rfl, rfl⟩
    show Wp p l e _ s m _ below meth c n0 _ h10 (0 + 1) (0 + 9) (mkF m 282 #[.val (.int p0), .val (.int p1), .val (.int p2), .val (.int p3), .val (.int vs_14), .val (.ref b1), .val (.int (2 : Int32)), .val (.int vs_161), .val (.int v8_168), .val (.int vs_271)] [(.int (own_month (v8_168 - 2) y54 y65 y76 y87 y99 y111 y123))])
    refine own_iload (pc' := 284) C at_282 rfl rfl ?_
    refine own_icmp_ne (pt := 291) (pf := 287) C at_284 (by decide) (by decide) rfl (fun q => absurd (own_plain hv8_168 hvs_271) q) (fun _ => ?_)
    refine own_iconst (pc' := 288) (v := (1 : Int32)) C at_287 own_ki_1 rfl ?_
    refine own_goto (pc' := 292) C at_288 (by decide) (by decide) ?_
    refine own_zret C at_292 (by decide) (by decide) (Or.inr rfl) ?_
    exact rfl
set_option maxRecDepth 65536 in
set_option maxHeartbeats 40000000 in
theorem comes_1 {Post : Tables → Env → Array Value → State → Outcome → State → Prop} (hpost : ∀ tb e args s v u, (limb_1_1.after args s (.returned v) u = true ∧ limb_1_2.after args s (.returned v) u = true ∧ True) → FrameEnd s (.returned v) u (Jvm.fieldLocs frame_1_writes args s ++ Jvm.arrayLocs frame_1_arrays args s ++ Jvm.staticLocs frame_1_statics s) 16 128 → Post tb e args s (.returned v) u) :
    ArmFor flags0 classFile x code maxLocals ret World_1 tables_1 room_1 Calls_1 rest_1 Pre_1 Post := by
  intro l hfl _ _ p e ha hc hk s m args below hf hA hF happ hP
  obtain ⟨hcalls, hrest, hpre⟩ := hP
  obtain ⟨-, -, -, hnamed, -, -, -, hat⟩ := (Spec.applies_iff hf).mp happ
  obtain ⟨hg, hn⟩ := and_e (Cond.before_iff.mp (show (Jvm.Cond.and given_1 narrow_1).before args s = true from hpre))
  obtain ⟨hcount, q0⟩ := and_e hg
  obtain ⟨r0, q1⟩ := and_e q0
  obtain ⟨r1, q2⟩ := and_e q1
  obtain ⟨r2, q3⟩ := and_e q2
  obtain ⟨w0, w1, w2, w3, rfl⟩ : ∃ w0 w1 w2 w3 : Value, args = #[w0, w1, w2, w3] := by
    have hs : args.size = 4 := by simpa [Cond.value, given_1] using hcount
    obtain ⟨L⟩ := args
    match L, hs with
    | [w0, w1, w2, w3], _ => exact ⟨w0, w1, w2, w3, rfl⟩
  have hw := fun d (hd : d ∈ tables_1) => atoms_spec (ws := Jvm.Cond.code x code maxLocals ret :: tables_1) hat d (List.mem_cons_of_mem _ hd)
  obtain ⟨i0, e0⟩ := is_v r0
  obtain rfl : w0 = (.int i0) := Option.some.inj e0
  obtain ⟨i1, e1⟩ := is_v r1
  obtain rfl : w1 = (.int i1) := Option.some.inj e1
  obtain ⟨i2, e2⟩ := is_v r2
  obtain rfl : w2 = (.int i2) := Option.some.inj e2
  obtain ⟨i3, e3⟩ := is_v q3
  obtain rfl : w3 = (.int i3) := Option.some.inj e3
  obtain ⟨n, o, h1, h2, h3, _, L, rfl, ⟨rfl, N⟩, hq⟩ := own_law l s _ hw tables_1 i0 i1 i2 i3  s.heap s.heap.size (Nat.le_refl _)  p e ha hc hk s m _ below hf ((Spec.applies_iff_loose hf).mp happ).1 ⟨rfl, State.Warmed39.refl s, rfl⟩ trivial
  refine ⟨n, _, h1, h2, h3, hpost _ _ _ _ _ _ ⟨Cond.after_iff.mpr rfl, Cond.after_iff.mpr (eq_i res_at (Term.int_eval (1)) rfl), trivial⟩ ⟨hq.1, hq.2.1, (hq.2.2.sift fun y hy => Or.inr (N y hy)).mono (by decide) (by decide)⟩⟩
theorem main_1_1 : Claimed_1_1 := comes_1 fun _ _ _ _ _ _ h hF => ⟨h.1, hF⟩
theorem main_1_2 : Claimed_1_2 := comes_1 fun _ _ _ _ _ _ h hF => ⟨h.2.1, hF⟩
end Jvm.Pilot.@@N@@
namespace Jvm.Pilot.@@N@@
open Jvm Jvm.ClassFile Sem Op Lib Jvm.Free Jvm.Stand Jvm.Pilot.@@N@@.Jvm.D
/-! MADE BY PROGRAM (witnessworld.py) out of the Statement's table words and the real class files: 9 classes; the members and pool entries that the words name. The judged class is class 1, her method 1. -/
namespace start1
open Jvm.ClassFile
def u (s : String) : CpInfo := .utf8 (stringToUtf16 s)
/-- a pool by its gaps: so many unusable entries, then the entry; so many at the end -/
def gap : Nat → List CpInfo → List CpInfo
  | 0, r => r
  | n + 1, r => .unusable :: gap n r
def poolList (es : List (Nat × CpInfo)) (last : Nat) : List CpInfo := es.foldr (fun e r => gap e.1 (e.2 :: r)) (gap last [])
def pool (es : List (Nat × CpInfo)) (last : Nat) : Array CpInfo := ⟨poolList es last⟩
def fileOf (pool : Array CpInfo) (this : Nat) (attrs : Array Attribute := #[]) (ms : Array MethodInfo := #[]) (fl : Nat := 33) (sup : Nat := 0) (ifs : Array Nat := #[]) (fds : Array FieldInfo := #[]) : ClassFile where
  minorVersion := 0
  majorVersion := 65
  constantPool := pool
  accessFlags := fl
  thisClass := this
  superClass := sup
  interfaces := ifs
  fields := fds
  methods := ms
  attributes := attrs
def plain (name : String) (sup : Option ClassId) : Class where
  name := name
  kind := .ordinary
  loader := none
  accessFlags := 33
  super := sup
  interfaces := #[]
  cf := none
  fields := #[]
  methods := #[]
  instanceTypes := #[]
  staticTypes := #[]
  resolved := #[]
  callSites := []
  init := .initialized
  statics := none
  mirror := none

def pool0 : Array CpInfo := pool [(5, u "<init>"), (0, u "()V"), (1, .class_ 10), (1, u "java/lang/Object")] 113

def k0m0 : Method := { name := "<init>", desc := "()V", sig := { parameters := [], returnType := none }, accessFlags := 1, code := none }
/-- java/lang/Object -/
def k0 : Class := { plain "java/lang/Object" none with
  accessFlags := 33
  interfaces := #[]
  cf := some (fileOf pool0 8 #[] #[{ accessFlags := 1, nameIndex := 5, descriptorIndex := 6, attributes := #[] }] 33 0 #[] #[])
  fields := #[]
  methods := #[k0m0]
  instanceTypes := #[]
  staticTypes := #[]
  resolved := Array.replicate 124 none
  statics := none }

def pool1 : Array CpInfo := pool [(2, .class_ 4), (1, u "java/lang/Object"), (0, u "<init>"), (0, u "()V"), (0, .methodref 8 9), (0, .class_ 10), (0, .nameAndType 11 12), (0, u "com/example/vestwork/vestwork/io/PlainDatesIsMonthPinLaw"), (0, u "pick"), (0, u "(IIZ)B"), (0, .methodref 8 14), (0, .nameAndType 15 16), (0, u "digit"), (0, u "(B)Z"), (0, .methodref 18 19), (0, .class_ 20), (0, .nameAndType 21 22), (0, u "com/example/vestwork/vestwork/io/PlainDates"), (0, u "isMonth"), (0, u "([BII)Z"), (2, u "law"), (0, u "(IIII)Z")] 5

def k1m0 : Method := { name := "<init>", desc := "()V", sig := { parameters := [], returnType := none }, accessFlags := 2, code := none }
def k1c1 : Code := { maxStack := 5, maxLocals := 10, code := code, exceptionTable := #[], attributes := #[] }
def k1m1 : Method := { name := "law", desc := "(IIII)Z", sig := { parameters := [.int, .int, .int, .int], returnType := some .boolean }, accessFlags := 9, code := some k1c1 }
def k1c2 : Code := { maxStack := 3, maxLocals := 4, code := method_3_code, exceptionTable := #[], attributes := #[] }
def k1m2 : Method := { name := "pick", desc := "(IIZ)B", sig := { parameters := [.int, .int, .boolean], returnType := some .byte }, accessFlags := 10, code := some k1c2 }
def k1c3 : Code := { maxStack := 2, maxLocals := 1, code := method_4_code, exceptionTable := #[], attributes := #[] }
def k1m3 : Method := { name := "digit", desc := "(B)Z", sig := { parameters := [.byte], returnType := some .boolean }, accessFlags := 10, code := some k1c3 }
/-- com/example/vestwork/vestwork/io/PlainDatesIsMonthPinLaw -/
def k1 : Class := { plain "com/example/vestwork/vestwork/io/PlainDatesIsMonthPinLaw" (some 0) with
  accessFlags := 49
  interfaces := #[]
  cf := some (fileOf pool1 8 #[] #[{ accessFlags := 2, nameIndex := 5, descriptorIndex := 6, attributes := #[] }, { accessFlags := 9, nameIndex := 25, descriptorIndex := 26, attributes := #[] }, { accessFlags := 10, nameIndex := 11, descriptorIndex := 12, attributes := #[] }, { accessFlags := 10, nameIndex := 15, descriptorIndex := 16, attributes := #[] }] 49 2 #[] #[])
  fields := #[]
  methods := #[k1m0, k1m1, k1m2, k1m3]
  instanceTypes := #[]
  staticTypes := #[]
  resolved := Array.replicate 32 none
  statics := none }

def pool2 : Array CpInfo := pool [(2, .class_ 4), (1, u "java/lang/Object"), (0, u "<init>"), (0, u "()V"), (1, .class_ 10), (1, u "com/example/vestwork/vestwork/io/PlainDates"), (0, u "DAY"), (0, u "Ljava/util/regex/Pattern;"), (18, u "MONTH_LENGTH"), (0, u "I"), (2, u "MONTH_HYPHEN"), (5, u "isMonth"), (0, u "([BII)Z")] 4

def k2m0 : Method := { name := "<init>", desc := "()V", sig := { parameters := [], returnType := none }, accessFlags := 2, code := none }
def k2c1 : Code := { maxStack := 3, maxLocals := 6, code := prog_99_method_3_code, exceptionTable := #[], attributes := #[] }
def k2m1 : Method := { name := "isMonth", desc := "([BII)Z", sig := { parameters := [(.array .byte), .int, .int], returnType := some .boolean }, accessFlags := 8, code := some k2c1 }
/-- com/example/vestwork/vestwork/io/PlainDates -/
def k2 : Class := { plain "com/example/vestwork/vestwork/io/PlainDates" (some 0) with
  accessFlags := 49
  interfaces := #[]
  cf := some (fileOf pool2 8 #[] #[{ accessFlags := 2, nameIndex := 5, descriptorIndex := 6, attributes := #[] }, { accessFlags := 8, nameIndex := 41, descriptorIndex := 42, attributes := #[] }] 49 2 #[] #[{ accessFlags := 26, nameIndex := 11, descriptorIndex := 12, attributes := #[] }, { accessFlags := 26, nameIndex := 31, descriptorIndex := 32, attributes := #[] }, { accessFlags := 26, nameIndex := 35, descriptorIndex := 32, attributes := #[] }])
  fields := #[{ name := "DAY", type := (.object "java/util/regex/Pattern"), accessFlags := 26, slot := 0, constantValue := 0 }, { name := "MONTH_LENGTH", type := .int, accessFlags := 26, slot := 1, constantValue := 0 }, { name := "MONTH_HYPHEN", type := .int, accessFlags := 26, slot := 2, constantValue := 0 }]
  methods := #[k2m0, k2m1]
  instanceTypes := #[]
  staticTypes := #[(.object "java/util/regex/Pattern"), .int, .int]
  resolved := Array.replicate 47 none
  statics := none }

def pool3 : Array CpInfo := pool [(1, u "java/lang/Cloneable"), (0, .class_ 1), (0, u "java/lang/Object"), (0, .class_ 3)] 3

/-- java/lang/Cloneable -/
def k3 : Class := { plain "java/lang/Cloneable" (some 0) with
  accessFlags := 1537
  interfaces := #[]
  cf := some (fileOf pool3 2 #[] #[] 1537 4 #[] #[])
  fields := #[]
  methods := #[]
  instanceTypes := #[]
  staticTypes := #[]
  resolved := Array.replicate 8 none
  statics := none }

def pool4 : Array CpInfo := pool [(1, u "java/io/Serializable"), (0, .class_ 1), (0, u "java/lang/Object"), (0, .class_ 3)] 3

/-- java/io/Serializable -/
def k4 : Class := { plain "java/io/Serializable" (some 0) with
  accessFlags := 1537
  interfaces := #[]
  cf := some (fileOf pool4 2 #[] #[] 1537 4 #[] #[])
  fields := #[]
  methods := #[]
  instanceTypes := #[]
  staticTypes := #[]
  resolved := Array.replicate 8 none
  statics := none }

/-- the primitive byte -/
def k5 : Class := { plain "byte" none with kind := .primitive 'B', accessFlags := 0x411 }
/-- [B -/
def k6 : Class := { plain "[B" (some 0) with kind := .array 5 .byte, interfaces := #[3, 4], accessFlags := 1041 }

/-- the primitive int -/
def k7 : Class := { plain "int" none with kind := .primitive 'I', accessFlags := 0x411 }
/-- [I -/
def k8 : Class := { plain "[I" (some 0) with kind := .array 7 .int, interfaces := #[3, 4], accessFlags := 1041 }

def heap : Heap := #[]
def classes : Array Class := #[k0, k1, k2, k3, k4, k5, k6, k7, k8]
def interned : List (Array UInt16 × Addr) := []
def slotsUsed : Nat := 0
def theMethod : MethodId := ⟨1, 1⟩
def args0 : Array Value := #[.int 5, .int 5, .int 5, .int 9]
def aboutOver (below : List Frame) : State where
  vm := { classes := classes, interned := interned.toArray }
  heap := heap
  slotsUsed := slotsUsed
  threads := #[{ frames := .invoking theMethod args0 :: below }]
def below0 : List Frame := [.native { method := ⟨0, 0⟩, args := #[] }]
def about1 : State := aboutOver below0
def p0 : Program := .bare "" "" ""
def e0 : Env := launch0.env 0 0 0
theorem w_frames : about1.frames = Frame.invoking theMethod args0 :: below0 := rfl
set_option maxRecDepth 65536 in
theorem w_args : argsFit about1.vm theMethod args0 = true := by decide +kernel
set_option maxRecDepth 65536 in
theorem w_heap : heapFits about1 = true := by decide +kernel
set_option maxRecDepth 65536 in
theorem w_runnable : about1.curStatus? = some .runnable := by decide +kernel
set_option maxRecDepth 65536 in
theorem w_alone : about1.alone = true := by decide +kernel
set_option maxRecDepth 65536 in
theorem w_named : about1.methodNamed? x = some theMethod := by decide +kernel
set_option maxRecDepth 65536 in
theorem w_hears : about1.hears theMethod below0 = true := by decide +kernel
set_option maxRecDepth 65536 in
theorem w_ripe : about1.ripe theMethod args0 below0 = true := by decide +kernel
theorem w_running : about1.status = .running := rfl
set_option maxRecDepth 65536 in
theorem w_room : about1.hasRoom e0.platform room_1 = true :=
  launch0.hasRoom_least _ room_1 (by decide +kernel) (by decide +kernel) (by decide +kernel) (by decide +kernel) (by decide +kernel) (by decide +kernel)
theorem allAtoms_all (ts : List Jvm.Cond) (a : Array Jvm.Value) (st : Jvm.State) : (allAtoms ts).before a st = ts.all (fun c => c.before a st) := by
  induction ts with
  | nil => rfl
  | cons c t ih =>
    show (Jvm.Cond.and c (allAtoms t)).before a st = _
    rw [Jvm.Cond.before_and, ih, List.all_cons]
def words1 : List Jvm.Cond := Jvm.Cond.code x code maxLocals ret :: tables_1
/-- a 'code' word, met by the world's own term for the bytes: nothing is compared byte by byte -/
theorem code_word {y : MethodName} {bytes : ByteArray} {mx : Nat} {rt : Option FieldType} {a : Array Value} {s : State} {m : MethodId} {meth : Method} {c : Code} (h1 : s.methodNamed? y = some m) (h2 : s.vm.method? m = some meth) (h3 : meth.code = some c) (h4 : c.code = bytes)
    (h5 : (c.maxLocals == mx && c.exceptionTable.isEmpty && decide (c.maxStack ≤ mostOperands) && decide (meth.sig.returnType = rt) && !meth.locks && decide (parseMethodDescriptor y.desc = some meth.sig)) = true) : (Jvm.Cond.code y bytes mx rt).before a s = true := by
  simp only [Bool.and_eq_true, beq_iff_eq, Bool.not_eq_true', decide_eq_true_eq] at h5
  obtain ⟨⟨⟨⟨⟨g1, g2⟩, g3⟩, g4⟩, g5⟩, g6⟩ := h5
  simp [Cond.before, Cond.holds, Cond.value, h1, h2, h3, h4, g1, g2, g3, g4, g5, g6]
def isCode : Jvm.Cond → Bool
  | .code _ _ _ _ => true
  | _ => false
theorem all_split {L : List Jvm.Cond} {P : Jvm.Cond → Bool} (h1 : L.all (fun c => isCode c || P c) = true) (h2 : ∀ c ∈ L.filter isCode, P c = true) : L.all P = true := by
  refine List.all_eq_true.mpr fun c hc => ?_
  have h := List.all_eq_true.mp h1 c hc
  rcases Bool.eq_false_or_eq_true (isCode c) with hi | hi
  · exact h2 c (List.mem_filter.mpr ⟨hc, hi⟩)
  · simpa [hi] using h
set_option maxRecDepth 65536 in
theorem w_c0 : (Jvm.Cond.code x code maxLocals ret).before args0 about1 = true := code_word (m := ⟨1, 1⟩) (meth := k1m1) (c := k1c1) (by decide +kernel) rfl rfl rfl (by decide +kernel)
set_option maxRecDepth 65536 in
theorem w_c1 : (Jvm.Cond.code ({ cls := "com/example/vestwork/vestwork/io/PlainDatesIsMonthPinLaw", name := "pick", desc := "(IIZ)B" } : Jvm.MethodName) method_3_code (4 : Nat) (Option.some Jvm.ClassFile.FieldType.byte)).before args0 about1 = true := code_word (m := ⟨1, 2⟩) (meth := k1m2) (c := k1c2) (by decide +kernel) rfl rfl rfl (by decide +kernel)
set_option maxRecDepth 65536 in
theorem w_c2 : (Jvm.Cond.code ({ cls := "com/example/vestwork/vestwork/io/PlainDates", name := "isMonth", desc := "([BII)Z" } : Jvm.MethodName) prog_99_method_3_code (6 : Nat) (Option.some Jvm.ClassFile.FieldType.boolean)).before args0 about1 = true := code_word (m := ⟨2, 1⟩) (meth := k2m1) (c := k2c1) (by decide +kernel) rfl rfl rfl (by decide +kernel)
set_option maxRecDepth 65536 in
theorem w_c3 : (Jvm.Cond.code ({ cls := "com/example/vestwork/vestwork/io/PlainDatesIsMonthPinLaw", name := "digit", desc := "(B)Z" } : Jvm.MethodName) method_4_code (1 : Nat) (Option.some Jvm.ClassFile.FieldType.boolean)).before args0 about1 = true := code_word (m := ⟨1, 3⟩) (meth := k1m3) (c := k1c3) (by decide +kernel) rfl rfl rfl (by decide +kernel)
def codes1 : List Jvm.Cond := [Jvm.Cond.code x code maxLocals ret, Jvm.Cond.code ({ cls := "com/example/vestwork/vestwork/io/PlainDatesIsMonthPinLaw", name := "pick", desc := "(IIZ)B" } : Jvm.MethodName) method_3_code (4 : Nat) (Option.some Jvm.ClassFile.FieldType.byte), Jvm.Cond.code ({ cls := "com/example/vestwork/vestwork/io/PlainDates", name := "isMonth", desc := "([BII)Z" } : Jvm.MethodName) prog_99_method_3_code (6 : Nat) (Option.some Jvm.ClassFile.FieldType.boolean), Jvm.Cond.code ({ cls := "com/example/vestwork/vestwork/io/PlainDatesIsMonthPinLaw", name := "digit", desc := "(B)Z" } : Jvm.MethodName) method_4_code (1 : Nat) (Option.some Jvm.ClassFile.FieldType.boolean)]
set_option maxRecDepth 65536 in
theorem codes_eq : words1.filter isCode = codes1 := rfl
theorem w_codes : ∀ c ∈ words1.filter isCode, c.before args0 about1 = true := by
  rw [codes_eq]
  intro c hc
  simp only [codes1, List.mem_cons, List.not_mem_nil, or_false] at hc
  rcases hc with rfl | rfl | rfl | rfl
  · exact w_c0
  · exact w_c1
  · exact w_c2
  · exact w_c3
set_option maxRecDepth 65536 in
theorem w_t1 : words1.all (fun c => isCode c || c.before args0 about1) = true := by decide +kernel
theorem w_tables : (allAtoms (Jvm.Cond.code x code maxLocals ret :: tables_1)).before args0 about1 = true := by
  rw [allAtoms_all]
  show words1.all (fun c => c.before args0 about1) = true
  refine all_split ?_ w_codes
  rw [w_t1]
set_option maxRecDepth 65536 in
theorem w_case : (Jvm.Cond.and given_1 narrow_1).before args0 about1 = true := by decide +kernel
theorem w_applies : (headSpec (Jvm.Cond.code x code maxLocals ret :: tables_1) room_1).applies x e0.platform about1 = true :=
  (Spec.applies_iff w_frames).mpr ⟨w_running, w_runnable, w_alone, w_named, w_hears, w_ripe, w_room, w_tables⟩
theorem atStart : AtStart classFile x code maxLocals ret World_1 tables_1 room_1 Calls_1 rest_1 Pre_1 launch0 p0 e0 about1 theMethod args0 below0 :=
  ⟨lists_1, trivial, launch0.admits_env _ _ _, launch0.least_env, fairChoices_fair.cas, fairChoices_fair.clock, w_frames, w_args, w_heap, w_applies, trivial, trivial, w_case⟩
end start1
theorem witness_1 : WitnessClaimed_1 := ⟨start1.p0, start1.e0, start1.about1, start1.theMethod, start1.args0, start1.below0, start1.atStart⟩
end Jvm.Pilot.@@N@@
