import JvmDerived
import JvmDerived.Pilot.@@N@@Statement
import JvmDerived.Pilot.@@N@@Code
set_option linter.unusedVariables false
set_option linter.unusedSimpArgs false
namespace Jvm.RoadKit
open Sem ClassFile Op Lib Jvm.Stand Jvm.Free Jvm.LawKit
section New
variable {p : Program} {l : Launch} {e : Env} {R : Room} {s : State} {m : MethodId} {args : Array Value} {below : List Frame} {meth : Method} {c : Code} {T : State} {locs : List Loc} {cells slots : Nat}
theorem retI (X : Stand p l e R s m args below meth c T locs cells slots) (hx : p.tables.exec = Jvm.exec) {pc : Nat} {Ls : Array Slot} {z : Int32} {rest : List Value} (hret : meth.sig.returnType = some .int) (hd : decode c.code pc = .ok (.ireturn, 1)) {fs : List Frame}
    (hl : ∀ (f : JFrame) (acts : List Action), f.method = m → f.locked = none → f.entered = [] → (doReturn e (T.setTop f) acts (some (.int z))).1 = T.setFrames fs) : Steps p.tables e below (T.setTop (mkF m pc Ls (.int z :: rest))) (T.setFrames fs) := by
  have hm' : T.vm.method? m = some meth := X.method'
  have hn : narrow .int (.int z) = .int z := rfl
  show Steps p.tables e below (T.setTop { method := m, pc := pc, locals := Ls, stack := _ :: rest, locked := none }) _
  jvm_step X.here [X.here.top, hx, hd, hm', hret, hn]
  first | (intro acts; rw [hl _ acts rfl rfl rfl]) | rw [hl _ _ rfl rfl rfl]
  exact Steps.refl _
end New
end Jvm.RoadKit
namespace Jvm.Pilot.@@N@@
open Jvm Jvm.ClassFile Sem Op Lib Jvm.Free Jvm.Stand Jvm.LawKit Jvm.RoadKit Bundle Jvm.Pilot.@@N@@.Jvm.D
section OwnKit
variable {p : Program} {l : Launch} {e : Env} {R : Room} {s : State} {m : MethodId} {args : Array Value} {below : List Frame} {meth : Method} {c : Code} {Z : State} {a0 : Array Value} {cd : ByteArray} {ml : Nat} {ret : Option FieldType} {own nm : String} {n0 : Nat} {Q : Option Value → Heap → Prop} {h : Heap} {k n : Nat}
/-- what stands fast while one body runs -/
def Cx (p : Program) (s : State) (m : MethodId) (meth : Method) (c : Code) (Z : State) (cd : ByteArray) (ml : Nat) (ret : Option FieldType) (own nm : String) : Prop :=
  p.tables.exec = Jvm.exec ∧ Z.Warmed39 s.vm ∧ c.code = cd ∧ c.maxLocals = ml ∧ s.vm.findClass own = some m.cls ∧ meth.sig.returnType = ret ∧ meth.locks = false ∧ meth.name = nm
/-- from this frame, over this heap, the body returns and Q holds -/
def Wp (p : Program) (l : Launch) (e : Env) (R : Room) (s : State) (m : MethodId) (args : Array Value) (below : List Frame) (meth : Method) (c : Code) (n0 : Nat) (Q : Option Value → Heap → Prop) (h : Heap) (k n : Nat) (g : JFrame) : Prop :=
  ∀ (T : State) (locs : List Loc), Stand p l e R s m args below meth c T locs k n → T.heap = h → Fr n0 locs →
    ∃ s₂ o, Steps p.tables e below (T.setTop g) s₂ ∧ s₂.status = .running ∧ Ended s₂ below o ∧ ∃ v L, o = .returned v ∧ (Q v s₂.heap ∧ Fr n0 L) ∧ FrameEnd s o s₂ L R.cells R.slots
/-- a callee's contract: called with these arguments over this heap it returns, and Q holds -/
def Met (l : Launch) (y : MethodName) (bytes : ByteArray) (mL : Nat) (rt : Option FieldType) (ws : List Jvm.Cond) (rm : Room) (Z : State) (n0 : Nat) (as : Array Value) (h : Heap) (Q : Option Value → Heap → Prop) : Prop :=
  MetFree l y (head1 (Jvm.Cond.code y bytes mL rt :: ws) rm) (fun a U => a = as ∧ Z.Warmed39 U.vm ∧ U.heap = h) (fun _ _ _ _ _ => True) (fun _ U o U' => ∃ v L, o = .returned v ∧ (Q v U'.heap ∧ Fr n0 L) ∧ FrameEnd U o U' L rm.cells rm.slots)
theorem own_met {y : MethodName} {bytes : ByteArray} {mL : Nat} {rt : Option FieldType} {ws : List Jvm.Cond} {rm : Room} {as : Array Value} {Ls : Array Slot} (hpn : plainName y.cls = true) (hef : ∀ m, entryFrame m as mL = mkF m 0 Ls [])
    (H : ∀ p e s m below meth c, Cx p s m meth c Z bytes mL rt y.cls y.name → Wp p l e rm s m as below meth c n0 Q h 0 0 (mkF m 0 Ls [])) : Met l y bytes mL rt ws rm Z n0 as h Q := by
  refine MetFree.of_bodySF (plainFor_of_name hpn) hisR ?_
  intro p e s m args below meth c s₁ Bd hml0 hP hK
  obtain ⟨rfl, hZ, hh⟩ := hP
  have hown : s.vm.findClass y.cls = some m.cls := findClass_of_methodNamed Bd.named
  have hnm := (name_of_methodNamed Bd.named Bd.method).1
  have X0 : Stand p l e rm s m args below meth c s₁ [] 0 0 := Stand.of_body Bd
  have e0 : s₁.heap = h := by rw [← hh, Bd.state]; rfl
  obtain ⟨s₂, o, st, r⟩ := H p e s m below meth c ⟨Bd.exec, hZ, Bd.bytes, hml0, hown, Bd.returns, Bd.notSynchronized, hnm⟩ s₁ [] X0 e0 (Fr.nil n0)
  exact ⟨s₂, o, castTop (hef m) st, r⟩
/-! single steps -/
theorem own_lift {g g' : JFrame} (H : ∀ T, At T m c below → ∀ t, Steps p.tables e below (T.setTop g') t → Steps p.tables e below (T.setTop g) t) (W : Wp p l e R s m args below meth c n0 Q h k n g') : Wp p l e R s m args below meth c n0 Q h k n g := fun T locs X eT N => by
  obtain ⟨s₂, o, st, r⟩ := W T locs X eT N
  exact ⟨s₂, o, H T X.here _ st, r⟩
theorem own_liftX {g g' : JFrame} (H : ∀ T locs, Stand p l e R s m args below meth c T locs k n → T.heap = h → ∀ t, Steps p.tables e below (T.setTop g') t → Steps p.tables e below (T.setTop g) t) (W : Wp p l e R s m args below meth c n0 Q h k n g') : Wp p l e R s m args below meth c n0 Q h k n g := fun T locs X eT N => by
  obtain ⟨s₂, o, st, r⟩ := W T locs X eT N
  exact ⟨s₂, o, H T locs X eT _ st, r⟩
theorem own_cast {g g' : JFrame} (q : g = g') (W : Wp p l e R s m args below meth c n0 Q h k n g') : Wp p l e R s m args below meth c n0 Q h k n g := q ▸ W
theorem own_seq {g g' : JFrame} (t : Wp p l e R s m args below meth c n0 Q h k n g' → Wp p l e R s m args below meth c n0 Q h k n g) (w : Wp p l e R s m args below meth c n0 Q h k n g') : Wp p l e R s m args below meth c n0 Q h k n g := t w
theorem own_seq1 {g : JFrame} {F : Slot → JFrame} (t : (∀ u, RoadKit.One u → Wp p l e R s m args below meth c n0 Q h k n (F u)) → Wp p l e R s m args below meth c n0 Q h k n g) (w : ∀ u, RoadKit.One u → Wp p l e R s m args below meth c n0 Q h k n (F u)) : Wp p l e R s m args below meth c n0 Q h k n g := t w
theorem own_seq2 {g : JFrame} {F : Slot → Slot → JFrame} (t : (∀ u, RoadKit.One u → ∀ v, RoadKit.One v → Wp p l e R s m args below meth c n0 Q h k n (F u v)) → Wp p l e R s m args below meth c n0 Q h k n g) (w : ∀ u, RoadKit.One u → ∀ v, RoadKit.One v → Wp p l e R s m args below meth c n0 Q h k n (F u v)) : Wp p l e R s m args below meth c n0 Q h k n g := t w
theorem own_seqH {g g' : JFrame} {P : Heap → Prop} {k' n' : Nat} (t : (∀ h', P h' → Wp p l e R s m args below meth c n0 Q h' k' n' g') → Wp p l e R s m args below meth c n0 Q h k n g) (w : ∀ h', P h' → Wp p l e R s m args below meth c n0 Q h' k' n' g') : Wp p l e R s m args below meth c n0 Q h k n g := t w
variable {pc pc' : Nat} {Ls Ls' : Array Slot} {st : List Value}
theorem own_iload (C : Cx p s m meth c Z cd ml ret own nm) {i : Nat} {v : Int32} (hd : decode cd pc = .ok (.iload i, 2)) (hl : Ls[i]? = some (.val (.int v))) (hp : pc + 2 = pc') (W : Wp p l e R s m args below meth c n0 Q h k n (mkF m pc' Ls (.int v :: st))) : Wp p l e R s m args below meth c n0 Q h k n (mkF m pc Ls st) := by
  subst hp; exact own_lift (fun T A t q => XS.iload A C.1 rfl (hb C.2.2.1 hd) hl q) W
theorem own_iloadN (C : Cx p s m meth c Z cd ml ret own nm) {i : Fin 4} {v : Int32} (hd : decode cd pc = .ok (.iload_n i, 1)) (hl : Ls[i.val]? = some (.val (.int v))) (hp : pc + 1 = pc') (W : Wp p l e R s m args below meth c n0 Q h k n (mkF m pc' Ls (.int v :: st))) : Wp p l e R s m args below meth c n0 Q h k n (mkF m pc Ls st) := by
  subst hp; exact own_lift (fun T A t q => XS.iloadN A C.1 rfl (hb C.2.2.1 hd) hl q) W
theorem own_lload (C : Cx p s m meth c Z cd ml ret own nm) {i : Nat} {v : Int64} (hd : decode cd pc = .ok (.lload i, 2)) (hl : Ls[i]? = some (.val (.long v))) (hp : pc + 2 = pc') (W : Wp p l e R s m args below meth c n0 Q h k n (mkF m pc' Ls (.long v :: st))) : Wp p l e R s m args below meth c n0 Q h k n (mkF m pc Ls st) := by
  subst hp; exact own_lift (fun T A t q => XS.lload A C.1 rfl (hb C.2.2.1 hd) hl q) W
theorem own_lloadN (C : Cx p s m meth c Z cd ml ret own nm) {i : Fin 4} {v : Int64} (hd : decode cd pc = .ok (.lload_n i, 1)) (hl : Ls[i.val]? = some (.val (.long v))) (hp : pc + 1 = pc') (W : Wp p l e R s m args below meth c n0 Q h k n (mkF m pc' Ls (.long v :: st))) : Wp p l e R s m args below meth c n0 Q h k n (mkF m pc Ls st) := by
  subst hp; exact own_lift (fun T A t q => XS.lloadN A C.1 rfl (hb C.2.2.1 hd) hl q) W
theorem own_aload (C : Cx p s m meth c Z cd ml ret own nm) {i : Nat} {v : Value} (hd : decode cd pc = .ok (.aload i, 2)) (hl : Ls[i]? = some (.val v)) (hv : v.isRef = true) (hp : pc + 2 = pc') (W : Wp p l e R s m args below meth c n0 Q h k n (mkF m pc' Ls (v :: st))) : Wp p l e R s m args below meth c n0 Q h k n (mkF m pc Ls st) := by
  subst hp; exact own_lift (fun T A t q => XS.aload A C.1 rfl (hb C.2.2.1 hd) hl hv q) W
theorem own_aloadN (C : Cx p s m meth c Z cd ml ret own nm) {i : Fin 4} {v : Value} (hd : decode cd pc = .ok (.aload_n i, 1)) (hl : Ls[i.val]? = some (.val v)) (hv : v.isRef = true) (hp : pc + 1 = pc') (W : Wp p l e R s m args below meth c n0 Q h k n (mkF m pc' Ls (v :: st))) : Wp p l e R s m args below meth c n0 Q h k n (mkF m pc Ls st) := by
  subst hp; exact own_lift (fun T A t q => XS.aloadN A C.1 rfl (hb C.2.2.1 hd) hl hv q) W
theorem own_istore (C : Cx p s m meth c Z cd ml ret own nm) {i : Nat} {x y : Int32} (hd : decode cd pc = .ok (.istore i, 2)) (hy : x = y) (hl : storeLocals Ls i (.int y) = some Ls') (hp : pc + 2 = pc') (W : Wp p l e R s m args below meth c n0 Q h k n (mkF m pc' Ls' st)) : Wp p l e R s m args below meth c n0 Q h k n (mkF m pc Ls (.int x :: st)) := by
  subst hp hy; exact own_lift (fun T A t q => XS.istore A C.1 rfl (hb C.2.2.1 hd) rfl hl q) W
theorem own_istoreN (C : Cx p s m meth c Z cd ml ret own nm) {i : Fin 4} {x y : Int32} (hd : decode cd pc = .ok (.istore_n i, 1)) (hy : x = y) (hl : storeLocals Ls i.val (.int y) = some Ls') (hp : pc + 1 = pc') (W : Wp p l e R s m args below meth c n0 Q h k n (mkF m pc' Ls' st)) : Wp p l e R s m args below meth c n0 Q h k n (mkF m pc Ls (.int x :: st)) := by
  subst hp hy; exact own_lift (fun T A t q => XS.istoreN A C.1 rfl (hb C.2.2.1 hd) rfl hl q) W
theorem own_lstore (C : Cx p s m meth c Z cd ml ret own nm) {i : Nat} {x y : Int64} (hd : decode cd pc = .ok (.lstore i, 2)) (hy : x = y) (hl : storeLocals Ls i (.long y) = some Ls') (hp : pc + 2 = pc') (W : Wp p l e R s m args below meth c n0 Q h k n (mkF m pc' Ls' st)) : Wp p l e R s m args below meth c n0 Q h k n (mkF m pc Ls (.long x :: st)) := by
  subst hp hy; exact own_lift (fun T A t q => XS.lstore A C.1 rfl (hb C.2.2.1 hd) rfl hl q) W
theorem own_lstoreN (C : Cx p s m meth c Z cd ml ret own nm) {i : Fin 4} {x y : Int64} (hd : decode cd pc = .ok (.lstore_n i, 1)) (hy : x = y) (hl : storeLocals Ls i.val (.long y) = some Ls') (hp : pc + 1 = pc') (W : Wp p l e R s m args below meth c n0 Q h k n (mkF m pc' Ls' st)) : Wp p l e R s m args below meth c n0 Q h k n (mkF m pc Ls (.long x :: st)) := by
  subst hp hy; exact own_lift (fun T A t q => XS.lstoreN A C.1 rfl (hb C.2.2.1 hd) rfl hl q) W
theorem own_astore (C : Cx p s m meth c Z cd ml ret own nm) {i : Nat} {x : Value} (hd : decode cd pc = .ok (.astore i, 2)) (hv : x.isRef = true) (hl : storeLocals Ls i x = some Ls') (hp : pc + 2 = pc') (W : Wp p l e R s m args below meth c n0 Q h k n (mkF m pc' Ls' st)) : Wp p l e R s m args below meth c n0 Q h k n (mkF m pc Ls (x :: st)) := by
  subst hp; exact own_lift (fun T A t q => XS.astore A C.1 rfl (hb C.2.2.1 hd) rfl hv hl q) W
theorem own_astoreN (C : Cx p s m meth c Z cd ml ret own nm) {i : Fin 4} {x : Value} (hd : decode cd pc = .ok (.astore_n i, 1)) (hv : x.isRef = true) (hl : storeLocals Ls i.val x = some Ls') (hp : pc + 1 = pc') (W : Wp p l e R s m args below meth c n0 Q h k n (mkF m pc' Ls' st)) : Wp p l e R s m args below meth c n0 Q h k n (mkF m pc Ls (x :: st)) := by
  subst hp; exact own_lift (fun T A t q => XS.astoreN A C.1 rfl (hb C.2.2.1 hd) rfl hv hl q) W
theorem own_iconst (C : Cx p s m meth c Z cd ml ret own nm) {i : Int} {v : Int32} (hd : decode cd pc = .ok (.iconst i, 1)) (hv : Int32.ofInt i = v) (hp : pc + 1 = pc') (W : Wp p l e R s m args below meth c n0 Q h k n (mkF m pc' Ls (.int v :: st))) : Wp p l e R s m args below meth c n0 Q h k n (mkF m pc Ls st) := by
  subst hp hv; exact own_lift (fun T A t q => XS.iconst A C.1 rfl (hb C.2.2.1 hd) q) W
theorem own_bipush (C : Cx p s m meth c Z cd ml ret own nm) {i : Int} {v : Int32} (hd : decode cd pc = .ok (.bipush i, 2)) (hv : (Int8.ofInt i).toInt32 = v) (hp : pc + 2 = pc') (W : Wp p l e R s m args below meth c n0 Q h k n (mkF m pc' Ls (.int v :: st))) : Wp p l e R s m args below meth c n0 Q h k n (mkF m pc Ls st) := by
  subst hp hv; exact own_lift (fun T A t q => XS.bipush A C.1 rfl (hb C.2.2.1 hd) q) W
theorem own_sipush (C : Cx p s m meth c Z cd ml ret own nm) {i : Int} {v : Int32} (hd : decode cd pc = .ok (.sipush i, 3)) (hv : (Int16.ofInt i).toInt32 = v) (hp : pc + 3 = pc') (W : Wp p l e R s m args below meth c n0 Q h k n (mkF m pc' Ls (.int v :: st))) : Wp p l e R s m args below meth c n0 Q h k n (mkF m pc Ls st) := by
  subst hp hv; exact own_lift (fun T A t q => XS.sipush A C.1 rfl (hb C.2.2.1 hd) q) W
theorem own_lconst (C : Cx p s m meth c Z cd ml ret own nm) {i : Fin 2} {v : Int64} (hd : decode cd pc = .ok (.lconst i, 1)) (hv : Int64.ofNat i.val = v) (hp : pc + 1 = pc') (W : Wp p l e R s m args below meth c n0 Q h k n (mkF m pc' Ls (.long v :: st))) : Wp p l e R s m args below meth c n0 Q h k n (mkF m pc Ls st) := by
  subst hp hv; exact own_lift (fun T A t q => XS.lconst A C.1 rfl (hb C.2.2.1 hd) q) W
theorem own_null (C : Cx p s m meth c Z cd ml ret own nm) (hd : decode cd pc = .ok (.aconst_null, 1)) (hp : pc + 1 = pc') (W : Wp p l e R s m args below meth c n0 Q h k n (mkF m pc' Ls (.null :: st))) : Wp p l e R s m args below meth c n0 Q h k n (mkF m pc Ls st) := by
  subst hp; exact own_lift (fun T A t q => XS.aconstNull A C.1 rfl (hb C.2.2.1 hd) q) W
/-! returns -/
theorem own_vret (C : Cx p s m meth c Z cd ml none own nm) (hd : decode cd pc = .ok (.return_, 1)) (hk : k ≤ R.cells) (hn : n ≤ R.slots) (hq : Q none h) : Wp p l e R s m args below meth c n0 Q h k n (mkF m pc Ls []) := fun T locs X eT N => by
  obtain ⟨hx, hZ, hby, hml, hown, hret, hlk, hnm⟩ := C
  obtain ⟨fs, hr, hrun, hended, hW, hsame⟩ := X.leave (v := none) (fun _ => rfl) hlk
  exact ⟨_, _, X.returnOut hx hret (hb hby hd) hr, hrun, hended, _, _, rfl, ⟨by rw [show (T.setFrames fs).heap = T.heap from rfl, eT]; exact hq, N⟩, ⟨_, rfl⟩, hW, hsame.mono hk hn⟩
theorem own_iret {z : Int32} (C : Cx p s m meth c Z cd ml (some .int) own nm) (hd : decode cd pc = .ok (.ireturn, 1)) (hk : k ≤ R.cells) (hn : n ≤ R.slots) (hq : Q (some (.int z)) h) : Wp p l e R s m args below meth c n0 Q h k n (mkF m pc Ls (.int z :: st)) := fun T locs X eT N => by
  obtain ⟨hx, hZ, hby, hml, hown, hret, hlk, hnm⟩ := C
  obtain ⟨fs, hr, hrun, hended, hW, hsame⟩ := X.leave (v := some (.int z)) (fun q => by rw [hret] at q; cases q) hlk
  exact ⟨_, _, retI X hx hret (hb hby hd) hr, hrun, hended, _, _, rfl, ⟨by rw [show (T.setFrames fs).heap = T.heap from rfl, eT]; exact hq, N⟩, ⟨_, rfl⟩, hW, hsame.mono hk hn⟩
theorem own_nret {z : Int32} {t : FieldType} (C : Cx p s m meth c Z cd ml (some t) own nm) (ht : t = .boolean ∨ t = .byte ∨ t = .char ∨ t = .short) (hd : decode cd pc = .ok (.ireturn, 1)) (hk : k ≤ R.cells) (hn : n ≤ R.slots) (hq : Q (some (.int (nar t z))) h) : Wp p l e R s m args below meth c n0 Q h k n (mkF m pc Ls (.int z :: st)) := fun T locs X eT N => by
  obtain ⟨hx, hZ, hby, hml, hown, hret, hlk, hnm⟩ := C
  obtain ⟨fs, hr, hrun, hended, hW, hsame⟩ := X.leave (v := some (.int (nar t z))) (fun q => by rw [hret] at q; cases q) hlk
  exact ⟨_, _, retN X hx hret ht (hb hby hd) hr, hrun, hended, _, _, rfl, ⟨by rw [show (T.setFrames fs).heap = T.heap from rfl, eT]; exact hq, N⟩, ⟨_, rfl⟩, hW, hsame.mono hk hn⟩
theorem own_zret {z : Int32} (C : Cx p s m meth c Z cd ml (some .boolean) own nm) (hd : decode cd pc = .ok (.ireturn, 1)) (hk : k ≤ R.cells) (hn : n ≤ R.slots) (hz : z = 0 ∨ z = 1) (hq : Q (some (.int z)) h) : Wp p l e R s m args below meth c n0 Q h k n (mkF m pc Ls (.int z :: st)) :=
  own_nret C (Or.inl rfl) hd hk hn (by rcases hz with rfl | rfl <;> exact hq)
theorem own_lret {z : Int64} (C : Cx p s m meth c Z cd ml (some .long) own nm) (hd : decode cd pc = .ok (.lreturn, 1)) (hk : k ≤ R.cells) (hn : n ≤ R.slots) (hq : Q (some (.long z)) h) : Wp p l e R s m args below meth c n0 Q h k n (mkF m pc Ls [.long z]) := fun T locs X eT N => by
  obtain ⟨hx, hZ, hby, hml, hown, hret, hlk, hnm⟩ := C
  obtain ⟨fs, hr, hrun, hended, hW, hsame⟩ := X.leave (v := some (.long z)) (fun q => by rw [hret] at q; cases q) hlk
  exact ⟨_, _, X.lreturnOut hx hret (hb hby hd) hr, hrun, hended, _, _, rfl, ⟨by rw [show (T.setFrames fs).heap = T.heap from rfl, eT]; exact hq, N⟩, ⟨_, rfl⟩, hW, hsame.mono hk hn⟩
theorem own_aret {z : Value} {t : FieldType} (C : Cx p s m meth c Z cd ml (some t) own nm) (hv : z.isRef = true) (ht : t.isReference = true) (hd : decode cd pc = .ok (.areturn, 1)) (hk : k ≤ R.cells) (hn : n ≤ R.slots) (hq : Q (some z) h) : Wp p l e R s m args below meth c n0 Q h k n (mkF m pc Ls (z :: st)) := fun T locs X eT N => by
  obtain ⟨hx, hZ, hby, hml, hown, hret, hlk, hnm⟩ := C
  obtain ⟨fs, hr, hrun, hended, hW, hsame⟩ := X.leave (v := some z) (fun q => by rw [hret] at q; cases q) hlk
  have hd' := hb hby hd
  refine ⟨_, _, ?_, hrun, hended, _, _, rfl, ⟨by rw [show (T.setFrames fs).heap = T.heap from rfl, eT]; exact hq, N⟩, ⟨_, rfl⟩, hW, hsame.mono hk hn⟩
  jvm_step X.here [X.here.top, hx, hd', X.method', hret, hv, ht]
  first | (intro acts; rw [hr _ acts rfl rfl rfl]) | rw [hr _ _ rfl rfl rfl]
  exact Steps.refl _
theorem own_iadd (C : Cx p s m meth c Z cd ml ret own nm) {x y v : Int32} (hd : decode cd pc = .ok (.iadd, 1)) (hv : x + y = v) (hp : pc + 1 = pc') (W : Wp p l e R s m args below meth c n0 Q h k n (mkF m pc' Ls (.int v :: st))) : Wp p l e R s m args below meth c n0 Q h k n (mkF m pc Ls (.int y :: .int x :: st)) := by
  subst hp hv; exact own_lift (fun T A t q => XS.iadd A C.1 rfl (hb C.2.2.1 hd) rfl q) W
theorem own_isub (C : Cx p s m meth c Z cd ml ret own nm) {x y v : Int32} (hd : decode cd pc = .ok (.isub, 1)) (hv : x - y = v) (hp : pc + 1 = pc') (W : Wp p l e R s m args below meth c n0 Q h k n (mkF m pc' Ls (.int v :: st))) : Wp p l e R s m args below meth c n0 Q h k n (mkF m pc Ls (.int y :: .int x :: st)) := by
  subst hp hv; exact own_lift (fun T A t q => XS.isub A C.1 rfl (hb C.2.2.1 hd) rfl q) W
theorem own_imul (C : Cx p s m meth c Z cd ml ret own nm) {x y v : Int32} (hd : decode cd pc = .ok (.imul, 1)) (hv : x * y = v) (hp : pc + 1 = pc') (W : Wp p l e R s m args below meth c n0 Q h k n (mkF m pc' Ls (.int v :: st))) : Wp p l e R s m args below meth c n0 Q h k n (mkF m pc Ls (.int y :: .int x :: st)) := by
  subst hp hv; exact own_lift (fun T A t q => XS.imul A C.1 rfl (hb C.2.2.1 hd) rfl q) W
theorem own_iand (C : Cx p s m meth c Z cd ml ret own nm) {x y v : Int32} (hd : decode cd pc = .ok (.iand, 1)) (hv : x &&& y = v) (hp : pc + 1 = pc') (W : Wp p l e R s m args below meth c n0 Q h k n (mkF m pc' Ls (.int v :: st))) : Wp p l e R s m args below meth c n0 Q h k n (mkF m pc Ls (.int y :: .int x :: st)) := by
  subst hp hv; exact own_lift (fun T A t q => XS.iand A C.1 rfl (hb C.2.2.1 hd) rfl q) W
theorem own_ior (C : Cx p s m meth c Z cd ml ret own nm) {x y v : Int32} (hd : decode cd pc = .ok (.ior, 1)) (hv : x ||| y = v) (hp : pc + 1 = pc') (W : Wp p l e R s m args below meth c n0 Q h k n (mkF m pc' Ls (.int v :: st))) : Wp p l e R s m args below meth c n0 Q h k n (mkF m pc Ls (.int y :: .int x :: st)) := by
  subst hp hv; exact own_lift (fun T A t q => XS.ior A C.1 rfl (hb C.2.2.1 hd) rfl q) W
theorem own_ixor (C : Cx p s m meth c Z cd ml ret own nm) {x y v : Int32} (hd : decode cd pc = .ok (.ixor, 1)) (hv : x ^^^ y = v) (hp : pc + 1 = pc') (W : Wp p l e R s m args below meth c n0 Q h k n (mkF m pc' Ls (.int v :: st))) : Wp p l e R s m args below meth c n0 Q h k n (mkF m pc Ls (.int y :: .int x :: st)) := by
  subst hp hv; exact own_lift (fun T A t q => XS.ixor A C.1 rfl (hb C.2.2.1 hd) rfl q) W
theorem own_ishl (C : Cx p s m meth c Z cd ml ret own nm) {x y v : Int32} (hd : decode cd pc = .ok (.ishl, 1)) (hv : x <<< (y &&& 31) = v) (hp : pc + 1 = pc') (W : Wp p l e R s m args below meth c n0 Q h k n (mkF m pc' Ls (.int v :: st))) : Wp p l e R s m args below meth c n0 Q h k n (mkF m pc Ls (.int y :: .int x :: st)) := by
  subst hp hv; exact own_lift (fun T A t q => XS.ishl A C.1 rfl (hb C.2.2.1 hd) rfl q) W
theorem own_ishr (C : Cx p s m meth c Z cd ml ret own nm) {x y v : Int32} (hd : decode cd pc = .ok (.ishr, 1)) (hv : x >>> (y &&& 31) = v) (hp : pc + 1 = pc') (W : Wp p l e R s m args below meth c n0 Q h k n (mkF m pc' Ls (.int v :: st))) : Wp p l e R s m args below meth c n0 Q h k n (mkF m pc Ls (.int y :: .int x :: st)) := by
  subst hp hv; exact own_lift (fun T A t q => XS.ishr A C.1 rfl (hb C.2.2.1 hd) rfl q) W
theorem own_iushr (C : Cx p s m meth c Z cd ml ret own nm) {x y v : Int32} (hd : decode cd pc = .ok (.iushr, 1)) (hv : (x.toUInt32 >>> (y &&& 31).toUInt32).toInt32 = v) (hp : pc + 1 = pc') (W : Wp p l e R s m args below meth c n0 Q h k n (mkF m pc' Ls (.int v :: st))) : Wp p l e R s m args below meth c n0 Q h k n (mkF m pc Ls (.int y :: .int x :: st)) := by
  subst hp hv; exact own_lift (fun T A t q => XS.iushr A C.1 rfl (hb C.2.2.1 hd) rfl q) W
theorem own_idiv (C : Cx p s m meth c Z cd ml ret own nm) {x y v : Int32} (hd : decode cd pc = .ok (.idiv, 1)) (hy : y ≠ 0) (hv : x / y = v) (hp : pc + 1 = pc') (W : Wp p l e R s m args below meth c n0 Q h k n (mkF m pc' Ls (.int v :: st))) : Wp p l e R s m args below meth c n0 Q h k n (mkF m pc Ls (.int y :: .int x :: st)) := by
  subst hp hv; exact own_lift (fun T A t q => XS.idiv A C.1 rfl (hb C.2.2.1 hd) rfl hy q) W
theorem own_ladd (C : Cx p s m meth c Z cd ml ret own nm) {x y v : Int64} (hd : decode cd pc = .ok (.ladd, 1)) (hv : x + y = v) (hp : pc + 1 = pc') (W : Wp p l e R s m args below meth c n0 Q h k n (mkF m pc' Ls (.long v :: st))) : Wp p l e R s m args below meth c n0 Q h k n (mkF m pc Ls (.long y :: .long x :: st)) := by
  subst hp hv; exact own_lift (fun T A t q => XS.ladd A C.1 rfl (hb C.2.2.1 hd) rfl q) W
theorem own_lsub (C : Cx p s m meth c Z cd ml ret own nm) {x y v : Int64} (hd : decode cd pc = .ok (.lsub, 1)) (hv : x - y = v) (hp : pc + 1 = pc') (W : Wp p l e R s m args below meth c n0 Q h k n (mkF m pc' Ls (.long v :: st))) : Wp p l e R s m args below meth c n0 Q h k n (mkF m pc Ls (.long y :: .long x :: st)) := by
  subst hp hv; exact own_lift (fun T A t q => XS.lsub A C.1 rfl (hb C.2.2.1 hd) rfl q) W
theorem own_lmul (C : Cx p s m meth c Z cd ml ret own nm) {x y v : Int64} (hd : decode cd pc = .ok (.lmul, 1)) (hv : x * y = v) (hp : pc + 1 = pc') (W : Wp p l e R s m args below meth c n0 Q h k n (mkF m pc' Ls (.long v :: st))) : Wp p l e R s m args below meth c n0 Q h k n (mkF m pc Ls (.long y :: .long x :: st)) := by
  subst hp hv; exact own_lift (fun T A t q => XS.lmul A C.1 rfl (hb C.2.2.1 hd) rfl q) W
theorem own_land (C : Cx p s m meth c Z cd ml ret own nm) {x y v : Int64} (hd : decode cd pc = .ok (.land, 1)) (hv : x &&& y = v) (hp : pc + 1 = pc') (W : Wp p l e R s m args below meth c n0 Q h k n (mkF m pc' Ls (.long v :: st))) : Wp p l e R s m args below meth c n0 Q h k n (mkF m pc Ls (.long y :: .long x :: st)) := by
  subst hp hv; exact own_lift (fun T A t q => XS.land A C.1 rfl (hb C.2.2.1 hd) rfl q) W
theorem own_lor (C : Cx p s m meth c Z cd ml ret own nm) {x y v : Int64} (hd : decode cd pc = .ok (.lor, 1)) (hv : x ||| y = v) (hp : pc + 1 = pc') (W : Wp p l e R s m args below meth c n0 Q h k n (mkF m pc' Ls (.long v :: st))) : Wp p l e R s m args below meth c n0 Q h k n (mkF m pc Ls (.long y :: .long x :: st)) := by
  subst hp hv; exact own_lift (fun T A t q => XS.lor A C.1 rfl (hb C.2.2.1 hd) rfl q) W
theorem own_lxor (C : Cx p s m meth c Z cd ml ret own nm) {x y v : Int64} (hd : decode cd pc = .ok (.lxor, 1)) (hv : x ^^^ y = v) (hp : pc + 1 = pc') (W : Wp p l e R s m args below meth c n0 Q h k n (mkF m pc' Ls (.long v :: st))) : Wp p l e R s m args below meth c n0 Q h k n (mkF m pc Ls (.long y :: .long x :: st)) := by
  subst hp hv; exact own_lift (fun T A t q => XS.lxor A C.1 rfl (hb C.2.2.1 hd) rfl q) W
theorem own_ldiv (C : Cx p s m meth c Z cd ml ret own nm) {x y v : Int64} (hd : decode cd pc = .ok (.ldiv, 1)) (hy : y ≠ 0) (hv : x / y = v) (hp : pc + 1 = pc') (W : Wp p l e R s m args below meth c n0 Q h k n (mkF m pc' Ls (.long v :: st))) : Wp p l e R s m args below meth c n0 Q h k n (mkF m pc Ls (.long y :: .long x :: st)) := by
  subst hp hv; exact own_lift (fun T A t q => XS.ldiv A C.1 rfl (hb C.2.2.1 hd) rfl hy q) W
theorem own_irem (C : Cx p s m meth c Z cd ml ret own nm) {x y v : Int32} (hd : decode cd pc = .ok (.irem, 1)) (hy : y ≠ 0) (hv : x % y = v) (hp : pc + 1 = pc') (W : Wp p l e R s m args below meth c n0 Q h k n (mkF m pc' Ls (.int v :: st))) : Wp p l e R s m args below meth c n0 Q h k n (mkF m pc Ls (.int y :: .int x :: st)) := by
  subst hp hv; exact own_liftX (fun T locs X eT t q => iremM X C.1 rfl (hb C.2.2.1 hd) rfl hy q) W
theorem own_lrem (C : Cx p s m meth c Z cd ml ret own nm) {x y v : Int64} (hd : decode cd pc = .ok (.lrem, 1)) (hy : y ≠ 0) (hv : x % y = v) (hp : pc + 1 = pc') (W : Wp p l e R s m args below meth c n0 Q h k n (mkF m pc' Ls (.long v :: st))) : Wp p l e R s m args below meth c n0 Q h k n (mkF m pc Ls (.long y :: .long x :: st)) := by
  subst hp; rw [← lrem_mod] at hv; subst hv; exact own_lift (fun T A t q => XS.lrem A C.1 rfl (hb C.2.2.1 hd) rfl hy q) W
theorem own_lshl (C : Cx p s m meth c Z cd ml ret own nm) {x v : Int64} {y : Int32} (hd : decode cd pc = .ok (.lshl, 1)) (hv : x <<< (y &&& 0x3f).toInt64 = v) (hp : pc + 1 = pc') (W : Wp p l e R s m args below meth c n0 Q h k n (mkF m pc' Ls (.long v :: st))) : Wp p l e R s m args below meth c n0 Q h k n (mkF m pc Ls (.int y :: .long x :: st)) := by
  subst hp hv; exact own_lift (fun T A t q => XS.lshl A C.1 rfl (hb C.2.2.1 hd) rfl q) W
theorem own_lshr (C : Cx p s m meth c Z cd ml ret own nm) {x v : Int64} {y : Int32} (hd : decode cd pc = .ok (.lshr, 1)) (hv : x >>> (y &&& 0x3f).toInt64 = v) (hp : pc + 1 = pc') (W : Wp p l e R s m args below meth c n0 Q h k n (mkF m pc' Ls (.long v :: st))) : Wp p l e R s m args below meth c n0 Q h k n (mkF m pc Ls (.int y :: .long x :: st)) := by
  subst hp hv; exact own_lift (fun T A t q => XS.lshr A C.1 rfl (hb C.2.2.1 hd) rfl q) W
theorem own_lushr (C : Cx p s m meth c Z cd ml ret own nm) {x v : Int64} {y : Int32} (hd : decode cd pc = .ok (.lushr, 1)) (hv : (x.toUInt64 >>> (y &&& 0x3f).toInt64.toUInt64).toInt64 = v) (hp : pc + 1 = pc') (W : Wp p l e R s m args below meth c n0 Q h k n (mkF m pc' Ls (.long v :: st))) : Wp p l e R s m args below meth c n0 Q h k n (mkF m pc Ls (.int y :: .long x :: st)) := by
  subst hp hv; exact own_lift (fun T A t q => XS.lushr A C.1 rfl (hb C.2.2.1 hd) rfl q) W
theorem own_ineg (C : Cx p s m meth c Z cd ml ret own nm) {x : Int32} {v : Int32} (hd : decode cd pc = .ok (.ineg, 1)) (hv : -x = v) (hp : pc + 1 = pc') (W : Wp p l e R s m args below meth c n0 Q h k n (mkF m pc' Ls (.int v :: st))) : Wp p l e R s m args below meth c n0 Q h k n (mkF m pc Ls (.int x :: st)) := by
  subst hp hv; exact own_lift (fun T A t q => XS.ineg A C.1 rfl (hb C.2.2.1 hd) rfl q) W
theorem own_lneg (C : Cx p s m meth c Z cd ml ret own nm) {x : Int64} {v : Int64} (hd : decode cd pc = .ok (.lneg, 1)) (hv : -x = v) (hp : pc + 1 = pc') (W : Wp p l e R s m args below meth c n0 Q h k n (mkF m pc' Ls (.long v :: st))) : Wp p l e R s m args below meth c n0 Q h k n (mkF m pc Ls (.long x :: st)) := by
  subst hp hv; exact own_lift (fun T A t q => XS.lneg A C.1 rfl (hb C.2.2.1 hd) rfl q) W
theorem own_i2l (C : Cx p s m meth c Z cd ml ret own nm) {x : Int32} {v : Int64} (hd : decode cd pc = .ok (.i2l, 1)) (hv : x.toInt64 = v) (hp : pc + 1 = pc') (W : Wp p l e R s m args below meth c n0 Q h k n (mkF m pc' Ls (.long v :: st))) : Wp p l e R s m args below meth c n0 Q h k n (mkF m pc Ls (.int x :: st)) := by
  subst hp hv; exact own_lift (fun T A t q => XS.i2l A C.1 rfl (hb C.2.2.1 hd) rfl q) W
theorem own_l2i (C : Cx p s m meth c Z cd ml ret own nm) {x : Int64} {v : Int32} (hd : decode cd pc = .ok (.l2i, 1)) (hv : x.toInt32 = v) (hp : pc + 1 = pc') (W : Wp p l e R s m args below meth c n0 Q h k n (mkF m pc' Ls (.int v :: st))) : Wp p l e R s m args below meth c n0 Q h k n (mkF m pc Ls (.long x :: st)) := by
  subst hp hv; exact own_lift (fun T A t q => XS.l2i A C.1 rfl (hb C.2.2.1 hd) rfl q) W
theorem own_i2b (C : Cx p s m meth c Z cd ml ret own nm) {x : Int32} {v : Int32} (hd : decode cd pc = .ok (.i2b, 1)) (hv : x.toInt8.toInt32 = v) (hp : pc + 1 = pc') (W : Wp p l e R s m args below meth c n0 Q h k n (mkF m pc' Ls (.int v :: st))) : Wp p l e R s m args below meth c n0 Q h k n (mkF m pc Ls (.int x :: st)) := by
  subst hp hv; exact own_lift (fun T A t q => XS.i2b A C.1 rfl (hb C.2.2.1 hd) rfl q) W
theorem own_i2s (C : Cx p s m meth c Z cd ml ret own nm) {x : Int32} {v : Int32} (hd : decode cd pc = .ok (.i2s, 1)) (hv : x.toInt16.toInt32 = v) (hp : pc + 1 = pc') (W : Wp p l e R s m args below meth c n0 Q h k n (mkF m pc' Ls (.int v :: st))) : Wp p l e R s m args below meth c n0 Q h k n (mkF m pc Ls (.int x :: st)) := by
  subst hp hv; exact own_lift (fun T A t q => XS.i2s A C.1 rfl (hb C.2.2.1 hd) rfl q) W
theorem own_i2c (C : Cx p s m meth c Z cd ml ret own nm) {x : Int32} {v : Int32} (hd : decode cd pc = .ok (.i2c, 1)) (hv : x.toUInt32.toUInt16.toUInt32.toInt32 = v) (hp : pc + 1 = pc') (W : Wp p l e R s m args below meth c n0 Q h k n (mkF m pc' Ls (.int v :: st))) : Wp p l e R s m args below meth c n0 Q h k n (mkF m pc Ls (.int x :: st)) := by
  subst hp hv; exact own_lift (fun T A t q => XS.i2c A C.1 rfl (hb C.2.2.1 hd) rfl q) W
theorem own_lcmp (C : Cx p s m meth c Z cd ml ret own nm) {x y : Int64} (hd : decode cd pc = .ok (.lcmp, 1)) (hp : pc + 1 = pc') (W : Wp p l e R s m args below meth c n0 Q h k n (mkF m pc' Ls (.int (lcmpW x y) :: st))) : Wp p l e R s m args below meth c n0 Q h k n (mkF m pc Ls (.long y :: .long x :: st)) := by
  subst hp; exact own_lift (fun T A t q => XS.lcmp A C.1 rfl (hb C.2.2.1 hd) rfl q) W
theorem own_dup (C : Cx p s m meth c Z cd ml ret own nm) {x : Value} (hd : decode cd pc = .ok (.dup, 1)) (hc : x.category = 1) (hp : pc + 1 = pc') (W : Wp p l e R s m args below meth c n0 Q h k n (mkF m pc' Ls (x :: x :: st))) : Wp p l e R s m args below meth c n0 Q h k n (mkF m pc Ls (x :: st)) := by
  subst hp; exact own_lift (fun T A t q => XS.dup A C.1 rfl (hb C.2.2.1 hd) rfl hc q) W
theorem own_pop (C : Cx p s m meth c Z cd ml ret own nm) {x : Value} (hd : decode cd pc = .ok (.pop, 1)) (hc : x.category = 1) (hp : pc + 1 = pc') (W : Wp p l e R s m args below meth c n0 Q h k n (mkF m pc' Ls st)) : Wp p l e R s m args below meth c n0 Q h k n (mkF m pc Ls (x :: st)) := by
  subst hp; exact own_lift (fun T A t q => XS.pop A C.1 rfl (hb C.2.2.1 hd) rfl hc q) W
theorem own_dupX1 (C : Cx p s m meth c Z cd ml ret own nm) {x y : Value} (hd : decode cd pc = .ok (.dup_x1, 1)) (hc : x.category = 1) (hc' : y.category = 1) (hp : pc + 1 = pc') (W : Wp p l e R s m args below meth c n0 Q h k n (mkF m pc' Ls (x :: y :: x :: st))) : Wp p l e R s m args below meth c n0 Q h k n (mkF m pc Ls (x :: y :: st)) := by
  subst hp; exact own_lift (fun T A t q => XS.dupX1 A C.1 rfl (hb C.2.2.1 hd) rfl hc hc' q) W
theorem own_dup2 (C : Cx p s m meth c Z cd ml ret own nm) {x y : Value} (hd : decode cd pc = .ok (.dup2, 1)) (hc : x.category = 1) (hc' : y.category = 1) (hp : pc + 1 = pc') (W : Wp p l e R s m args below meth c n0 Q h k n (mkF m pc' Ls (x :: y :: x :: y :: st))) : Wp p l e R s m args below meth c n0 Q h k n (mkF m pc Ls (x :: y :: st)) := by
  subst hp; exact own_lift (fun T A t q => Jvm.Free.XT.dup2 A C.1 rfl (hb C.2.2.1 hd) rfl hc hc' q) W
theorem own_iinc (C : Cx p s m meth c Z cd ml ret own nm) {i : Nat} {d : Int} {x v : Int32} (hd : decode cd pc = .ok (.iinc i d, 3)) (hl : Ls[i]? = some (.val (.int x))) (hv : x + Int32.ofInt d = v) (hl' : storeLocals Ls i (.int v) = some Ls') (hp : pc + 3 = pc') (W : Wp p l e R s m args below meth c n0 Q h k n (mkF m pc' Ls' st)) : Wp p l e R s m args below meth c n0 Q h k n (mkF m pc Ls st) := by
  subst hp hv; exact own_lift (fun T A t q => XS.iinc A C.1 rfl (hb C.2.2.1 hd) hl hl' q) W
theorem own_goto (C : Cx p s m meth c Z cd ml ret own nm) {o : Int} (hd : decode cd pc = .ok (.goto o, 3)) (ho : 0 ≤ (pc : Int) + o) (hp : ((pc : Int) + o).toNat = pc') (W : Wp p l e R s m args below meth c n0 Q h k n (mkF m pc' Ls st)) : Wp p l e R s m args below meth c n0 Q h k n (mkF m pc Ls st) :=
  own_lift (fun T A t q => XS.goto A C.1 rfl (pc0 := pc) (pc' := pc') rfl (hb C.2.2.1 hd) ho hp q) W
theorem own_icmp_lt (C : Cx p s m meth c Z cd ml ret own nm) {o : Int} {x y : Int32} {pt pf : Nat} (hd : decode cd pc = .ok (.if_icmp .lt o, 3)) (ho : 0 ≤ (pc : Int) + o) (hp : ((pc : Int) + o).toNat = pt) (hf : pc + 3 = pf) (WT : x < y → Wp p l e R s m args below meth c n0 Q h k n (mkF m pt Ls st)) (WF : ¬ x < y → Wp p l e R s m args below meth c n0 Q h k n (mkF m pf Ls st)) : Wp p l e R s m args below meth c n0 Q h k n (mkF m pc Ls (.int y :: .int x :: st)) := by
  subst hf
  by_cases g : x < y
  · exact own_lift (fun T A t q => XS.icmpYes A C.1 rfl (pc0 := pc) (pc' := pt) rfl (hb C.2.2.1 hd) rfl (tlt g).1 ho hp q) (WT g)
  · exact own_lift (fun T A t q => XS.icmpNo A C.1 rfl (hb C.2.2.1 hd) rfl (flt g).1 q) (WF g)
theorem own_if_lt (C : Cx p s m meth c Z cd ml ret own nm) {o : Int} {x : Int32} {pt pf : Nat} (hd : decode cd pc = .ok (.ifCond .lt o, 3)) (ho : 0 ≤ (pc : Int) + o) (hp : ((pc : Int) + o).toNat = pt) (hf : pc + 3 = pf) (WT : x < 0 → Wp p l e R s m args below meth c n0 Q h k n (mkF m pt Ls st)) (WF : ¬ x < 0 → Wp p l e R s m args below meth c n0 Q h k n (mkF m pf Ls st)) : Wp p l e R s m args below meth c n0 Q h k n (mkF m pc Ls (.int x :: st)) := by
  subst hf
  by_cases g : x < 0
  · exact own_lift (fun T A t q => XS.ifYes A C.1 rfl (pc0 := pc) (pc' := pt) rfl (hb C.2.2.1 hd) rfl ((if0 _ _).trans (tlt g).1) ho hp q) (WT g)
  · exact own_lift (fun T A t q => XS.ifNo A C.1 rfl (hb C.2.2.1 hd) rfl ((if0 _ _).trans (flt g).1) q) (WF g)
theorem own_lcmp_lt (C : Cx p s m meth c Z cd ml ret own nm) {o : Int} {x y : Int64} {p1 pt pf : Nat} (hd0 : decode cd pc = .ok (.lcmp, 1)) (h1 : pc + 1 = p1) (hd : decode cd p1 = .ok (.ifCond .lt o, 3)) (ho : 0 ≤ (p1 : Int) + o) (hp : ((p1 : Int) + o).toNat = pt) (hf : p1 + 3 = pf) (WT : x < y → Wp p l e R s m args below meth c n0 Q h k n (mkF m pt Ls st)) (WF : ¬ x < y → Wp p l e R s m args below meth c n0 Q h k n (mkF m pf Ls st)) : Wp p l e R s m args below meth c n0 Q h k n (mkF m pc Ls (.long y :: .long x :: st)) :=
  own_lcmp C hd0 h1 (own_if_lt C hd ho hp hf (fun g => WT ((lw_lt x y).mp g)) (fun g => WF (fun q => g ((lw_lt x y).mpr q))))
theorem own_icmp_ge (C : Cx p s m meth c Z cd ml ret own nm) {o : Int} {x y : Int32} {pt pf : Nat} (hd : decode cd pc = .ok (.if_icmp .ge o, 3)) (ho : 0 ≤ (pc : Int) + o) (hp : ((pc : Int) + o).toNat = pt) (hf : pc + 3 = pf) (WT : ¬ x < y → Wp p l e R s m args below meth c n0 Q h k n (mkF m pt Ls st)) (WF : x < y → Wp p l e R s m args below meth c n0 Q h k n (mkF m pf Ls st)) : Wp p l e R s m args below meth c n0 Q h k n (mkF m pc Ls (.int y :: .int x :: st)) := by
  subst hf
  by_cases g : x < y
  · exact own_lift (fun T A t q => XS.icmpNo A C.1 rfl (hb C.2.2.1 hd) rfl (tlt g).2.1 q) (WF g)
  · exact own_lift (fun T A t q => XS.icmpYes A C.1 rfl (pc0 := pc) (pc' := pt) rfl (hb C.2.2.1 hd) rfl (flt g).2.1 ho hp q) (WT g)
theorem own_if_ge (C : Cx p s m meth c Z cd ml ret own nm) {o : Int} {x : Int32} {pt pf : Nat} (hd : decode cd pc = .ok (.ifCond .ge o, 3)) (ho : 0 ≤ (pc : Int) + o) (hp : ((pc : Int) + o).toNat = pt) (hf : pc + 3 = pf) (WT : ¬ x < 0 → Wp p l e R s m args below meth c n0 Q h k n (mkF m pt Ls st)) (WF : x < 0 → Wp p l e R s m args below meth c n0 Q h k n (mkF m pf Ls st)) : Wp p l e R s m args below meth c n0 Q h k n (mkF m pc Ls (.int x :: st)) := by
  subst hf
  by_cases g : x < 0
  · exact own_lift (fun T A t q => XS.ifNo A C.1 rfl (hb C.2.2.1 hd) rfl ((if0 _ _).trans (tlt g).2.1) q) (WF g)
  · exact own_lift (fun T A t q => XS.ifYes A C.1 rfl (pc0 := pc) (pc' := pt) rfl (hb C.2.2.1 hd) rfl ((if0 _ _).trans (flt g).2.1) ho hp q) (WT g)
theorem own_lcmp_ge (C : Cx p s m meth c Z cd ml ret own nm) {o : Int} {x y : Int64} {p1 pt pf : Nat} (hd0 : decode cd pc = .ok (.lcmp, 1)) (h1 : pc + 1 = p1) (hd : decode cd p1 = .ok (.ifCond .ge o, 3)) (ho : 0 ≤ (p1 : Int) + o) (hp : ((p1 : Int) + o).toNat = pt) (hf : p1 + 3 = pf) (WT : ¬ x < y → Wp p l e R s m args below meth c n0 Q h k n (mkF m pt Ls st)) (WF : x < y → Wp p l e R s m args below meth c n0 Q h k n (mkF m pf Ls st)) : Wp p l e R s m args below meth c n0 Q h k n (mkF m pc Ls (.long y :: .long x :: st)) :=
  own_lcmp C hd0 h1 (own_if_ge C hd ho hp hf (fun g => WT (fun q => g ((lw_lt x y).mpr q))) (fun g => WF ((lw_lt x y).mp g)))
theorem own_icmp_gt (C : Cx p s m meth c Z cd ml ret own nm) {o : Int} {x y : Int32} {pt pf : Nat} (hd : decode cd pc = .ok (.if_icmp .gt o, 3)) (ho : 0 ≤ (pc : Int) + o) (hp : ((pc : Int) + o).toNat = pt) (hf : pc + 3 = pf) (WT : y < x → Wp p l e R s m args below meth c n0 Q h k n (mkF m pt Ls st)) (WF : ¬ y < x → Wp p l e R s m args below meth c n0 Q h k n (mkF m pf Ls st)) : Wp p l e R s m args below meth c n0 Q h k n (mkF m pc Ls (.int y :: .int x :: st)) := by
  subst hf
  by_cases g : y < x
  · exact own_lift (fun T A t q => XS.icmpYes A C.1 rfl (pc0 := pc) (pc' := pt) rfl (hb C.2.2.1 hd) rfl (tlt g).2.2.1 ho hp q) (WT g)
  · exact own_lift (fun T A t q => XS.icmpNo A C.1 rfl (hb C.2.2.1 hd) rfl (flt g).2.2.1 q) (WF g)
theorem own_if_gt (C : Cx p s m meth c Z cd ml ret own nm) {o : Int} {x : Int32} {pt pf : Nat} (hd : decode cd pc = .ok (.ifCond .gt o, 3)) (ho : 0 ≤ (pc : Int) + o) (hp : ((pc : Int) + o).toNat = pt) (hf : pc + 3 = pf) (WT : 0 < x → Wp p l e R s m args below meth c n0 Q h k n (mkF m pt Ls st)) (WF : ¬ 0 < x → Wp p l e R s m args below meth c n0 Q h k n (mkF m pf Ls st)) : Wp p l e R s m args below meth c n0 Q h k n (mkF m pc Ls (.int x :: st)) := by
  subst hf
  by_cases g : 0 < x
  · exact own_lift (fun T A t q => XS.ifYes A C.1 rfl (pc0 := pc) (pc' := pt) rfl (hb C.2.2.1 hd) rfl ((if0 _ _).trans (tlt g).2.2.1) ho hp q) (WT g)
  · exact own_lift (fun T A t q => XS.ifNo A C.1 rfl (hb C.2.2.1 hd) rfl ((if0 _ _).trans (flt g).2.2.1) q) (WF g)
theorem own_lcmp_gt (C : Cx p s m meth c Z cd ml ret own nm) {o : Int} {x y : Int64} {p1 pt pf : Nat} (hd0 : decode cd pc = .ok (.lcmp, 1)) (h1 : pc + 1 = p1) (hd : decode cd p1 = .ok (.ifCond .gt o, 3)) (ho : 0 ≤ (p1 : Int) + o) (hp : ((p1 : Int) + o).toNat = pt) (hf : p1 + 3 = pf) (WT : y < x → Wp p l e R s m args below meth c n0 Q h k n (mkF m pt Ls st)) (WF : ¬ y < x → Wp p l e R s m args below meth c n0 Q h k n (mkF m pf Ls st)) : Wp p l e R s m args below meth c n0 Q h k n (mkF m pc Ls (.long y :: .long x :: st)) :=
  own_lcmp C hd0 h1 (own_if_gt C hd ho hp hf (fun g => WT ((lw_gt x y).mp g)) (fun g => WF (fun q => g ((lw_gt x y).mpr q))))
theorem own_icmp_le (C : Cx p s m meth c Z cd ml ret own nm) {o : Int} {x y : Int32} {pt pf : Nat} (hd : decode cd pc = .ok (.if_icmp .le o, 3)) (ho : 0 ≤ (pc : Int) + o) (hp : ((pc : Int) + o).toNat = pt) (hf : pc + 3 = pf) (WT : ¬ y < x → Wp p l e R s m args below meth c n0 Q h k n (mkF m pt Ls st)) (WF : y < x → Wp p l e R s m args below meth c n0 Q h k n (mkF m pf Ls st)) : Wp p l e R s m args below meth c n0 Q h k n (mkF m pc Ls (.int y :: .int x :: st)) := by
  subst hf
  by_cases g : y < x
  · exact own_lift (fun T A t q => XS.icmpNo A C.1 rfl (hb C.2.2.1 hd) rfl (tlt g).2.2.2 q) (WF g)
  · exact own_lift (fun T A t q => XS.icmpYes A C.1 rfl (pc0 := pc) (pc' := pt) rfl (hb C.2.2.1 hd) rfl (flt g).2.2.2 ho hp q) (WT g)
theorem own_if_le (C : Cx p s m meth c Z cd ml ret own nm) {o : Int} {x : Int32} {pt pf : Nat} (hd : decode cd pc = .ok (.ifCond .le o, 3)) (ho : 0 ≤ (pc : Int) + o) (hp : ((pc : Int) + o).toNat = pt) (hf : pc + 3 = pf) (WT : ¬ 0 < x → Wp p l e R s m args below meth c n0 Q h k n (mkF m pt Ls st)) (WF : 0 < x → Wp p l e R s m args below meth c n0 Q h k n (mkF m pf Ls st)) : Wp p l e R s m args below meth c n0 Q h k n (mkF m pc Ls (.int x :: st)) := by
  subst hf
  by_cases g : 0 < x
  · exact own_lift (fun T A t q => XS.ifNo A C.1 rfl (hb C.2.2.1 hd) rfl ((if0 _ _).trans (tlt g).2.2.2) q) (WF g)
  · exact own_lift (fun T A t q => XS.ifYes A C.1 rfl (pc0 := pc) (pc' := pt) rfl (hb C.2.2.1 hd) rfl ((if0 _ _).trans (flt g).2.2.2) ho hp q) (WT g)
theorem own_lcmp_le (C : Cx p s m meth c Z cd ml ret own nm) {o : Int} {x y : Int64} {p1 pt pf : Nat} (hd0 : decode cd pc = .ok (.lcmp, 1)) (h1 : pc + 1 = p1) (hd : decode cd p1 = .ok (.ifCond .le o, 3)) (ho : 0 ≤ (p1 : Int) + o) (hp : ((p1 : Int) + o).toNat = pt) (hf : p1 + 3 = pf) (WT : ¬ y < x → Wp p l e R s m args below meth c n0 Q h k n (mkF m pt Ls st)) (WF : y < x → Wp p l e R s m args below meth c n0 Q h k n (mkF m pf Ls st)) : Wp p l e R s m args below meth c n0 Q h k n (mkF m pc Ls (.long y :: .long x :: st)) :=
  own_lcmp C hd0 h1 (own_if_le C hd ho hp hf (fun g => WT (fun q => g ((lw_gt x y).mpr q))) (fun g => WF ((lw_gt x y).mp g)))
theorem own_icmp_eq (C : Cx p s m meth c Z cd ml ret own nm) {o : Int} {x y : Int32} {pt pf : Nat} (hd : decode cd pc = .ok (.if_icmp .eq o, 3)) (ho : 0 ≤ (pc : Int) + o) (hp : ((pc : Int) + o).toNat = pt) (hf : pc + 3 = pf) (WT : x = y → Wp p l e R s m args below meth c n0 Q h k n (mkF m pt Ls st)) (WF : ¬ x = y → Wp p l e R s m args below meth c n0 Q h k n (mkF m pf Ls st)) : Wp p l e R s m args below meth c n0 Q h k n (mkF m pc Ls (.int y :: .int x :: st)) := by
  subst hf
  by_cases g : x = y
  · exact own_lift (fun T A t q => XS.icmpYes A C.1 rfl (pc0 := pc) (pc' := pt) rfl (hb C.2.2.1 hd) rfl (teq g).1 ho hp q) (WT g)
  · exact own_lift (fun T A t q => XS.icmpNo A C.1 rfl (hb C.2.2.1 hd) rfl (feq g).1 q) (WF g)
theorem own_if_eq (C : Cx p s m meth c Z cd ml ret own nm) {o : Int} {x : Int32} {pt pf : Nat} (hd : decode cd pc = .ok (.ifCond .eq o, 3)) (ho : 0 ≤ (pc : Int) + o) (hp : ((pc : Int) + o).toNat = pt) (hf : pc + 3 = pf) (WT : x = 0 → Wp p l e R s m args below meth c n0 Q h k n (mkF m pt Ls st)) (WF : ¬ x = 0 → Wp p l e R s m args below meth c n0 Q h k n (mkF m pf Ls st)) : Wp p l e R s m args below meth c n0 Q h k n (mkF m pc Ls (.int x :: st)) := by
  subst hf
  by_cases g : x = 0
  · exact own_lift (fun T A t q => XS.ifYes A C.1 rfl (pc0 := pc) (pc' := pt) rfl (hb C.2.2.1 hd) rfl ((if0 _ _).trans (teq g).1) ho hp q) (WT g)
  · exact own_lift (fun T A t q => XS.ifNo A C.1 rfl (hb C.2.2.1 hd) rfl ((if0 _ _).trans (feq g).1) q) (WF g)
theorem own_lcmp_eq (C : Cx p s m meth c Z cd ml ret own nm) {o : Int} {x y : Int64} {p1 pt pf : Nat} (hd0 : decode cd pc = .ok (.lcmp, 1)) (h1 : pc + 1 = p1) (hd : decode cd p1 = .ok (.ifCond .eq o, 3)) (ho : 0 ≤ (p1 : Int) + o) (hp : ((p1 : Int) + o).toNat = pt) (hf : p1 + 3 = pf) (WT : x = y → Wp p l e R s m args below meth c n0 Q h k n (mkF m pt Ls st)) (WF : ¬ x = y → Wp p l e R s m args below meth c n0 Q h k n (mkF m pf Ls st)) : Wp p l e R s m args below meth c n0 Q h k n (mkF m pc Ls (.long y :: .long x :: st)) :=
  own_lcmp C hd0 h1 (own_if_eq C hd ho hp hf (fun g => WT ((lw_eq x y).mp g)) (fun g => WF (fun q => g ((lw_eq x y).mpr q))))
theorem own_icmp_ne (C : Cx p s m meth c Z cd ml ret own nm) {o : Int} {x y : Int32} {pt pf : Nat} (hd : decode cd pc = .ok (.if_icmp .ne o, 3)) (ho : 0 ≤ (pc : Int) + o) (hp : ((pc : Int) + o).toNat = pt) (hf : pc + 3 = pf) (WT : ¬ x = y → Wp p l e R s m args below meth c n0 Q h k n (mkF m pt Ls st)) (WF : x = y → Wp p l e R s m args below meth c n0 Q h k n (mkF m pf Ls st)) : Wp p l e R s m args below meth c n0 Q h k n (mkF m pc Ls (.int y :: .int x :: st)) := by
  subst hf
  by_cases g : x = y
  · exact own_lift (fun T A t q => XS.icmpNo A C.1 rfl (hb C.2.2.1 hd) rfl (teq g).2 q) (WF g)
  · exact own_lift (fun T A t q => XS.icmpYes A C.1 rfl (pc0 := pc) (pc' := pt) rfl (hb C.2.2.1 hd) rfl (feq g).2 ho hp q) (WT g)
theorem own_if_ne (C : Cx p s m meth c Z cd ml ret own nm) {o : Int} {x : Int32} {pt pf : Nat} (hd : decode cd pc = .ok (.ifCond .ne o, 3)) (ho : 0 ≤ (pc : Int) + o) (hp : ((pc : Int) + o).toNat = pt) (hf : pc + 3 = pf) (WT : ¬ x = 0 → Wp p l e R s m args below meth c n0 Q h k n (mkF m pt Ls st)) (WF : x = 0 → Wp p l e R s m args below meth c n0 Q h k n (mkF m pf Ls st)) : Wp p l e R s m args below meth c n0 Q h k n (mkF m pc Ls (.int x :: st)) := by
  subst hf
  by_cases g : x = 0
  · exact own_lift (fun T A t q => XS.ifNo A C.1 rfl (hb C.2.2.1 hd) rfl ((if0 _ _).trans (teq g).2) q) (WF g)
  · exact own_lift (fun T A t q => XS.ifYes A C.1 rfl (pc0 := pc) (pc' := pt) rfl (hb C.2.2.1 hd) rfl ((if0 _ _).trans (feq g).2) ho hp q) (WT g)
theorem own_lcmp_ne (C : Cx p s m meth c Z cd ml ret own nm) {o : Int} {x y : Int64} {p1 pt pf : Nat} (hd0 : decode cd pc = .ok (.lcmp, 1)) (h1 : pc + 1 = p1) (hd : decode cd p1 = .ok (.ifCond .ne o, 3)) (ho : 0 ≤ (p1 : Int) + o) (hp : ((p1 : Int) + o).toNat = pt) (hf : p1 + 3 = pf) (WT : ¬ x = y → Wp p l e R s m args below meth c n0 Q h k n (mkF m pt Ls st)) (WF : x = y → Wp p l e R s m args below meth c n0 Q h k n (mkF m pf Ls st)) : Wp p l e R s m args below meth c n0 Q h k n (mkF m pc Ls (.long y :: .long x :: st)) :=
  own_lcmp C hd0 h1 (own_if_ne C hd ho hp hf (fun g => WT (fun q => g ((lw_eq x y).mpr q))) (fun g => WF ((lw_eq x y).mp g)))
theorem own_acmp_eq (C : Cx p s m meth c Z cd ml ret own nm) {o : Int} {a b : Addr} {pt pf : Nat} (hd : decode cd pc = .ok (.if_acmp .eq o, 3)) (ho : 0 ≤ (pc : Int) + o) (hp : ((pc : Int) + o).toNat = pt) (hf : pc + 3 = pf) (WT : a = b → Wp p l e R s m args below meth c n0 Q h k n (mkF m pt Ls st)) (WF : ¬ a = b → Wp p l e R s m args below meth c n0 Q h k n (mkF m pf Ls st)) : Wp p l e R s m args below meth c n0 Q h k n (mkF m pc Ls (.ref b :: .ref a :: st)) := by
  subst hf
  by_cases g : a = b
  · exact own_lift (fun T A t q => XS.acmpYes A C.1 rfl (pc0 := pc) (pc' := pt) rfl (hb C.2.2.1 hd) rfl (by simp [if_acmp.holds, g]) ho hp q) (WT g)
  · exact own_lift (fun T A t q => XS.acmpNo A C.1 rfl (hb C.2.2.1 hd) rfl (by simp [if_acmp.holds, g]) q) (WF g)
theorem own_acmp_ne (C : Cx p s m meth c Z cd ml ret own nm) {o : Int} {a b : Addr} {pt pf : Nat} (hd : decode cd pc = .ok (.if_acmp .ne o, 3)) (ho : 0 ≤ (pc : Int) + o) (hp : ((pc : Int) + o).toNat = pt) (hf : pc + 3 = pf) (WT : ¬ a = b → Wp p l e R s m args below meth c n0 Q h k n (mkF m pt Ls st)) (WF : a = b → Wp p l e R s m args below meth c n0 Q h k n (mkF m pf Ls st)) : Wp p l e R s m args below meth c n0 Q h k n (mkF m pc Ls (.ref b :: .ref a :: st)) := by
  subst hf
  by_cases g : a = b
  · exact own_lift (fun T A t q => XS.acmpNo A C.1 rfl (hb C.2.2.1 hd) rfl (by simp [if_acmp.holds, g]) q) (WF g)
  · exact own_lift (fun T A t q => XS.acmpYes A C.1 rfl (pc0 := pc) (pc' := pt) rfl (hb C.2.2.1 hd) rfl (by simp [if_acmp.holds, g]) ho hp q) (WT g)
theorem own_ifnull_y (C : Cx p s m meth c Z cd ml ret own nm) {o : Int} {pt : Nat} (hd : decode cd pc = .ok (.ifnull o, 3)) (ho : 0 ≤ (pc : Int) + o) (hp : ((pc : Int) + o).toNat = pt) (W : Wp p l e R s m args below meth c n0 Q h k n (mkF m pt Ls st)) : Wp p l e R s m args below meth c n0 Q h k n (mkF m pc Ls (.null :: st)) :=
  own_lift (fun T A t q => XS.ifnullYes A C.1 rfl (pc0 := pc) (pc' := pt) rfl (hb C.2.2.1 hd) rfl ho hp q) W
theorem own_ifnull_n (C : Cx p s m meth c Z cd ml ret own nm) {o : Int} {a : Addr} (hd : decode cd pc = .ok (.ifnull o, 3)) (hp : pc + 3 = pc') (W : Wp p l e R s m args below meth c n0 Q h k n (mkF m pc' Ls st)) : Wp p l e R s m args below meth c n0 Q h k n (mkF m pc Ls (.ref a :: st)) := by
  subst hp; exact own_lift (fun T A t q => XS.ifnullNo A C.1 rfl (hb C.2.2.1 hd) rfl q) W
theorem own_ifnonnull_y (C : Cx p s m meth c Z cd ml ret own nm) {o : Int} {a : Addr} {pt : Nat} (hd : decode cd pc = .ok (.ifnonnull o, 3)) (ho : 0 ≤ (pc : Int) + o) (hp : ((pc : Int) + o).toNat = pt) (W : Wp p l e R s m args below meth c n0 Q h k n (mkF m pt Ls st)) : Wp p l e R s m args below meth c n0 Q h k n (mkF m pc Ls (.ref a :: st)) :=
  own_lift (fun T A t q => XS.ifnonnullYes A C.1 rfl (pc0 := pc) (pc' := pt) rfl (hb C.2.2.1 hd) rfl ho hp q) W
theorem own_ifnonnull_n (C : Cx p s m meth c Z cd ml ret own nm) {o : Int} (hd : decode cd pc = .ok (.ifnonnull o, 3)) (hp : pc + 3 = pc') (W : Wp p l e R s m args below meth c n0 Q h k n (mkF m pc' Ls st)) : Wp p l e R s m args below meth c n0 Q h k n (mkF m pc Ls (.null :: st)) := by
  subst hp; exact own_lift (fun T A t q => XS.ifnonnullNo A C.1 rfl (hb C.2.2.1 hd) rfl q) W
theorem own_ldc (C : Cx p s m meth c Z cd ml ret own nm) {i : Nat} {v : Int32} (hd : decode cd pc = .ok (.ldc i, 2)) (w : (Jvm.Cond.constant own i v).before a0 Z = true) (hp : pc + 2 = pc') (W : Wp p l e R s m args below meth c n0 Q h k n (mkF m pc' Ls (.int v :: st))) : Wp p l e R s m args below meth c n0 Q h k n (mkF m pc Ls st) := by
  subst hp; exact own_liftX (fun T locs X eT t q => X.ldcInt C.1 C.2.2.2.2.1 (mvT C.2.1 w) (g := mkF m pc Ls st) rfl (hb C.2.2.1 hd) t q) W
theorem own_ldcw (C : Cx p s m meth c Z cd ml ret own nm) {i : Nat} {v : Int32} (hd : decode cd pc = .ok (.ldc_w i, 3)) (w : (Jvm.Cond.constant own i v).before a0 Z = true) (hp : pc + 3 = pc') (W : Wp p l e R s m args below meth c n0 Q h k n (mkF m pc' Ls (.int v :: st))) : Wp p l e R s m args below meth c n0 Q h k n (mkF m pc Ls st) := by
  subst hp; exact own_liftX (fun T locs X eT t q => X.ldcwInt C.1 C.2.2.2.2.1 (mvT C.2.1 w) (g := mkF m pc Ls st) rfl (hb C.2.2.1 hd) t q) W
theorem own_ldc2 (C : Cx p s m meth c Z cd ml ret own nm) {i : Nat} {v : Int64} (hd : decode cd pc = .ok (.ldc2_w i, 3)) (w : (Jvm.Cond.constantLong own i v).before a0 Z = true) (hp : pc + 3 = pc') (W : Wp p l e R s m args below meth c n0 Q h k n (mkF m pc' Ls (.long v :: st))) : Wp p l e R s m args below meth c n0 Q h k n (mkF m pc Ls st) := by
  subst hp; exact own_liftX (fun T locs X eT t q => X.ldc2Long C.1 C.2.2.2.2.1 (mvT C.2.1 w) (g := mkF m pc Ls st) rfl (hb C.2.2.1 hd) t q) W
/-! objects -/
theorem own_getfield (C : Cx p s m meth c Z cd ml ret own nm) {i : Nat} {O f d : String} {a : Addr} {v : Value} (hd : decode cd pc = .ok (.getfield i, 3)) (w : (Jvm.Cond.fieldLink own i O f d).before a0 Z = true) (F : Fld Z h a O f d v) (hp : pc + 3 = pc') (W : Wp p l e R s m args below meth c n0 Q h k n (mkF m pc' Ls (v :: st))) : Wp p l e R s m args below meth c n0 Q h k n (mkF m pc Ls (.ref a :: st)) := fun T locs X eT N => by
  subst hp
  obtain ⟨T', X', e', st'⟩ := getF X C.1 C.2.1 C.2.2.2.2.1 (host := "") (Or.inl w) Via.refl eT F (g := mkF m pc Ls (.ref a :: st)) rfl rfl (hb C.2.2.1 hd)
  obtain ⟨s₂, o, q, r⟩ := W T' locs X' e' N
  exact ⟨s₂, o, st' _ q, r⟩
theorem own_getstatic (C : Cx p s m meth c Z cd ml ret own nm) {i : Nat} {O f d : String} {v : Value} (hd : decode cd pc = .ok (.getstatic i, 3)) (w : (Jvm.Cond.fieldLink own i O f d).before a0 Z = true) (F : Sta Z h O f d v) (hp : pc + 3 = pc') (W : Wp p l e R s m args below meth c n0 Q h k n (mkF m pc' Ls (v :: st))) : Wp p l e R s m args below meth c n0 Q h k n (mkF m pc Ls st) := fun T locs X eT N => by
  subst hp
  obtain ⟨T', X', e', st'⟩ := getS2 X C.1 C.2.1 C.2.2.2.2.1 (host := "") (Or.inl w) Via.refl eT F (g := mkF m pc Ls st) rfl (hb C.2.2.1 hd)
  obtain ⟨s₂, o, q, r⟩ := W T' locs X' e' N
  exact ⟨s₂, o, st' _ q, r⟩
theorem own_putfield (C : Cx p s m meth c Z cd ml ret own nm) {i kk : Nat} {O f d K : String} {ty : FieldType} {a : Addr} {v old : Value} (hd : decode cd pc = .ok (.putfield i, 3)) (w : (Jvm.Cond.fieldLink own i O f d).before a0 Z = true) (F : Fld Z h a O f d old) (E : Exa Z h a K) (L : (Jvm.Cond.lays K O f d).before a0 Z = true ∨ ((Jvm.Cond.laysFinal K O f d).before a0 Z = true ∧ own = O ∧ nm = "<init>")) (wi : (Jvm.Cond.instantiable K kk).before a0 Z = true)
    (hty : parseFieldDescriptor d = some ty) (hn : narrow ty v = v) (hf : fits ty v = true) (ha : n0 ≤ a) (hp : pc + 3 = pc') (W : ∀ h', Wr h h' a (RoadKit.slotOf Z O f d) v → Fld Z h' a O f d v → Wp p l e R s m args below meth c n0 Q h' k n (mkF m pc' Ls st)) : Wp p l e R s m args below meth c n0 Q h k n (mkF m pc Ls (v :: .ref a :: st)) := fun T locs X eT N => by
  subst hp
  obtain ⟨T', h', X', e', Wr', st'⟩ := putF X C.1 C.2.1 C.2.2.2.2.1 (host := "") (Or.inl w) Via.refl eT F E (L.imp id fun q => ⟨q.1, q.2.1, C.2.2.2.2.2.2.2.trans q.2.2⟩) wi hty hn hf (g := mkF m pc Ls (v :: .ref a :: st)) rfl rfl (hb C.2.2.1 hd)
  obtain ⟨s₂, o, q, r⟩ := W h' Wr' (F.same Wr') T' _ X' e' (Fr.snoc X' N ha)
  exact ⟨s₂, o, st' _ q, r⟩
theorem own_new (C : Cx p s m meth c Z cd ml ret own nm) {i nn : Nat} {K : String} (hd : decode cd pc = .ok (.new i, 3)) (w : (Jvm.Cond.classLink own i K).before a0 Z = true) (wi : (Jvm.Cond.instantiable K nn).before a0 Z = true) (wz : (Jvm.Cond.initialized K).before a0 Z = true) (hc : k + 1 ≤ R.cells) (hl : n + nn ≤ R.slots) (hp : pc + 3 = pc')
    (W : ∀ h' a, a = h.size → Ext h h' → Exa Z h' a K → (∀ {O f d : String} {ty : FieldType}, Laid Z a0 K O f d → parseFieldDescriptor d = some ty → Fld Z h' a O f d (defaultValue ty)) → Wp p l e R s m args below meth c n0 Q h' (k + 1) (n + nn) (mkF m pc' Ls (.ref a :: st))) : Wp p l e R s m args below meth c n0 Q h k n (mkF m pc Ls st) := fun T locs X eT N => by
  subst hp
  obtain ⟨T', h', X', e', E', A', D', -, st'⟩ := newO X C.1 C.2.1 C.2.2.2.2.1 w wi wz eT (g := mkF m pc Ls st) rfl (hb C.2.2.1 hd) hc hl
  obtain ⟨s₂, o, q, r⟩ := W h' h.size rfl E' A' D' T' _ X' e' N
  exact ⟨s₂, o, st' _ q, r⟩
/-- java.lang.Object's own constructor -/
theorem own_initO (C : Cx p s m meth c Z cd ml ret own nm) {i : Nat} {wL : Nat} (hd : decode cd pc = .ok (.invokespecial i, 3)) (w1 : (Jvm.Cond.methodLink own i Lib.objectInit).before a0 Z = true) (w2 : (Jvm.Cond.instanceMethod Lib.objectInit).before a0 Z = true) (w3 : (Jvm.Cond.code Lib.objectInit ⟨#[0xb1]⟩ 1 none).before a0 Z = true)
    {a : Addr} (hsz : Ls.size = ml) (hf : 1 ≤ R.frames) (hW : 0 + (st.map fun v => v.category).sum ≤ wL) (hl : wL + 12 ≤ R.locals) (hp : pc + 3 = pc') (W : Wp p l e R s m args below meth c n0 Q h k n (mkF m pc' Ls st)) : Wp p l e R s m args below meth c n0 Q h k n (mkF m pc Ls (.ref a :: st)) := fun T locs X eT N => by
  subst hp
  obtain ⟨T', X', e', st'⟩ := initO X C.1 C.2.1 C.2.2.2.2.1 w1 w2 w3 eT (g := mkF m pc Ls (.ref a :: st)) rfl (by rw [C.2.2.2.1]; exact hsz) rfl (hb C.2.2.1 hd) hf (W := wL) hW hl
  obtain ⟨s₂, o, q, r⟩ := W T' locs X' e' N
  exact ⟨s₂, o, st' _ q, r⟩
/-! arrays: of ints (of any narrow kind), of longs -/
def AI (Z : State) (h : Heap) (a : Addr) (ty : FieldType) (xs : List Int32) : Prop := ∃ cl : Cell, Arr Z h a cl ty ∧ cl.slots = (xs.map Value.int).toArray ∧ xs.length < 2 ^ 31
def AJ (Z : State) (h : Heap) (a : Addr) (xs : List Int64) : Prop := ∃ cl : Cell, Arr Z h a cl .long ∧ cl.slots = (xs.map Value.long).toArray ∧ xs.length < 2 ^ 31
theorem AI.lt {a : Addr} {ty : FieldType} {xs : List Int32} (A : AI Z h a ty xs) : a < h.size := by obtain ⟨cl, A, -⟩ := A; exact A.lt
theorem AJ.lt {a : Addr} {xs : List Int64} (A : AJ Z h a xs) : a < h.size := by obtain ⟨cl, A, -⟩ := A; exact A.lt
theorem AI.ext {h' : Heap} {a : Addr} {ty : FieldType} {xs : List Int32} (A : AI Z h a ty xs) (E : Ext h h') : AI Z h' a ty xs := by obtain ⟨cl, A, r⟩ := A; exact ⟨cl, A.ext E, r⟩
theorem AJ.ext {h' : Heap} {a : Addr} {xs : List Int64} (A : AJ Z h a xs) (E : Ext h h') : AJ Z h' a xs := by obtain ⟨cl, A, r⟩ := A; exact ⟨cl, A.ext E, r⟩
theorem AI.other {h' : Heap} {a b : Addr} {sl : Nat} {v : Value} {ty : FieldType} {xs : List Int32} (A : AI Z h a ty xs) (W : Wr h h' b sl v) (q : a ≠ b) : AI Z h' a ty xs := by obtain ⟨cl, A, r⟩ := A; exact ⟨cl, A.other W q, r⟩
theorem AJ.other {h' : Heap} {a b : Addr} {sl : Nat} {v : Value} {xs : List Int64} (A : AJ Z h a xs) (W : Wr h h' b sl v) (q : a ≠ b) : AJ Z h' a xs := by obtain ⟨cl, A, r⟩ := A; exact ⟨cl, A.other W q, r⟩
theorem AI.keep {h' : Heap} {a : Addr} {ws : List Addr} {ty : FieldType} {xs : List Int32} (A : AI Z h a ty xs) (K : Keep h h' ws) (q : a ∉ ws) : AI Z h' a ty xs := by obtain ⟨cl, A, r⟩ := A; exact ⟨cl, ⟨K.2.1 a cl A.1 q, A.2⟩, r⟩
theorem AJ.keep {h' : Heap} {a : Addr} {ws : List Addr} {xs : List Int64} (A : AJ Z h a xs) (K : Keep h h' ws) (q : a ∉ ws) : AJ Z h' a xs := by obtain ⟨cl, A, r⟩ := A; exact ⟨cl, ⟨K.2.1 a cl A.1 q, A.2⟩, r⟩
theorem AI.same {h' : Heap} {a : Addr} {i : Nat} {x : Int32} {ty : FieldType} {xs : List Int32} (A : AI Z h a ty xs) (W : Wr h h' a i (.int x)) : AI Z h' a ty (xs.set i x) := by
  obtain ⟨cl, A, r1, r2⟩ := A
  exact ⟨_, A.same W, by simp [Cell.setSlot, r1, List.map_set], by simpa using r2⟩
theorem AJ.same {h' : Heap} {a : Addr} {i : Nat} {x : Int64} {xs : List Int64} (A : AJ Z h a xs) (W : Wr h h' a i (.long x)) : AJ Z h' a (xs.set i x) := by
  obtain ⟨cl, A, r1, r2⟩ := A
  exact ⟨_, A.same W, by simp [Cell.setSlot, r1, List.map_set], by simpa using r2⟩
theorem own_iaload (C : Cx p s m meth c Z cd ml ret own nm) {a : Addr} {j v : Int32} {i : Nat} {xs : List Int32} (hd : decode cd pc = .ok (.iaload, 1)) (A : AI Z h a .int xs) (hj : ¬ j < 0) (hi : j.toNatClampNeg = i) (hv : xs[i]? = some v) (hp : pc + 1 = pc') (W : Wp p l e R s m args below meth c n0 Q h k n (mkF m pc' Ls (.int v :: st))) : Wp p l e R s m args below meth c n0 Q h k n (mkF m pc Ls (.int j :: .ref a :: st)) := by
  subst hp hi
  obtain ⟨cl, A, r1, r2⟩ := A
  have hlt := (List.getElem?_eq_some_iff.mp hv).1
  exact own_liftX (fun T locs X eT t q => X.iaload C.1 (j := j) (v := .int v) (by rw [eT]; exact A.1) (State.isArrayOf_alike C.2.1.alike A.2.1) A.2.2 (fun z => z.elim hj fun y => by rw [r1] at y; simp at y; omega) (by rw [r1]; simp [hv]) (g := mkF m pc Ls (.int j :: .ref a :: st)) rfl rfl (hb C.2.2.1 hd) t q) W
theorem own_baload (C : Cx p s m meth c Z cd ml ret own nm) {a : Addr} {j v : Int32} {i : Nat} {xs : List Int32} (hd : decode cd pc = .ok (.baload, 1)) (A : AI Z h a .byte xs) (hj : ¬ j < 0) (hi : j.toNatClampNeg = i) (hv : xs[i]? = some v) (hp : pc + 1 = pc') (W : Wp p l e R s m args below meth c n0 Q h k n (mkF m pc' Ls (.int v :: st))) : Wp p l e R s m args below meth c n0 Q h k n (mkF m pc Ls (.int j :: .ref a :: st)) := by
  subst hp hi
  obtain ⟨cl, A, r1, r2⟩ := A
  have hlt := (List.getElem?_eq_some_iff.mp hv).1
  exact own_liftX (fun T locs X eT t q => X.baloadBytes C.1 (j := j) (v := .int v) (by rw [eT]; exact A.1) (State.isArrayOf_alike C.2.1.alike A.2.1) A.2.2 (fun z => z.elim hj fun y => by rw [r1] at y; simp at y; omega) (by rw [r1]; simp [hv]) (g := mkF m pc Ls (.int j :: .ref a :: st)) rfl rfl (hb C.2.2.1 hd) t q) W
theorem own_laload (C : Cx p s m meth c Z cd ml ret own nm) {a : Addr} {j : Int32} {v : Int64} {i : Nat} {xs : List Int64} (hd : decode cd pc = .ok (.laload, 1)) (A : AJ Z h a xs) (hj : ¬ j < 0) (hi : j.toNatClampNeg = i) (hv : xs[i]? = some v) (hp : pc + 1 = pc') (W : Wp p l e R s m args below meth c n0 Q h k n (mkF m pc' Ls (.long v :: st))) : Wp p l e R s m args below meth c n0 Q h k n (mkF m pc Ls (.int j :: .ref a :: st)) := by
  subst hp hi
  obtain ⟨cl, A, r1, r2⟩ := A
  have hlt := (List.getElem?_eq_some_iff.mp hv).1
  exact own_liftX (fun T locs X eT t q => X.laload C.1 (j := j) (v := .long v) (by rw [eT]; exact A.1) (State.isArrayOf_alike C.2.1.alike A.2.1) A.2.2 (fun z => z.elim hj fun y => by rw [r1] at y; simp at y; omega) (by rw [r1]; simp [hv]) (g := mkF m pc Ls (.int j :: .ref a :: st)) rfl rfl (hb C.2.2.1 hd) t q) W
theorem own_lenI (C : Cx p s m meth c Z cd ml ret own nm) {a : Addr} {v : Int32} {ty : FieldType} {xs : List Int32} (hd : decode cd pc = .ok (.arraylength, 1)) (A : AI Z h a ty xs) (hv : xs.length.toInt32 = v) (hp : pc + 1 = pc') (W : Wp p l e R s m args below meth c n0 Q h k n (mkF m pc' Ls (.int v :: st))) : Wp p l e R s m args below meth c n0 Q h k n (mkF m pc Ls (.ref a :: st)) := by
  subst hp hv
  obtain ⟨cl, A, r1, r2⟩ := A
  have e1 : cl.slots.size = xs.length := by rw [r1]; simp
  exact own_liftX (fun T locs X eT t q => X.arraylength C.1 (by rw [eT]; exact A.1) (State.isArrayOf_alike C.2.1.alike A.2.1) (g := mkF m pc Ls (.ref a :: st)) rfl rfl (hb C.2.2.1 hd) t (by rw [e1]; exact q)) W
theorem own_lenJ (C : Cx p s m meth c Z cd ml ret own nm) {a : Addr} {v : Int32} {xs : List Int64} (hd : decode cd pc = .ok (.arraylength, 1)) (A : AJ Z h a xs) (hv : xs.length.toInt32 = v) (hp : pc + 1 = pc') (W : Wp p l e R s m args below meth c n0 Q h k n (mkF m pc' Ls (.int v :: st))) : Wp p l e R s m args below meth c n0 Q h k n (mkF m pc Ls (.ref a :: st)) := by
  subst hp hv
  obtain ⟨cl, A, r1, r2⟩ := A
  have e1 : cl.slots.size = xs.length := by rw [r1]; simp
  exact own_liftX (fun T locs X eT t q => X.arraylength C.1 (by rw [eT]; exact A.1) (State.isArrayOf_alike C.2.1.alike A.2.1) (g := mkF m pc Ls (.ref a :: st)) rfl rfl (hb C.2.2.1 hd) t (by rw [e1]; exact q)) W
theorem own_iastore (C : Cx p s m meth c Z cd ml ret own nm) {a : Addr} {j x : Int32} {i : Nat} {xs ys : List Int32} (hd : decode cd pc = .ok (.iastore, 1)) (A : AI Z h a .int xs) (hj : ¬ j < 0) (hi : j.toNatClampNeg = i) (hlt : i < xs.length) (hys : xs.set i x = ys) (ha : n0 ≤ a) (hp : pc + 1 = pc') (W : ∀ h', Wr h h' a i (.int x) → AI Z h' a .int ys → Wp p l e R s m args below meth c n0 Q h' k n (mkF m pc' Ls st)) : Wp p l e R s m args below meth c n0 Q h k n (mkF m pc Ls (.int x :: .int j :: .ref a :: st)) := fun T locs X eT N => by
  subst hp hi hys
  have A' := A
  obtain ⟨cl, A, r1, r2⟩ := A
  obtain ⟨T', h', X', e', Wr', st'⟩ := stI X C.1 C.2.1 eT A (j := j) (x := x) (fun z => z.elim hj fun y => by rw [r1] at y; simp at y; omega) (g := mkF m pc Ls (.int x :: .int j :: .ref a :: st)) rfl rfl (hb C.2.2.1 hd)
  obtain ⟨s₂, o, q, r⟩ := W h' Wr' (A'.same Wr') T' _ X' e' (Fr.snoc X' N ha)
  exact ⟨s₂, o, st' _ q, r⟩
theorem own_lastore (C : Cx p s m meth c Z cd ml ret own nm) {a : Addr} {j : Int32} {x : Int64} {i : Nat} {xs ys : List Int64} (hd : decode cd pc = .ok (.lastore, 1)) (A : AJ Z h a xs) (hj : ¬ j < 0) (hi : j.toNatClampNeg = i) (hlt : i < xs.length) (hys : xs.set i x = ys) (ha : n0 ≤ a) (hp : pc + 1 = pc') (W : ∀ h', Wr h h' a i (.long x) → AJ Z h' a ys → Wp p l e R s m args below meth c n0 Q h' k n (mkF m pc' Ls st)) : Wp p l e R s m args below meth c n0 Q h k n (mkF m pc Ls (.long x :: .int j :: .ref a :: st)) := fun T locs X eT N => by
  subst hp hi hys
  have A' := A
  obtain ⟨cl, A, r1, r2⟩ := A
  obtain ⟨T', h', X', e', Wr', st'⟩ := stJ X C.1 C.2.1 eT A (j := j) (x := x) (fun z => z.elim hj fun y => by rw [r1] at y; simp at y; omega) (g := mkF m pc Ls (.long x :: .int j :: .ref a :: st)) rfl rfl (hb C.2.2.1 hd)
  obtain ⟨s₂, o, q, r⟩ := W h' Wr' (A'.same Wr') T' _ X' e' (Fr.snoc X' N ha)
  exact ⟨s₂, o, st' _ q, r⟩
theorem own_bastore (C : Cx p s m meth c Z cd ml ret own nm) {a : Addr} {j x : Int32} {i : Nat} {xs ys : List Int32} (hd : decode cd pc = .ok (.bastore, 1)) (A : AI Z h a .byte xs) (hj : ¬ j < 0) (hi : j.toNatClampNeg = i) (hlt : i < xs.length) (hys : xs.set i (nar .byte x) = ys) (ha : n0 ≤ a) (hp : pc + 1 = pc') (W : ∀ h', Wr h h' a i (.int (nar .byte x)) → AI Z h' a .byte ys → Wp p l e R s m args below meth c n0 Q h' k n (mkF m pc' Ls st)) : Wp p l e R s m args below meth c n0 Q h k n (mkF m pc Ls (.int x :: .int j :: .ref a :: st)) := fun T locs X eT N => by
  subst hp hi hys
  have A' := A
  obtain ⟨cl, A, r1, r2⟩ := A
  obtain ⟨T', h', X', e', Wr', st'⟩ := stB X C.1 C.2.1 eT A (j := j) (x := x) (fun z => z.elim hj fun y => by rw [r1] at y; simp at y; omega) (g := mkF m pc Ls (.int x :: .int j :: .ref a :: st)) rfl rfl (hb C.2.2.1 hd)
  obtain ⟨s₂, o, q, r⟩ := W h' Wr' (A'.same Wr') T' _ X' e' (Fr.snoc X' N ha)
  exact ⟨s₂, o, st' _ q, r⟩
theorem own_newI (C : Cx p s m meth c Z cd ml ret own nm) {aty : ArrayType} {ty : FieldType} {z : Int32} {len cap : Nat} (hd : decode cd pc = .ok (.newarray aty, 2)) (hty : newarray.typeOf aty = ty) (hdv : defaultValue ty = .int 0) (w : (Jvm.Cond.arrayClass ty).before a0 Z = true) (hz : ¬ z < 0) (hlen : z.toNatClampNeg = len) (hcap : len ≤ cap) (hb8 : cap * 8 ≤ 536870912) (hc : k + 1 ≤ R.cells) (hl : n + cap ≤ R.slots) (hp : pc + 2 = pc')
    (W : ∀ h' a, a = h.size → Ext h h' → AI Z h' a ty (List.replicate len 0) → Wp p l e R s m args below meth c n0 Q h' (k + 1) (n + cap) (mkF m pc' Ls (.ref a :: st))) : Wp p l e R s m args below meth c n0 Q h k n (mkF m pc Ls (.int z :: st)) := fun T locs X eT N => by
  subst hp hlen hty
  obtain ⟨T', h', cA, X', e', E', A', st'⟩ := newP X C.1 C.2.1 w eT (g := mkF m pc Ls (.int z :: st)) rfl (hb C.2.2.1 hd) rfl hz hcap hb8 hc hl
  obtain ⟨s₂, o, q, r⟩ := W h' h.size rfl E' ⟨_, A', by simp [newA, hdv], by simp; exact (back32 hz).2⟩ T' _ X' e' N
  exact ⟨s₂, o, st' _ q, r⟩
theorem own_newJ (C : Cx p s m meth c Z cd ml ret own nm) {z : Int32} {len cap : Nat} (hd : decode cd pc = .ok (.newarray .long, 2)) (w : (Jvm.Cond.arrayClass .long).before a0 Z = true) (hz : ¬ z < 0) (hlen : z.toNatClampNeg = len) (hcap : len ≤ cap) (hb8 : cap * 8 ≤ 536870912) (hc : k + 1 ≤ R.cells) (hl : n + cap ≤ R.slots) (hp : pc + 2 = pc')
    (W : ∀ h' a, a = h.size → Ext h h' → AJ Z h' a (List.replicate len 0) → Wp p l e R s m args below meth c n0 Q h' (k + 1) (n + cap) (mkF m pc' Ls (.ref a :: st))) : Wp p l e R s m args below meth c n0 Q h k n (mkF m pc Ls (.int z :: st)) := fun T locs X eT N => by
  subst hp hlen
  obtain ⟨T', h', cA, X', e', E', A', st'⟩ := newP X C.1 C.2.1 (aty := .long) w eT (g := mkF m pc Ls (.int z :: st)) rfl (hb C.2.2.1 hd) rfl hz hcap hb8 hc hl
  obtain ⟨s₂, o, q, r⟩ := W h' h.size rfl E' ⟨_, A', by simp [newA, newarray.typeOf, defaultValue], by simp; exact (back32 hz).2⟩ T' _ X' e' N
  exact ⟨s₂, o, st' _ q, r⟩
/-! calls -/
theorem own_callS (C : Cx p s m meth c Z cd ml ret own nm) {i : Nat} {y : MethodName} {bytes : ByteArray} {mL wL : Nat} {rt : Option FieldType} {rm : Room} {as : Array Value} {Qc : Option Value → Heap → Prop} {argsL rest : List Value}
    (M : Met l y bytes mL rt [] rm Z n0 as h Qc)
    (hd : decode cd pc = .ok (.invokestatic i, 3)) (w1 : (Jvm.Cond.methodLink own i y).before a0 Z = true) (w2 : (Jvm.Cond.static y).before a0 Z = true) (w3 : (Jvm.Cond.initialized y.cls).before a0 Z = true) (w4 : (Jvm.Cond.code y bytes mL rt).before a0 Z = true)
    (hy : y.cls ≠ "java/lang/invoke/MethodHandle" ∧ y.cls ≠ "java/lang/invoke/VarHandle") (hfr : rm.frames + 1 ≤ R.frames) (hlo : wL + (mL + 11) + rm.locals ≤ R.locals) (hsz : Ls.size = ml) (hlen : ∀ sig, parseMethodDescriptor y.desc = some sig → argsL.length = sig.parameters.length)
    (hst : st = argsL.reverse ++ rest) (has : argsL.toArray = as) (hW : 0 + (rest.map fun v => v.category).sum ≤ wL) (hc : k + rm.cells ≤ R.cells) (hs : n + rm.slots ≤ R.slots) (hp : pc + 3 = pc')
    (W : ∀ v h', Qc v h' → Wp p l e R s m args below meth c n0 Q h' (k + rm.cells) (n + rm.slots) (mkF m pc' Ls (v.toList ++ rest))) : Wp p l e R s m args below meth c n0 Q h k n (mkF m pc Ls st) := fun T locs X eT N => by
  subst hp has
  obtain ⟨_, _, ⟨T', L', k', n'⟩, -, X', ⟨Lc, hQ, l1, y1, z1⟩, st'⟩ := Jvm.LawKit.callS X C.1 (y := y) C.2.2.2.2.1 (mvT C.2.1 w1) (mvT C.2.1 w2) (mvT C.2.1 w3) (mvT C.2.1 w4) hy (backOf (W := wL) (Q := fun v h L => Qc v h ∧ Fr n0 L) M C.2.1 w4 w3 hfr hlo) (g := mkF m pc Ls st) rfl (by rw [C.2.2.2.1]; exact hsz) (argsL := argsL) (rest := rest) hlen hst hW (hb C.2.2.1 hd) (fun _ _ => ⟨rfl, eT, hc, hs⟩)
  dsimp only [Pt.U, Pt.locs, Pt.cells, Pt.slots] at X' l1 y1 z1 st' hQ
  subst l1 y1 z1
  obtain ⟨s₂, o, q, r⟩ := W _ _ hQ.1 T' _ X' rfl (Fr.app N hQ.2)
  exact ⟨s₂, o, st' _ q, r⟩
theorem own_callI (C : Cx p s m meth c Z cd ml ret own nm) {i : Nat} {K : String} {dsc : String} {bytes : ByteArray} {mL wL : Nat} {rm : Room} {as : Array Value} {Qc : Option Value → Heap → Prop} {argsL rest : List Value} {a : Addr}
    (M : Met l ⟨K, "<init>", dsc⟩ bytes mL none [] rm Z n0 as h Qc)
    (hd : decode cd pc = .ok (.invokespecial i, 3)) (w1 : (Jvm.Cond.methodLink own i ⟨K, "<init>", dsc⟩).before a0 Z = true) (w2 : (Jvm.Cond.instanceMethod ⟨K, "<init>", dsc⟩).before a0 Z = true) (w3 : (Jvm.Cond.initialized K).before a0 Z = true) (w4 : (Jvm.Cond.code ⟨K, "<init>", dsc⟩ bytes mL none).before a0 Z = true)
    (hy : K ≠ "java/lang/invoke/MethodHandle" ∧ K ≠ "java/lang/invoke/VarHandle") (hfr : rm.frames + 1 ≤ R.frames) (hlo : wL + (mL + 11) + rm.locals ≤ R.locals) (hsz : Ls.size = ml) (hlen : ∀ sig, parseMethodDescriptor dsc = some sig → argsL.length = sig.parameters.length)
    (hst : st = argsL.reverse ++ .ref a :: rest) (has : (Value.ref a :: argsL).toArray = as) (hW : 0 + (rest.map fun v => v.category).sum ≤ wL) (hc : k + rm.cells ≤ R.cells) (hs : n + rm.slots ≤ R.slots) (hp : pc + 3 = pc')
    (W : ∀ v h', Qc v h' → Wp p l e R s m args below meth c n0 Q h' (k + rm.cells) (n + rm.slots) (mkF m pc' Ls (v.toList ++ rest))) : Wp p l e R s m args below meth c n0 Q h k n (mkF m pc Ls st) := fun T locs X eT N => by
  subst hp has
  obtain ⟨_, _, ⟨T', L', k', n'⟩, -, X', ⟨Lc, hQ, l1, y1, z1⟩, st'⟩ := X.specialBack C.1 (y := ⟨K, "<init>", dsc⟩) rfl C.2.2.2.2.1 (mvT C.2.1 w1) (mvT C.2.1 w2) (mvT C.2.1 w4) hy (backOf (W := wL) (Q := fun v h L => Qc v h ∧ Fr n0 L) M C.2.1 w4 w3 hfr hlo) (g := mkF m pc Ls st) rfl (by rw [C.2.2.2.1]; exact hsz) (Steps.refl _) (a := a) (argsL := argsL) (rest := rest) hlen hst hW (hb C.2.2.1 hd) (fun _ _ => ⟨rfl, eT, hc, hs⟩)
  dsimp only [Pt.U, Pt.locs, Pt.cells, Pt.slots] at X' l1 y1 z1 st' hQ
  subst l1 y1 z1
  obtain ⟨s₂, o, q, r⟩ := W _ _ hQ.1 T' _ X' rfl (Fr.app N hQ.2)
  exact ⟨s₂, o, st'.trans q, r⟩
theorem own_callV (C : Cx p s m meth c Z cd ml ret own nm) {i : Nat} {y : MethodName} {bytes : ByteArray} {mL wL : Nat} {rt : Option FieldType} {rm : Room} {as : Array Value} {Qc : Option Value → Heap → Prop} {argsL rest : List Value} {a : Addr}
    (M : Met l y bytes mL rt [] rm Z n0 as h Qc) (E : Exa Z h a y.cls)
    (hd : decode cd pc = .ok (.invokevirtual i, 3)) (w1 : (Jvm.Cond.methodLink own i y).before a0 Z = true) (w2 : (Jvm.Cond.declares y).before a0 Z = true) (w5 : (Jvm.Cond.selects y.cls y y).before a0 Z = true) (w6 : (Jvm.Cond.instanceMethod y).before a0 Z = true) (w3 : (Jvm.Cond.initialized y.cls).before a0 Z = true) (w4 : (Jvm.Cond.code y bytes mL rt).before a0 Z = true)
    (hy : y.cls ≠ "java/lang/invoke/MethodHandle" ∧ y.cls ≠ "java/lang/invoke/VarHandle") (hfr : rm.frames + 1 ≤ R.frames) (hlo : wL + (mL + 11) + rm.locals ≤ R.locals) (hsz : Ls.size = ml) (hlen : ∀ sig, parseMethodDescriptor y.desc = some sig → argsL.length = sig.parameters.length)
    (hst : st = argsL.reverse ++ .ref a :: rest) (has : (Value.ref a :: argsL).toArray = as) (hW : 0 + (rest.map fun v => v.category).sum ≤ wL) (hc : k + rm.cells ≤ R.cells) (hs : n + rm.slots ≤ R.slots) (hp : pc + 3 = pc')
    (W : ∀ v h', Qc v h' → Wp p l e R s m args below meth c n0 Q h' (k + rm.cells) (n + rm.slots) (mkF m pc' Ls (v.toList ++ rest))) : Wp p l e R s m args below meth c n0 Q h k n (mkF m pc Ls st) := fun T locs X eT N => by
  subst hp has
  obtain ⟨cq, kq, qa, qb, qc⟩ := isOf C.2.1 eT E
  obtain ⟨_, _, ⟨T', L', k', n'⟩, -, X', ⟨Lc, hQ, l1, y1, z1⟩, st'⟩ := X.virtualBack C.1 (y := y) (z := y) C.2.2.2.2.1 (mvT C.2.1 w1) (mvT C.2.1 w2) (notFace_of_selects (args := #[]) (mvT C.2.1 w5)) (mvT C.2.1 w5) (mvT C.2.1 w6) hy (backOf (W := wL) (Q := fun v h L => Qc v h ∧ Fr n0 L) M C.2.1 w4 w3 hfr hlo) qa qc (g := mkF m pc Ls st) rfl (by rw [C.2.2.2.1]; exact hsz) (Steps.refl _) (argsL := argsL) (rest := rest) hlen hst hW (hb C.2.2.1 hd) (fun _ _ => ⟨rfl, eT, hc, hs⟩)
  dsimp only [Pt.U, Pt.locs, Pt.cells, Pt.slots] at X' l1 y1 z1 st' hQ
  subst l1 y1 z1
  obtain ⟨s₂, o, q, r⟩ := W _ _ hQ.1 T' _ X' rfl (Fr.app N hQ.2)
  exact ⟨s₂, o, st'.trans q, r⟩
theorem own_callP (C : Cx p s m meth c Z cd ml ret own nm) {i : Nat} {y : MethodName} {bytes : ByteArray} {mL wL : Nat} {rt : Option FieldType} {rm : Room} {as : Array Value} {Qc : Option Value → Heap → Prop} {argsL rest : List Value} {a : Addr}
    (M : Met l y bytes mL rt [] rm Z n0 as h Qc) (E : Exa Z h a y.cls)
    (hd : decode cd pc = .ok (.invokevirtual i, 3)) (w1 : (Jvm.Cond.methodLink own i y).before a0 Z = true) (w2 : (Jvm.Cond.privateMethod y).before a0 Z = true) (w5 : (Jvm.Cond.selects y.cls y y).before a0 Z = true) (w6 : (Jvm.Cond.instanceMethod y).before a0 Z = true) (w3 : (Jvm.Cond.initialized y.cls).before a0 Z = true) (w4 : (Jvm.Cond.code y bytes mL rt).before a0 Z = true)
    (hy : y.cls ≠ "java/lang/invoke/MethodHandle" ∧ y.cls ≠ "java/lang/invoke/VarHandle") (hfr : rm.frames + 1 ≤ R.frames) (hlo : wL + (mL + 11) + rm.locals ≤ R.locals) (hsz : Ls.size = ml) (hlen : ∀ sig, parseMethodDescriptor y.desc = some sig → argsL.length = sig.parameters.length)
    (hst : st = argsL.reverse ++ .ref a :: rest) (has : (Value.ref a :: argsL).toArray = as) (hW : 0 + (rest.map fun v => v.category).sum ≤ wL) (hc : k + rm.cells ≤ R.cells) (hs : n + rm.slots ≤ R.slots) (hp : pc + 3 = pc')
    (W : ∀ v h', Qc v h' → Wp p l e R s m args below meth c n0 Q h' (k + rm.cells) (n + rm.slots) (mkF m pc' Ls (v.toList ++ rest))) : Wp p l e R s m args below meth c n0 Q h k n (mkF m pc Ls st) := fun T locs X eT N => by
  subst hp has
  obtain ⟨cq, q1, q2⟩ := E.cell
  obtain ⟨_, _, ⟨T', L', k', n'⟩, -, X', ⟨Lc, hQ, l1, y1, z1⟩, st'⟩ := X.privateBack C.1 (y := y) C.2.2.2.2.1 (mvT C.2.1 w1) (mvT C.2.1 w6) (mvT C.2.1 w5) (Cond.privateMethod_at (mvP C.2.1 w2 (args := #[]))) (mvT C.2.1 w4) hy (backOf (W := wL) (Q := fun v h L => Qc v h ∧ Fr n0 L) M C.2.1 w4 w3 hfr hlo) (g := mkF m pc Ls st) rfl (by rw [C.2.2.2.1]; exact hsz) (Steps.refl _) (a := a) (by rw [eT]; exact q1) q2 (argsL := argsL) (rest := rest) hlen hst hW (hb C.2.2.1 hd) (fun _ _ => ⟨rfl, eT, hc, hs⟩)
  dsimp only [Pt.U, Pt.locs, Pt.cells, Pt.slots] at X' l1 y1 z1 st' hQ
  subst l1 y1 z1
  obtain ⟨s₂, o, q, r⟩ := W _ _ hQ.1 T' _ X' rfl (Fr.app N hQ.2)
  exact ⟨s₂, o, st'.trans q, r⟩
end OwnKit
def own_f5 (g : Int64) (i : Int32) (og : Int64) (oi : Int32) : Int32 := (if og < g then (1 : Int32) else (if g = og then (if i < oi then (1 : Int32) else (0 : Int32)) else (0 : Int32)))
theorem own_f5_z (g : Int64) (i : Int32) (og : Int64) (oi : Int32) : own_f5 g i og oi = 0 ∨ own_f5 g i og oi = 1 := by
  simp only [own_f5]; repeat (first | exact Or.inl rfl | exact Or.inr rfl | split)
theorem d5_0 : decode prog_9_method_2_code 0 = .ok (.lload_n 0, 1) := by decide +kernel
theorem d5_1 : decode prog_9_method_2_code 1 = .ok (.lload_n 3, 1) := by decide +kernel
theorem d5_2 : decode prog_9_method_2_code 2 = .ok (.lcmp, 1) := by decide +kernel
theorem d5_3 : decode prog_9_method_2_code 3 = .ok (.ifCond .gt 15, 3) := by decide +kernel
theorem d5_6 : decode prog_9_method_2_code 6 = .ok (.lload_n 0, 1) := by decide +kernel
theorem d5_7 : decode prog_9_method_2_code 7 = .ok (.lload_n 3, 1) := by decide +kernel
theorem d5_8 : decode prog_9_method_2_code 8 = .ok (.lcmp, 1) := by decide +kernel
theorem d5_9 : decode prog_9_method_2_code 9 = .ok (.ifCond .ne 13, 3) := by decide +kernel
theorem d5_12 : decode prog_9_method_2_code 12 = .ok (.iload_n 2, 1) := by decide +kernel
theorem d5_13 : decode prog_9_method_2_code 13 = .ok (.iload 5, 2) := by decide +kernel
theorem d5_15 : decode prog_9_method_2_code 15 = .ok (.if_icmp .ge 7, 3) := by decide +kernel
theorem d5_18 : decode prog_9_method_2_code 18 = .ok (.iconst 1, 1) := by decide +kernel
theorem d5_19 : decode prog_9_method_2_code 19 = .ok (.goto 4, 3) := by decide +kernel
theorem d5_22 : decode prog_9_method_2_code 22 = .ok (.iconst 0, 1) := by decide +kernel
theorem d5_23 : decode prog_9_method_2_code 23 = .ok (.ireturn, 1) := by decide +kernel
theorem pn5 : plainName "com/example/cachewright/cachewright/placement/CandidateHeap" = true := by first | (simp [plainName, overriddenIn]; done) | decide +kernel
theorem ef5 (m : MethodId) (x0 : Int64) (x1 : Int32) (x2 : Int64) (x3 : Int32) : entryFrame m #[(.long x0), (.int x1), (.long x2), (.int x3)] 6 = mkF m 0 #[.val (.long x0), .second, .val (.int x1), .val (.long x2), .second, .val (.int x3)] [] := by first | (simp [entryFrame, mkF, argsToLocals, Value.category]; done) | rfl
theorem own_ki_1 : Int32.ofInt (1) = (1 : Int32) := by decide
theorem own_ki_0 : Int32.ofInt (0) = (0 : Int32) := by decide
set_option maxRecDepth 65536 in
set_option maxHeartbeats 40000000 in
theorem own_m5 (l : Launch) (Z : State) (a0 : Array Value) (hw : ∀ d ∈ tables_1, d.before a0 Z = true) (g : Int64) (i : Int32) (og : Int64) (oi : Int32)  (h0 : Heap) (n0 : Nat) (Z_ : n0 ≤ h0.size)  :
    Met l (⟨"com/example/cachewright/cachewright/placement/CandidateHeap", "ahead", "(JIJI)Z"⟩ : MethodName) prog_9_method_2_code 6 (some .boolean) [] ({ frames := 0, cells := 0, slots := 0, locals := 0 } : Room) Z n0 #[(.long g), (.int i), (.long og), (.int oi)] h0 (fun v h => v = some (.int (own_f5 g i og oi)) ∧ h0 = h) := by
  refine own_met pn5 (fun m => ef5 m g i og oi) ?_
  intro p e s m below meth c C
  refine own_lloadN (pc' := 1) C d5_0 rfl rfl ?_
  refine own_lloadN (pc' := 2) C d5_1 rfl rfl ?_
  obtain ⟨vs_23, hvs_23⟩ : ∃ z : Int32, z = (if og < g then (1 : Int32) else (if g = og then (if i < oi then (1 : Int32) else (0 : Int32)) else (0 : Int32))) := ⟨_, rfl⟩
  have hzvs_23 : vs_23 = 0 ∨ vs_23 = 1 := by rw [hvs_23]; repeat (first | exact Or.inl rfl | exact Or.inr rfl | split)
  refine own_seq (g' := mkF m 23 #[.val (.long g), .second, .val (.int i), .val (.long og), .second, .val (.int oi)] [(.int vs_23)]) (fun J23 => ?_) ?_
  · refine own_lcmp_gt (pt := 18) (pf := 6) C d5_2 rfl d5_3 (by decide) (by decide) rfl ?_ ?_
    · intro hc2
      refine own_iconst (pc' := 19) (v := (1 : Int32)) C d5_18 own_ki_1 rfl ?_
      refine own_goto (pc' := 23) C d5_19 (by decide) (by decide) ?_
      exact own_cast (by simp only [hvs_23, if_pos hc2]) (J23)
    · intro hc2
      refine own_lloadN (pc' := 7) C d5_6 rfl rfl ?_
      refine own_lloadN (pc' := 8) C d5_7 rfl rfl ?_
      refine own_lcmp_ne (pt := 22) (pf := 12) C d5_8 rfl d5_9 (by decide) (by decide) rfl ?_ ?_
      · intro hc8
        refine own_iconst (pc' := 23) (v := (0 : Int32)) C d5_22 own_ki_0 rfl ?_
        exact own_cast (by simp only [hvs_23, if_neg hc2, if_neg hc8]) (J23)
      · intro hc8
        refine own_iloadN (pc' := 13) C d5_12 rfl rfl ?_
        refine own_iload (pc' := 15) C d5_13 rfl rfl ?_
        refine own_icmp_ge (pt := 22) (pf := 18) C d5_15 (by decide) (by decide) rfl ?_ ?_
        · intro hc15
          refine own_iconst (pc' := 23) (v := (0 : Int32)) C d5_22 own_ki_0 rfl ?_
          exact own_cast (by simp only [hvs_23, if_neg hc2, if_pos hc8, if_neg hc15]) (J23)
        · intro hc15
          refine own_iconst (pc' := 19) (v := (1 : Int32)) C d5_18 own_ki_1 rfl ?_
          refine own_goto (pc' := 23) C d5_19 (by decide) (by decide) ?_
          exact own_cast (by simp only [hvs_23, if_neg hc2, if_pos hc8, if_pos hc15]) (J23)
  refine own_zret C d5_23 (by decide) (by decide) hzvs_23 ?_
  exact ⟨by simp only [own_f5, ← hvs_23], rfl⟩

def own_f7 (g : Int64) (i : Int32) (og : Int64) (oi : Int32) : Int32 := (if og < g then (1 : Int32) else (if g = og then (if i < oi then (1 : Int32) else (0 : Int32)) else (0 : Int32)))
theorem own_f7_z (g : Int64) (i : Int32) (og : Int64) (oi : Int32) : own_f7 g i og oi = 0 ∨ own_f7 g i og oi = 1 := by
  simp only [own_f7]; repeat (first | exact Or.inl rfl | exact Or.inr rfl | split)
theorem d7_0 : decode method_2_code 0 = .ok (.lload_n 0, 1) := by decide +kernel
theorem d7_1 : decode method_2_code 1 = .ok (.lload_n 3, 1) := by decide +kernel
theorem d7_2 : decode method_2_code 2 = .ok (.lcmp, 1) := by decide +kernel
theorem d7_3 : decode method_2_code 3 = .ok (.ifCond .gt 15, 3) := by decide +kernel
theorem d7_6 : decode method_2_code 6 = .ok (.lload_n 0, 1) := by decide +kernel
theorem d7_7 : decode method_2_code 7 = .ok (.lload_n 3, 1) := by decide +kernel
theorem d7_8 : decode method_2_code 8 = .ok (.lcmp, 1) := by decide +kernel
theorem d7_9 : decode method_2_code 9 = .ok (.ifCond .ne 13, 3) := by decide +kernel
theorem d7_12 : decode method_2_code 12 = .ok (.iload_n 2, 1) := by decide +kernel
theorem d7_13 : decode method_2_code 13 = .ok (.iload 5, 2) := by decide +kernel
theorem d7_15 : decode method_2_code 15 = .ok (.if_icmp .ge 7, 3) := by decide +kernel
theorem d7_18 : decode method_2_code 18 = .ok (.iconst 1, 1) := by decide +kernel
theorem d7_19 : decode method_2_code 19 = .ok (.goto 4, 3) := by decide +kernel
theorem d7_22 : decode method_2_code 22 = .ok (.iconst 0, 1) := by decide +kernel
theorem d7_23 : decode method_2_code 23 = .ok (.ireturn, 1) := by decide +kernel
theorem pn7 : plainName "com/example/cachewright/cachewright/placement/CandidateHeapPopPinLaw" = true := by first | (simp [plainName, overriddenIn]; done) | decide +kernel
theorem ef7 (m : MethodId) (x0 : Int64) (x1 : Int32) (x2 : Int64) (x3 : Int32) : entryFrame m #[(.long x0), (.int x1), (.long x2), (.int x3)] 6 = mkF m 0 #[.val (.long x0), .second, .val (.int x1), .val (.long x2), .second, .val (.int x3)] [] := by first | (simp [entryFrame, mkF, argsToLocals, Value.category]; done) | rfl
set_option maxRecDepth 65536 in
set_option maxHeartbeats 40000000 in
theorem own_m7 (l : Launch) (Z : State) (a0 : Array Value) (hw : ∀ d ∈ tables_1, d.before a0 Z = true) (g : Int64) (i : Int32) (og : Int64) (oi : Int32)  (h0 : Heap) (n0 : Nat) (Z_ : n0 ≤ h0.size)  :
    Met l (⟨"com/example/cachewright/cachewright/placement/CandidateHeapPopPinLaw", "before", "(JIJI)Z"⟩ : MethodName) method_2_code 6 (some .boolean) [] ({ frames := 0, cells := 0, slots := 0, locals := 0 } : Room) Z n0 #[(.long g), (.int i), (.long og), (.int oi)] h0 (fun v h => v = some (.int (own_f7 g i og oi)) ∧ h0 = h) := by
  refine own_met pn7 (fun m => ef7 m g i og oi) ?_
  intro p e s m below meth c C
  refine own_lloadN (pc' := 1) C d7_0 rfl rfl ?_
  refine own_lloadN (pc' := 2) C d7_1 rfl rfl ?_
  obtain ⟨vs_23, hvs_23⟩ : ∃ z : Int32, z = (if og < g then (1 : Int32) else (if g = og then (if i < oi then (1 : Int32) else (0 : Int32)) else (0 : Int32))) := ⟨_, rfl⟩
  have hzvs_23 : vs_23 = 0 ∨ vs_23 = 1 := by rw [hvs_23]; repeat (first | exact Or.inl rfl | exact Or.inr rfl | split)
  refine own_seq (g' := mkF m 23 #[.val (.long g), .second, .val (.int i), .val (.long og), .second, .val (.int oi)] [(.int vs_23)]) (fun J23 => ?_) ?_
  · refine own_lcmp_gt (pt := 18) (pf := 6) C d7_2 rfl d7_3 (by decide) (by decide) rfl ?_ ?_
    · intro hc2
      refine own_iconst (pc' := 19) (v := (1 : Int32)) C d7_18 own_ki_1 rfl ?_
      refine own_goto (pc' := 23) C d7_19 (by decide) (by decide) ?_
      exact own_cast (by simp only [hvs_23, if_pos hc2]) (J23)
    · intro hc2
      refine own_lloadN (pc' := 7) C d7_6 rfl rfl ?_
      refine own_lloadN (pc' := 8) C d7_7 rfl rfl ?_
      refine own_lcmp_ne (pt := 22) (pf := 12) C d7_8 rfl d7_9 (by decide) (by decide) rfl ?_ ?_
      · intro hc8
        refine own_iconst (pc' := 23) (v := (0 : Int32)) C d7_22 own_ki_0 rfl ?_
        exact own_cast (by simp only [hvs_23, if_neg hc2, if_neg hc8]) (J23)
      · intro hc8
        refine own_iloadN (pc' := 13) C d7_12 rfl rfl ?_
        refine own_iload (pc' := 15) C d7_13 rfl rfl ?_
        refine own_icmp_ge (pt := 22) (pf := 18) C d7_15 (by decide) (by decide) rfl ?_ ?_
        · intro hc15
          refine own_iconst (pc' := 23) (v := (0 : Int32)) C d7_22 own_ki_0 rfl ?_
          exact own_cast (by simp only [hvs_23, if_neg hc2, if_pos hc8, if_neg hc15]) (J23)
        · intro hc15
          refine own_iconst (pc' := 19) (v := (1 : Int32)) C d7_18 own_ki_1 rfl ?_
          refine own_goto (pc' := 23) C d7_19 (by decide) (by decide) ?_
          exact own_cast (by simp only [hvs_23, if_neg hc2, if_pos hc8, if_pos hc15]) (J23)
  refine own_zret C d7_23 (by decide) (by decide) hzvs_23 ?_
  exact ⟨by simp only [own_f7, ← hvs_23], rfl⟩

def own_f1 (k_ : Int32) (i : Int32) : Int32 := (((k_ >>> (((6 : Int32) * i) &&& 31)) &&& (63 : Int32)) - (32 : Int32))
theorem d1_0 : decode method_4_code 0 = .ok (.iload_n 0, 1) := by decide +kernel
theorem d1_1 : decode method_4_code 1 = .ok (.bipush 6, 2) := by decide +kernel
theorem d1_3 : decode method_4_code 3 = .ok (.iload_n 1, 1) := by decide +kernel
theorem d1_4 : decode method_4_code 4 = .ok (.imul, 1) := by decide +kernel
theorem d1_5 : decode method_4_code 5 = .ok (.ishr, 1) := by decide +kernel
theorem d1_6 : decode method_4_code 6 = .ok (.bipush 63, 2) := by decide +kernel
theorem d1_8 : decode method_4_code 8 = .ok (.iand, 1) := by decide +kernel
theorem d1_9 : decode method_4_code 9 = .ok (.bipush 32, 2) := by decide +kernel
theorem d1_11 : decode method_4_code 11 = .ok (.isub, 1) := by decide +kernel
theorem d1_12 : decode method_4_code 12 = .ok (.ireturn, 1) := by decide +kernel
theorem pn1 : plainName "com/example/cachewright/cachewright/placement/CandidateHeapPopPinLaw" = true := by first | (simp [plainName, overriddenIn]; done) | decide +kernel
theorem ef1 (m : MethodId) (x0 : Int32) (x1 : Int32) : entryFrame m #[(.int x0), (.int x1)] 2 = mkF m 0 #[.val (.int x0), .val (.int x1)] [] := by first | (simp [entryFrame, mkF, argsToLocals, Value.category]; done) | rfl
theorem own_kb_6 : (Int8.ofInt (6)).toInt32 = (6 : Int32) := by decide
theorem own_kb_63 : (Int8.ofInt (63)).toInt32 = (63 : Int32) := by decide
theorem own_kb_32 : (Int8.ofInt (32)).toInt32 = (32 : Int32) := by decide
set_option maxRecDepth 65536 in
set_option maxHeartbeats 40000000 in
theorem own_m1 (l : Launch) (Z : State) (a0 : Array Value) (hw : ∀ d ∈ tables_1, d.before a0 Z = true) (k_ : Int32) (i : Int32)  (h0 : Heap) (n0 : Nat) (Z_ : n0 ≤ h0.size)  :
    Met l (⟨"com/example/cachewright/cachewright/placement/CandidateHeapPopPinLaw", "idOf", "(II)I"⟩ : MethodName) method_4_code 2 (some .int) [] ({ frames := 0, cells := 0, slots := 0, locals := 0 } : Room) Z n0 #[(.int k_), (.int i)] h0 (fun v h => v = some (.int (own_f1 k_ i)) ∧ h0 = h) := by
  refine own_met pn1 (fun m => ef1 m k_ i) ?_
  intro p e s m below meth c C
  refine own_iloadN (pc' := 1) C d1_0 rfl rfl ?_
  refine own_bipush (pc' := 3) (v := (6 : Int32)) C d1_1 own_kb_6 rfl ?_
  refine own_iloadN (pc' := 4) C d1_3 rfl rfl ?_
  refine own_imul (pc' := 5) C d1_4 rfl rfl ?_
  refine own_ishr (pc' := 6) (v := (k_ >>> (((6 : Int32) * i) &&& 31))) C d1_5 rfl rfl ?_
  refine own_bipush (pc' := 8) (v := (63 : Int32)) C d1_6 own_kb_63 rfl ?_
  refine own_iand (pc' := 9) C d1_8 rfl rfl ?_
  refine own_bipush (pc' := 11) (v := (32 : Int32)) C d1_9 own_kb_32 rfl ?_
  refine own_isub (pc' := 12) C d1_11 rfl rfl ?_
  refine own_iret C d1_12 (by decide) (by decide) ?_
  exact ⟨by simp only [own_f1], rfl⟩

def own_zJ : List Int64 := List.replicate 59 0
def own_zI : List Int32 := List.replicate 59 0

def own_lt (a b : Int64 × Int32) : Bool := decide (¬ own_f5 a.1 a.2 b.1 b.2 = 0)

theorem own_BA (g : Int64) (i : Int32) (og : Int64) (oi : Int32) : own_f5 g i og oi = own_f7 g i og oi := rfl

/-! a heap of five at the most, over any items -/
section OwnHeapFns
variable {α : Type} (lt : α → α → Bool)
def own_p1 (x0 v : α) : α × α := if lt v x0 = true then (v, x0) else (x0, v)
def own_p2 (x0 x1 v : α) : α × α × α := if lt v x0 = true then (v, x1, x0) else (x0, x1, v)
def own_p3 (x0 x1 x2 v : α) : α × α × α × α := if lt v x1 = true then (if lt v x0 = true then (v, x0, x2, x1) else (x0, v, x2, x1)) else (x0, x1, x2, v)
def own_p4 (x0 x1 x2 x3 v : α) : α × α × α × α × α := if lt v x1 = true then (if lt v x0 = true then (v, x0, x2, x3, x1) else (x0, v, x2, x3, x1)) else (x0, x1, x2, x3, v)
def own_q4 (x0 x1 x2 x3 x4 : α) : α × α × α × α := if lt x2 x1 = true then (if lt x2 x4 = true then (x2, x1, x4, x3) else (x4, x1, x2, x3)) else (if lt x1 x4 = true then (if lt x3 x4 = true then (x1, x3, x2, x4) else (x1, x4, x2, x3)) else (x4, x1, x2, x3))
def own_q3 (x0 x1 x2 x3 : α) : α × α × α := if lt x2 x1 = true then (if lt x2 x3 = true then (x2, x1, x3) else (x3, x1, x2)) else (if lt x1 x3 = true then (x1, x3, x2) else (x3, x1, x2))
def own_q2 (x0 x1 x2 : α) : α × α := if lt x1 x2 = true then (x1, x2) else (x2, x1)
def own_cs (a b : α) : α × α := if lt b a = true then (b, a) else (a, b)
end OwnHeapFns
theorem own_rank (K : Fin 5 → Int) : ∃ r : Fin 5 → Fin 5, ∀ i j, (K i < K j ↔ r i < r j) := by
  let b : Fin 5 → Fin 5 → Nat := fun m i => if K m < K i then 1 else 0
  have b01 : ∀ m i, b m i ≤ 1 := fun m i => by show (if K m < K i then 1 else 0) ≤ 1; split <;> omega
  have bs : ∀ i, b i i = 0 := fun i => if_neg (Int.lt_irrefl _)
  let c : Fin 5 → Nat := fun i => b 0 i + b 1 i + b 2 i + b 3 i + b 4 i
  have c5 : ∀ i, c i < 5 := fun i => by
    have h0 := b01 0 i; have h1 := b01 1 i; have h2 := b01 2 i; have h3 := b01 3 i; have h4 := b01 4 i
    show b 0 i + b 1 i + b 2 i + b 3 i + b 4 i < 5
    match i with
    | 0 => have := bs 0; omega
    | 1 => have := bs 1; omega
    | 2 => have := bs 2; omega
    | 3 => have := bs 3; omega
    | 4 => have := bs 4; omega
  have mono : ∀ i j, K i ≤ K j → ∀ m, b m i ≤ b m j := fun i j h m => by
    show (if K m < K i then 1 else 0) ≤ (if K m < K j then 1 else 0)
    by_cases q : K m < K i
    · rw [if_pos q, if_pos (by omega)]; omega
    · rw [if_neg q]; omega
  have le : ∀ i j, K i ≤ K j → c i ≤ c j := fun i j h => by
    have h0 := mono i j h 0; have h1 := mono i j h 1; have h2 := mono i j h 2; have h3 := mono i j h 3; have h4 := mono i j h 4
    show b 0 i + b 1 i + b 2 i + b 3 i + b 4 i ≤ b 0 j + b 1 j + b 2 j + b 3 j + b 4 j
    omega
  have lt : ∀ i j, K i < K j → c i < c j := fun i j h => by
    have h0 := mono i j (by omega) 0; have h1 := mono i j (by omega) 1; have h2 := mono i j (by omega) 2; have h3 := mono i j (by omega) 3; have h4 := mono i j (by omega) 4
    have e1 : b i i = 0 := bs i
    have e2 : b i j = 1 := if_pos h
    show b 0 i + b 1 i + b 2 i + b 3 i + b 4 i < b 0 j + b 1 j + b 2 j + b 3 j + b 4 j
    match i, h, h0, h1, h2, h3, h4, e1, e2 with
    | 0, h, h0, h1, h2, h3, h4, e1, e2 => omega
    | 1, h, h0, h1, h2, h3, h4, e1, e2 => omega
    | 2, h, h0, h1, h2, h3, h4, e1, e2 => omega
    | 3, h, h0, h1, h2, h3, h4, e1, e2 => omega
    | 4, h, h0, h1, h2, h3, h4, e1, e2 => omega
  refine ⟨fun i => ⟨c i, c5 i⟩, fun i j => ⟨fun h => lt i j h, fun h => ?_⟩⟩
  by_cases q : K i < K j
  · exact q
  · have h1 : c i < c j := h
    have h2 := le j i (by omega)
    omega

def own_emp (n : Int32) : Int32 := if n = 0 then 1 else 0

theorem d12_0 : decode prog_9_method_3_code 0 = .ok (.aload_n 0, 1) := by decide +kernel
theorem d12_1 : decode prog_9_method_3_code 1 = .ok (.getfield 17, 3) := by decide +kernel
theorem d12_4 : decode prog_9_method_3_code 4 = .ok (.ifCond .ne 7, 3) := by decide +kernel
theorem d12_7 : decode prog_9_method_3_code 7 = .ok (.iconst 1, 1) := by decide +kernel
theorem d12_8 : decode prog_9_method_3_code 8 = .ok (.goto 4, 3) := by decide +kernel
theorem d12_11 : decode prog_9_method_3_code 11 = .ok (.iconst 0, 1) := by decide +kernel
theorem d12_12 : decode prog_9_method_3_code 12 = .ok (.ireturn, 1) := by decide +kernel
theorem pn12 : plainName "com/example/cachewright/cachewright/placement/CandidateHeap" = true := by first | (simp [plainName, overriddenIn]; done) | decide +kernel
theorem ef12 (m : MethodId) (x0 : Addr) : entryFrame m #[(.ref x0)] 1 = mkF m 0 #[.val (.ref x0)] [] := by first | (simp [entryFrame, mkF, argsToLocals, Value.category]; done) | rfl
set_option maxRecDepth 65536 in
set_option maxHeartbeats 40000000 in
theorem own_m12 (l : Launch) (Z : State) (a0 : Array Value) (hw : ∀ d ∈ tables_1, d.before a0 Z = true) (a : Addr) (w_size : Int32) (h0 : Heap) (n0 : Nat) (Z_ : n0 ≤ h0.size) (F_a_size : Fld Z h0 a "com/example/cachewright/cachewright/placement/CandidateHeap" "size" "I" (.int w_size)) :
    Met l (⟨"com/example/cachewright/cachewright/placement/CandidateHeap", "isEmpty", "()Z"⟩ : MethodName) prog_9_method_3_code 1 (some .boolean) [] ({ frames := 0, cells := 0, slots := 0, locals := 0 } : Room) Z n0 #[(.ref a)] h0 (fun v h => v = some (.int (own_emp w_size)) ∧ h0 = h) := by
  refine own_met pn12 (fun m => ef12 m a) ?_
  intro p e s m below meth c C
  refine own_aloadN (pc' := 1) C d12_0 rfl rfl rfl ?_
  refine own_getfield (pc' := 4) C d12_1 (hw _ (List.mem_of_getElem? (i := 24) rfl)) F_a_size rfl ?_
  obtain ⟨vs_12, hvs_12⟩ : ∃ z : Int32, z = (if w_size = 0 then (1 : Int32) else (0 : Int32)) := ⟨_, rfl⟩
  have hzvs_12 : vs_12 = 0 ∨ vs_12 = 1 := by rw [hvs_12]; repeat (first | exact Or.inl rfl | exact Or.inr rfl | split)
  refine own_seq (g' := mkF m 12 #[.val (.ref a)] [(.int vs_12)]) (fun J12 => ?_) ?_
  · refine own_if_ne (pt := 11) (pf := 7) C d12_4 (by decide) (by decide) rfl ?_ ?_
    · intro hc4
      refine own_iconst (pc' := 12) (v := (0 : Int32)) C d12_11 own_ki_0 rfl ?_
      exact own_cast (by simp only [hvs_12, if_neg hc4]) (J12)
    · intro hc4
      refine own_iconst (pc' := 8) (v := (1 : Int32)) C d12_7 own_ki_1 rfl ?_
      refine own_goto (pc' := 12) C d12_8 (by decide) (by decide) ?_
      exact own_cast (by simp only [hvs_12, if_pos hc4]) (J12)
  refine own_zret C d12_12 (by decide) (by decide) hzvs_12 ?_
  exact ⟨by rw [own_emp, hvs_12], rfl⟩

theorem d2_0 : decode prog_9_method_1_code 0 = .ok (.aload_n 0, 1) := by decide +kernel
theorem d2_1 : decode prog_9_method_1_code 1 = .ok (.invokespecial 1, 3) := by decide +kernel
theorem d2_4 : decode prog_9_method_1_code 4 = .ok (.aload_n 0, 1) := by decide +kernel
theorem d2_5 : decode prog_9_method_1_code 5 = .ok (.bipush 64, 2) := by decide +kernel
theorem d2_7 : decode prog_9_method_1_code 7 = .ok (.newarray .long, 2) := by decide +kernel
theorem d2_9 : decode prog_9_method_1_code 9 = .ok (.putfield 7, 3) := by decide +kernel
theorem d2_12 : decode prog_9_method_1_code 12 = .ok (.aload_n 0, 1) := by decide +kernel
theorem d2_13 : decode prog_9_method_1_code 13 = .ok (.bipush 64, 2) := by decide +kernel
theorem d2_15 : decode prog_9_method_1_code 15 = .ok (.newarray .int, 2) := by decide +kernel
theorem d2_17 : decode prog_9_method_1_code 17 = .ok (.putfield 13, 3) := by decide +kernel
theorem d2_20 : decode prog_9_method_1_code 20 = .ok (.return_, 1) := by decide +kernel
theorem pn2 : plainName "com/example/cachewright/cachewright/placement/CandidateHeap" = true := by first | (simp [plainName, overriddenIn]; done) | decide +kernel
theorem ef2 (m : MethodId) (x0 : Addr) : entryFrame m #[(.ref x0)] 1 = mkF m 0 #[.val (.ref x0)] [] := by first | (simp [entryFrame, mkF, argsToLocals, Value.category]; done) | rfl
theorem own_kb_64 : (Int8.ofInt (64)).toInt32 = (64 : Int32) := by decide
set_option maxRecDepth 65536 in
set_option maxHeartbeats 40000000 in
theorem own_newH (l : Launch) (Z : State) (a0 : Array Value) (hw : ∀ d ∈ tables_1, d.before a0 Z = true) (a : Addr)  (h0 : Heap) (n0 : Nat) (Z_ : n0 ≤ h0.size) (E_a : Exa Z h0 a "com/example/cachewright/cachewright/placement/CandidateHeap") (F_a_gains : Fld Z h0 a "com/example/cachewright/cachewright/placement/CandidateHeap" "gains" "[J" .null) (F_a_ids : Fld Z h0 a "com/example/cachewright/cachewright/placement/CandidateHeap" "ids" "[I" .null) (F_a_size : Fld Z h0 a "com/example/cachewright/cachewright/placement/CandidateHeap" "size" "I" (.int (0 : Int32))) (g_a : n0 ≤ a) :
    Met l (⟨"com/example/cachewright/cachewright/placement/CandidateHeap", "<init>", "()V"⟩ : MethodName) prog_9_method_1_code 1 none [] ({ frames := 1, cells := 2, slots := 128, locals := 12 } : Room) Z n0 #[(.ref a)] h0 (fun v h => v = none ∧ Keep h0 h [a] ∧ ∃ g d : Addr, h0.size ≤ g ∧ h0.size ≤ d ∧ g ≠ d ∧ Fld Z h a "com/example/cachewright/cachewright/placement/CandidateHeap" "gains" "[J" (.ref g) ∧ Fld Z h a "com/example/cachewright/cachewright/placement/CandidateHeap" "ids" "[I" (.ref d) ∧ Fld Z h a "com/example/cachewright/cachewright/placement/CandidateHeap" "size" "I" (.int (0 : Int32)) ∧ AJ Z h g ((0 : Int64) :: (0 : Int64) :: (0 : Int64) :: (0 : Int64) :: (0 : Int64) :: own_zJ) ∧ AI Z h d .int ((0 : Int32) :: (0 : Int32) :: (0 : Int32) :: (0 : Int32) :: (0 : Int32) :: own_zI)) := by
  refine own_met pn2 (fun m => ef2 m a) ?_
  intro p e s m below meth c C
  have K_ : Keep h0 h0 [a] := Keep.refl _ _
  refine own_aloadN (pc' := 1) C d2_0 rfl rfl rfl ?_
  refine own_initO (pc' := 4) (wL := 0) C d2_1 (hw _ (List.mem_of_getElem? (i := 10) rfl)) (hw _ (List.mem_of_getElem? (i := 11) rfl)) (hw _ (List.mem_of_getElem? (i := 12) rfl)) rfl (by decide) (Nat.le_of_eq rfl) (by decide) rfl ?_
  refine own_aloadN (pc' := 5) C d2_4 rfl rfl rfl ?_
  refine own_bipush (pc' := 7) (v := (64 : Int32)) C d2_5 own_kb_64 rfl ?_
  refine own_newJ (pc' := 9) (len := 64) (cap := 64) C d2_7 (hw _ (List.mem_of_getElem? (i := 13) rfl)) (by decide) rfl (by decide) (by decide) (by decide) (by decide) rfl ?_
  intro h1 b1 g1 X1 A_b1
  have ne_a_b1 : a ≠ b1 := Nat.ne_of_lt (g1 ▸ E_a.lt)
  replace E_a := E_a.ext X1
  replace F_a_gains := F_a_gains.ext X1
  replace F_a_ids := F_a_ids.ext X1
  replace F_a_size := F_a_size.ext X1
  have g_b1 : n0 ≤ b1 := g1 ▸ Z_
  have sz_b1 : h0.size ≤ b1 := g1 ▸ K_.1
  replace K_ := K_.ext X1
  replace Z_ := Nat.le_trans Z_ X1.1
  replace A_b1 : AJ Z h1 b1 ((0 : Int64) :: (0 : Int64) :: (0 : Int64) :: (0 : Int64) :: (0 : Int64) :: own_zJ) := A_b1
  refine own_putfield (pc' := 12) C d2_9 (hw _ (List.mem_of_getElem? (i := 14) rfl)) F_a_gains E_a (Or.inl (hw _ (List.mem_of_getElem? (i := 15) rfl))) (hw _ (List.mem_of_getElem? (i := 5) rfl)) (ty := (.array .long)) (by decide) rfl rfl g_a rfl ?_
  intro h2 W2 F2_
  replace E_a := E_a.wr W2
  replace F_a_ids := F_a_ids.other W2 (Or.inr (slot_ne (Or.inl (hw _ (List.mem_of_getElem? (i := 18) rfl))) (Or.inl (hw _ (List.mem_of_getElem? (i := 15) rfl))) (by decide) (t := (.array .int)) (t' := (.array .long)) (by decide) (by decide)))
  replace F_a_size := F_a_size.other W2 (Or.inr (slot_ne (Or.inl (hw _ (List.mem_of_getElem? (i := 25) rfl))) (Or.inl (hw _ (List.mem_of_getElem? (i := 15) rfl))) (by decide) (t := .int) (t' := (.array .long)) (by decide) (by decide)))
  replace A_b1 := A_b1.other W2 (Ne.symm ne_a_b1)
  replace F_a_gains := F2_
  replace Z_ : n0 ≤ _ := Nat.le_trans Z_ (Nat.le_of_eq W2.size.symm)
  replace K_ := K_.wr W2 (Or.inl (List.mem_of_getElem? (i := 0) rfl))
  refine own_aloadN (pc' := 13) C d2_12 rfl rfl rfl ?_
  refine own_bipush (pc' := 15) (v := (64 : Int32)) C d2_13 own_kb_64 rfl ?_
  refine own_newI (pc' := 17) (len := 64) (cap := 64) C d2_15 rfl rfl (hw _ (List.mem_of_getElem? (i := 16) rfl)) (by decide) rfl (by decide) (by decide) (by decide) (by decide) rfl ?_
  intro h3 b3 g3 X3 A_b3
  have ne_a_b3 : a ≠ b3 := Nat.ne_of_lt (g3 ▸ E_a.lt)
  have ne_b1_b3 : b1 ≠ b3 := Nat.ne_of_lt (g3 ▸ A_b1.lt)
  replace E_a := E_a.ext X3
  replace F_a_gains := F_a_gains.ext X3
  replace F_a_ids := F_a_ids.ext X3
  replace F_a_size := F_a_size.ext X3
  replace A_b1 := A_b1.ext X3
  have g_b3 : n0 ≤ b3 := g3 ▸ Z_
  have sz_b3 : h0.size ≤ b3 := g3 ▸ K_.1
  replace K_ := K_.ext X3
  replace Z_ := Nat.le_trans Z_ X3.1
  replace A_b3 : AI Z h3 b3 .int ((0 : Int32) :: (0 : Int32) :: (0 : Int32) :: (0 : Int32) :: (0 : Int32) :: own_zI) := A_b3
  refine own_putfield (pc' := 20) C d2_17 (hw _ (List.mem_of_getElem? (i := 17) rfl)) F_a_ids E_a (Or.inl (hw _ (List.mem_of_getElem? (i := 18) rfl))) (hw _ (List.mem_of_getElem? (i := 5) rfl)) (ty := (.array .int)) (by decide) rfl rfl g_a rfl ?_
  intro h4 W4 F4_
  replace E_a := E_a.wr W4
  replace F_a_gains := F_a_gains.other W4 (Or.inr (slot_ne (Or.inl (hw _ (List.mem_of_getElem? (i := 15) rfl))) (Or.inl (hw _ (List.mem_of_getElem? (i := 18) rfl))) (by decide) (t := (.array .long)) (t' := (.array .int)) (by decide) (by decide)))
  replace F_a_size := F_a_size.other W4 (Or.inr (slot_ne (Or.inl (hw _ (List.mem_of_getElem? (i := 25) rfl))) (Or.inl (hw _ (List.mem_of_getElem? (i := 18) rfl))) (by decide) (t := .int) (t' := (.array .int)) (by decide) (by decide)))
  replace A_b1 := A_b1.other W4 (Ne.symm ne_a_b1)
  replace A_b3 := A_b3.other W4 (Ne.symm ne_a_b3)
  replace F_a_ids := F4_
  replace Z_ : n0 ≤ _ := Nat.le_trans Z_ (Nat.le_of_eq W4.size.symm)
  replace K_ := K_.wr W4 (Or.inl (List.mem_of_getElem? (i := 0) rfl))
  refine own_vret C d2_20 (by decide) (by decide) ?_
  exact ⟨rfl, K_, b1, b3, sz_b1, sz_b3, ne_b1_b3, F_a_gains, F_a_ids, F_a_size, A_b1, A_b3⟩

theorem d4_0 : decode prog_9_method_6_code 0 = .ok (.aload_n 0, 1) := by decide +kernel
theorem d4_1 : decode prog_9_method_6_code 1 = .ok (.getfield 17, 3) := by decide +kernel
theorem d4_4 : decode prog_9_method_6_code 4 = .ok (.aload_n 0, 1) := by decide +kernel
theorem d4_5 : decode prog_9_method_6_code 5 = .ok (.getfield 13, 3) := by decide +kernel
theorem d4_8 : decode prog_9_method_6_code 8 = .ok (.arraylength, 1) := by decide +kernel
theorem d4_9 : decode prog_9_method_6_code 9 = .ok (.if_icmp .ne 37, 3) := by decide +kernel
theorem d4_46 : decode prog_9_method_6_code 46 = .ok (.aload_n 0, 1) := by decide +kernel
theorem d4_47 : decode prog_9_method_6_code 47 = .ok (.dup, 1) := by decide +kernel
theorem d4_48 : decode prog_9_method_6_code 48 = .ok (.getfield 17, 3) := by decide +kernel
theorem d4_51 : decode prog_9_method_6_code 51 = .ok (.dup_x1, 1) := by decide +kernel
theorem d4_52 : decode prog_9_method_6_code 52 = .ok (.iconst 1, 1) := by decide +kernel
theorem d4_53 : decode prog_9_method_6_code 53 = .ok (.iadd, 1) := by decide +kernel
theorem d4_54 : decode prog_9_method_6_code 54 = .ok (.putfield 17, 3) := by decide +kernel
theorem d4_57 : decode prog_9_method_6_code 57 = .ok (.istore 4, 2) := by decide +kernel
theorem d4_59 : decode prog_9_method_6_code 59 = .ok (.iload 4, 2) := by decide +kernel
theorem d4_61 : decode prog_9_method_6_code 61 = .ok (.ifCond .le 71, 3) := by decide +kernel
theorem d4_132 : decode prog_9_method_6_code 132 = .ok (.aload_n 0, 1) := by decide +kernel
theorem d4_133 : decode prog_9_method_6_code 133 = .ok (.getfield 7, 3) := by decide +kernel
theorem d4_136 : decode prog_9_method_6_code 136 = .ok (.iload 4, 2) := by decide +kernel
theorem d4_138 : decode prog_9_method_6_code 138 = .ok (.lload_n 1, 1) := by decide +kernel
theorem d4_139 : decode prog_9_method_6_code 139 = .ok (.lastore, 1) := by decide +kernel
theorem d4_140 : decode prog_9_method_6_code 140 = .ok (.aload_n 0, 1) := by decide +kernel
theorem d4_141 : decode prog_9_method_6_code 141 = .ok (.getfield 13, 3) := by decide +kernel
theorem d4_144 : decode prog_9_method_6_code 144 = .ok (.iload 4, 2) := by decide +kernel
theorem d4_146 : decode prog_9_method_6_code 146 = .ok (.iload_n 3, 1) := by decide +kernel
theorem d4_147 : decode prog_9_method_6_code 147 = .ok (.iastore, 1) := by decide +kernel
theorem d4_148 : decode prog_9_method_6_code 148 = .ok (.return_, 1) := by decide +kernel
theorem pn4 : plainName "com/example/cachewright/cachewright/placement/CandidateHeap" = true := by first | (simp [plainName, overriddenIn]; done) | decide +kernel
theorem ef4 (m : MethodId) (x0 : Addr) (x1 : Int64) (x2 : Int32) : entryFrame m #[(.ref x0), (.long x1), (.int x2)] 6 = mkF m 0 #[.val (.ref x0), .val (.long x1), .second, .val (.int x2), .unset, .unset] [] := by first | (simp [entryFrame, mkF, argsToLocals, Value.category]; done) | rfl
set_option maxRecDepth 65536 in
set_option maxHeartbeats 40000000 in
theorem own_push0 (l : Launch) (Z : State) (a0 : Array Value) (hw : ∀ d ∈ tables_1, d.before a0 Z = true) (a : Addr) (q : Int64) (j : Int32) (g d : Addr) (x0_ x1_ x2_ x3_ x4_ : Int64) (i0_ i1_ i2_ i3_ i4_ : Int32) (h0 : Heap) (n0 : Nat) (Z_ : n0 ≤ h0.size) (E_a : Exa Z h0 a "com/example/cachewright/cachewright/placement/CandidateHeap") (F_a_gains : Fld Z h0 a "com/example/cachewright/cachewright/placement/CandidateHeap" "gains" "[J" (.ref g)) (F_a_ids : Fld Z h0 a "com/example/cachewright/cachewright/placement/CandidateHeap" "ids" "[I" (.ref d)) (F_a_size : Fld Z h0 a "com/example/cachewright/cachewright/placement/CandidateHeap" "size" "I" (.int (0 : Int32))) (g_a : n0 ≤ a) (A_g : AJ Z h0 g (x0_ :: x1_ :: x2_ :: x3_ :: x4_ :: own_zJ)) (A_d : AI Z h0 d .int (i0_ :: i1_ :: i2_ :: i3_ :: i4_ :: own_zI)) (g_g : n0 ≤ g) (g_d : n0 ≤ d) (ne_a_g : a ≠ g) (ne_a_d : a ≠ d) (ne_g_d : g ≠ d) :
    Met l (⟨"com/example/cachewright/cachewright/placement/CandidateHeap", "push", "(JI)V"⟩ : MethodName) prog_9_method_6_code 6 none [] ({ frames := 0, cells := 0, slots := 0, locals := 0 } : Room) Z n0 #[(.ref a), (.long q), (.int j)] h0 (fun v h => v = none ∧ Keep h0 h [a, g, d] ∧ Fld Z h a "com/example/cachewright/cachewright/placement/CandidateHeap" "gains" "[J" (.ref g) ∧ Fld Z h a "com/example/cachewright/cachewright/placement/CandidateHeap" "ids" "[I" (.ref d) ∧ Fld Z h a "com/example/cachewright/cachewright/placement/CandidateHeap" "size" "I" (.int (1 : Int32)) ∧ AJ Z h g (q :: x1_ :: x2_ :: x3_ :: x4_ :: own_zJ) ∧ AI Z h d .int (j :: i1_ :: i2_ :: i3_ :: i4_ :: own_zI)) := by
  refine own_met pn4 (fun m => ef4 m a q j) ?_
  intro p e s m below meth c C
  have K_ : Keep h0 h0 [a, g, d] := Keep.refl _ _
  refine own_aloadN (pc' := 1) C d4_0 rfl rfl rfl ?_
  refine own_getfield (pc' := 4) C d4_1 (hw _ (List.mem_of_getElem? (i := 24) rfl)) F_a_size rfl ?_
  refine own_aloadN (pc' := 5) C d4_4 rfl rfl rfl ?_
  refine own_getfield (pc' := 8) C d4_5 (hw _ (List.mem_of_getElem? (i := 17) rfl)) F_a_ids rfl ?_
  refine own_lenI (pc' := 9) (v := (64 : Int32)) C d4_8 A_d rfl rfl ?_
  refine own_icmp_ne (pt := 46) (pf := 12) C d4_9 (by decide) (by decide) rfl (fun _ => ?_) (fun q => absurd q (by decide))
  refine own_aloadN (pc' := 47) C d4_46 rfl rfl rfl ?_
  refine own_dup (pc' := 48) C d4_47 rfl rfl ?_
  refine own_getfield (pc' := 51) C d4_48 (hw _ (List.mem_of_getElem? (i := 24) rfl)) F_a_size rfl ?_
  refine own_dupX1 (pc' := 52) C d4_51 rfl rfl rfl ?_
  refine own_iconst (pc' := 53) (v := (1 : Int32)) C d4_52 own_ki_1 rfl ?_
  refine own_iadd (pc' := 54) (v := (1 : Int32)) C d4_53 (by decide) rfl ?_
  refine own_putfield (pc' := 57) C d4_54 (hw _ (List.mem_of_getElem? (i := 24) rfl)) F_a_size E_a (Or.inl (hw _ (List.mem_of_getElem? (i := 25) rfl))) (hw _ (List.mem_of_getElem? (i := 5) rfl)) (ty := .int) (by decide) rfl rfl g_a rfl ?_
  intro h1 W1 F1_
  replace E_a := E_a.wr W1
  replace F_a_gains := F_a_gains.other W1 (Or.inr (slot_ne (Or.inl (hw _ (List.mem_of_getElem? (i := 15) rfl))) (Or.inl (hw _ (List.mem_of_getElem? (i := 25) rfl))) (by decide) (t := (.array .long)) (t' := .int) (by decide) (by decide)))
  replace F_a_ids := F_a_ids.other W1 (Or.inr (slot_ne (Or.inl (hw _ (List.mem_of_getElem? (i := 18) rfl))) (Or.inl (hw _ (List.mem_of_getElem? (i := 25) rfl))) (by decide) (t := (.array .int)) (t' := .int) (by decide) (by decide)))
  replace A_g := A_g.other W1 (Ne.symm ne_a_g)
  replace A_d := A_d.other W1 (Ne.symm ne_a_d)
  replace F_a_size := F1_
  replace Z_ : n0 ≤ _ := Nat.le_trans Z_ (Nat.le_of_eq W1.size.symm)
  replace K_ := K_.wr W1 (Or.inl (List.mem_of_getElem? (i := 0) rfl))
  refine own_istore (pc' := 59) (y := (0 : Int32)) (Ls' := #[.val (.ref a), .val (.long q), .second, .val (.int j), .val (.int (0 : Int32)), .unset]) C d4_57 rfl rfl rfl ?_
  refine own_iload (pc' := 61) C d4_59 rfl rfl ?_
  refine own_if_le (pt := 132) (pf := 64) C d4_61 (by decide) (by decide) rfl (fun _ => ?_) (fun q => absurd q (by decide))
  refine own_aloadN (pc' := 133) C d4_132 rfl rfl rfl ?_
  refine own_getfield (pc' := 136) C d4_133 (hw _ (List.mem_of_getElem? (i := 14) rfl)) F_a_gains rfl ?_
  refine own_iload (pc' := 138) C d4_136 rfl rfl ?_
  refine own_lloadN (pc' := 139) C d4_138 rfl rfl ?_
  refine own_lastore (pc' := 140) (i := 0) (ys := (q :: x1_ :: x2_ :: x3_ :: x4_ :: own_zJ)) C d4_139 A_g (by decide) rfl (Nat.le_of_ble_eq_true rfl) rfl g_g rfl ?_
  intro h2 W2 A2_
  replace E_a := E_a.wr W2
  replace F_a_gains := F_a_gains.other W2 (Or.inl ne_a_g)
  replace F_a_ids := F_a_ids.other W2 (Or.inl ne_a_g)
  replace F_a_size := F_a_size.other W2 (Or.inl ne_a_g)
  replace A_d := A_d.other W2 (Ne.symm ne_g_d)
  replace A_g := A2_
  replace Z_ : n0 ≤ _ := Nat.le_trans Z_ (Nat.le_of_eq W2.size.symm)
  replace K_ := K_.wr W2 (Or.inl (List.mem_of_getElem? (i := 1) rfl))
  refine own_aloadN (pc' := 141) C d4_140 rfl rfl rfl ?_
  refine own_getfield (pc' := 144) C d4_141 (hw _ (List.mem_of_getElem? (i := 17) rfl)) F_a_ids rfl ?_
  refine own_iload (pc' := 146) C d4_144 rfl rfl ?_
  refine own_iloadN (pc' := 147) C d4_146 rfl rfl ?_
  refine own_iastore (pc' := 148) (i := 0) (ys := (j :: i1_ :: i2_ :: i3_ :: i4_ :: own_zI)) C d4_147 A_d (by decide) rfl (Nat.le_of_ble_eq_true rfl) rfl g_d rfl ?_
  intro h3 W3 A3_
  replace E_a := E_a.wr W3
  replace F_a_gains := F_a_gains.other W3 (Or.inl ne_a_d)
  replace F_a_ids := F_a_ids.other W3 (Or.inl ne_a_d)
  replace F_a_size := F_a_size.other W3 (Or.inl ne_a_d)
  replace A_g := A_g.other W3 ne_g_d
  replace A_d := A3_
  replace Z_ : n0 ≤ _ := Nat.le_trans Z_ (Nat.le_of_eq W3.size.symm)
  replace K_ := K_.wr W3 (Or.inl (List.mem_of_getElem? (i := 2) rfl))
  refine own_vret C d4_148 (by decide) (by decide) ?_
  exact ⟨rfl, K_, F_a_gains, F_a_ids, F_a_size, A_g, A_d⟩

theorem d4_64 : decode prog_9_method_6_code 64 = .ok (.iload 4, 2) := by decide +kernel
theorem d4_66 : decode prog_9_method_6_code 66 = .ok (.iconst 1, 1) := by decide +kernel
theorem d4_67 : decode prog_9_method_6_code 67 = .ok (.isub, 1) := by decide +kernel
theorem d4_68 : decode prog_9_method_6_code 68 = .ok (.iconst 2, 1) := by decide +kernel
theorem d4_69 : decode prog_9_method_6_code 69 = .ok (.idiv, 1) := by decide +kernel
theorem d4_70 : decode prog_9_method_6_code 70 = .ok (.istore 5, 2) := by decide +kernel
theorem d4_72 : decode prog_9_method_6_code 72 = .ok (.lload_n 1, 1) := by decide +kernel
theorem d4_73 : decode prog_9_method_6_code 73 = .ok (.iload_n 3, 1) := by decide +kernel
theorem d4_74 : decode prog_9_method_6_code 74 = .ok (.aload_n 0, 1) := by decide +kernel
theorem d4_75 : decode prog_9_method_6_code 75 = .ok (.getfield 7, 3) := by decide +kernel
theorem d4_78 : decode prog_9_method_6_code 78 = .ok (.iload 5, 2) := by decide +kernel
theorem d4_80 : decode prog_9_method_6_code 80 = .ok (.laload, 1) := by decide +kernel
theorem d4_81 : decode prog_9_method_6_code 81 = .ok (.aload_n 0, 1) := by decide +kernel
theorem d4_82 : decode prog_9_method_6_code 82 = .ok (.getfield 13, 3) := by decide +kernel
theorem d4_85 : decode prog_9_method_6_code 85 = .ok (.iload 5, 2) := by decide +kernel
theorem d4_87 : decode prog_9_method_6_code 87 = .ok (.iaload, 1) := by decide +kernel
theorem d4_88 : decode prog_9_method_6_code 88 = .ok (.invokestatic 30, 3) := by decide +kernel
theorem d4_91 : decode prog_9_method_6_code 91 = .ok (.ifCond .ne 6, 3) := by decide +kernel
theorem d4_94 : decode prog_9_method_6_code 94 = .ok (.goto 38, 3) := by decide +kernel
theorem d4_97 : decode prog_9_method_6_code 97 = .ok (.aload_n 0, 1) := by decide +kernel
theorem d4_98 : decode prog_9_method_6_code 98 = .ok (.getfield 7, 3) := by decide +kernel
theorem d4_101 : decode prog_9_method_6_code 101 = .ok (.iload 4, 2) := by decide +kernel
theorem d4_103 : decode prog_9_method_6_code 103 = .ok (.aload_n 0, 1) := by decide +kernel
theorem d4_104 : decode prog_9_method_6_code 104 = .ok (.getfield 7, 3) := by decide +kernel
theorem d4_107 : decode prog_9_method_6_code 107 = .ok (.iload 5, 2) := by decide +kernel
theorem d4_109 : decode prog_9_method_6_code 109 = .ok (.laload, 1) := by decide +kernel
theorem d4_110 : decode prog_9_method_6_code 110 = .ok (.lastore, 1) := by decide +kernel
theorem d4_111 : decode prog_9_method_6_code 111 = .ok (.aload_n 0, 1) := by decide +kernel
theorem d4_112 : decode prog_9_method_6_code 112 = .ok (.getfield 13, 3) := by decide +kernel
theorem d4_115 : decode prog_9_method_6_code 115 = .ok (.iload 4, 2) := by decide +kernel
theorem d4_117 : decode prog_9_method_6_code 117 = .ok (.aload_n 0, 1) := by decide +kernel
theorem d4_118 : decode prog_9_method_6_code 118 = .ok (.getfield 13, 3) := by decide +kernel
theorem d4_121 : decode prog_9_method_6_code 121 = .ok (.iload 5, 2) := by decide +kernel
theorem d4_123 : decode prog_9_method_6_code 123 = .ok (.iaload, 1) := by decide +kernel
theorem d4_124 : decode prog_9_method_6_code 124 = .ok (.iastore, 1) := by decide +kernel
theorem d4_125 : decode prog_9_method_6_code 125 = .ok (.iload 5, 2) := by decide +kernel
theorem d4_127 : decode prog_9_method_6_code 127 = .ok (.istore 4, 2) := by decide +kernel
theorem d4_129 : decode prog_9_method_6_code 129 = .ok (.goto (-70), 3) := by decide +kernel
theorem pd5 : parseMethodDescriptor "(JIJI)Z" = some ⟨[.long, .int, .long, .int], some .boolean⟩ := by decide +kernel
theorem own_ki_2 : Int32.ofInt (2) = (2 : Int32) := by decide
set_option maxRecDepth 65536 in
set_option maxHeartbeats 40000000 in
theorem own_push1 (l : Launch) (Z : State) (a0 : Array Value) (hw : ∀ d ∈ tables_1, d.before a0 Z = true) (a : Addr) (q : Int64) (j : Int32) (g d : Addr) (x0_ x1_ x2_ x3_ x4_ : Int64) (i0_ i1_ i2_ i3_ i4_ : Int32) (h0 : Heap) (n0 : Nat) (Z_ : n0 ≤ h0.size) (E_a : Exa Z h0 a "com/example/cachewright/cachewright/placement/CandidateHeap") (F_a_gains : Fld Z h0 a "com/example/cachewright/cachewright/placement/CandidateHeap" "gains" "[J" (.ref g)) (F_a_ids : Fld Z h0 a "com/example/cachewright/cachewright/placement/CandidateHeap" "ids" "[I" (.ref d)) (F_a_size : Fld Z h0 a "com/example/cachewright/cachewright/placement/CandidateHeap" "size" "I" (.int (1 : Int32))) (g_a : n0 ≤ a) (A_g : AJ Z h0 g (x0_ :: x1_ :: x2_ :: x3_ :: x4_ :: own_zJ)) (A_d : AI Z h0 d .int (i0_ :: i1_ :: i2_ :: i3_ :: i4_ :: own_zI)) (g_g : n0 ≤ g) (g_d : n0 ≤ d) (ne_a_g : a ≠ g) (ne_a_d : a ≠ d) (ne_g_d : g ≠ d) :
    Met l (⟨"com/example/cachewright/cachewright/placement/CandidateHeap", "push", "(JI)V"⟩ : MethodName) prog_9_method_6_code 6 none [] ({ frames := 1, cells := 0, slots := 0, locals := 17 } : Room) Z n0 #[(.ref a), (.long q), (.int j)] h0 (fun v h => v = none ∧ Keep h0 h [a, g, d] ∧ Fld Z h a "com/example/cachewright/cachewright/placement/CandidateHeap" "gains" "[J" (.ref g) ∧ Fld Z h a "com/example/cachewright/cachewright/placement/CandidateHeap" "ids" "[I" (.ref d) ∧ Fld Z h a "com/example/cachewright/cachewright/placement/CandidateHeap" "size" "I" (.int (2 : Int32)) ∧ AJ Z h g ((own_p1 own_lt (x0_, i0_) (q, j)).1.1 :: (own_p1 own_lt (x0_, i0_) (q, j)).2.1 :: x2_ :: x3_ :: x4_ :: own_zJ) ∧ AI Z h d .int ((own_p1 own_lt (x0_, i0_) (q, j)).1.2 :: (own_p1 own_lt (x0_, i0_) (q, j)).2.2 :: i2_ :: i3_ :: i4_ :: own_zI)) := by
  refine own_met pn4 (fun m => ef4 m a q j) ?_
  intro p e s m below meth c C
  have K_ : Keep h0 h0 [a, g, d] := Keep.refl _ _
  refine own_aloadN (pc' := 1) C d4_0 rfl rfl rfl ?_
  refine own_getfield (pc' := 4) C d4_1 (hw _ (List.mem_of_getElem? (i := 24) rfl)) F_a_size rfl ?_
  refine own_aloadN (pc' := 5) C d4_4 rfl rfl rfl ?_
  refine own_getfield (pc' := 8) C d4_5 (hw _ (List.mem_of_getElem? (i := 17) rfl)) F_a_ids rfl ?_
  refine own_lenI (pc' := 9) (v := (64 : Int32)) C d4_8 A_d rfl rfl ?_
  refine own_icmp_ne (pt := 46) (pf := 12) C d4_9 (by decide) (by decide) rfl (fun _ => ?_) (fun q => absurd q (by decide))
  refine own_aloadN (pc' := 47) C d4_46 rfl rfl rfl ?_
  refine own_dup (pc' := 48) C d4_47 rfl rfl ?_
  refine own_getfield (pc' := 51) C d4_48 (hw _ (List.mem_of_getElem? (i := 24) rfl)) F_a_size rfl ?_
  refine own_dupX1 (pc' := 52) C d4_51 rfl rfl rfl ?_
  refine own_iconst (pc' := 53) (v := (1 : Int32)) C d4_52 own_ki_1 rfl ?_
  refine own_iadd (pc' := 54) (v := (2 : Int32)) C d4_53 (by decide) rfl ?_
  refine own_putfield (pc' := 57) C d4_54 (hw _ (List.mem_of_getElem? (i := 24) rfl)) F_a_size E_a (Or.inl (hw _ (List.mem_of_getElem? (i := 25) rfl))) (hw _ (List.mem_of_getElem? (i := 5) rfl)) (ty := .int) (by decide) rfl rfl g_a rfl ?_
  intro h1 W1 F1_
  replace E_a := E_a.wr W1
  replace F_a_gains := F_a_gains.other W1 (Or.inr (slot_ne (Or.inl (hw _ (List.mem_of_getElem? (i := 15) rfl))) (Or.inl (hw _ (List.mem_of_getElem? (i := 25) rfl))) (by decide) (t := (.array .long)) (t' := .int) (by decide) (by decide)))
  replace F_a_ids := F_a_ids.other W1 (Or.inr (slot_ne (Or.inl (hw _ (List.mem_of_getElem? (i := 18) rfl))) (Or.inl (hw _ (List.mem_of_getElem? (i := 25) rfl))) (by decide) (t := (.array .int)) (t' := .int) (by decide) (by decide)))
  replace A_g := A_g.other W1 (Ne.symm ne_a_g)
  replace A_d := A_d.other W1 (Ne.symm ne_a_d)
  replace F_a_size := F1_
  replace Z_ : n0 ≤ _ := Nat.le_trans Z_ (Nat.le_of_eq W1.size.symm)
  replace K_ := K_.wr W1 (Or.inl (List.mem_of_getElem? (i := 0) rfl))
  refine own_istore (pc' := 59) (y := (1 : Int32)) (Ls' := #[.val (.ref a), .val (.long q), .second, .val (.int j), .val (.int (1 : Int32)), .unset]) C d4_57 rfl rfl rfl ?_
  refine own_iload (pc' := 61) C d4_59 rfl rfl ?_
  refine own_if_le (pt := 132) (pf := 64) C d4_61 (by decide) (by decide) rfl (fun q => absurd (by decide) q) (fun _ => ?_)
  refine own_iload (pc' := 66) C d4_64 rfl rfl ?_
  refine own_iconst (pc' := 67) (v := (1 : Int32)) C d4_66 own_ki_1 rfl ?_
  refine own_isub (pc' := 68) (v := (0 : Int32)) C d4_67 (by decide) rfl ?_
  refine own_iconst (pc' := 69) (v := (2 : Int32)) C d4_68 own_ki_2 rfl ?_
  refine own_idiv (pc' := 70) (v := (0 : Int32)) C d4_69 (by decide) (by decide) rfl ?_
  refine own_istore (pc' := 72) (y := (0 : Int32)) (Ls' := #[.val (.ref a), .val (.long q), .second, .val (.int j), .val (.int (1 : Int32)), .val (.int (0 : Int32))]) C d4_70 rfl rfl rfl ?_
  refine own_lloadN (pc' := 73) C d4_72 rfl rfl ?_
  refine own_iloadN (pc' := 74) C d4_73 rfl rfl ?_
  refine own_aloadN (pc' := 75) C d4_74 rfl rfl rfl ?_
  refine own_getfield (pc' := 78) C d4_75 (hw _ (List.mem_of_getElem? (i := 14) rfl)) F_a_gains rfl ?_
  refine own_iload (pc' := 80) C d4_78 rfl rfl ?_
  refine own_laload (pc' := 81) (v := x0_) (i := 0) C d4_80 A_g (by decide) rfl rfl rfl ?_
  refine own_aloadN (pc' := 82) C d4_81 rfl rfl rfl ?_
  refine own_getfield (pc' := 85) C d4_82 (hw _ (List.mem_of_getElem? (i := 17) rfl)) F_a_ids rfl ?_
  refine own_iload (pc' := 87) C d4_85 rfl rfl ?_
  refine own_iaload (pc' := 88) (v := i0_) (i := 0) C d4_87 A_d (by decide) rfl rfl rfl ?_
  refine own_callS (pc' := 91) (wL := 0) (argsL := [(.long q), (.int j), (.long x0_), (.int i0_)]) (rest := []) C (own_m5 l Z a0 hw q j x0_ i0_ h1 n0 Z_) d4_88 (hw _ (List.mem_of_getElem? (i := 26) rfl)) (hw _ (List.mem_of_getElem? (i := 27) rfl)) (hw _ (List.mem_of_getElem? (i := 6) rfl)) (hw _ (List.mem_of_getElem? (i := 28) rfl)) (by decide) (by decide) (by decide) rfl (lenOf pd5 rfl) rfl rfl (Nat.le_of_eq rfl) (by decide) (by decide) rfl ?_
  rintro _ _ ⟨rfl, rfl⟩
  show Wp p l e _ s m _ below meth c n0 _ h1 0 0 (mkF m 91 #[.val (.ref a), .val (.long q), .second, .val (.int j), .val (.int (1 : Int32)), .val (.int (0 : Int32))] [(.int (own_f5 q j x0_ i0_))])
  refine own_if_ne (pt := 97) (pf := 94) C d4_91 (by decide) (by decide) rfl ?_ ?_
  · intro hc91
    refine own_aloadN (pc' := 98) C d4_97 rfl rfl rfl ?_
    refine own_getfield (pc' := 101) C d4_98 (hw _ (List.mem_of_getElem? (i := 14) rfl)) F_a_gains rfl ?_
    refine own_iload (pc' := 103) C d4_101 rfl rfl ?_
    refine own_aloadN (pc' := 104) C d4_103 rfl rfl rfl ?_
    refine own_getfield (pc' := 107) C d4_104 (hw _ (List.mem_of_getElem? (i := 14) rfl)) F_a_gains rfl ?_
    refine own_iload (pc' := 109) C d4_107 rfl rfl ?_
    refine own_laload (pc' := 110) (v := x0_) (i := 0) C d4_109 A_g (by decide) rfl rfl rfl ?_
    refine own_lastore (pc' := 111) (i := 1) (ys := (x0_ :: x0_ :: x2_ :: x3_ :: x4_ :: own_zJ)) C d4_110 A_g (by decide) rfl (Nat.le_of_ble_eq_true rfl) rfl g_g rfl ?_
    intro h2 W2 A2_
    replace E_a := E_a.wr W2
    replace F_a_gains := F_a_gains.other W2 (Or.inl ne_a_g)
    replace F_a_ids := F_a_ids.other W2 (Or.inl ne_a_g)
    replace F_a_size := F_a_size.other W2 (Or.inl ne_a_g)
    replace A_d := A_d.other W2 (Ne.symm ne_g_d)
    replace A_g := A2_
    replace Z_ : n0 ≤ _ := Nat.le_trans Z_ (Nat.le_of_eq W2.size.symm)
    replace K_ := K_.wr W2 (Or.inl (List.mem_of_getElem? (i := 1) rfl))
    refine own_aloadN (pc' := 112) C d4_111 rfl rfl rfl ?_
    refine own_getfield (pc' := 115) C d4_112 (hw _ (List.mem_of_getElem? (i := 17) rfl)) F_a_ids rfl ?_
    refine own_iload (pc' := 117) C d4_115 rfl rfl ?_
    refine own_aloadN (pc' := 118) C d4_117 rfl rfl rfl ?_
    refine own_getfield (pc' := 121) C d4_118 (hw _ (List.mem_of_getElem? (i := 17) rfl)) F_a_ids rfl ?_
    refine own_iload (pc' := 123) C d4_121 rfl rfl ?_
    refine own_iaload (pc' := 124) (v := i0_) (i := 0) C d4_123 A_d (by decide) rfl rfl rfl ?_
    refine own_iastore (pc' := 125) (i := 1) (ys := (i0_ :: i0_ :: i2_ :: i3_ :: i4_ :: own_zI)) C d4_124 A_d (by decide) rfl (Nat.le_of_ble_eq_true rfl) rfl g_d rfl ?_
    intro h3 W3 A3_
    replace E_a := E_a.wr W3
    replace F_a_gains := F_a_gains.other W3 (Or.inl ne_a_d)
    replace F_a_ids := F_a_ids.other W3 (Or.inl ne_a_d)
    replace F_a_size := F_a_size.other W3 (Or.inl ne_a_d)
    replace A_g := A_g.other W3 ne_g_d
    replace A_d := A3_
    replace Z_ : n0 ≤ _ := Nat.le_trans Z_ (Nat.le_of_eq W3.size.symm)
    replace K_ := K_.wr W3 (Or.inl (List.mem_of_getElem? (i := 2) rfl))
    refine own_iload (pc' := 127) C d4_125 rfl rfl ?_
    refine own_istore (pc' := 129) (y := (0 : Int32)) (Ls' := #[.val (.ref a), .val (.long q), .second, .val (.int j), .val (.int (0 : Int32)), .val (.int (0 : Int32))]) C d4_127 rfl rfl rfl ?_
    refine own_goto (pc' := 59) C d4_129 (by decide) (by decide) ?_
    refine own_iload (pc' := 61) C d4_59 rfl rfl ?_
    refine own_if_le (pt := 132) (pf := 64) C d4_61 (by decide) (by decide) rfl (fun _ => ?_) (fun q => absurd q (by decide))
    refine own_aloadN (pc' := 133) C d4_132 rfl rfl rfl ?_
    refine own_getfield (pc' := 136) C d4_133 (hw _ (List.mem_of_getElem? (i := 14) rfl)) F_a_gains rfl ?_
    refine own_iload (pc' := 138) C d4_136 rfl rfl ?_
    refine own_lloadN (pc' := 139) C d4_138 rfl rfl ?_
    refine own_lastore (pc' := 140) (i := 0) (ys := (q :: x0_ :: x2_ :: x3_ :: x4_ :: own_zJ)) C d4_139 A_g (by decide) rfl (Nat.le_of_ble_eq_true rfl) rfl g_g rfl ?_
    intro h4 W4 A4_
    replace E_a := E_a.wr W4
    replace F_a_gains := F_a_gains.other W4 (Or.inl ne_a_g)
    replace F_a_ids := F_a_ids.other W4 (Or.inl ne_a_g)
    replace F_a_size := F_a_size.other W4 (Or.inl ne_a_g)
    replace A_d := A_d.other W4 (Ne.symm ne_g_d)
    replace A_g := A4_
    replace Z_ : n0 ≤ _ := Nat.le_trans Z_ (Nat.le_of_eq W4.size.symm)
    replace K_ := K_.wr W4 (Or.inl (List.mem_of_getElem? (i := 1) rfl))
    refine own_aloadN (pc' := 141) C d4_140 rfl rfl rfl ?_
    refine own_getfield (pc' := 144) C d4_141 (hw _ (List.mem_of_getElem? (i := 17) rfl)) F_a_ids rfl ?_
    refine own_iload (pc' := 146) C d4_144 rfl rfl ?_
    refine own_iloadN (pc' := 147) C d4_146 rfl rfl ?_
    refine own_iastore (pc' := 148) (i := 0) (ys := (j :: i0_ :: i2_ :: i3_ :: i4_ :: own_zI)) C d4_147 A_d (by decide) rfl (Nat.le_of_ble_eq_true rfl) rfl g_d rfl ?_
    intro h5 W5 A5_
    replace E_a := E_a.wr W5
    replace F_a_gains := F_a_gains.other W5 (Or.inl ne_a_d)
    replace F_a_ids := F_a_ids.other W5 (Or.inl ne_a_d)
    replace F_a_size := F_a_size.other W5 (Or.inl ne_a_d)
    replace A_g := A_g.other W5 ne_g_d
    replace A_d := A5_
    replace Z_ : n0 ≤ _ := Nat.le_trans Z_ (Nat.le_of_eq W5.size.symm)
    replace K_ := K_.wr W5 (Or.inl (List.mem_of_getElem? (i := 2) rfl))
    refine own_vret C d4_148 (by decide) (by decide) ?_
    have l_hc91 : own_lt (q, j) (x0_, i0_) = true := by simp [own_lt, hc91]
    refine ⟨rfl, K_, F_a_gains, F_a_ids, F_a_size, ?_, ?_⟩
    · simp only [own_p1, l_hc91, if_true, if_false, Bool.false_eq_true]; exact A_g
    · simp only [own_p1, l_hc91, if_true, if_false, Bool.false_eq_true]; exact A_d
  · intro hc91
    refine own_goto (pc' := 132) C d4_94 (by decide) (by decide) ?_
    refine own_aloadN (pc' := 133) C d4_132 rfl rfl rfl ?_
    refine own_getfield (pc' := 136) C d4_133 (hw _ (List.mem_of_getElem? (i := 14) rfl)) F_a_gains rfl ?_
    refine own_iload (pc' := 138) C d4_136 rfl rfl ?_
    refine own_lloadN (pc' := 139) C d4_138 rfl rfl ?_
    refine own_lastore (pc' := 140) (i := 1) (ys := (x0_ :: q :: x2_ :: x3_ :: x4_ :: own_zJ)) C d4_139 A_g (by decide) rfl (Nat.le_of_ble_eq_true rfl) rfl g_g rfl ?_
    intro h2 W2 A2_
    replace E_a := E_a.wr W2
    replace F_a_gains := F_a_gains.other W2 (Or.inl ne_a_g)
    replace F_a_ids := F_a_ids.other W2 (Or.inl ne_a_g)
    replace F_a_size := F_a_size.other W2 (Or.inl ne_a_g)
    replace A_d := A_d.other W2 (Ne.symm ne_g_d)
    replace A_g := A2_
    replace Z_ : n0 ≤ _ := Nat.le_trans Z_ (Nat.le_of_eq W2.size.symm)
    replace K_ := K_.wr W2 (Or.inl (List.mem_of_getElem? (i := 1) rfl))
    refine own_aloadN (pc' := 141) C d4_140 rfl rfl rfl ?_
    refine own_getfield (pc' := 144) C d4_141 (hw _ (List.mem_of_getElem? (i := 17) rfl)) F_a_ids rfl ?_
    refine own_iload (pc' := 146) C d4_144 rfl rfl ?_
    refine own_iloadN (pc' := 147) C d4_146 rfl rfl ?_
    refine own_iastore (pc' := 148) (i := 1) (ys := (i0_ :: j :: i2_ :: i3_ :: i4_ :: own_zI)) C d4_147 A_d (by decide) rfl (Nat.le_of_ble_eq_true rfl) rfl g_d rfl ?_
    intro h3 W3 A3_
    replace E_a := E_a.wr W3
    replace F_a_gains := F_a_gains.other W3 (Or.inl ne_a_d)
    replace F_a_ids := F_a_ids.other W3 (Or.inl ne_a_d)
    replace F_a_size := F_a_size.other W3 (Or.inl ne_a_d)
    replace A_g := A_g.other W3 ne_g_d
    replace A_d := A3_
    replace Z_ : n0 ≤ _ := Nat.le_trans Z_ (Nat.le_of_eq W3.size.symm)
    replace K_ := K_.wr W3 (Or.inl (List.mem_of_getElem? (i := 2) rfl))
    refine own_vret C d4_148 (by decide) (by decide) ?_
    have l_hc91 : own_lt (q, j) (x0_, i0_) = false := by simp [own_lt, hc91]
    refine ⟨rfl, K_, F_a_gains, F_a_ids, F_a_size, ?_, ?_⟩
    · simp only [own_p1, l_hc91, if_true, if_false, Bool.false_eq_true]; exact A_g
    · simp only [own_p1, l_hc91, if_true, if_false, Bool.false_eq_true]; exact A_d

set_option maxRecDepth 65536 in
set_option maxHeartbeats 40000000 in
theorem own_push2 (l : Launch) (Z : State) (a0 : Array Value) (hw : ∀ d ∈ tables_1, d.before a0 Z = true) (a : Addr) (q : Int64) (j : Int32) (g d : Addr) (x0_ x1_ x2_ x3_ x4_ : Int64) (i0_ i1_ i2_ i3_ i4_ : Int32) (h0 : Heap) (n0 : Nat) (Z_ : n0 ≤ h0.size) (E_a : Exa Z h0 a "com/example/cachewright/cachewright/placement/CandidateHeap") (F_a_gains : Fld Z h0 a "com/example/cachewright/cachewright/placement/CandidateHeap" "gains" "[J" (.ref g)) (F_a_ids : Fld Z h0 a "com/example/cachewright/cachewright/placement/CandidateHeap" "ids" "[I" (.ref d)) (F_a_size : Fld Z h0 a "com/example/cachewright/cachewright/placement/CandidateHeap" "size" "I" (.int (2 : Int32))) (g_a : n0 ≤ a) (A_g : AJ Z h0 g (x0_ :: x1_ :: x2_ :: x3_ :: x4_ :: own_zJ)) (A_d : AI Z h0 d .int (i0_ :: i1_ :: i2_ :: i3_ :: i4_ :: own_zI)) (g_g : n0 ≤ g) (g_d : n0 ≤ d) (ne_a_g : a ≠ g) (ne_a_d : a ≠ d) (ne_g_d : g ≠ d) :
    Met l (⟨"com/example/cachewright/cachewright/placement/CandidateHeap", "push", "(JI)V"⟩ : MethodName) prog_9_method_6_code 6 none [] ({ frames := 1, cells := 0, slots := 0, locals := 17 } : Room) Z n0 #[(.ref a), (.long q), (.int j)] h0 (fun v h => v = none ∧ Keep h0 h [a, g, d] ∧ Fld Z h a "com/example/cachewright/cachewright/placement/CandidateHeap" "gains" "[J" (.ref g) ∧ Fld Z h a "com/example/cachewright/cachewright/placement/CandidateHeap" "ids" "[I" (.ref d) ∧ Fld Z h a "com/example/cachewright/cachewright/placement/CandidateHeap" "size" "I" (.int (3 : Int32)) ∧ AJ Z h g ((own_p2 own_lt (x0_, i0_) (x1_, i1_) (q, j)).1.1 :: (own_p2 own_lt (x0_, i0_) (x1_, i1_) (q, j)).2.1.1 :: (own_p2 own_lt (x0_, i0_) (x1_, i1_) (q, j)).2.2.1 :: x3_ :: x4_ :: own_zJ) ∧ AI Z h d .int ((own_p2 own_lt (x0_, i0_) (x1_, i1_) (q, j)).1.2 :: (own_p2 own_lt (x0_, i0_) (x1_, i1_) (q, j)).2.1.2 :: (own_p2 own_lt (x0_, i0_) (x1_, i1_) (q, j)).2.2.2 :: i3_ :: i4_ :: own_zI)) := by
  refine own_met pn4 (fun m => ef4 m a q j) ?_
  intro p e s m below meth c C
  have K_ : Keep h0 h0 [a, g, d] := Keep.refl _ _
  refine own_aloadN (pc' := 1) C d4_0 rfl rfl rfl ?_
  refine own_getfield (pc' := 4) C d4_1 (hw _ (List.mem_of_getElem? (i := 24) rfl)) F_a_size rfl ?_
  refine own_aloadN (pc' := 5) C d4_4 rfl rfl rfl ?_
  refine own_getfield (pc' := 8) C d4_5 (hw _ (List.mem_of_getElem? (i := 17) rfl)) F_a_ids rfl ?_
  refine own_lenI (pc' := 9) (v := (64 : Int32)) C d4_8 A_d rfl rfl ?_
  refine own_icmp_ne (pt := 46) (pf := 12) C d4_9 (by decide) (by decide) rfl (fun _ => ?_) (fun q => absurd q (by decide))
  refine own_aloadN (pc' := 47) C d4_46 rfl rfl rfl ?_
  refine own_dup (pc' := 48) C d4_47 rfl rfl ?_
  refine own_getfield (pc' := 51) C d4_48 (hw _ (List.mem_of_getElem? (i := 24) rfl)) F_a_size rfl ?_
  refine own_dupX1 (pc' := 52) C d4_51 rfl rfl rfl ?_
  refine own_iconst (pc' := 53) (v := (1 : Int32)) C d4_52 own_ki_1 rfl ?_
  refine own_iadd (pc' := 54) (v := (3 : Int32)) C d4_53 (by decide) rfl ?_
  refine own_putfield (pc' := 57) C d4_54 (hw _ (List.mem_of_getElem? (i := 24) rfl)) F_a_size E_a (Or.inl (hw _ (List.mem_of_getElem? (i := 25) rfl))) (hw _ (List.mem_of_getElem? (i := 5) rfl)) (ty := .int) (by decide) rfl rfl g_a rfl ?_
  intro h1 W1 F1_
  replace E_a := E_a.wr W1
  replace F_a_gains := F_a_gains.other W1 (Or.inr (slot_ne (Or.inl (hw _ (List.mem_of_getElem? (i := 15) rfl))) (Or.inl (hw _ (List.mem_of_getElem? (i := 25) rfl))) (by decide) (t := (.array .long)) (t' := .int) (by decide) (by decide)))
  replace F_a_ids := F_a_ids.other W1 (Or.inr (slot_ne (Or.inl (hw _ (List.mem_of_getElem? (i := 18) rfl))) (Or.inl (hw _ (List.mem_of_getElem? (i := 25) rfl))) (by decide) (t := (.array .int)) (t' := .int) (by decide) (by decide)))
  replace A_g := A_g.other W1 (Ne.symm ne_a_g)
  replace A_d := A_d.other W1 (Ne.symm ne_a_d)
  replace F_a_size := F1_
  replace Z_ : n0 ≤ _ := Nat.le_trans Z_ (Nat.le_of_eq W1.size.symm)
  replace K_ := K_.wr W1 (Or.inl (List.mem_of_getElem? (i := 0) rfl))
  refine own_istore (pc' := 59) (y := (2 : Int32)) (Ls' := #[.val (.ref a), .val (.long q), .second, .val (.int j), .val (.int (2 : Int32)), .unset]) C d4_57 rfl rfl rfl ?_
  refine own_iload (pc' := 61) C d4_59 rfl rfl ?_
  refine own_if_le (pt := 132) (pf := 64) C d4_61 (by decide) (by decide) rfl (fun q => absurd (by decide) q) (fun _ => ?_)
  refine own_iload (pc' := 66) C d4_64 rfl rfl ?_
  refine own_iconst (pc' := 67) (v := (1 : Int32)) C d4_66 own_ki_1 rfl ?_
  refine own_isub (pc' := 68) (v := (1 : Int32)) C d4_67 (by decide) rfl ?_
  refine own_iconst (pc' := 69) (v := (2 : Int32)) C d4_68 own_ki_2 rfl ?_
  refine own_idiv (pc' := 70) (v := (0 : Int32)) C d4_69 (by decide) (by decide) rfl ?_
  refine own_istore (pc' := 72) (y := (0 : Int32)) (Ls' := #[.val (.ref a), .val (.long q), .second, .val (.int j), .val (.int (2 : Int32)), .val (.int (0 : Int32))]) C d4_70 rfl rfl rfl ?_
  refine own_lloadN (pc' := 73) C d4_72 rfl rfl ?_
  refine own_iloadN (pc' := 74) C d4_73 rfl rfl ?_
  refine own_aloadN (pc' := 75) C d4_74 rfl rfl rfl ?_
  refine own_getfield (pc' := 78) C d4_75 (hw _ (List.mem_of_getElem? (i := 14) rfl)) F_a_gains rfl ?_
  refine own_iload (pc' := 80) C d4_78 rfl rfl ?_
  refine own_laload (pc' := 81) (v := x0_) (i := 0) C d4_80 A_g (by decide) rfl rfl rfl ?_
  refine own_aloadN (pc' := 82) C d4_81 rfl rfl rfl ?_
  refine own_getfield (pc' := 85) C d4_82 (hw _ (List.mem_of_getElem? (i := 17) rfl)) F_a_ids rfl ?_
  refine own_iload (pc' := 87) C d4_85 rfl rfl ?_
  refine own_iaload (pc' := 88) (v := i0_) (i := 0) C d4_87 A_d (by decide) rfl rfl rfl ?_
  refine own_callS (pc' := 91) (wL := 0) (argsL := [(.long q), (.int j), (.long x0_), (.int i0_)]) (rest := []) C (own_m5 l Z a0 hw q j x0_ i0_ h1 n0 Z_) d4_88 (hw _ (List.mem_of_getElem? (i := 26) rfl)) (hw _ (List.mem_of_getElem? (i := 27) rfl)) (hw _ (List.mem_of_getElem? (i := 6) rfl)) (hw _ (List.mem_of_getElem? (i := 28) rfl)) (by decide) (by decide) (by decide) rfl (lenOf pd5 rfl) rfl rfl (Nat.le_of_eq rfl) (by decide) (by decide) rfl ?_
  rintro _ _ ⟨rfl, rfl⟩
  show Wp p l e _ s m _ below meth c n0 _ h1 0 0 (mkF m 91 #[.val (.ref a), .val (.long q), .second, .val (.int j), .val (.int (2 : Int32)), .val (.int (0 : Int32))] [(.int (own_f5 q j x0_ i0_))])
  refine own_if_ne (pt := 97) (pf := 94) C d4_91 (by decide) (by decide) rfl ?_ ?_
  · intro hc91
    refine own_aloadN (pc' := 98) C d4_97 rfl rfl rfl ?_
    refine own_getfield (pc' := 101) C d4_98 (hw _ (List.mem_of_getElem? (i := 14) rfl)) F_a_gains rfl ?_
    refine own_iload (pc' := 103) C d4_101 rfl rfl ?_
    refine own_aloadN (pc' := 104) C d4_103 rfl rfl rfl ?_
    refine own_getfield (pc' := 107) C d4_104 (hw _ (List.mem_of_getElem? (i := 14) rfl)) F_a_gains rfl ?_
    refine own_iload (pc' := 109) C d4_107 rfl rfl ?_
    refine own_laload (pc' := 110) (v := x0_) (i := 0) C d4_109 A_g (by decide) rfl rfl rfl ?_
    refine own_lastore (pc' := 111) (i := 2) (ys := (x0_ :: x1_ :: x0_ :: x3_ :: x4_ :: own_zJ)) C d4_110 A_g (by decide) rfl (Nat.le_of_ble_eq_true rfl) rfl g_g rfl ?_
    intro h2 W2 A2_
    replace E_a := E_a.wr W2
    replace F_a_gains := F_a_gains.other W2 (Or.inl ne_a_g)
    replace F_a_ids := F_a_ids.other W2 (Or.inl ne_a_g)
    replace F_a_size := F_a_size.other W2 (Or.inl ne_a_g)
    replace A_d := A_d.other W2 (Ne.symm ne_g_d)
    replace A_g := A2_
    replace Z_ : n0 ≤ _ := Nat.le_trans Z_ (Nat.le_of_eq W2.size.symm)
    replace K_ := K_.wr W2 (Or.inl (List.mem_of_getElem? (i := 1) rfl))
    refine own_aloadN (pc' := 112) C d4_111 rfl rfl rfl ?_
    refine own_getfield (pc' := 115) C d4_112 (hw _ (List.mem_of_getElem? (i := 17) rfl)) F_a_ids rfl ?_
    refine own_iload (pc' := 117) C d4_115 rfl rfl ?_
    refine own_aloadN (pc' := 118) C d4_117 rfl rfl rfl ?_
    refine own_getfield (pc' := 121) C d4_118 (hw _ (List.mem_of_getElem? (i := 17) rfl)) F_a_ids rfl ?_
    refine own_iload (pc' := 123) C d4_121 rfl rfl ?_
    refine own_iaload (pc' := 124) (v := i0_) (i := 0) C d4_123 A_d (by decide) rfl rfl rfl ?_
    refine own_iastore (pc' := 125) (i := 2) (ys := (i0_ :: i1_ :: i0_ :: i3_ :: i4_ :: own_zI)) C d4_124 A_d (by decide) rfl (Nat.le_of_ble_eq_true rfl) rfl g_d rfl ?_
    intro h3 W3 A3_
    replace E_a := E_a.wr W3
    replace F_a_gains := F_a_gains.other W3 (Or.inl ne_a_d)
    replace F_a_ids := F_a_ids.other W3 (Or.inl ne_a_d)
    replace F_a_size := F_a_size.other W3 (Or.inl ne_a_d)
    replace A_g := A_g.other W3 ne_g_d
    replace A_d := A3_
    replace Z_ : n0 ≤ _ := Nat.le_trans Z_ (Nat.le_of_eq W3.size.symm)
    replace K_ := K_.wr W3 (Or.inl (List.mem_of_getElem? (i := 2) rfl))
    refine own_iload (pc' := 127) C d4_125 rfl rfl ?_
    refine own_istore (pc' := 129) (y := (0 : Int32)) (Ls' := #[.val (.ref a), .val (.long q), .second, .val (.int j), .val (.int (0 : Int32)), .val (.int (0 : Int32))]) C d4_127 rfl rfl rfl ?_
    refine own_goto (pc' := 59) C d4_129 (by decide) (by decide) ?_
    refine own_iload (pc' := 61) C d4_59 rfl rfl ?_
    refine own_if_le (pt := 132) (pf := 64) C d4_61 (by decide) (by decide) rfl (fun _ => ?_) (fun q => absurd q (by decide))
    refine own_aloadN (pc' := 133) C d4_132 rfl rfl rfl ?_
    refine own_getfield (pc' := 136) C d4_133 (hw _ (List.mem_of_getElem? (i := 14) rfl)) F_a_gains rfl ?_
    refine own_iload (pc' := 138) C d4_136 rfl rfl ?_
    refine own_lloadN (pc' := 139) C d4_138 rfl rfl ?_
    refine own_lastore (pc' := 140) (i := 0) (ys := (q :: x1_ :: x0_ :: x3_ :: x4_ :: own_zJ)) C d4_139 A_g (by decide) rfl (Nat.le_of_ble_eq_true rfl) rfl g_g rfl ?_
    intro h4 W4 A4_
    replace E_a := E_a.wr W4
    replace F_a_gains := F_a_gains.other W4 (Or.inl ne_a_g)
    replace F_a_ids := F_a_ids.other W4 (Or.inl ne_a_g)
    replace F_a_size := F_a_size.other W4 (Or.inl ne_a_g)
    replace A_d := A_d.other W4 (Ne.symm ne_g_d)
    replace A_g := A4_
    replace Z_ : n0 ≤ _ := Nat.le_trans Z_ (Nat.le_of_eq W4.size.symm)
    replace K_ := K_.wr W4 (Or.inl (List.mem_of_getElem? (i := 1) rfl))
    refine own_aloadN (pc' := 141) C d4_140 rfl rfl rfl ?_
    refine own_getfield (pc' := 144) C d4_141 (hw _ (List.mem_of_getElem? (i := 17) rfl)) F_a_ids rfl ?_
    refine own_iload (pc' := 146) C d4_144 rfl rfl ?_
    refine own_iloadN (pc' := 147) C d4_146 rfl rfl ?_
    refine own_iastore (pc' := 148) (i := 0) (ys := (j :: i1_ :: i0_ :: i3_ :: i4_ :: own_zI)) C d4_147 A_d (by decide) rfl (Nat.le_of_ble_eq_true rfl) rfl g_d rfl ?_
    intro h5 W5 A5_
    replace E_a := E_a.wr W5
    replace F_a_gains := F_a_gains.other W5 (Or.inl ne_a_d)
    replace F_a_ids := F_a_ids.other W5 (Or.inl ne_a_d)
    replace F_a_size := F_a_size.other W5 (Or.inl ne_a_d)
    replace A_g := A_g.other W5 ne_g_d
    replace A_d := A5_
    replace Z_ : n0 ≤ _ := Nat.le_trans Z_ (Nat.le_of_eq W5.size.symm)
    replace K_ := K_.wr W5 (Or.inl (List.mem_of_getElem? (i := 2) rfl))
    refine own_vret C d4_148 (by decide) (by decide) ?_
    have l_hc91 : own_lt (q, j) (x0_, i0_) = true := by simp [own_lt, hc91]
    refine ⟨rfl, K_, F_a_gains, F_a_ids, F_a_size, ?_, ?_⟩
    · simp only [own_p2, l_hc91, if_true, if_false, Bool.false_eq_true]; exact A_g
    · simp only [own_p2, l_hc91, if_true, if_false, Bool.false_eq_true]; exact A_d
  · intro hc91
    refine own_goto (pc' := 132) C d4_94 (by decide) (by decide) ?_
    refine own_aloadN (pc' := 133) C d4_132 rfl rfl rfl ?_
    refine own_getfield (pc' := 136) C d4_133 (hw _ (List.mem_of_getElem? (i := 14) rfl)) F_a_gains rfl ?_
    refine own_iload (pc' := 138) C d4_136 rfl rfl ?_
    refine own_lloadN (pc' := 139) C d4_138 rfl rfl ?_
    refine own_lastore (pc' := 140) (i := 2) (ys := (x0_ :: x1_ :: q :: x3_ :: x4_ :: own_zJ)) C d4_139 A_g (by decide) rfl (Nat.le_of_ble_eq_true rfl) rfl g_g rfl ?_
    intro h2 W2 A2_
    replace E_a := E_a.wr W2
    replace F_a_gains := F_a_gains.other W2 (Or.inl ne_a_g)
    replace F_a_ids := F_a_ids.other W2 (Or.inl ne_a_g)
    replace F_a_size := F_a_size.other W2 (Or.inl ne_a_g)
    replace A_d := A_d.other W2 (Ne.symm ne_g_d)
    replace A_g := A2_
    replace Z_ : n0 ≤ _ := Nat.le_trans Z_ (Nat.le_of_eq W2.size.symm)
    replace K_ := K_.wr W2 (Or.inl (List.mem_of_getElem? (i := 1) rfl))
    refine own_aloadN (pc' := 141) C d4_140 rfl rfl rfl ?_
    refine own_getfield (pc' := 144) C d4_141 (hw _ (List.mem_of_getElem? (i := 17) rfl)) F_a_ids rfl ?_
    refine own_iload (pc' := 146) C d4_144 rfl rfl ?_
    refine own_iloadN (pc' := 147) C d4_146 rfl rfl ?_
    refine own_iastore (pc' := 148) (i := 2) (ys := (i0_ :: i1_ :: j :: i3_ :: i4_ :: own_zI)) C d4_147 A_d (by decide) rfl (Nat.le_of_ble_eq_true rfl) rfl g_d rfl ?_
    intro h3 W3 A3_
    replace E_a := E_a.wr W3
    replace F_a_gains := F_a_gains.other W3 (Or.inl ne_a_d)
    replace F_a_ids := F_a_ids.other W3 (Or.inl ne_a_d)
    replace F_a_size := F_a_size.other W3 (Or.inl ne_a_d)
    replace A_g := A_g.other W3 ne_g_d
    replace A_d := A3_
    replace Z_ : n0 ≤ _ := Nat.le_trans Z_ (Nat.le_of_eq W3.size.symm)
    replace K_ := K_.wr W3 (Or.inl (List.mem_of_getElem? (i := 2) rfl))
    refine own_vret C d4_148 (by decide) (by decide) ?_
    have l_hc91 : own_lt (q, j) (x0_, i0_) = false := by simp [own_lt, hc91]
    refine ⟨rfl, K_, F_a_gains, F_a_ids, F_a_size, ?_, ?_⟩
    · simp only [own_p2, l_hc91, if_true, if_false, Bool.false_eq_true]; exact A_g
    · simp only [own_p2, l_hc91, if_true, if_false, Bool.false_eq_true]; exact A_d

set_option maxRecDepth 65536 in
set_option maxHeartbeats 40000000 in
theorem own_push3 (l : Launch) (Z : State) (a0 : Array Value) (hw : ∀ d ∈ tables_1, d.before a0 Z = true) (a : Addr) (q : Int64) (j : Int32) (g d : Addr) (x0_ x1_ x2_ x3_ x4_ : Int64) (i0_ i1_ i2_ i3_ i4_ : Int32) (h0 : Heap) (n0 : Nat) (Z_ : n0 ≤ h0.size) (E_a : Exa Z h0 a "com/example/cachewright/cachewright/placement/CandidateHeap") (F_a_gains : Fld Z h0 a "com/example/cachewright/cachewright/placement/CandidateHeap" "gains" "[J" (.ref g)) (F_a_ids : Fld Z h0 a "com/example/cachewright/cachewright/placement/CandidateHeap" "ids" "[I" (.ref d)) (F_a_size : Fld Z h0 a "com/example/cachewright/cachewright/placement/CandidateHeap" "size" "I" (.int (3 : Int32))) (g_a : n0 ≤ a) (A_g : AJ Z h0 g (x0_ :: x1_ :: x2_ :: x3_ :: x4_ :: own_zJ)) (A_d : AI Z h0 d .int (i0_ :: i1_ :: i2_ :: i3_ :: i4_ :: own_zI)) (g_g : n0 ≤ g) (g_d : n0 ≤ d) (ne_a_g : a ≠ g) (ne_a_d : a ≠ d) (ne_g_d : g ≠ d) :
    Met l (⟨"com/example/cachewright/cachewright/placement/CandidateHeap", "push", "(JI)V"⟩ : MethodName) prog_9_method_6_code 6 none [] ({ frames := 1, cells := 0, slots := 0, locals := 17 } : Room) Z n0 #[(.ref a), (.long q), (.int j)] h0 (fun v h => v = none ∧ Keep h0 h [a, g, d] ∧ Fld Z h a "com/example/cachewright/cachewright/placement/CandidateHeap" "gains" "[J" (.ref g) ∧ Fld Z h a "com/example/cachewright/cachewright/placement/CandidateHeap" "ids" "[I" (.ref d) ∧ Fld Z h a "com/example/cachewright/cachewright/placement/CandidateHeap" "size" "I" (.int (4 : Int32)) ∧ AJ Z h g ((own_p3 own_lt (x0_, i0_) (x1_, i1_) (x2_, i2_) (q, j)).1.1 :: (own_p3 own_lt (x0_, i0_) (x1_, i1_) (x2_, i2_) (q, j)).2.1.1 :: (own_p3 own_lt (x0_, i0_) (x1_, i1_) (x2_, i2_) (q, j)).2.2.1.1 :: (own_p3 own_lt (x0_, i0_) (x1_, i1_) (x2_, i2_) (q, j)).2.2.2.1 :: x4_ :: own_zJ) ∧ AI Z h d .int ((own_p3 own_lt (x0_, i0_) (x1_, i1_) (x2_, i2_) (q, j)).1.2 :: (own_p3 own_lt (x0_, i0_) (x1_, i1_) (x2_, i2_) (q, j)).2.1.2 :: (own_p3 own_lt (x0_, i0_) (x1_, i1_) (x2_, i2_) (q, j)).2.2.1.2 :: (own_p3 own_lt (x0_, i0_) (x1_, i1_) (x2_, i2_) (q, j)).2.2.2.2 :: i4_ :: own_zI)) := by
  refine own_met pn4 (fun m => ef4 m a q j) ?_
  intro p e s m below meth c C
  have K_ : Keep h0 h0 [a, g, d] := Keep.refl _ _
  refine own_aloadN (pc' := 1) C d4_0 rfl rfl rfl ?_
  refine own_getfield (pc' := 4) C d4_1 (hw _ (List.mem_of_getElem? (i := 24) rfl)) F_a_size rfl ?_
  refine own_aloadN (pc' := 5) C d4_4 rfl rfl rfl ?_
  refine own_getfield (pc' := 8) C d4_5 (hw _ (List.mem_of_getElem? (i := 17) rfl)) F_a_ids rfl ?_
  refine own_lenI (pc' := 9) (v := (64 : Int32)) C d4_8 A_d rfl rfl ?_
  refine own_icmp_ne (pt := 46) (pf := 12) C d4_9 (by decide) (by decide) rfl (fun _ => ?_) (fun q => absurd q (by decide))
  refine own_aloadN (pc' := 47) C d4_46 rfl rfl rfl ?_
  refine own_dup (pc' := 48) C d4_47 rfl rfl ?_
  refine own_getfield (pc' := 51) C d4_48 (hw _ (List.mem_of_getElem? (i := 24) rfl)) F_a_size rfl ?_
  refine own_dupX1 (pc' := 52) C d4_51 rfl rfl rfl ?_
  refine own_iconst (pc' := 53) (v := (1 : Int32)) C d4_52 own_ki_1 rfl ?_
  refine own_iadd (pc' := 54) (v := (4 : Int32)) C d4_53 (by decide) rfl ?_
  refine own_putfield (pc' := 57) C d4_54 (hw _ (List.mem_of_getElem? (i := 24) rfl)) F_a_size E_a (Or.inl (hw _ (List.mem_of_getElem? (i := 25) rfl))) (hw _ (List.mem_of_getElem? (i := 5) rfl)) (ty := .int) (by decide) rfl rfl g_a rfl ?_
  intro h1 W1 F1_
  replace E_a := E_a.wr W1
  replace F_a_gains := F_a_gains.other W1 (Or.inr (slot_ne (Or.inl (hw _ (List.mem_of_getElem? (i := 15) rfl))) (Or.inl (hw _ (List.mem_of_getElem? (i := 25) rfl))) (by decide) (t := (.array .long)) (t' := .int) (by decide) (by decide)))
  replace F_a_ids := F_a_ids.other W1 (Or.inr (slot_ne (Or.inl (hw _ (List.mem_of_getElem? (i := 18) rfl))) (Or.inl (hw _ (List.mem_of_getElem? (i := 25) rfl))) (by decide) (t := (.array .int)) (t' := .int) (by decide) (by decide)))
  replace A_g := A_g.other W1 (Ne.symm ne_a_g)
  replace A_d := A_d.other W1 (Ne.symm ne_a_d)
  replace F_a_size := F1_
  replace Z_ : n0 ≤ _ := Nat.le_trans Z_ (Nat.le_of_eq W1.size.symm)
  replace K_ := K_.wr W1 (Or.inl (List.mem_of_getElem? (i := 0) rfl))
  refine own_istore (pc' := 59) (y := (3 : Int32)) (Ls' := #[.val (.ref a), .val (.long q), .second, .val (.int j), .val (.int (3 : Int32)), .unset]) C d4_57 rfl rfl rfl ?_
  refine own_iload (pc' := 61) C d4_59 rfl rfl ?_
  refine own_if_le (pt := 132) (pf := 64) C d4_61 (by decide) (by decide) rfl (fun q => absurd (by decide) q) (fun _ => ?_)
  refine own_iload (pc' := 66) C d4_64 rfl rfl ?_
  refine own_iconst (pc' := 67) (v := (1 : Int32)) C d4_66 own_ki_1 rfl ?_
  refine own_isub (pc' := 68) (v := (2 : Int32)) C d4_67 (by decide) rfl ?_
  refine own_iconst (pc' := 69) (v := (2 : Int32)) C d4_68 own_ki_2 rfl ?_
  refine own_idiv (pc' := 70) (v := (1 : Int32)) C d4_69 (by decide) (by decide) rfl ?_
  refine own_istore (pc' := 72) (y := (1 : Int32)) (Ls' := #[.val (.ref a), .val (.long q), .second, .val (.int j), .val (.int (3 : Int32)), .val (.int (1 : Int32))]) C d4_70 rfl rfl rfl ?_
  refine own_lloadN (pc' := 73) C d4_72 rfl rfl ?_
  refine own_iloadN (pc' := 74) C d4_73 rfl rfl ?_
  refine own_aloadN (pc' := 75) C d4_74 rfl rfl rfl ?_
  refine own_getfield (pc' := 78) C d4_75 (hw _ (List.mem_of_getElem? (i := 14) rfl)) F_a_gains rfl ?_
  refine own_iload (pc' := 80) C d4_78 rfl rfl ?_
  refine own_laload (pc' := 81) (v := x1_) (i := 1) C d4_80 A_g (by decide) rfl rfl rfl ?_
  refine own_aloadN (pc' := 82) C d4_81 rfl rfl rfl ?_
  refine own_getfield (pc' := 85) C d4_82 (hw _ (List.mem_of_getElem? (i := 17) rfl)) F_a_ids rfl ?_
  refine own_iload (pc' := 87) C d4_85 rfl rfl ?_
  refine own_iaload (pc' := 88) (v := i1_) (i := 1) C d4_87 A_d (by decide) rfl rfl rfl ?_
  refine own_callS (pc' := 91) (wL := 0) (argsL := [(.long q), (.int j), (.long x1_), (.int i1_)]) (rest := []) C (own_m5 l Z a0 hw q j x1_ i1_ h1 n0 Z_) d4_88 (hw _ (List.mem_of_getElem? (i := 26) rfl)) (hw _ (List.mem_of_getElem? (i := 27) rfl)) (hw _ (List.mem_of_getElem? (i := 6) rfl)) (hw _ (List.mem_of_getElem? (i := 28) rfl)) (by decide) (by decide) (by decide) rfl (lenOf pd5 rfl) rfl rfl (Nat.le_of_eq rfl) (by decide) (by decide) rfl ?_
  rintro _ _ ⟨rfl, rfl⟩
  show Wp p l e _ s m _ below meth c n0 _ h1 0 0 (mkF m 91 #[.val (.ref a), .val (.long q), .second, .val (.int j), .val (.int (3 : Int32)), .val (.int (1 : Int32))] [(.int (own_f5 q j x1_ i1_))])
  refine own_if_ne (pt := 97) (pf := 94) C d4_91 (by decide) (by decide) rfl ?_ ?_
  · intro hc91
    refine own_aloadN (pc' := 98) C d4_97 rfl rfl rfl ?_
    refine own_getfield (pc' := 101) C d4_98 (hw _ (List.mem_of_getElem? (i := 14) rfl)) F_a_gains rfl ?_
    refine own_iload (pc' := 103) C d4_101 rfl rfl ?_
    refine own_aloadN (pc' := 104) C d4_103 rfl rfl rfl ?_
    refine own_getfield (pc' := 107) C d4_104 (hw _ (List.mem_of_getElem? (i := 14) rfl)) F_a_gains rfl ?_
    refine own_iload (pc' := 109) C d4_107 rfl rfl ?_
    refine own_laload (pc' := 110) (v := x1_) (i := 1) C d4_109 A_g (by decide) rfl rfl rfl ?_
    refine own_lastore (pc' := 111) (i := 3) (ys := (x0_ :: x1_ :: x2_ :: x1_ :: x4_ :: own_zJ)) C d4_110 A_g (by decide) rfl (Nat.le_of_ble_eq_true rfl) rfl g_g rfl ?_
    intro h2 W2 A2_
    replace E_a := E_a.wr W2
    replace F_a_gains := F_a_gains.other W2 (Or.inl ne_a_g)
    replace F_a_ids := F_a_ids.other W2 (Or.inl ne_a_g)
    replace F_a_size := F_a_size.other W2 (Or.inl ne_a_g)
    replace A_d := A_d.other W2 (Ne.symm ne_g_d)
    replace A_g := A2_
    replace Z_ : n0 ≤ _ := Nat.le_trans Z_ (Nat.le_of_eq W2.size.symm)
    replace K_ := K_.wr W2 (Or.inl (List.mem_of_getElem? (i := 1) rfl))
    refine own_aloadN (pc' := 112) C d4_111 rfl rfl rfl ?_
    refine own_getfield (pc' := 115) C d4_112 (hw _ (List.mem_of_getElem? (i := 17) rfl)) F_a_ids rfl ?_
    refine own_iload (pc' := 117) C d4_115 rfl rfl ?_
    refine own_aloadN (pc' := 118) C d4_117 rfl rfl rfl ?_
    refine own_getfield (pc' := 121) C d4_118 (hw _ (List.mem_of_getElem? (i := 17) rfl)) F_a_ids rfl ?_
    refine own_iload (pc' := 123) C d4_121 rfl rfl ?_
    refine own_iaload (pc' := 124) (v := i1_) (i := 1) C d4_123 A_d (by decide) rfl rfl rfl ?_
    refine own_iastore (pc' := 125) (i := 3) (ys := (i0_ :: i1_ :: i2_ :: i1_ :: i4_ :: own_zI)) C d4_124 A_d (by decide) rfl (Nat.le_of_ble_eq_true rfl) rfl g_d rfl ?_
    intro h3 W3 A3_
    replace E_a := E_a.wr W3
    replace F_a_gains := F_a_gains.other W3 (Or.inl ne_a_d)
    replace F_a_ids := F_a_ids.other W3 (Or.inl ne_a_d)
    replace F_a_size := F_a_size.other W3 (Or.inl ne_a_d)
    replace A_g := A_g.other W3 ne_g_d
    replace A_d := A3_
    replace Z_ : n0 ≤ _ := Nat.le_trans Z_ (Nat.le_of_eq W3.size.symm)
    replace K_ := K_.wr W3 (Or.inl (List.mem_of_getElem? (i := 2) rfl))
    refine own_iload (pc' := 127) C d4_125 rfl rfl ?_
    refine own_istore (pc' := 129) (y := (1 : Int32)) (Ls' := #[.val (.ref a), .val (.long q), .second, .val (.int j), .val (.int (1 : Int32)), .val (.int (1 : Int32))]) C d4_127 rfl rfl rfl ?_
    refine own_goto (pc' := 59) C d4_129 (by decide) (by decide) ?_
    refine own_iload (pc' := 61) C d4_59 rfl rfl ?_
    refine own_if_le (pt := 132) (pf := 64) C d4_61 (by decide) (by decide) rfl (fun q => absurd (by decide) q) (fun _ => ?_)
    refine own_iload (pc' := 66) C d4_64 rfl rfl ?_
    refine own_iconst (pc' := 67) (v := (1 : Int32)) C d4_66 own_ki_1 rfl ?_
    refine own_isub (pc' := 68) (v := (0 : Int32)) C d4_67 (by decide) rfl ?_
    refine own_iconst (pc' := 69) (v := (2 : Int32)) C d4_68 own_ki_2 rfl ?_
    refine own_idiv (pc' := 70) (v := (0 : Int32)) C d4_69 (by decide) (by decide) rfl ?_
    refine own_istore (pc' := 72) (y := (0 : Int32)) (Ls' := #[.val (.ref a), .val (.long q), .second, .val (.int j), .val (.int (1 : Int32)), .val (.int (0 : Int32))]) C d4_70 rfl rfl rfl ?_
    refine own_lloadN (pc' := 73) C d4_72 rfl rfl ?_
    refine own_iloadN (pc' := 74) C d4_73 rfl rfl ?_
    refine own_aloadN (pc' := 75) C d4_74 rfl rfl rfl ?_
    refine own_getfield (pc' := 78) C d4_75 (hw _ (List.mem_of_getElem? (i := 14) rfl)) F_a_gains rfl ?_
    refine own_iload (pc' := 80) C d4_78 rfl rfl ?_
    refine own_laload (pc' := 81) (v := x0_) (i := 0) C d4_80 A_g (by decide) rfl rfl rfl ?_
    refine own_aloadN (pc' := 82) C d4_81 rfl rfl rfl ?_
    refine own_getfield (pc' := 85) C d4_82 (hw _ (List.mem_of_getElem? (i := 17) rfl)) F_a_ids rfl ?_
    refine own_iload (pc' := 87) C d4_85 rfl rfl ?_
    refine own_iaload (pc' := 88) (v := i0_) (i := 0) C d4_87 A_d (by decide) rfl rfl rfl ?_
    refine own_callS (pc' := 91) (wL := 0) (argsL := [(.long q), (.int j), (.long x0_), (.int i0_)]) (rest := []) C (own_m5 l Z a0 hw q j x0_ i0_ h3 n0 Z_) d4_88 (hw _ (List.mem_of_getElem? (i := 26) rfl)) (hw _ (List.mem_of_getElem? (i := 27) rfl)) (hw _ (List.mem_of_getElem? (i := 6) rfl)) (hw _ (List.mem_of_getElem? (i := 28) rfl)) (by decide) (by decide) (by decide) rfl (lenOf pd5 rfl) rfl rfl (Nat.le_of_eq rfl) (by decide) (by decide) rfl ?_
    rintro _ _ ⟨rfl, rfl⟩
    show Wp p l e _ s m _ below meth c n0 _ h3 0 0 (mkF m 91 #[.val (.ref a), .val (.long q), .second, .val (.int j), .val (.int (1 : Int32)), .val (.int (0 : Int32))] [(.int (own_f5 q j x0_ i0_))])
    refine own_if_ne (pt := 97) (pf := 94) C d4_91 (by decide) (by decide) rfl ?_ ?_
    · intro hc91_2
      refine own_aloadN (pc' := 98) C d4_97 rfl rfl rfl ?_
      refine own_getfield (pc' := 101) C d4_98 (hw _ (List.mem_of_getElem? (i := 14) rfl)) F_a_gains rfl ?_
      refine own_iload (pc' := 103) C d4_101 rfl rfl ?_
      refine own_aloadN (pc' := 104) C d4_103 rfl rfl rfl ?_
      refine own_getfield (pc' := 107) C d4_104 (hw _ (List.mem_of_getElem? (i := 14) rfl)) F_a_gains rfl ?_
      refine own_iload (pc' := 109) C d4_107 rfl rfl ?_
      refine own_laload (pc' := 110) (v := x0_) (i := 0) C d4_109 A_g (by decide) rfl rfl rfl ?_
      refine own_lastore (pc' := 111) (i := 1) (ys := (x0_ :: x0_ :: x2_ :: x1_ :: x4_ :: own_zJ)) C d4_110 A_g (by decide) rfl (Nat.le_of_ble_eq_true rfl) rfl g_g rfl ?_
      intro h4 W4 A4_
      replace E_a := E_a.wr W4
      replace F_a_gains := F_a_gains.other W4 (Or.inl ne_a_g)
      replace F_a_ids := F_a_ids.other W4 (Or.inl ne_a_g)
      replace F_a_size := F_a_size.other W4 (Or.inl ne_a_g)
      replace A_d := A_d.other W4 (Ne.symm ne_g_d)
      replace A_g := A4_
      replace Z_ : n0 ≤ _ := Nat.le_trans Z_ (Nat.le_of_eq W4.size.symm)
      replace K_ := K_.wr W4 (Or.inl (List.mem_of_getElem? (i := 1) rfl))
      refine own_aloadN (pc' := 112) C d4_111 rfl rfl rfl ?_
      refine own_getfield (pc' := 115) C d4_112 (hw _ (List.mem_of_getElem? (i := 17) rfl)) F_a_ids rfl ?_
      refine own_iload (pc' := 117) C d4_115 rfl rfl ?_
      refine own_aloadN (pc' := 118) C d4_117 rfl rfl rfl ?_
      refine own_getfield (pc' := 121) C d4_118 (hw _ (List.mem_of_getElem? (i := 17) rfl)) F_a_ids rfl ?_
      refine own_iload (pc' := 123) C d4_121 rfl rfl ?_
      refine own_iaload (pc' := 124) (v := i0_) (i := 0) C d4_123 A_d (by decide) rfl rfl rfl ?_
      refine own_iastore (pc' := 125) (i := 1) (ys := (i0_ :: i0_ :: i2_ :: i1_ :: i4_ :: own_zI)) C d4_124 A_d (by decide) rfl (Nat.le_of_ble_eq_true rfl) rfl g_d rfl ?_
      intro h5 W5 A5_
      replace E_a := E_a.wr W5
      replace F_a_gains := F_a_gains.other W5 (Or.inl ne_a_d)
      replace F_a_ids := F_a_ids.other W5 (Or.inl ne_a_d)
      replace F_a_size := F_a_size.other W5 (Or.inl ne_a_d)
      replace A_g := A_g.other W5 ne_g_d
      replace A_d := A5_
      replace Z_ : n0 ≤ _ := Nat.le_trans Z_ (Nat.le_of_eq W5.size.symm)
      replace K_ := K_.wr W5 (Or.inl (List.mem_of_getElem? (i := 2) rfl))
      refine own_iload (pc' := 127) C d4_125 rfl rfl ?_
      refine own_istore (pc' := 129) (y := (0 : Int32)) (Ls' := #[.val (.ref a), .val (.long q), .second, .val (.int j), .val (.int (0 : Int32)), .val (.int (0 : Int32))]) C d4_127 rfl rfl rfl ?_
      refine own_goto (pc' := 59) C d4_129 (by decide) (by decide) ?_
      refine own_iload (pc' := 61) C d4_59 rfl rfl ?_
      refine own_if_le (pt := 132) (pf := 64) C d4_61 (by decide) (by decide) rfl (fun _ => ?_) (fun q => absurd q (by decide))
      refine own_aloadN (pc' := 133) C d4_132 rfl rfl rfl ?_
      refine own_getfield (pc' := 136) C d4_133 (hw _ (List.mem_of_getElem? (i := 14) rfl)) F_a_gains rfl ?_
      refine own_iload (pc' := 138) C d4_136 rfl rfl ?_
      refine own_lloadN (pc' := 139) C d4_138 rfl rfl ?_
      refine own_lastore (pc' := 140) (i := 0) (ys := (q :: x0_ :: x2_ :: x1_ :: x4_ :: own_zJ)) C d4_139 A_g (by decide) rfl (Nat.le_of_ble_eq_true rfl) rfl g_g rfl ?_
      intro h6 W6 A6_
      replace E_a := E_a.wr W6
      replace F_a_gains := F_a_gains.other W6 (Or.inl ne_a_g)
      replace F_a_ids := F_a_ids.other W6 (Or.inl ne_a_g)
      replace F_a_size := F_a_size.other W6 (Or.inl ne_a_g)
      replace A_d := A_d.other W6 (Ne.symm ne_g_d)
      replace A_g := A6_
      replace Z_ : n0 ≤ _ := Nat.le_trans Z_ (Nat.le_of_eq W6.size.symm)
      replace K_ := K_.wr W6 (Or.inl (List.mem_of_getElem? (i := 1) rfl))
      refine own_aloadN (pc' := 141) C d4_140 rfl rfl rfl ?_
      refine own_getfield (pc' := 144) C d4_141 (hw _ (List.mem_of_getElem? (i := 17) rfl)) F_a_ids rfl ?_
      refine own_iload (pc' := 146) C d4_144 rfl rfl ?_
      refine own_iloadN (pc' := 147) C d4_146 rfl rfl ?_
      refine own_iastore (pc' := 148) (i := 0) (ys := (j :: i0_ :: i2_ :: i1_ :: i4_ :: own_zI)) C d4_147 A_d (by decide) rfl (Nat.le_of_ble_eq_true rfl) rfl g_d rfl ?_
      intro h7 W7 A7_
      replace E_a := E_a.wr W7
      replace F_a_gains := F_a_gains.other W7 (Or.inl ne_a_d)
      replace F_a_ids := F_a_ids.other W7 (Or.inl ne_a_d)
      replace F_a_size := F_a_size.other W7 (Or.inl ne_a_d)
      replace A_g := A_g.other W7 ne_g_d
      replace A_d := A7_
      replace Z_ : n0 ≤ _ := Nat.le_trans Z_ (Nat.le_of_eq W7.size.symm)
      replace K_ := K_.wr W7 (Or.inl (List.mem_of_getElem? (i := 2) rfl))
      refine own_vret C d4_148 (by decide) (by decide) ?_
      have l_hc91 : own_lt (q, j) (x1_, i1_) = true := by simp [own_lt, hc91]
      have l_hc91_2 : own_lt (q, j) (x0_, i0_) = true := by simp [own_lt, hc91_2]
      refine ⟨rfl, K_, F_a_gains, F_a_ids, F_a_size, ?_, ?_⟩
      · simp only [own_p3, l_hc91, l_hc91_2, if_true, if_false, Bool.false_eq_true]; exact A_g
      · simp only [own_p3, l_hc91, l_hc91_2, if_true, if_false, Bool.false_eq_true]; exact A_d
    · intro hc91_2
      refine own_goto (pc' := 132) C d4_94 (by decide) (by decide) ?_
      refine own_aloadN (pc' := 133) C d4_132 rfl rfl rfl ?_
      refine own_getfield (pc' := 136) C d4_133 (hw _ (List.mem_of_getElem? (i := 14) rfl)) F_a_gains rfl ?_
      refine own_iload (pc' := 138) C d4_136 rfl rfl ?_
      refine own_lloadN (pc' := 139) C d4_138 rfl rfl ?_
      refine own_lastore (pc' := 140) (i := 1) (ys := (x0_ :: q :: x2_ :: x1_ :: x4_ :: own_zJ)) C d4_139 A_g (by decide) rfl (Nat.le_of_ble_eq_true rfl) rfl g_g rfl ?_
      intro h4 W4 A4_
      replace E_a := E_a.wr W4
      replace F_a_gains := F_a_gains.other W4 (Or.inl ne_a_g)
      replace F_a_ids := F_a_ids.other W4 (Or.inl ne_a_g)
      replace F_a_size := F_a_size.other W4 (Or.inl ne_a_g)
      replace A_d := A_d.other W4 (Ne.symm ne_g_d)
      replace A_g := A4_
      replace Z_ : n0 ≤ _ := Nat.le_trans Z_ (Nat.le_of_eq W4.size.symm)
      replace K_ := K_.wr W4 (Or.inl (List.mem_of_getElem? (i := 1) rfl))
      refine own_aloadN (pc' := 141) C d4_140 rfl rfl rfl ?_
      refine own_getfield (pc' := 144) C d4_141 (hw _ (List.mem_of_getElem? (i := 17) rfl)) F_a_ids rfl ?_
      refine own_iload (pc' := 146) C d4_144 rfl rfl ?_
      refine own_iloadN (pc' := 147) C d4_146 rfl rfl ?_
      refine own_iastore (pc' := 148) (i := 1) (ys := (i0_ :: j :: i2_ :: i1_ :: i4_ :: own_zI)) C d4_147 A_d (by decide) rfl (Nat.le_of_ble_eq_true rfl) rfl g_d rfl ?_
      intro h5 W5 A5_
      replace E_a := E_a.wr W5
      replace F_a_gains := F_a_gains.other W5 (Or.inl ne_a_d)
      replace F_a_ids := F_a_ids.other W5 (Or.inl ne_a_d)
      replace F_a_size := F_a_size.other W5 (Or.inl ne_a_d)
      replace A_g := A_g.other W5 ne_g_d
      replace A_d := A5_
      replace Z_ : n0 ≤ _ := Nat.le_trans Z_ (Nat.le_of_eq W5.size.symm)
      replace K_ := K_.wr W5 (Or.inl (List.mem_of_getElem? (i := 2) rfl))
      refine own_vret C d4_148 (by decide) (by decide) ?_
      have l_hc91 : own_lt (q, j) (x1_, i1_) = true := by simp [own_lt, hc91]
      have l_hc91_2 : own_lt (q, j) (x0_, i0_) = false := by simp [own_lt, hc91_2]
      refine ⟨rfl, K_, F_a_gains, F_a_ids, F_a_size, ?_, ?_⟩
      · simp only [own_p3, l_hc91, l_hc91_2, if_true, if_false, Bool.false_eq_true]; exact A_g
      · simp only [own_p3, l_hc91, l_hc91_2, if_true, if_false, Bool.false_eq_true]; exact A_d
  · intro hc91
    refine own_goto (pc' := 132) C d4_94 (by decide) (by decide) ?_
    refine own_aloadN (pc' := 133) C d4_132 rfl rfl rfl ?_
    refine own_getfield (pc' := 136) C d4_133 (hw _ (List.mem_of_getElem? (i := 14) rfl)) F_a_gains rfl ?_
    refine own_iload (pc' := 138) C d4_136 rfl rfl ?_
    refine own_lloadN (pc' := 139) C d4_138 rfl rfl ?_
    refine own_lastore (pc' := 140) (i := 3) (ys := (x0_ :: x1_ :: x2_ :: q :: x4_ :: own_zJ)) C d4_139 A_g (by decide) rfl (Nat.le_of_ble_eq_true rfl) rfl g_g rfl ?_
    intro h2 W2 A2_
    replace E_a := E_a.wr W2
    replace F_a_gains := F_a_gains.other W2 (Or.inl ne_a_g)
    replace F_a_ids := F_a_ids.other W2 (Or.inl ne_a_g)
    replace F_a_size := F_a_size.other W2 (Or.inl ne_a_g)
    replace A_d := A_d.other W2 (Ne.symm ne_g_d)
    replace A_g := A2_
    replace Z_ : n0 ≤ _ := Nat.le_trans Z_ (Nat.le_of_eq W2.size.symm)
    replace K_ := K_.wr W2 (Or.inl (List.mem_of_getElem? (i := 1) rfl))
    refine own_aloadN (pc' := 141) C d4_140 rfl rfl rfl ?_
    refine own_getfield (pc' := 144) C d4_141 (hw _ (List.mem_of_getElem? (i := 17) rfl)) F_a_ids rfl ?_
    refine own_iload (pc' := 146) C d4_144 rfl rfl ?_
    refine own_iloadN (pc' := 147) C d4_146 rfl rfl ?_
    refine own_iastore (pc' := 148) (i := 3) (ys := (i0_ :: i1_ :: i2_ :: j :: i4_ :: own_zI)) C d4_147 A_d (by decide) rfl (Nat.le_of_ble_eq_true rfl) rfl g_d rfl ?_
    intro h3 W3 A3_
    replace E_a := E_a.wr W3
    replace F_a_gains := F_a_gains.other W3 (Or.inl ne_a_d)
    replace F_a_ids := F_a_ids.other W3 (Or.inl ne_a_d)
    replace F_a_size := F_a_size.other W3 (Or.inl ne_a_d)
    replace A_g := A_g.other W3 ne_g_d
    replace A_d := A3_
    replace Z_ : n0 ≤ _ := Nat.le_trans Z_ (Nat.le_of_eq W3.size.symm)
    replace K_ := K_.wr W3 (Or.inl (List.mem_of_getElem? (i := 2) rfl))
    refine own_vret C d4_148 (by decide) (by decide) ?_
    have l_hc91 : own_lt (q, j) (x1_, i1_) = false := by simp [own_lt, hc91]
    refine ⟨rfl, K_, F_a_gains, F_a_ids, F_a_size, ?_, ?_⟩
    · simp only [own_p3, l_hc91, if_true, if_false, Bool.false_eq_true]; exact A_g
    · simp only [own_p3, l_hc91, if_true, if_false, Bool.false_eq_true]; exact A_d

set_option maxRecDepth 65536 in
set_option maxHeartbeats 40000000 in
theorem own_push4 (l : Launch) (Z : State) (a0 : Array Value) (hw : ∀ d ∈ tables_1, d.before a0 Z = true) (a : Addr) (q : Int64) (j : Int32) (g d : Addr) (x0_ x1_ x2_ x3_ x4_ : Int64) (i0_ i1_ i2_ i3_ i4_ : Int32) (h0 : Heap) (n0 : Nat) (Z_ : n0 ≤ h0.size) (E_a : Exa Z h0 a "com/example/cachewright/cachewright/placement/CandidateHeap") (F_a_gains : Fld Z h0 a "com/example/cachewright/cachewright/placement/CandidateHeap" "gains" "[J" (.ref g)) (F_a_ids : Fld Z h0 a "com/example/cachewright/cachewright/placement/CandidateHeap" "ids" "[I" (.ref d)) (F_a_size : Fld Z h0 a "com/example/cachewright/cachewright/placement/CandidateHeap" "size" "I" (.int (4 : Int32))) (g_a : n0 ≤ a) (A_g : AJ Z h0 g (x0_ :: x1_ :: x2_ :: x3_ :: x4_ :: own_zJ)) (A_d : AI Z h0 d .int (i0_ :: i1_ :: i2_ :: i3_ :: i4_ :: own_zI)) (g_g : n0 ≤ g) (g_d : n0 ≤ d) (ne_a_g : a ≠ g) (ne_a_d : a ≠ d) (ne_g_d : g ≠ d) :
    Met l (⟨"com/example/cachewright/cachewright/placement/CandidateHeap", "push", "(JI)V"⟩ : MethodName) prog_9_method_6_code 6 none [] ({ frames := 1, cells := 0, slots := 0, locals := 17 } : Room) Z n0 #[(.ref a), (.long q), (.int j)] h0 (fun v h => v = none ∧ Keep h0 h [a, g, d] ∧ Fld Z h a "com/example/cachewright/cachewright/placement/CandidateHeap" "gains" "[J" (.ref g) ∧ Fld Z h a "com/example/cachewright/cachewright/placement/CandidateHeap" "ids" "[I" (.ref d) ∧ Fld Z h a "com/example/cachewright/cachewright/placement/CandidateHeap" "size" "I" (.int (5 : Int32)) ∧ AJ Z h g ((own_p4 own_lt (x0_, i0_) (x1_, i1_) (x2_, i2_) (x3_, i3_) (q, j)).1.1 :: (own_p4 own_lt (x0_, i0_) (x1_, i1_) (x2_, i2_) (x3_, i3_) (q, j)).2.1.1 :: (own_p4 own_lt (x0_, i0_) (x1_, i1_) (x2_, i2_) (x3_, i3_) (q, j)).2.2.1.1 :: (own_p4 own_lt (x0_, i0_) (x1_, i1_) (x2_, i2_) (x3_, i3_) (q, j)).2.2.2.1.1 :: (own_p4 own_lt (x0_, i0_) (x1_, i1_) (x2_, i2_) (x3_, i3_) (q, j)).2.2.2.2.1 :: own_zJ) ∧ AI Z h d .int ((own_p4 own_lt (x0_, i0_) (x1_, i1_) (x2_, i2_) (x3_, i3_) (q, j)).1.2 :: (own_p4 own_lt (x0_, i0_) (x1_, i1_) (x2_, i2_) (x3_, i3_) (q, j)).2.1.2 :: (own_p4 own_lt (x0_, i0_) (x1_, i1_) (x2_, i2_) (x3_, i3_) (q, j)).2.2.1.2 :: (own_p4 own_lt (x0_, i0_) (x1_, i1_) (x2_, i2_) (x3_, i3_) (q, j)).2.2.2.1.2 :: (own_p4 own_lt (x0_, i0_) (x1_, i1_) (x2_, i2_) (x3_, i3_) (q, j)).2.2.2.2.2 :: own_zI)) := by
  refine own_met pn4 (fun m => ef4 m a q j) ?_
  intro p e s m below meth c C
  have K_ : Keep h0 h0 [a, g, d] := Keep.refl _ _
  refine own_aloadN (pc' := 1) C d4_0 rfl rfl rfl ?_
  refine own_getfield (pc' := 4) C d4_1 (hw _ (List.mem_of_getElem? (i := 24) rfl)) F_a_size rfl ?_
  refine own_aloadN (pc' := 5) C d4_4 rfl rfl rfl ?_
  refine own_getfield (pc' := 8) C d4_5 (hw _ (List.mem_of_getElem? (i := 17) rfl)) F_a_ids rfl ?_
  refine own_lenI (pc' := 9) (v := (64 : Int32)) C d4_8 A_d rfl rfl ?_
  refine own_icmp_ne (pt := 46) (pf := 12) C d4_9 (by decide) (by decide) rfl (fun _ => ?_) (fun q => absurd q (by decide))
  refine own_aloadN (pc' := 47) C d4_46 rfl rfl rfl ?_
  refine own_dup (pc' := 48) C d4_47 rfl rfl ?_
  refine own_getfield (pc' := 51) C d4_48 (hw _ (List.mem_of_getElem? (i := 24) rfl)) F_a_size rfl ?_
  refine own_dupX1 (pc' := 52) C d4_51 rfl rfl rfl ?_
  refine own_iconst (pc' := 53) (v := (1 : Int32)) C d4_52 own_ki_1 rfl ?_
  refine own_iadd (pc' := 54) (v := (5 : Int32)) C d4_53 (by decide) rfl ?_
  refine own_putfield (pc' := 57) C d4_54 (hw _ (List.mem_of_getElem? (i := 24) rfl)) F_a_size E_a (Or.inl (hw _ (List.mem_of_getElem? (i := 25) rfl))) (hw _ (List.mem_of_getElem? (i := 5) rfl)) (ty := .int) (by decide) rfl rfl g_a rfl ?_
  intro h1 W1 F1_
  replace E_a := E_a.wr W1
  replace F_a_gains := F_a_gains.other W1 (Or.inr (slot_ne (Or.inl (hw _ (List.mem_of_getElem? (i := 15) rfl))) (Or.inl (hw _ (List.mem_of_getElem? (i := 25) rfl))) (by decide) (t := (.array .long)) (t' := .int) (by decide) (by decide)))
  replace F_a_ids := F_a_ids.other W1 (Or.inr (slot_ne (Or.inl (hw _ (List.mem_of_getElem? (i := 18) rfl))) (Or.inl (hw _ (List.mem_of_getElem? (i := 25) rfl))) (by decide) (t := (.array .int)) (t' := .int) (by decide) (by decide)))
  replace A_g := A_g.other W1 (Ne.symm ne_a_g)
  replace A_d := A_d.other W1 (Ne.symm ne_a_d)
  replace F_a_size := F1_
  replace Z_ : n0 ≤ _ := Nat.le_trans Z_ (Nat.le_of_eq W1.size.symm)
  replace K_ := K_.wr W1 (Or.inl (List.mem_of_getElem? (i := 0) rfl))
  refine own_istore (pc' := 59) (y := (4 : Int32)) (Ls' := #[.val (.ref a), .val (.long q), .second, .val (.int j), .val (.int (4 : Int32)), .unset]) C d4_57 rfl rfl rfl ?_
  refine own_iload (pc' := 61) C d4_59 rfl rfl ?_
  refine own_if_le (pt := 132) (pf := 64) C d4_61 (by decide) (by decide) rfl (fun q => absurd (by decide) q) (fun _ => ?_)
  refine own_iload (pc' := 66) C d4_64 rfl rfl ?_
  refine own_iconst (pc' := 67) (v := (1 : Int32)) C d4_66 own_ki_1 rfl ?_
  refine own_isub (pc' := 68) (v := (3 : Int32)) C d4_67 (by decide) rfl ?_
  refine own_iconst (pc' := 69) (v := (2 : Int32)) C d4_68 own_ki_2 rfl ?_
  refine own_idiv (pc' := 70) (v := (1 : Int32)) C d4_69 (by decide) (by decide) rfl ?_
  refine own_istore (pc' := 72) (y := (1 : Int32)) (Ls' := #[.val (.ref a), .val (.long q), .second, .val (.int j), .val (.int (4 : Int32)), .val (.int (1 : Int32))]) C d4_70 rfl rfl rfl ?_
  refine own_lloadN (pc' := 73) C d4_72 rfl rfl ?_
  refine own_iloadN (pc' := 74) C d4_73 rfl rfl ?_
  refine own_aloadN (pc' := 75) C d4_74 rfl rfl rfl ?_
  refine own_getfield (pc' := 78) C d4_75 (hw _ (List.mem_of_getElem? (i := 14) rfl)) F_a_gains rfl ?_
  refine own_iload (pc' := 80) C d4_78 rfl rfl ?_
  refine own_laload (pc' := 81) (v := x1_) (i := 1) C d4_80 A_g (by decide) rfl rfl rfl ?_
  refine own_aloadN (pc' := 82) C d4_81 rfl rfl rfl ?_
  refine own_getfield (pc' := 85) C d4_82 (hw _ (List.mem_of_getElem? (i := 17) rfl)) F_a_ids rfl ?_
  refine own_iload (pc' := 87) C d4_85 rfl rfl ?_
  refine own_iaload (pc' := 88) (v := i1_) (i := 1) C d4_87 A_d (by decide) rfl rfl rfl ?_
  refine own_callS (pc' := 91) (wL := 0) (argsL := [(.long q), (.int j), (.long x1_), (.int i1_)]) (rest := []) C (own_m5 l Z a0 hw q j x1_ i1_ h1 n0 Z_) d4_88 (hw _ (List.mem_of_getElem? (i := 26) rfl)) (hw _ (List.mem_of_getElem? (i := 27) rfl)) (hw _ (List.mem_of_getElem? (i := 6) rfl)) (hw _ (List.mem_of_getElem? (i := 28) rfl)) (by decide) (by decide) (by decide) rfl (lenOf pd5 rfl) rfl rfl (Nat.le_of_eq rfl) (by decide) (by decide) rfl ?_
  rintro _ _ ⟨rfl, rfl⟩
  show Wp p l e _ s m _ below meth c n0 _ h1 0 0 (mkF m 91 #[.val (.ref a), .val (.long q), .second, .val (.int j), .val (.int (4 : Int32)), .val (.int (1 : Int32))] [(.int (own_f5 q j x1_ i1_))])
  refine own_if_ne (pt := 97) (pf := 94) C d4_91 (by decide) (by decide) rfl ?_ ?_
  · intro hc91
    refine own_aloadN (pc' := 98) C d4_97 rfl rfl rfl ?_
    refine own_getfield (pc' := 101) C d4_98 (hw _ (List.mem_of_getElem? (i := 14) rfl)) F_a_gains rfl ?_
    refine own_iload (pc' := 103) C d4_101 rfl rfl ?_
    refine own_aloadN (pc' := 104) C d4_103 rfl rfl rfl ?_
    refine own_getfield (pc' := 107) C d4_104 (hw _ (List.mem_of_getElem? (i := 14) rfl)) F_a_gains rfl ?_
    refine own_iload (pc' := 109) C d4_107 rfl rfl ?_
    refine own_laload (pc' := 110) (v := x1_) (i := 1) C d4_109 A_g (by decide) rfl rfl rfl ?_
    refine own_lastore (pc' := 111) (i := 4) (ys := (x0_ :: x1_ :: x2_ :: x3_ :: x1_ :: own_zJ)) C d4_110 A_g (by decide) rfl (Nat.le_of_ble_eq_true rfl) rfl g_g rfl ?_
    intro h2 W2 A2_
    replace E_a := E_a.wr W2
    replace F_a_gains := F_a_gains.other W2 (Or.inl ne_a_g)
    replace F_a_ids := F_a_ids.other W2 (Or.inl ne_a_g)
    replace F_a_size := F_a_size.other W2 (Or.inl ne_a_g)
    replace A_d := A_d.other W2 (Ne.symm ne_g_d)
    replace A_g := A2_
    replace Z_ : n0 ≤ _ := Nat.le_trans Z_ (Nat.le_of_eq W2.size.symm)
    replace K_ := K_.wr W2 (Or.inl (List.mem_of_getElem? (i := 1) rfl))
    refine own_aloadN (pc' := 112) C d4_111 rfl rfl rfl ?_
    refine own_getfield (pc' := 115) C d4_112 (hw _ (List.mem_of_getElem? (i := 17) rfl)) F_a_ids rfl ?_
    refine own_iload (pc' := 117) C d4_115 rfl rfl ?_
    refine own_aloadN (pc' := 118) C d4_117 rfl rfl rfl ?_
    refine own_getfield (pc' := 121) C d4_118 (hw _ (List.mem_of_getElem? (i := 17) rfl)) F_a_ids rfl ?_
    refine own_iload (pc' := 123) C d4_121 rfl rfl ?_
    refine own_iaload (pc' := 124) (v := i1_) (i := 1) C d4_123 A_d (by decide) rfl rfl rfl ?_
    refine own_iastore (pc' := 125) (i := 4) (ys := (i0_ :: i1_ :: i2_ :: i3_ :: i1_ :: own_zI)) C d4_124 A_d (by decide) rfl (Nat.le_of_ble_eq_true rfl) rfl g_d rfl ?_
    intro h3 W3 A3_
    replace E_a := E_a.wr W3
    replace F_a_gains := F_a_gains.other W3 (Or.inl ne_a_d)
    replace F_a_ids := F_a_ids.other W3 (Or.inl ne_a_d)
    replace F_a_size := F_a_size.other W3 (Or.inl ne_a_d)
    replace A_g := A_g.other W3 ne_g_d
    replace A_d := A3_
    replace Z_ : n0 ≤ _ := Nat.le_trans Z_ (Nat.le_of_eq W3.size.symm)
    replace K_ := K_.wr W3 (Or.inl (List.mem_of_getElem? (i := 2) rfl))
    refine own_iload (pc' := 127) C d4_125 rfl rfl ?_
    refine own_istore (pc' := 129) (y := (1 : Int32)) (Ls' := #[.val (.ref a), .val (.long q), .second, .val (.int j), .val (.int (1 : Int32)), .val (.int (1 : Int32))]) C d4_127 rfl rfl rfl ?_
    refine own_goto (pc' := 59) C d4_129 (by decide) (by decide) ?_
    refine own_iload (pc' := 61) C d4_59 rfl rfl ?_
    refine own_if_le (pt := 132) (pf := 64) C d4_61 (by decide) (by decide) rfl (fun q => absurd (by decide) q) (fun _ => ?_)
    refine own_iload (pc' := 66) C d4_64 rfl rfl ?_
    refine own_iconst (pc' := 67) (v := (1 : Int32)) C d4_66 own_ki_1 rfl ?_
    refine own_isub (pc' := 68) (v := (0 : Int32)) C d4_67 (by decide) rfl ?_
    refine own_iconst (pc' := 69) (v := (2 : Int32)) C d4_68 own_ki_2 rfl ?_
    refine own_idiv (pc' := 70) (v := (0 : Int32)) C d4_69 (by decide) (by decide) rfl ?_
    refine own_istore (pc' := 72) (y := (0 : Int32)) (Ls' := #[.val (.ref a), .val (.long q), .second, .val (.int j), .val (.int (1 : Int32)), .val (.int (0 : Int32))]) C d4_70 rfl rfl rfl ?_
    refine own_lloadN (pc' := 73) C d4_72 rfl rfl ?_
    refine own_iloadN (pc' := 74) C d4_73 rfl rfl ?_
    refine own_aloadN (pc' := 75) C d4_74 rfl rfl rfl ?_
    refine own_getfield (pc' := 78) C d4_75 (hw _ (List.mem_of_getElem? (i := 14) rfl)) F_a_gains rfl ?_
    refine own_iload (pc' := 80) C d4_78 rfl rfl ?_
    refine own_laload (pc' := 81) (v := x0_) (i := 0) C d4_80 A_g (by decide) rfl rfl rfl ?_
    refine own_aloadN (pc' := 82) C d4_81 rfl rfl rfl ?_
    refine own_getfield (pc' := 85) C d4_82 (hw _ (List.mem_of_getElem? (i := 17) rfl)) F_a_ids rfl ?_
    refine own_iload (pc' := 87) C d4_85 rfl rfl ?_
    refine own_iaload (pc' := 88) (v := i0_) (i := 0) C d4_87 A_d (by decide) rfl rfl rfl ?_
    refine own_callS (pc' := 91) (wL := 0) (argsL := [(.long q), (.int j), (.long x0_), (.int i0_)]) (rest := []) C (own_m5 l Z a0 hw q j x0_ i0_ h3 n0 Z_) d4_88 (hw _ (List.mem_of_getElem? (i := 26) rfl)) (hw _ (List.mem_of_getElem? (i := 27) rfl)) (hw _ (List.mem_of_getElem? (i := 6) rfl)) (hw _ (List.mem_of_getElem? (i := 28) rfl)) (by decide) (by decide) (by decide) rfl (lenOf pd5 rfl) rfl rfl (Nat.le_of_eq rfl) (by decide) (by decide) rfl ?_
    rintro _ _ ⟨rfl, rfl⟩
    show Wp p l e _ s m _ below meth c n0 _ h3 0 0 (mkF m 91 #[.val (.ref a), .val (.long q), .second, .val (.int j), .val (.int (1 : Int32)), .val (.int (0 : Int32))] [(.int (own_f5 q j x0_ i0_))])
    refine own_if_ne (pt := 97) (pf := 94) C d4_91 (by decide) (by decide) rfl ?_ ?_
    · intro hc91_2
      refine own_aloadN (pc' := 98) C d4_97 rfl rfl rfl ?_
      refine own_getfield (pc' := 101) C d4_98 (hw _ (List.mem_of_getElem? (i := 14) rfl)) F_a_gains rfl ?_
      refine own_iload (pc' := 103) C d4_101 rfl rfl ?_
      refine own_aloadN (pc' := 104) C d4_103 rfl rfl rfl ?_
      refine own_getfield (pc' := 107) C d4_104 (hw _ (List.mem_of_getElem? (i := 14) rfl)) F_a_gains rfl ?_
      refine own_iload (pc' := 109) C d4_107 rfl rfl ?_
      refine own_laload (pc' := 110) (v := x0_) (i := 0) C d4_109 A_g (by decide) rfl rfl rfl ?_
      refine own_lastore (pc' := 111) (i := 1) (ys := (x0_ :: x0_ :: x2_ :: x3_ :: x1_ :: own_zJ)) C d4_110 A_g (by decide) rfl (Nat.le_of_ble_eq_true rfl) rfl g_g rfl ?_
      intro h4 W4 A4_
      replace E_a := E_a.wr W4
      replace F_a_gains := F_a_gains.other W4 (Or.inl ne_a_g)
      replace F_a_ids := F_a_ids.other W4 (Or.inl ne_a_g)
      replace F_a_size := F_a_size.other W4 (Or.inl ne_a_g)
      replace A_d := A_d.other W4 (Ne.symm ne_g_d)
      replace A_g := A4_
      replace Z_ : n0 ≤ _ := Nat.le_trans Z_ (Nat.le_of_eq W4.size.symm)
      replace K_ := K_.wr W4 (Or.inl (List.mem_of_getElem? (i := 1) rfl))
      refine own_aloadN (pc' := 112) C d4_111 rfl rfl rfl ?_
      refine own_getfield (pc' := 115) C d4_112 (hw _ (List.mem_of_getElem? (i := 17) rfl)) F_a_ids rfl ?_
      refine own_iload (pc' := 117) C d4_115 rfl rfl ?_
      refine own_aloadN (pc' := 118) C d4_117 rfl rfl rfl ?_
      refine own_getfield (pc' := 121) C d4_118 (hw _ (List.mem_of_getElem? (i := 17) rfl)) F_a_ids rfl ?_
      refine own_iload (pc' := 123) C d4_121 rfl rfl ?_
      refine own_iaload (pc' := 124) (v := i0_) (i := 0) C d4_123 A_d (by decide) rfl rfl rfl ?_
      refine own_iastore (pc' := 125) (i := 1) (ys := (i0_ :: i0_ :: i2_ :: i3_ :: i1_ :: own_zI)) C d4_124 A_d (by decide) rfl (Nat.le_of_ble_eq_true rfl) rfl g_d rfl ?_
      intro h5 W5 A5_
      replace E_a := E_a.wr W5
      replace F_a_gains := F_a_gains.other W5 (Or.inl ne_a_d)
      replace F_a_ids := F_a_ids.other W5 (Or.inl ne_a_d)
      replace F_a_size := F_a_size.other W5 (Or.inl ne_a_d)
      replace A_g := A_g.other W5 ne_g_d
      replace A_d := A5_
      replace Z_ : n0 ≤ _ := Nat.le_trans Z_ (Nat.le_of_eq W5.size.symm)
      replace K_ := K_.wr W5 (Or.inl (List.mem_of_getElem? (i := 2) rfl))
      refine own_iload (pc' := 127) C d4_125 rfl rfl ?_
      refine own_istore (pc' := 129) (y := (0 : Int32)) (Ls' := #[.val (.ref a), .val (.long q), .second, .val (.int j), .val (.int (0 : Int32)), .val (.int (0 : Int32))]) C d4_127 rfl rfl rfl ?_
      refine own_goto (pc' := 59) C d4_129 (by decide) (by decide) ?_
      refine own_iload (pc' := 61) C d4_59 rfl rfl ?_
      refine own_if_le (pt := 132) (pf := 64) C d4_61 (by decide) (by decide) rfl (fun _ => ?_) (fun q => absurd q (by decide))
      refine own_aloadN (pc' := 133) C d4_132 rfl rfl rfl ?_
      refine own_getfield (pc' := 136) C d4_133 (hw _ (List.mem_of_getElem? (i := 14) rfl)) F_a_gains rfl ?_
      refine own_iload (pc' := 138) C d4_136 rfl rfl ?_
      refine own_lloadN (pc' := 139) C d4_138 rfl rfl ?_
      refine own_lastore (pc' := 140) (i := 0) (ys := (q :: x0_ :: x2_ :: x3_ :: x1_ :: own_zJ)) C d4_139 A_g (by decide) rfl (Nat.le_of_ble_eq_true rfl) rfl g_g rfl ?_
      intro h6 W6 A6_
      replace E_a := E_a.wr W6
      replace F_a_gains := F_a_gains.other W6 (Or.inl ne_a_g)
      replace F_a_ids := F_a_ids.other W6 (Or.inl ne_a_g)
      replace F_a_size := F_a_size.other W6 (Or.inl ne_a_g)
      replace A_d := A_d.other W6 (Ne.symm ne_g_d)
      replace A_g := A6_
      replace Z_ : n0 ≤ _ := Nat.le_trans Z_ (Nat.le_of_eq W6.size.symm)
      replace K_ := K_.wr W6 (Or.inl (List.mem_of_getElem? (i := 1) rfl))
      refine own_aloadN (pc' := 141) C d4_140 rfl rfl rfl ?_
      refine own_getfield (pc' := 144) C d4_141 (hw _ (List.mem_of_getElem? (i := 17) rfl)) F_a_ids rfl ?_
      refine own_iload (pc' := 146) C d4_144 rfl rfl ?_
      refine own_iloadN (pc' := 147) C d4_146 rfl rfl ?_
      refine own_iastore (pc' := 148) (i := 0) (ys := (j :: i0_ :: i2_ :: i3_ :: i1_ :: own_zI)) C d4_147 A_d (by decide) rfl (Nat.le_of_ble_eq_true rfl) rfl g_d rfl ?_
      intro h7 W7 A7_
      replace E_a := E_a.wr W7
      replace F_a_gains := F_a_gains.other W7 (Or.inl ne_a_d)
      replace F_a_ids := F_a_ids.other W7 (Or.inl ne_a_d)
      replace F_a_size := F_a_size.other W7 (Or.inl ne_a_d)
      replace A_g := A_g.other W7 ne_g_d
      replace A_d := A7_
      replace Z_ : n0 ≤ _ := Nat.le_trans Z_ (Nat.le_of_eq W7.size.symm)
      replace K_ := K_.wr W7 (Or.inl (List.mem_of_getElem? (i := 2) rfl))
      refine own_vret C d4_148 (by decide) (by decide) ?_
      have l_hc91 : own_lt (q, j) (x1_, i1_) = true := by simp [own_lt, hc91]
      have l_hc91_2 : own_lt (q, j) (x0_, i0_) = true := by simp [own_lt, hc91_2]
      refine ⟨rfl, K_, F_a_gains, F_a_ids, F_a_size, ?_, ?_⟩
      · simp only [own_p4, l_hc91, l_hc91_2, if_true, if_false, Bool.false_eq_true]; exact A_g
      · simp only [own_p4, l_hc91, l_hc91_2, if_true, if_false, Bool.false_eq_true]; exact A_d
    · intro hc91_2
      refine own_goto (pc' := 132) C d4_94 (by decide) (by decide) ?_
      refine own_aloadN (pc' := 133) C d4_132 rfl rfl rfl ?_
      refine own_getfield (pc' := 136) C d4_133 (hw _ (List.mem_of_getElem? (i := 14) rfl)) F_a_gains rfl ?_
      refine own_iload (pc' := 138) C d4_136 rfl rfl ?_
      refine own_lloadN (pc' := 139) C d4_138 rfl rfl ?_
      refine own_lastore (pc' := 140) (i := 1) (ys := (x0_ :: q :: x2_ :: x3_ :: x1_ :: own_zJ)) C d4_139 A_g (by decide) rfl (Nat.le_of_ble_eq_true rfl) rfl g_g rfl ?_
      intro h4 W4 A4_
      replace E_a := E_a.wr W4
      replace F_a_gains := F_a_gains.other W4 (Or.inl ne_a_g)
      replace F_a_ids := F_a_ids.other W4 (Or.inl ne_a_g)
      replace F_a_size := F_a_size.other W4 (Or.inl ne_a_g)
      replace A_d := A_d.other W4 (Ne.symm ne_g_d)
      replace A_g := A4_
      replace Z_ : n0 ≤ _ := Nat.le_trans Z_ (Nat.le_of_eq W4.size.symm)
      replace K_ := K_.wr W4 (Or.inl (List.mem_of_getElem? (i := 1) rfl))
      refine own_aloadN (pc' := 141) C d4_140 rfl rfl rfl ?_
      refine own_getfield (pc' := 144) C d4_141 (hw _ (List.mem_of_getElem? (i := 17) rfl)) F_a_ids rfl ?_
      refine own_iload (pc' := 146) C d4_144 rfl rfl ?_
      refine own_iloadN (pc' := 147) C d4_146 rfl rfl ?_
      refine own_iastore (pc' := 148) (i := 1) (ys := (i0_ :: j :: i2_ :: i3_ :: i1_ :: own_zI)) C d4_147 A_d (by decide) rfl (Nat.le_of_ble_eq_true rfl) rfl g_d rfl ?_
      intro h5 W5 A5_
      replace E_a := E_a.wr W5
      replace F_a_gains := F_a_gains.other W5 (Or.inl ne_a_d)
      replace F_a_ids := F_a_ids.other W5 (Or.inl ne_a_d)
      replace F_a_size := F_a_size.other W5 (Or.inl ne_a_d)
      replace A_g := A_g.other W5 ne_g_d
      replace A_d := A5_
      replace Z_ : n0 ≤ _ := Nat.le_trans Z_ (Nat.le_of_eq W5.size.symm)
      replace K_ := K_.wr W5 (Or.inl (List.mem_of_getElem? (i := 2) rfl))
      refine own_vret C d4_148 (by decide) (by decide) ?_
      have l_hc91 : own_lt (q, j) (x1_, i1_) = true := by simp [own_lt, hc91]
      have l_hc91_2 : own_lt (q, j) (x0_, i0_) = false := by simp [own_lt, hc91_2]
      refine ⟨rfl, K_, F_a_gains, F_a_ids, F_a_size, ?_, ?_⟩
      · simp only [own_p4, l_hc91, l_hc91_2, if_true, if_false, Bool.false_eq_true]; exact A_g
      · simp only [own_p4, l_hc91, l_hc91_2, if_true, if_false, Bool.false_eq_true]; exact A_d
  · intro hc91
    refine own_goto (pc' := 132) C d4_94 (by decide) (by decide) ?_
    refine own_aloadN (pc' := 133) C d4_132 rfl rfl rfl ?_
    refine own_getfield (pc' := 136) C d4_133 (hw _ (List.mem_of_getElem? (i := 14) rfl)) F_a_gains rfl ?_
    refine own_iload (pc' := 138) C d4_136 rfl rfl ?_
    refine own_lloadN (pc' := 139) C d4_138 rfl rfl ?_
    refine own_lastore (pc' := 140) (i := 4) (ys := (x0_ :: x1_ :: x2_ :: x3_ :: q :: own_zJ)) C d4_139 A_g (by decide) rfl (Nat.le_of_ble_eq_true rfl) rfl g_g rfl ?_
    intro h2 W2 A2_
    replace E_a := E_a.wr W2
    replace F_a_gains := F_a_gains.other W2 (Or.inl ne_a_g)
    replace F_a_ids := F_a_ids.other W2 (Or.inl ne_a_g)
    replace F_a_size := F_a_size.other W2 (Or.inl ne_a_g)
    replace A_d := A_d.other W2 (Ne.symm ne_g_d)
    replace A_g := A2_
    replace Z_ : n0 ≤ _ := Nat.le_trans Z_ (Nat.le_of_eq W2.size.symm)
    replace K_ := K_.wr W2 (Or.inl (List.mem_of_getElem? (i := 1) rfl))
    refine own_aloadN (pc' := 141) C d4_140 rfl rfl rfl ?_
    refine own_getfield (pc' := 144) C d4_141 (hw _ (List.mem_of_getElem? (i := 17) rfl)) F_a_ids rfl ?_
    refine own_iload (pc' := 146) C d4_144 rfl rfl ?_
    refine own_iloadN (pc' := 147) C d4_146 rfl rfl ?_
    refine own_iastore (pc' := 148) (i := 4) (ys := (i0_ :: i1_ :: i2_ :: i3_ :: j :: own_zI)) C d4_147 A_d (by decide) rfl (Nat.le_of_ble_eq_true rfl) rfl g_d rfl ?_
    intro h3 W3 A3_
    replace E_a := E_a.wr W3
    replace F_a_gains := F_a_gains.other W3 (Or.inl ne_a_d)
    replace F_a_ids := F_a_ids.other W3 (Or.inl ne_a_d)
    replace F_a_size := F_a_size.other W3 (Or.inl ne_a_d)
    replace A_g := A_g.other W3 ne_g_d
    replace A_d := A3_
    replace Z_ : n0 ≤ _ := Nat.le_trans Z_ (Nat.le_of_eq W3.size.symm)
    replace K_ := K_.wr W3 (Or.inl (List.mem_of_getElem? (i := 2) rfl))
    refine own_vret C d4_148 (by decide) (by decide) ?_
    have l_hc91 : own_lt (q, j) (x1_, i1_) = false := by simp [own_lt, hc91]
    refine ⟨rfl, K_, F_a_gains, F_a_ids, F_a_size, ?_, ?_⟩
    · simp only [own_p4, l_hc91, if_true, if_false, Bool.false_eq_true]; exact A_g
    · simp only [own_p4, l_hc91, if_true, if_false, Bool.false_eq_true]; exact A_d

theorem d11_0 : decode prog_9_method_7_code 0 = .ok (.aload_n 0, 1) := by decide +kernel
theorem d11_1 : decode prog_9_method_7_code 1 = .ok (.dup, 1) := by decide +kernel
theorem d11_2 : decode prog_9_method_7_code 2 = .ok (.getfield 17, 3) := by decide +kernel
theorem d11_5 : decode prog_9_method_7_code 5 = .ok (.iconst 1, 1) := by decide +kernel
theorem d11_6 : decode prog_9_method_7_code 6 = .ok (.isub, 1) := by decide +kernel
theorem d11_7 : decode prog_9_method_7_code 7 = .ok (.putfield 17, 3) := by decide +kernel
theorem d11_10 : decode prog_9_method_7_code 10 = .ok (.aload_n 0, 1) := by decide +kernel
theorem d11_11 : decode prog_9_method_7_code 11 = .ok (.getfield 7, 3) := by decide +kernel
theorem d11_14 : decode prog_9_method_7_code 14 = .ok (.aload_n 0, 1) := by decide +kernel
theorem d11_15 : decode prog_9_method_7_code 15 = .ok (.getfield 17, 3) := by decide +kernel
theorem d11_18 : decode prog_9_method_7_code 18 = .ok (.laload, 1) := by decide +kernel
theorem d11_19 : decode prog_9_method_7_code 19 = .ok (.lstore_n 1, 1) := by decide +kernel
theorem d11_20 : decode prog_9_method_7_code 20 = .ok (.aload_n 0, 1) := by decide +kernel
theorem d11_21 : decode prog_9_method_7_code 21 = .ok (.getfield 13, 3) := by decide +kernel
theorem d11_24 : decode prog_9_method_7_code 24 = .ok (.aload_n 0, 1) := by decide +kernel
theorem d11_25 : decode prog_9_method_7_code 25 = .ok (.getfield 17, 3) := by decide +kernel
theorem d11_28 : decode prog_9_method_7_code 28 = .ok (.iaload, 1) := by decide +kernel
theorem d11_29 : decode prog_9_method_7_code 29 = .ok (.istore_n 3, 1) := by decide +kernel
theorem d11_30 : decode prog_9_method_7_code 30 = .ok (.iconst 0, 1) := by decide +kernel
theorem d11_31 : decode prog_9_method_7_code 31 = .ok (.istore 4, 2) := by decide +kernel
theorem d11_33 : decode prog_9_method_7_code 33 = .ok (.iconst 2, 1) := by decide +kernel
theorem d11_34 : decode prog_9_method_7_code 34 = .ok (.iload 4, 2) := by decide +kernel
theorem d11_36 : decode prog_9_method_7_code 36 = .ok (.imul, 1) := by decide +kernel
theorem d11_37 : decode prog_9_method_7_code 37 = .ok (.iconst 1, 1) := by decide +kernel
theorem d11_38 : decode prog_9_method_7_code 38 = .ok (.iadd, 1) := by decide +kernel
theorem d11_39 : decode prog_9_method_7_code 39 = .ok (.istore 5, 2) := by decide +kernel
theorem d11_41 : decode prog_9_method_7_code 41 = .ok (.iload 5, 2) := by decide +kernel
theorem d11_43 : decode prog_9_method_7_code 43 = .ok (.aload_n 0, 1) := by decide +kernel
theorem d11_44 : decode prog_9_method_7_code 44 = .ok (.getfield 17, 3) := by decide +kernel
theorem d11_47 : decode prog_9_method_7_code 47 = .ok (.if_icmp .lt 6, 3) := by decide +kernel
theorem d11_50 : decode prog_9_method_7_code 50 = .ok (.goto 115, 3) := by decide +kernel
theorem d11_165 : decode prog_9_method_7_code 165 = .ok (.aload_n 0, 1) := by decide +kernel
theorem d11_166 : decode prog_9_method_7_code 166 = .ok (.getfield 7, 3) := by decide +kernel
theorem d11_169 : decode prog_9_method_7_code 169 = .ok (.iload 4, 2) := by decide +kernel
theorem d11_171 : decode prog_9_method_7_code 171 = .ok (.lload_n 1, 1) := by decide +kernel
theorem d11_172 : decode prog_9_method_7_code 172 = .ok (.lastore, 1) := by decide +kernel
theorem d11_173 : decode prog_9_method_7_code 173 = .ok (.aload_n 0, 1) := by decide +kernel
theorem d11_174 : decode prog_9_method_7_code 174 = .ok (.getfield 13, 3) := by decide +kernel
theorem d11_177 : decode prog_9_method_7_code 177 = .ok (.iload 4, 2) := by decide +kernel
theorem d11_179 : decode prog_9_method_7_code 179 = .ok (.iload_n 3, 1) := by decide +kernel
theorem d11_180 : decode prog_9_method_7_code 180 = .ok (.iastore, 1) := by decide +kernel
theorem d11_181 : decode prog_9_method_7_code 181 = .ok (.return_, 1) := by decide +kernel
theorem pn11 : plainName "com/example/cachewright/cachewright/placement/CandidateHeap" = true := by first | (simp [plainName, overriddenIn]; done) | decide +kernel
theorem ef11 (m : MethodId) (x0 : Addr) : entryFrame m #[(.ref x0)] 6 = mkF m 0 #[.val (.ref x0), .unset, .unset, .unset, .unset, .unset] [] := by first | (simp [entryFrame, mkF, argsToLocals, Value.category]; done) | rfl
set_option maxRecDepth 65536 in
set_option maxHeartbeats 40000000 in
theorem own_pop0 (l : Launch) (Z : State) (a0 : Array Value) (hw : ∀ d ∈ tables_1, d.before a0 Z = true) (a : Addr) (g d : Addr) (x0_ x1_ x2_ x3_ x4_ : Int64) (i0_ i1_ i2_ i3_ i4_ : Int32) (h0 : Heap) (n0 : Nat) (Z_ : n0 ≤ h0.size) (E_a : Exa Z h0 a "com/example/cachewright/cachewright/placement/CandidateHeap") (F_a_gains : Fld Z h0 a "com/example/cachewright/cachewright/placement/CandidateHeap" "gains" "[J" (.ref g)) (F_a_ids : Fld Z h0 a "com/example/cachewright/cachewright/placement/CandidateHeap" "ids" "[I" (.ref d)) (F_a_size : Fld Z h0 a "com/example/cachewright/cachewright/placement/CandidateHeap" "size" "I" (.int (1 : Int32))) (g_a : n0 ≤ a) (A_g : AJ Z h0 g (x0_ :: x1_ :: x2_ :: x3_ :: x4_ :: own_zJ)) (A_d : AI Z h0 d .int (i0_ :: i1_ :: i2_ :: i3_ :: i4_ :: own_zI)) (g_g : n0 ≤ g) (g_d : n0 ≤ d) (ne_a_g : a ≠ g) (ne_a_d : a ≠ d) (ne_g_d : g ≠ d) :
    Met l (⟨"com/example/cachewright/cachewright/placement/CandidateHeap", "pop", "()V"⟩ : MethodName) prog_9_method_7_code 6 none [] ({ frames := 0, cells := 0, slots := 0, locals := 0 } : Room) Z n0 #[(.ref a)] h0 (fun v h => v = none ∧ Keep h0 h [a, g, d] ∧ Fld Z h a "com/example/cachewright/cachewright/placement/CandidateHeap" "gains" "[J" (.ref g) ∧ Fld Z h a "com/example/cachewright/cachewright/placement/CandidateHeap" "ids" "[I" (.ref d) ∧ Fld Z h a "com/example/cachewright/cachewright/placement/CandidateHeap" "size" "I" (.int (0 : Int32)) ∧ AJ Z h g (x0_ :: x1_ :: x2_ :: x3_ :: x4_ :: own_zJ) ∧ AI Z h d .int (i0_ :: i1_ :: i2_ :: i3_ :: i4_ :: own_zI)) := by
  refine own_met pn11 (fun m => ef11 m a) ?_
  intro p e s m below meth c C
  have K_ : Keep h0 h0 [a, g, d] := Keep.refl _ _
  refine own_aloadN (pc' := 1) C d11_0 rfl rfl rfl ?_
  refine own_dup (pc' := 2) C d11_1 rfl rfl ?_
  refine own_getfield (pc' := 5) C d11_2 (hw _ (List.mem_of_getElem? (i := 24) rfl)) F_a_size rfl ?_
  refine own_iconst (pc' := 6) (v := (1 : Int32)) C d11_5 own_ki_1 rfl ?_
  refine own_isub (pc' := 7) (v := (0 : Int32)) C d11_6 (by decide) rfl ?_
  refine own_putfield (pc' := 10) C d11_7 (hw _ (List.mem_of_getElem? (i := 24) rfl)) F_a_size E_a (Or.inl (hw _ (List.mem_of_getElem? (i := 25) rfl))) (hw _ (List.mem_of_getElem? (i := 5) rfl)) (ty := .int) (by decide) rfl rfl g_a rfl ?_
  intro h1 W1 F1_
  replace E_a := E_a.wr W1
  replace F_a_gains := F_a_gains.other W1 (Or.inr (slot_ne (Or.inl (hw _ (List.mem_of_getElem? (i := 15) rfl))) (Or.inl (hw _ (List.mem_of_getElem? (i := 25) rfl))) (by decide) (t := (.array .long)) (t' := .int) (by decide) (by decide)))
  replace F_a_ids := F_a_ids.other W1 (Or.inr (slot_ne (Or.inl (hw _ (List.mem_of_getElem? (i := 18) rfl))) (Or.inl (hw _ (List.mem_of_getElem? (i := 25) rfl))) (by decide) (t := (.array .int)) (t' := .int) (by decide) (by decide)))
  replace A_g := A_g.other W1 (Ne.symm ne_a_g)
  replace A_d := A_d.other W1 (Ne.symm ne_a_d)
  replace F_a_size := F1_
  replace Z_ : n0 ≤ _ := Nat.le_trans Z_ (Nat.le_of_eq W1.size.symm)
  replace K_ := K_.wr W1 (Or.inl (List.mem_of_getElem? (i := 0) rfl))
  refine own_aloadN (pc' := 11) C d11_10 rfl rfl rfl ?_
  refine own_getfield (pc' := 14) C d11_11 (hw _ (List.mem_of_getElem? (i := 14) rfl)) F_a_gains rfl ?_
  refine own_aloadN (pc' := 15) C d11_14 rfl rfl rfl ?_
  refine own_getfield (pc' := 18) C d11_15 (hw _ (List.mem_of_getElem? (i := 24) rfl)) F_a_size rfl ?_
  refine own_laload (pc' := 19) (v := x0_) (i := 0) C d11_18 A_g (by decide) rfl rfl rfl ?_
  refine own_lstoreN (pc' := 20) (y := x0_) (Ls' := #[.val (.ref a), .val (.long x0_), .second, .unset, .unset, .unset]) C d11_19 rfl rfl rfl ?_
  refine own_aloadN (pc' := 21) C d11_20 rfl rfl rfl ?_
  refine own_getfield (pc' := 24) C d11_21 (hw _ (List.mem_of_getElem? (i := 17) rfl)) F_a_ids rfl ?_
  refine own_aloadN (pc' := 25) C d11_24 rfl rfl rfl ?_
  refine own_getfield (pc' := 28) C d11_25 (hw _ (List.mem_of_getElem? (i := 24) rfl)) F_a_size rfl ?_
  refine own_iaload (pc' := 29) (v := i0_) (i := 0) C d11_28 A_d (by decide) rfl rfl rfl ?_
  refine own_istoreN (pc' := 30) (y := i0_) (Ls' := #[.val (.ref a), .val (.long x0_), .second, .val (.int i0_), .unset, .unset]) C d11_29 rfl rfl rfl ?_
  refine own_iconst (pc' := 31) (v := (0 : Int32)) C d11_30 own_ki_0 rfl ?_
  refine own_istore (pc' := 33) (y := (0 : Int32)) (Ls' := #[.val (.ref a), .val (.long x0_), .second, .val (.int i0_), .val (.int (0 : Int32)), .unset]) C d11_31 rfl rfl rfl ?_
  refine own_iconst (pc' := 34) (v := (2 : Int32)) C d11_33 own_ki_2 rfl ?_
  refine own_iload (pc' := 36) C d11_34 rfl rfl ?_
  refine own_imul (pc' := 37) (v := (0 : Int32)) C d11_36 (by decide) rfl ?_
  refine own_iconst (pc' := 38) (v := (1 : Int32)) C d11_37 own_ki_1 rfl ?_
  refine own_iadd (pc' := 39) (v := (1 : Int32)) C d11_38 (by decide) rfl ?_
  refine own_istore (pc' := 41) (y := (1 : Int32)) (Ls' := #[.val (.ref a), .val (.long x0_), .second, .val (.int i0_), .val (.int (0 : Int32)), .val (.int (1 : Int32))]) C d11_39 rfl rfl rfl ?_
  refine own_iload (pc' := 43) C d11_41 rfl rfl ?_
  refine own_aloadN (pc' := 44) C d11_43 rfl rfl rfl ?_
  refine own_getfield (pc' := 47) C d11_44 (hw _ (List.mem_of_getElem? (i := 24) rfl)) F_a_size rfl ?_
  refine own_icmp_lt (pt := 53) (pf := 50) C d11_47 (by decide) (by decide) rfl (fun q => absurd q (by decide)) (fun _ => ?_)
  refine own_goto (pc' := 165) C d11_50 (by decide) (by decide) ?_
  refine own_aloadN (pc' := 166) C d11_165 rfl rfl rfl ?_
  refine own_getfield (pc' := 169) C d11_166 (hw _ (List.mem_of_getElem? (i := 14) rfl)) F_a_gains rfl ?_
  refine own_iload (pc' := 171) C d11_169 rfl rfl ?_
  refine own_lloadN (pc' := 172) C d11_171 rfl rfl ?_
  refine own_lastore (pc' := 173) (i := 0) (ys := (x0_ :: x1_ :: x2_ :: x3_ :: x4_ :: own_zJ)) C d11_172 A_g (by decide) rfl (Nat.le_of_ble_eq_true rfl) rfl g_g rfl ?_
  intro h2 W2 A2_
  replace E_a := E_a.wr W2
  replace F_a_gains := F_a_gains.other W2 (Or.inl ne_a_g)
  replace F_a_ids := F_a_ids.other W2 (Or.inl ne_a_g)
  replace F_a_size := F_a_size.other W2 (Or.inl ne_a_g)
  replace A_d := A_d.other W2 (Ne.symm ne_g_d)
  replace A_g := A2_
  replace Z_ : n0 ≤ _ := Nat.le_trans Z_ (Nat.le_of_eq W2.size.symm)
  replace K_ := K_.wr W2 (Or.inl (List.mem_of_getElem? (i := 1) rfl))
  refine own_aloadN (pc' := 174) C d11_173 rfl rfl rfl ?_
  refine own_getfield (pc' := 177) C d11_174 (hw _ (List.mem_of_getElem? (i := 17) rfl)) F_a_ids rfl ?_
  refine own_iload (pc' := 179) C d11_177 rfl rfl ?_
  refine own_iloadN (pc' := 180) C d11_179 rfl rfl ?_
  refine own_iastore (pc' := 181) (i := 0) (ys := (i0_ :: i1_ :: i2_ :: i3_ :: i4_ :: own_zI)) C d11_180 A_d (by decide) rfl (Nat.le_of_ble_eq_true rfl) rfl g_d rfl ?_
  intro h3 W3 A3_
  replace E_a := E_a.wr W3
  replace F_a_gains := F_a_gains.other W3 (Or.inl ne_a_d)
  replace F_a_ids := F_a_ids.other W3 (Or.inl ne_a_d)
  replace F_a_size := F_a_size.other W3 (Or.inl ne_a_d)
  replace A_g := A_g.other W3 ne_g_d
  replace A_d := A3_
  replace Z_ : n0 ≤ _ := Nat.le_trans Z_ (Nat.le_of_eq W3.size.symm)
  replace K_ := K_.wr W3 (Or.inl (List.mem_of_getElem? (i := 2) rfl))
  refine own_vret C d11_181 (by decide) (by decide) ?_
  exact ⟨rfl, K_, F_a_gains, F_a_ids, F_a_size, A_g, A_d⟩

set_option maxRecDepth 65536 in
set_option maxHeartbeats 40000000 in
theorem own_pop1 (l : Launch) (Z : State) (a0 : Array Value) (hw : ∀ d ∈ tables_1, d.before a0 Z = true) (a : Addr) (g d : Addr) (x0_ x1_ x2_ x3_ x4_ : Int64) (i0_ i1_ i2_ i3_ i4_ : Int32) (h0 : Heap) (n0 : Nat) (Z_ : n0 ≤ h0.size) (E_a : Exa Z h0 a "com/example/cachewright/cachewright/placement/CandidateHeap") (F_a_gains : Fld Z h0 a "com/example/cachewright/cachewright/placement/CandidateHeap" "gains" "[J" (.ref g)) (F_a_ids : Fld Z h0 a "com/example/cachewright/cachewright/placement/CandidateHeap" "ids" "[I" (.ref d)) (F_a_size : Fld Z h0 a "com/example/cachewright/cachewright/placement/CandidateHeap" "size" "I" (.int (2 : Int32))) (g_a : n0 ≤ a) (A_g : AJ Z h0 g (x0_ :: x1_ :: x2_ :: x3_ :: x4_ :: own_zJ)) (A_d : AI Z h0 d .int (i0_ :: i1_ :: i2_ :: i3_ :: i4_ :: own_zI)) (g_g : n0 ≤ g) (g_d : n0 ≤ d) (ne_a_g : a ≠ g) (ne_a_d : a ≠ d) (ne_g_d : g ≠ d) :
    Met l (⟨"com/example/cachewright/cachewright/placement/CandidateHeap", "pop", "()V"⟩ : MethodName) prog_9_method_7_code 6 none [] ({ frames := 0, cells := 0, slots := 0, locals := 0 } : Room) Z n0 #[(.ref a)] h0 (fun v h => v = none ∧ Keep h0 h [a, g, d] ∧ Fld Z h a "com/example/cachewright/cachewright/placement/CandidateHeap" "gains" "[J" (.ref g) ∧ Fld Z h a "com/example/cachewright/cachewright/placement/CandidateHeap" "ids" "[I" (.ref d) ∧ Fld Z h a "com/example/cachewright/cachewright/placement/CandidateHeap" "size" "I" (.int (1 : Int32)) ∧ AJ Z h g (x1_ :: x1_ :: x2_ :: x3_ :: x4_ :: own_zJ) ∧ AI Z h d .int (i1_ :: i1_ :: i2_ :: i3_ :: i4_ :: own_zI)) := by
  refine own_met pn11 (fun m => ef11 m a) ?_
  intro p e s m below meth c C
  have K_ : Keep h0 h0 [a, g, d] := Keep.refl _ _
  refine own_aloadN (pc' := 1) C d11_0 rfl rfl rfl ?_
  refine own_dup (pc' := 2) C d11_1 rfl rfl ?_
  refine own_getfield (pc' := 5) C d11_2 (hw _ (List.mem_of_getElem? (i := 24) rfl)) F_a_size rfl ?_
  refine own_iconst (pc' := 6) (v := (1 : Int32)) C d11_5 own_ki_1 rfl ?_
  refine own_isub (pc' := 7) (v := (1 : Int32)) C d11_6 (by decide) rfl ?_
  refine own_putfield (pc' := 10) C d11_7 (hw _ (List.mem_of_getElem? (i := 24) rfl)) F_a_size E_a (Or.inl (hw _ (List.mem_of_getElem? (i := 25) rfl))) (hw _ (List.mem_of_getElem? (i := 5) rfl)) (ty := .int) (by decide) rfl rfl g_a rfl ?_
  intro h1 W1 F1_
  replace E_a := E_a.wr W1
  replace F_a_gains := F_a_gains.other W1 (Or.inr (slot_ne (Or.inl (hw _ (List.mem_of_getElem? (i := 15) rfl))) (Or.inl (hw _ (List.mem_of_getElem? (i := 25) rfl))) (by decide) (t := (.array .long)) (t' := .int) (by decide) (by decide)))
  replace F_a_ids := F_a_ids.other W1 (Or.inr (slot_ne (Or.inl (hw _ (List.mem_of_getElem? (i := 18) rfl))) (Or.inl (hw _ (List.mem_of_getElem? (i := 25) rfl))) (by decide) (t := (.array .int)) (t' := .int) (by decide) (by decide)))
  replace A_g := A_g.other W1 (Ne.symm ne_a_g)
  replace A_d := A_d.other W1 (Ne.symm ne_a_d)
  replace F_a_size := F1_
  replace Z_ : n0 ≤ _ := Nat.le_trans Z_ (Nat.le_of_eq W1.size.symm)
  replace K_ := K_.wr W1 (Or.inl (List.mem_of_getElem? (i := 0) rfl))
  refine own_aloadN (pc' := 11) C d11_10 rfl rfl rfl ?_
  refine own_getfield (pc' := 14) C d11_11 (hw _ (List.mem_of_getElem? (i := 14) rfl)) F_a_gains rfl ?_
  refine own_aloadN (pc' := 15) C d11_14 rfl rfl rfl ?_
  refine own_getfield (pc' := 18) C d11_15 (hw _ (List.mem_of_getElem? (i := 24) rfl)) F_a_size rfl ?_
  refine own_laload (pc' := 19) (v := x1_) (i := 1) C d11_18 A_g (by decide) rfl rfl rfl ?_
  refine own_lstoreN (pc' := 20) (y := x1_) (Ls' := #[.val (.ref a), .val (.long x1_), .second, .unset, .unset, .unset]) C d11_19 rfl rfl rfl ?_
  refine own_aloadN (pc' := 21) C d11_20 rfl rfl rfl ?_
  refine own_getfield (pc' := 24) C d11_21 (hw _ (List.mem_of_getElem? (i := 17) rfl)) F_a_ids rfl ?_
  refine own_aloadN (pc' := 25) C d11_24 rfl rfl rfl ?_
  refine own_getfield (pc' := 28) C d11_25 (hw _ (List.mem_of_getElem? (i := 24) rfl)) F_a_size rfl ?_
  refine own_iaload (pc' := 29) (v := i1_) (i := 1) C d11_28 A_d (by decide) rfl rfl rfl ?_
  refine own_istoreN (pc' := 30) (y := i1_) (Ls' := #[.val (.ref a), .val (.long x1_), .second, .val (.int i1_), .unset, .unset]) C d11_29 rfl rfl rfl ?_
  refine own_iconst (pc' := 31) (v := (0 : Int32)) C d11_30 own_ki_0 rfl ?_
  refine own_istore (pc' := 33) (y := (0 : Int32)) (Ls' := #[.val (.ref a), .val (.long x1_), .second, .val (.int i1_), .val (.int (0 : Int32)), .unset]) C d11_31 rfl rfl rfl ?_
  refine own_iconst (pc' := 34) (v := (2 : Int32)) C d11_33 own_ki_2 rfl ?_
  refine own_iload (pc' := 36) C d11_34 rfl rfl ?_
  refine own_imul (pc' := 37) (v := (0 : Int32)) C d11_36 (by decide) rfl ?_
  refine own_iconst (pc' := 38) (v := (1 : Int32)) C d11_37 own_ki_1 rfl ?_
  refine own_iadd (pc' := 39) (v := (1 : Int32)) C d11_38 (by decide) rfl ?_
  refine own_istore (pc' := 41) (y := (1 : Int32)) (Ls' := #[.val (.ref a), .val (.long x1_), .second, .val (.int i1_), .val (.int (0 : Int32)), .val (.int (1 : Int32))]) C d11_39 rfl rfl rfl ?_
  refine own_iload (pc' := 43) C d11_41 rfl rfl ?_
  refine own_aloadN (pc' := 44) C d11_43 rfl rfl rfl ?_
  refine own_getfield (pc' := 47) C d11_44 (hw _ (List.mem_of_getElem? (i := 24) rfl)) F_a_size rfl ?_
  refine own_icmp_lt (pt := 53) (pf := 50) C d11_47 (by decide) (by decide) rfl (fun q => absurd q (by decide)) (fun _ => ?_)
  refine own_goto (pc' := 165) C d11_50 (by decide) (by decide) ?_
  refine own_aloadN (pc' := 166) C d11_165 rfl rfl rfl ?_
  refine own_getfield (pc' := 169) C d11_166 (hw _ (List.mem_of_getElem? (i := 14) rfl)) F_a_gains rfl ?_
  refine own_iload (pc' := 171) C d11_169 rfl rfl ?_
  refine own_lloadN (pc' := 172) C d11_171 rfl rfl ?_
  refine own_lastore (pc' := 173) (i := 0) (ys := (x1_ :: x1_ :: x2_ :: x3_ :: x4_ :: own_zJ)) C d11_172 A_g (by decide) rfl (Nat.le_of_ble_eq_true rfl) rfl g_g rfl ?_
  intro h2 W2 A2_
  replace E_a := E_a.wr W2
  replace F_a_gains := F_a_gains.other W2 (Or.inl ne_a_g)
  replace F_a_ids := F_a_ids.other W2 (Or.inl ne_a_g)
  replace F_a_size := F_a_size.other W2 (Or.inl ne_a_g)
  replace A_d := A_d.other W2 (Ne.symm ne_g_d)
  replace A_g := A2_
  replace Z_ : n0 ≤ _ := Nat.le_trans Z_ (Nat.le_of_eq W2.size.symm)
  replace K_ := K_.wr W2 (Or.inl (List.mem_of_getElem? (i := 1) rfl))
  refine own_aloadN (pc' := 174) C d11_173 rfl rfl rfl ?_
  refine own_getfield (pc' := 177) C d11_174 (hw _ (List.mem_of_getElem? (i := 17) rfl)) F_a_ids rfl ?_
  refine own_iload (pc' := 179) C d11_177 rfl rfl ?_
  refine own_iloadN (pc' := 180) C d11_179 rfl rfl ?_
  refine own_iastore (pc' := 181) (i := 0) (ys := (i1_ :: i1_ :: i2_ :: i3_ :: i4_ :: own_zI)) C d11_180 A_d (by decide) rfl (Nat.le_of_ble_eq_true rfl) rfl g_d rfl ?_
  intro h3 W3 A3_
  replace E_a := E_a.wr W3
  replace F_a_gains := F_a_gains.other W3 (Or.inl ne_a_d)
  replace F_a_ids := F_a_ids.other W3 (Or.inl ne_a_d)
  replace F_a_size := F_a_size.other W3 (Or.inl ne_a_d)
  replace A_g := A_g.other W3 ne_g_d
  replace A_d := A3_
  replace Z_ : n0 ≤ _ := Nat.le_trans Z_ (Nat.le_of_eq W3.size.symm)
  replace K_ := K_.wr W3 (Or.inl (List.mem_of_getElem? (i := 2) rfl))
  refine own_vret C d11_181 (by decide) (by decide) ?_
  exact ⟨rfl, K_, F_a_gains, F_a_ids, F_a_size, A_g, A_d⟩

theorem d11_53 : decode prog_9_method_7_code 53 = .ok (.iload 5, 2) := by decide +kernel
theorem d11_55 : decode prog_9_method_7_code 55 = .ok (.iconst 1, 1) := by decide +kernel
theorem d11_56 : decode prog_9_method_7_code 56 = .ok (.iadd, 1) := by decide +kernel
theorem d11_57 : decode prog_9_method_7_code 57 = .ok (.aload_n 0, 1) := by decide +kernel
theorem d11_58 : decode prog_9_method_7_code 58 = .ok (.getfield 17, 3) := by decide +kernel
theorem d11_61 : decode prog_9_method_7_code 61 = .ok (.if_icmp .ge 44, 3) := by decide +kernel
theorem d11_105 : decode prog_9_method_7_code 105 = .ok (.aload_n 0, 1) := by decide +kernel
theorem d11_106 : decode prog_9_method_7_code 106 = .ok (.getfield 7, 3) := by decide +kernel
theorem d11_109 : decode prog_9_method_7_code 109 = .ok (.iload 5, 2) := by decide +kernel
theorem d11_111 : decode prog_9_method_7_code 111 = .ok (.laload, 1) := by decide +kernel
theorem d11_112 : decode prog_9_method_7_code 112 = .ok (.aload_n 0, 1) := by decide +kernel
theorem d11_113 : decode prog_9_method_7_code 113 = .ok (.getfield 13, 3) := by decide +kernel
theorem d11_116 : decode prog_9_method_7_code 116 = .ok (.iload 5, 2) := by decide +kernel
theorem d11_118 : decode prog_9_method_7_code 118 = .ok (.iaload, 1) := by decide +kernel
theorem d11_119 : decode prog_9_method_7_code 119 = .ok (.lload_n 1, 1) := by decide +kernel
theorem d11_120 : decode prog_9_method_7_code 120 = .ok (.iload_n 3, 1) := by decide +kernel
theorem d11_121 : decode prog_9_method_7_code 121 = .ok (.invokestatic 30, 3) := by decide +kernel
theorem d11_124 : decode prog_9_method_7_code 124 = .ok (.ifCond .ne 6, 3) := by decide +kernel
theorem d11_127 : decode prog_9_method_7_code 127 = .ok (.goto 38, 3) := by decide +kernel
theorem d11_130 : decode prog_9_method_7_code 130 = .ok (.aload_n 0, 1) := by decide +kernel
theorem d11_131 : decode prog_9_method_7_code 131 = .ok (.getfield 7, 3) := by decide +kernel
theorem d11_134 : decode prog_9_method_7_code 134 = .ok (.iload 4, 2) := by decide +kernel
theorem d11_136 : decode prog_9_method_7_code 136 = .ok (.aload_n 0, 1) := by decide +kernel
theorem d11_137 : decode prog_9_method_7_code 137 = .ok (.getfield 7, 3) := by decide +kernel
theorem d11_140 : decode prog_9_method_7_code 140 = .ok (.iload 5, 2) := by decide +kernel
theorem d11_142 : decode prog_9_method_7_code 142 = .ok (.laload, 1) := by decide +kernel
theorem d11_143 : decode prog_9_method_7_code 143 = .ok (.lastore, 1) := by decide +kernel
theorem d11_144 : decode prog_9_method_7_code 144 = .ok (.aload_n 0, 1) := by decide +kernel
theorem d11_145 : decode prog_9_method_7_code 145 = .ok (.getfield 13, 3) := by decide +kernel
theorem d11_148 : decode prog_9_method_7_code 148 = .ok (.iload 4, 2) := by decide +kernel
theorem d11_150 : decode prog_9_method_7_code 150 = .ok (.aload_n 0, 1) := by decide +kernel
theorem d11_151 : decode prog_9_method_7_code 151 = .ok (.getfield 13, 3) := by decide +kernel
theorem d11_154 : decode prog_9_method_7_code 154 = .ok (.iload 5, 2) := by decide +kernel
theorem d11_156 : decode prog_9_method_7_code 156 = .ok (.iaload, 1) := by decide +kernel
theorem d11_157 : decode prog_9_method_7_code 157 = .ok (.iastore, 1) := by decide +kernel
theorem d11_158 : decode prog_9_method_7_code 158 = .ok (.iload 5, 2) := by decide +kernel
theorem d11_160 : decode prog_9_method_7_code 160 = .ok (.istore 4, 2) := by decide +kernel
theorem d11_162 : decode prog_9_method_7_code 162 = .ok (.goto (-129), 3) := by decide +kernel
set_option maxRecDepth 65536 in
set_option maxHeartbeats 40000000 in
theorem own_pop2 (l : Launch) (Z : State) (a0 : Array Value) (hw : ∀ d ∈ tables_1, d.before a0 Z = true) (a : Addr) (g d : Addr) (x0_ x1_ x2_ x3_ x4_ : Int64) (i0_ i1_ i2_ i3_ i4_ : Int32) (h0 : Heap) (n0 : Nat) (Z_ : n0 ≤ h0.size) (E_a : Exa Z h0 a "com/example/cachewright/cachewright/placement/CandidateHeap") (F_a_gains : Fld Z h0 a "com/example/cachewright/cachewright/placement/CandidateHeap" "gains" "[J" (.ref g)) (F_a_ids : Fld Z h0 a "com/example/cachewright/cachewright/placement/CandidateHeap" "ids" "[I" (.ref d)) (F_a_size : Fld Z h0 a "com/example/cachewright/cachewright/placement/CandidateHeap" "size" "I" (.int (3 : Int32))) (g_a : n0 ≤ a) (A_g : AJ Z h0 g (x0_ :: x1_ :: x2_ :: x3_ :: x4_ :: own_zJ)) (A_d : AI Z h0 d .int (i0_ :: i1_ :: i2_ :: i3_ :: i4_ :: own_zI)) (g_g : n0 ≤ g) (g_d : n0 ≤ d) (ne_a_g : a ≠ g) (ne_a_d : a ≠ d) (ne_g_d : g ≠ d) :
    Met l (⟨"com/example/cachewright/cachewright/placement/CandidateHeap", "pop", "()V"⟩ : MethodName) prog_9_method_7_code 6 none [] ({ frames := 1, cells := 0, slots := 0, locals := 17 } : Room) Z n0 #[(.ref a)] h0 (fun v h => v = none ∧ Keep h0 h [a, g, d] ∧ Fld Z h a "com/example/cachewright/cachewright/placement/CandidateHeap" "gains" "[J" (.ref g) ∧ Fld Z h a "com/example/cachewright/cachewright/placement/CandidateHeap" "ids" "[I" (.ref d) ∧ Fld Z h a "com/example/cachewright/cachewright/placement/CandidateHeap" "size" "I" (.int (2 : Int32)) ∧ AJ Z h g ((own_q2 own_lt (x0_, i0_) (x1_, i1_) (x2_, i2_)).1.1 :: (own_q2 own_lt (x0_, i0_) (x1_, i1_) (x2_, i2_)).2.1 :: x2_ :: x3_ :: x4_ :: own_zJ) ∧ AI Z h d .int ((own_q2 own_lt (x0_, i0_) (x1_, i1_) (x2_, i2_)).1.2 :: (own_q2 own_lt (x0_, i0_) (x1_, i1_) (x2_, i2_)).2.2 :: i2_ :: i3_ :: i4_ :: own_zI)) := by
  refine own_met pn11 (fun m => ef11 m a) ?_
  intro p e s m below meth c C
  have K_ : Keep h0 h0 [a, g, d] := Keep.refl _ _
  refine own_aloadN (pc' := 1) C d11_0 rfl rfl rfl ?_
  refine own_dup (pc' := 2) C d11_1 rfl rfl ?_
  refine own_getfield (pc' := 5) C d11_2 (hw _ (List.mem_of_getElem? (i := 24) rfl)) F_a_size rfl ?_
  refine own_iconst (pc' := 6) (v := (1 : Int32)) C d11_5 own_ki_1 rfl ?_
  refine own_isub (pc' := 7) (v := (2 : Int32)) C d11_6 (by decide) rfl ?_
  refine own_putfield (pc' := 10) C d11_7 (hw _ (List.mem_of_getElem? (i := 24) rfl)) F_a_size E_a (Or.inl (hw _ (List.mem_of_getElem? (i := 25) rfl))) (hw _ (List.mem_of_getElem? (i := 5) rfl)) (ty := .int) (by decide) rfl rfl g_a rfl ?_
  intro h1 W1 F1_
  replace E_a := E_a.wr W1
  replace F_a_gains := F_a_gains.other W1 (Or.inr (slot_ne (Or.inl (hw _ (List.mem_of_getElem? (i := 15) rfl))) (Or.inl (hw _ (List.mem_of_getElem? (i := 25) rfl))) (by decide) (t := (.array .long)) (t' := .int) (by decide) (by decide)))
  replace F_a_ids := F_a_ids.other W1 (Or.inr (slot_ne (Or.inl (hw _ (List.mem_of_getElem? (i := 18) rfl))) (Or.inl (hw _ (List.mem_of_getElem? (i := 25) rfl))) (by decide) (t := (.array .int)) (t' := .int) (by decide) (by decide)))
  replace A_g := A_g.other W1 (Ne.symm ne_a_g)
  replace A_d := A_d.other W1 (Ne.symm ne_a_d)
  replace F_a_size := F1_
  replace Z_ : n0 ≤ _ := Nat.le_trans Z_ (Nat.le_of_eq W1.size.symm)
  replace K_ := K_.wr W1 (Or.inl (List.mem_of_getElem? (i := 0) rfl))
  refine own_aloadN (pc' := 11) C d11_10 rfl rfl rfl ?_
  refine own_getfield (pc' := 14) C d11_11 (hw _ (List.mem_of_getElem? (i := 14) rfl)) F_a_gains rfl ?_
  refine own_aloadN (pc' := 15) C d11_14 rfl rfl rfl ?_
  refine own_getfield (pc' := 18) C d11_15 (hw _ (List.mem_of_getElem? (i := 24) rfl)) F_a_size rfl ?_
  refine own_laload (pc' := 19) (v := x2_) (i := 2) C d11_18 A_g (by decide) rfl rfl rfl ?_
  refine own_lstoreN (pc' := 20) (y := x2_) (Ls' := #[.val (.ref a), .val (.long x2_), .second, .unset, .unset, .unset]) C d11_19 rfl rfl rfl ?_
  refine own_aloadN (pc' := 21) C d11_20 rfl rfl rfl ?_
  refine own_getfield (pc' := 24) C d11_21 (hw _ (List.mem_of_getElem? (i := 17) rfl)) F_a_ids rfl ?_
  refine own_aloadN (pc' := 25) C d11_24 rfl rfl rfl ?_
  refine own_getfield (pc' := 28) C d11_25 (hw _ (List.mem_of_getElem? (i := 24) rfl)) F_a_size rfl ?_
  refine own_iaload (pc' := 29) (v := i2_) (i := 2) C d11_28 A_d (by decide) rfl rfl rfl ?_
  refine own_istoreN (pc' := 30) (y := i2_) (Ls' := #[.val (.ref a), .val (.long x2_), .second, .val (.int i2_), .unset, .unset]) C d11_29 rfl rfl rfl ?_
  refine own_iconst (pc' := 31) (v := (0 : Int32)) C d11_30 own_ki_0 rfl ?_
  refine own_istore (pc' := 33) (y := (0 : Int32)) (Ls' := #[.val (.ref a), .val (.long x2_), .second, .val (.int i2_), .val (.int (0 : Int32)), .unset]) C d11_31 rfl rfl rfl ?_
  refine own_iconst (pc' := 34) (v := (2 : Int32)) C d11_33 own_ki_2 rfl ?_
  refine own_iload (pc' := 36) C d11_34 rfl rfl ?_
  refine own_imul (pc' := 37) (v := (0 : Int32)) C d11_36 (by decide) rfl ?_
  refine own_iconst (pc' := 38) (v := (1 : Int32)) C d11_37 own_ki_1 rfl ?_
  refine own_iadd (pc' := 39) (v := (1 : Int32)) C d11_38 (by decide) rfl ?_
  refine own_istore (pc' := 41) (y := (1 : Int32)) (Ls' := #[.val (.ref a), .val (.long x2_), .second, .val (.int i2_), .val (.int (0 : Int32)), .val (.int (1 : Int32))]) C d11_39 rfl rfl rfl ?_
  refine own_iload (pc' := 43) C d11_41 rfl rfl ?_
  refine own_aloadN (pc' := 44) C d11_43 rfl rfl rfl ?_
  refine own_getfield (pc' := 47) C d11_44 (hw _ (List.mem_of_getElem? (i := 24) rfl)) F_a_size rfl ?_
  refine own_icmp_lt (pt := 53) (pf := 50) C d11_47 (by decide) (by decide) rfl (fun _ => ?_) (fun q => absurd (by decide) q)
  refine own_iload (pc' := 55) C d11_53 rfl rfl ?_
  refine own_iconst (pc' := 56) (v := (1 : Int32)) C d11_55 own_ki_1 rfl ?_
  refine own_iadd (pc' := 57) (v := (2 : Int32)) C d11_56 (by decide) rfl ?_
  refine own_aloadN (pc' := 58) C d11_57 rfl rfl rfl ?_
  refine own_getfield (pc' := 61) C d11_58 (hw _ (List.mem_of_getElem? (i := 24) rfl)) F_a_size rfl ?_
  refine own_icmp_ge (pt := 105) (pf := 64) C d11_61 (by decide) (by decide) rfl (fun _ => ?_) (fun q => absurd q (by decide))
  refine own_aloadN (pc' := 106) C d11_105 rfl rfl rfl ?_
  refine own_getfield (pc' := 109) C d11_106 (hw _ (List.mem_of_getElem? (i := 14) rfl)) F_a_gains rfl ?_
  refine own_iload (pc' := 111) C d11_109 rfl rfl ?_
  refine own_laload (pc' := 112) (v := x1_) (i := 1) C d11_111 A_g (by decide) rfl rfl rfl ?_
  refine own_aloadN (pc' := 113) C d11_112 rfl rfl rfl ?_
  refine own_getfield (pc' := 116) C d11_113 (hw _ (List.mem_of_getElem? (i := 17) rfl)) F_a_ids rfl ?_
  refine own_iload (pc' := 118) C d11_116 rfl rfl ?_
  refine own_iaload (pc' := 119) (v := i1_) (i := 1) C d11_118 A_d (by decide) rfl rfl rfl ?_
  refine own_lloadN (pc' := 120) C d11_119 rfl rfl ?_
  refine own_iloadN (pc' := 121) C d11_120 rfl rfl ?_
  refine own_callS (pc' := 124) (wL := 0) (argsL := [(.long x1_), (.int i1_), (.long x2_), (.int i2_)]) (rest := []) C (own_m5 l Z a0 hw x1_ i1_ x2_ i2_ h1 n0 Z_) d11_121 (hw _ (List.mem_of_getElem? (i := 26) rfl)) (hw _ (List.mem_of_getElem? (i := 27) rfl)) (hw _ (List.mem_of_getElem? (i := 6) rfl)) (hw _ (List.mem_of_getElem? (i := 28) rfl)) (by decide) (by decide) (by decide) rfl (lenOf pd5 rfl) rfl rfl (Nat.le_of_eq rfl) (by decide) (by decide) rfl ?_
  rintro _ _ ⟨rfl, rfl⟩
  show Wp p l e _ s m _ below meth c n0 _ h1 0 0 (mkF m 124 #[.val (.ref a), .val (.long x2_), .second, .val (.int i2_), .val (.int (0 : Int32)), .val (.int (1 : Int32))] [(.int (own_f5 x1_ i1_ x2_ i2_))])
  refine own_if_ne (pt := 130) (pf := 127) C d11_124 (by decide) (by decide) rfl ?_ ?_
  · intro hc124
    refine own_aloadN (pc' := 131) C d11_130 rfl rfl rfl ?_
    refine own_getfield (pc' := 134) C d11_131 (hw _ (List.mem_of_getElem? (i := 14) rfl)) F_a_gains rfl ?_
    refine own_iload (pc' := 136) C d11_134 rfl rfl ?_
    refine own_aloadN (pc' := 137) C d11_136 rfl rfl rfl ?_
    refine own_getfield (pc' := 140) C d11_137 (hw _ (List.mem_of_getElem? (i := 14) rfl)) F_a_gains rfl ?_
    refine own_iload (pc' := 142) C d11_140 rfl rfl ?_
    refine own_laload (pc' := 143) (v := x1_) (i := 1) C d11_142 A_g (by decide) rfl rfl rfl ?_
    refine own_lastore (pc' := 144) (i := 0) (ys := (x1_ :: x1_ :: x2_ :: x3_ :: x4_ :: own_zJ)) C d11_143 A_g (by decide) rfl (Nat.le_of_ble_eq_true rfl) rfl g_g rfl ?_
    intro h2 W2 A2_
    replace E_a := E_a.wr W2
    replace F_a_gains := F_a_gains.other W2 (Or.inl ne_a_g)
    replace F_a_ids := F_a_ids.other W2 (Or.inl ne_a_g)
    replace F_a_size := F_a_size.other W2 (Or.inl ne_a_g)
    replace A_d := A_d.other W2 (Ne.symm ne_g_d)
    replace A_g := A2_
    replace Z_ : n0 ≤ _ := Nat.le_trans Z_ (Nat.le_of_eq W2.size.symm)
    replace K_ := K_.wr W2 (Or.inl (List.mem_of_getElem? (i := 1) rfl))
    refine own_aloadN (pc' := 145) C d11_144 rfl rfl rfl ?_
    refine own_getfield (pc' := 148) C d11_145 (hw _ (List.mem_of_getElem? (i := 17) rfl)) F_a_ids rfl ?_
    refine own_iload (pc' := 150) C d11_148 rfl rfl ?_
    refine own_aloadN (pc' := 151) C d11_150 rfl rfl rfl ?_
    refine own_getfield (pc' := 154) C d11_151 (hw _ (List.mem_of_getElem? (i := 17) rfl)) F_a_ids rfl ?_
    refine own_iload (pc' := 156) C d11_154 rfl rfl ?_
    refine own_iaload (pc' := 157) (v := i1_) (i := 1) C d11_156 A_d (by decide) rfl rfl rfl ?_
    refine own_iastore (pc' := 158) (i := 0) (ys := (i1_ :: i1_ :: i2_ :: i3_ :: i4_ :: own_zI)) C d11_157 A_d (by decide) rfl (Nat.le_of_ble_eq_true rfl) rfl g_d rfl ?_
    intro h3 W3 A3_
    replace E_a := E_a.wr W3
    replace F_a_gains := F_a_gains.other W3 (Or.inl ne_a_d)
    replace F_a_ids := F_a_ids.other W3 (Or.inl ne_a_d)
    replace F_a_size := F_a_size.other W3 (Or.inl ne_a_d)
    replace A_g := A_g.other W3 ne_g_d
    replace A_d := A3_
    replace Z_ : n0 ≤ _ := Nat.le_trans Z_ (Nat.le_of_eq W3.size.symm)
    replace K_ := K_.wr W3 (Or.inl (List.mem_of_getElem? (i := 2) rfl))
    refine own_iload (pc' := 160) C d11_158 rfl rfl ?_
    refine own_istore (pc' := 162) (y := (1 : Int32)) (Ls' := #[.val (.ref a), .val (.long x2_), .second, .val (.int i2_), .val (.int (1 : Int32)), .val (.int (1 : Int32))]) C d11_160 rfl rfl rfl ?_
    refine own_goto (pc' := 33) C d11_162 (by decide) (by decide) ?_
    refine own_iconst (pc' := 34) (v := (2 : Int32)) C d11_33 own_ki_2 rfl ?_
    refine own_iload (pc' := 36) C d11_34 rfl rfl ?_
    refine own_imul (pc' := 37) (v := (2 : Int32)) C d11_36 (by decide) rfl ?_
    refine own_iconst (pc' := 38) (v := (1 : Int32)) C d11_37 own_ki_1 rfl ?_
    refine own_iadd (pc' := 39) (v := (3 : Int32)) C d11_38 (by decide) rfl ?_
    refine own_istore (pc' := 41) (y := (3 : Int32)) (Ls' := #[.val (.ref a), .val (.long x2_), .second, .val (.int i2_), .val (.int (1 : Int32)), .val (.int (3 : Int32))]) C d11_39 rfl rfl rfl ?_
    refine own_iload (pc' := 43) C d11_41 rfl rfl ?_
    refine own_aloadN (pc' := 44) C d11_43 rfl rfl rfl ?_
    refine own_getfield (pc' := 47) C d11_44 (hw _ (List.mem_of_getElem? (i := 24) rfl)) F_a_size rfl ?_
    refine own_icmp_lt (pt := 53) (pf := 50) C d11_47 (by decide) (by decide) rfl (fun q => absurd q (by decide)) (fun _ => ?_)
    refine own_goto (pc' := 165) C d11_50 (by decide) (by decide) ?_
    refine own_aloadN (pc' := 166) C d11_165 rfl rfl rfl ?_
    refine own_getfield (pc' := 169) C d11_166 (hw _ (List.mem_of_getElem? (i := 14) rfl)) F_a_gains rfl ?_
    refine own_iload (pc' := 171) C d11_169 rfl rfl ?_
    refine own_lloadN (pc' := 172) C d11_171 rfl rfl ?_
    refine own_lastore (pc' := 173) (i := 1) (ys := (x1_ :: x2_ :: x2_ :: x3_ :: x4_ :: own_zJ)) C d11_172 A_g (by decide) rfl (Nat.le_of_ble_eq_true rfl) rfl g_g rfl ?_
    intro h4 W4 A4_
    replace E_a := E_a.wr W4
    replace F_a_gains := F_a_gains.other W4 (Or.inl ne_a_g)
    replace F_a_ids := F_a_ids.other W4 (Or.inl ne_a_g)
    replace F_a_size := F_a_size.other W4 (Or.inl ne_a_g)
    replace A_d := A_d.other W4 (Ne.symm ne_g_d)
    replace A_g := A4_
    replace Z_ : n0 ≤ _ := Nat.le_trans Z_ (Nat.le_of_eq W4.size.symm)
    replace K_ := K_.wr W4 (Or.inl (List.mem_of_getElem? (i := 1) rfl))
    refine own_aloadN (pc' := 174) C d11_173 rfl rfl rfl ?_
    refine own_getfield (pc' := 177) C d11_174 (hw _ (List.mem_of_getElem? (i := 17) rfl)) F_a_ids rfl ?_
    refine own_iload (pc' := 179) C d11_177 rfl rfl ?_
    refine own_iloadN (pc' := 180) C d11_179 rfl rfl ?_
    refine own_iastore (pc' := 181) (i := 1) (ys := (i1_ :: i2_ :: i2_ :: i3_ :: i4_ :: own_zI)) C d11_180 A_d (by decide) rfl (Nat.le_of_ble_eq_true rfl) rfl g_d rfl ?_
    intro h5 W5 A5_
    replace E_a := E_a.wr W5
    replace F_a_gains := F_a_gains.other W5 (Or.inl ne_a_d)
    replace F_a_ids := F_a_ids.other W5 (Or.inl ne_a_d)
    replace F_a_size := F_a_size.other W5 (Or.inl ne_a_d)
    replace A_g := A_g.other W5 ne_g_d
    replace A_d := A5_
    replace Z_ : n0 ≤ _ := Nat.le_trans Z_ (Nat.le_of_eq W5.size.symm)
    replace K_ := K_.wr W5 (Or.inl (List.mem_of_getElem? (i := 2) rfl))
    refine own_vret C d11_181 (by decide) (by decide) ?_
    have l_hc124 : own_lt (x1_, i1_) (x2_, i2_) = true := by simp [own_lt, hc124]
    refine ⟨rfl, K_, F_a_gains, F_a_ids, F_a_size, ?_, ?_⟩
    · simp only [own_q2, l_hc124, if_true, if_false, Bool.false_eq_true]; exact A_g
    · simp only [own_q2, l_hc124, if_true, if_false, Bool.false_eq_true]; exact A_d
  · intro hc124
    refine own_goto (pc' := 165) C d11_127 (by decide) (by decide) ?_
    refine own_aloadN (pc' := 166) C d11_165 rfl rfl rfl ?_
    refine own_getfield (pc' := 169) C d11_166 (hw _ (List.mem_of_getElem? (i := 14) rfl)) F_a_gains rfl ?_
    refine own_iload (pc' := 171) C d11_169 rfl rfl ?_
    refine own_lloadN (pc' := 172) C d11_171 rfl rfl ?_
    refine own_lastore (pc' := 173) (i := 0) (ys := (x2_ :: x1_ :: x2_ :: x3_ :: x4_ :: own_zJ)) C d11_172 A_g (by decide) rfl (Nat.le_of_ble_eq_true rfl) rfl g_g rfl ?_
    intro h2 W2 A2_
    replace E_a := E_a.wr W2
    replace F_a_gains := F_a_gains.other W2 (Or.inl ne_a_g)
    replace F_a_ids := F_a_ids.other W2 (Or.inl ne_a_g)
    replace F_a_size := F_a_size.other W2 (Or.inl ne_a_g)
    replace A_d := A_d.other W2 (Ne.symm ne_g_d)
    replace A_g := A2_
    replace Z_ : n0 ≤ _ := Nat.le_trans Z_ (Nat.le_of_eq W2.size.symm)
    replace K_ := K_.wr W2 (Or.inl (List.mem_of_getElem? (i := 1) rfl))
    refine own_aloadN (pc' := 174) C d11_173 rfl rfl rfl ?_
    refine own_getfield (pc' := 177) C d11_174 (hw _ (List.mem_of_getElem? (i := 17) rfl)) F_a_ids rfl ?_
    refine own_iload (pc' := 179) C d11_177 rfl rfl ?_
    refine own_iloadN (pc' := 180) C d11_179 rfl rfl ?_
    refine own_iastore (pc' := 181) (i := 0) (ys := (i2_ :: i1_ :: i2_ :: i3_ :: i4_ :: own_zI)) C d11_180 A_d (by decide) rfl (Nat.le_of_ble_eq_true rfl) rfl g_d rfl ?_
    intro h3 W3 A3_
    replace E_a := E_a.wr W3
    replace F_a_gains := F_a_gains.other W3 (Or.inl ne_a_d)
    replace F_a_ids := F_a_ids.other W3 (Or.inl ne_a_d)
    replace F_a_size := F_a_size.other W3 (Or.inl ne_a_d)
    replace A_g := A_g.other W3 ne_g_d
    replace A_d := A3_
    replace Z_ : n0 ≤ _ := Nat.le_trans Z_ (Nat.le_of_eq W3.size.symm)
    replace K_ := K_.wr W3 (Or.inl (List.mem_of_getElem? (i := 2) rfl))
    refine own_vret C d11_181 (by decide) (by decide) ?_
    have l_hc124 : own_lt (x1_, i1_) (x2_, i2_) = false := by simp [own_lt, hc124]
    refine ⟨rfl, K_, F_a_gains, F_a_ids, F_a_size, ?_, ?_⟩
    · simp only [own_q2, l_hc124, if_true, if_false, Bool.false_eq_true]; exact A_g
    · simp only [own_q2, l_hc124, if_true, if_false, Bool.false_eq_true]; exact A_d

theorem d11_64 : decode prog_9_method_7_code 64 = .ok (.aload_n 0, 1) := by decide +kernel
theorem d11_65 : decode prog_9_method_7_code 65 = .ok (.getfield 7, 3) := by decide +kernel
theorem d11_68 : decode prog_9_method_7_code 68 = .ok (.iload 5, 2) := by decide +kernel
theorem d11_70 : decode prog_9_method_7_code 70 = .ok (.iconst 1, 1) := by decide +kernel
theorem d11_71 : decode prog_9_method_7_code 71 = .ok (.iadd, 1) := by decide +kernel
theorem d11_72 : decode prog_9_method_7_code 72 = .ok (.laload, 1) := by decide +kernel
theorem d11_73 : decode prog_9_method_7_code 73 = .ok (.aload_n 0, 1) := by decide +kernel
theorem d11_74 : decode prog_9_method_7_code 74 = .ok (.getfield 13, 3) := by decide +kernel
theorem d11_77 : decode prog_9_method_7_code 77 = .ok (.iload 5, 2) := by decide +kernel
theorem d11_79 : decode prog_9_method_7_code 79 = .ok (.iconst 1, 1) := by decide +kernel
theorem d11_80 : decode prog_9_method_7_code 80 = .ok (.iadd, 1) := by decide +kernel
theorem d11_81 : decode prog_9_method_7_code 81 = .ok (.iaload, 1) := by decide +kernel
theorem d11_82 : decode prog_9_method_7_code 82 = .ok (.aload_n 0, 1) := by decide +kernel
theorem d11_83 : decode prog_9_method_7_code 83 = .ok (.getfield 7, 3) := by decide +kernel
theorem d11_86 : decode prog_9_method_7_code 86 = .ok (.iload 5, 2) := by decide +kernel
theorem d11_88 : decode prog_9_method_7_code 88 = .ok (.laload, 1) := by decide +kernel
theorem d11_89 : decode prog_9_method_7_code 89 = .ok (.aload_n 0, 1) := by decide +kernel
theorem d11_90 : decode prog_9_method_7_code 90 = .ok (.getfield 13, 3) := by decide +kernel
theorem d11_93 : decode prog_9_method_7_code 93 = .ok (.iload 5, 2) := by decide +kernel
theorem d11_95 : decode prog_9_method_7_code 95 = .ok (.iaload, 1) := by decide +kernel
theorem d11_96 : decode prog_9_method_7_code 96 = .ok (.invokestatic 30, 3) := by decide +kernel
theorem d11_99 : decode prog_9_method_7_code 99 = .ok (.ifCond .eq 6, 3) := by decide +kernel
theorem d11_102 : decode prog_9_method_7_code 102 = .ok (.iinc 5 1, 3) := by decide +kernel
set_option maxRecDepth 65536 in
set_option maxHeartbeats 40000000 in
theorem own_pop3 (l : Launch) (Z : State) (a0 : Array Value) (hw : ∀ d ∈ tables_1, d.before a0 Z = true) (a : Addr) (g d : Addr) (x0_ x1_ x2_ x3_ x4_ : Int64) (i0_ i1_ i2_ i3_ i4_ : Int32) (h0 : Heap) (n0 : Nat) (Z_ : n0 ≤ h0.size) (E_a : Exa Z h0 a "com/example/cachewright/cachewright/placement/CandidateHeap") (F_a_gains : Fld Z h0 a "com/example/cachewright/cachewright/placement/CandidateHeap" "gains" "[J" (.ref g)) (F_a_ids : Fld Z h0 a "com/example/cachewright/cachewright/placement/CandidateHeap" "ids" "[I" (.ref d)) (F_a_size : Fld Z h0 a "com/example/cachewright/cachewright/placement/CandidateHeap" "size" "I" (.int (4 : Int32))) (g_a : n0 ≤ a) (A_g : AJ Z h0 g (x0_ :: x1_ :: x2_ :: x3_ :: x4_ :: own_zJ)) (A_d : AI Z h0 d .int (i0_ :: i1_ :: i2_ :: i3_ :: i4_ :: own_zI)) (g_g : n0 ≤ g) (g_d : n0 ≤ d) (ne_a_g : a ≠ g) (ne_a_d : a ≠ d) (ne_g_d : g ≠ d) :
    Met l (⟨"com/example/cachewright/cachewright/placement/CandidateHeap", "pop", "()V"⟩ : MethodName) prog_9_method_7_code 6 none [] ({ frames := 1, cells := 0, slots := 0, locals := 17 } : Room) Z n0 #[(.ref a)] h0 (fun v h => v = none ∧ Keep h0 h [a, g, d] ∧ Fld Z h a "com/example/cachewright/cachewright/placement/CandidateHeap" "gains" "[J" (.ref g) ∧ Fld Z h a "com/example/cachewright/cachewright/placement/CandidateHeap" "ids" "[I" (.ref d) ∧ Fld Z h a "com/example/cachewright/cachewright/placement/CandidateHeap" "size" "I" (.int (3 : Int32)) ∧ AJ Z h g ((own_q3 own_lt (x0_, i0_) (x1_, i1_) (x2_, i2_) (x3_, i3_)).1.1 :: (own_q3 own_lt (x0_, i0_) (x1_, i1_) (x2_, i2_) (x3_, i3_)).2.1.1 :: (own_q3 own_lt (x0_, i0_) (x1_, i1_) (x2_, i2_) (x3_, i3_)).2.2.1 :: x3_ :: x4_ :: own_zJ) ∧ AI Z h d .int ((own_q3 own_lt (x0_, i0_) (x1_, i1_) (x2_, i2_) (x3_, i3_)).1.2 :: (own_q3 own_lt (x0_, i0_) (x1_, i1_) (x2_, i2_) (x3_, i3_)).2.1.2 :: (own_q3 own_lt (x0_, i0_) (x1_, i1_) (x2_, i2_) (x3_, i3_)).2.2.2 :: i3_ :: i4_ :: own_zI)) := by
  refine own_met pn11 (fun m => ef11 m a) ?_
  intro p e s m below meth c C
  have K_ : Keep h0 h0 [a, g, d] := Keep.refl _ _
  refine own_aloadN (pc' := 1) C d11_0 rfl rfl rfl ?_
  refine own_dup (pc' := 2) C d11_1 rfl rfl ?_
  refine own_getfield (pc' := 5) C d11_2 (hw _ (List.mem_of_getElem? (i := 24) rfl)) F_a_size rfl ?_
  refine own_iconst (pc' := 6) (v := (1 : Int32)) C d11_5 own_ki_1 rfl ?_
  refine own_isub (pc' := 7) (v := (3 : Int32)) C d11_6 (by decide) rfl ?_
  refine own_putfield (pc' := 10) C d11_7 (hw _ (List.mem_of_getElem? (i := 24) rfl)) F_a_size E_a (Or.inl (hw _ (List.mem_of_getElem? (i := 25) rfl))) (hw _ (List.mem_of_getElem? (i := 5) rfl)) (ty := .int) (by decide) rfl rfl g_a rfl ?_
  intro h1 W1 F1_
  replace E_a := E_a.wr W1
  replace F_a_gains := F_a_gains.other W1 (Or.inr (slot_ne (Or.inl (hw _ (List.mem_of_getElem? (i := 15) rfl))) (Or.inl (hw _ (List.mem_of_getElem? (i := 25) rfl))) (by decide) (t := (.array .long)) (t' := .int) (by decide) (by decide)))
  replace F_a_ids := F_a_ids.other W1 (Or.inr (slot_ne (Or.inl (hw _ (List.mem_of_getElem? (i := 18) rfl))) (Or.inl (hw _ (List.mem_of_getElem? (i := 25) rfl))) (by decide) (t := (.array .int)) (t' := .int) (by decide) (by decide)))
  replace A_g := A_g.other W1 (Ne.symm ne_a_g)
  replace A_d := A_d.other W1 (Ne.symm ne_a_d)
  replace F_a_size := F1_
  replace Z_ : n0 ≤ _ := Nat.le_trans Z_ (Nat.le_of_eq W1.size.symm)
  replace K_ := K_.wr W1 (Or.inl (List.mem_of_getElem? (i := 0) rfl))
  refine own_aloadN (pc' := 11) C d11_10 rfl rfl rfl ?_
  refine own_getfield (pc' := 14) C d11_11 (hw _ (List.mem_of_getElem? (i := 14) rfl)) F_a_gains rfl ?_
  refine own_aloadN (pc' := 15) C d11_14 rfl rfl rfl ?_
  refine own_getfield (pc' := 18) C d11_15 (hw _ (List.mem_of_getElem? (i := 24) rfl)) F_a_size rfl ?_
  refine own_laload (pc' := 19) (v := x3_) (i := 3) C d11_18 A_g (by decide) rfl rfl rfl ?_
  refine own_lstoreN (pc' := 20) (y := x3_) (Ls' := #[.val (.ref a), .val (.long x3_), .second, .unset, .unset, .unset]) C d11_19 rfl rfl rfl ?_
  refine own_aloadN (pc' := 21) C d11_20 rfl rfl rfl ?_
  refine own_getfield (pc' := 24) C d11_21 (hw _ (List.mem_of_getElem? (i := 17) rfl)) F_a_ids rfl ?_
  refine own_aloadN (pc' := 25) C d11_24 rfl rfl rfl ?_
  refine own_getfield (pc' := 28) C d11_25 (hw _ (List.mem_of_getElem? (i := 24) rfl)) F_a_size rfl ?_
  refine own_iaload (pc' := 29) (v := i3_) (i := 3) C d11_28 A_d (by decide) rfl rfl rfl ?_
  refine own_istoreN (pc' := 30) (y := i3_) (Ls' := #[.val (.ref a), .val (.long x3_), .second, .val (.int i3_), .unset, .unset]) C d11_29 rfl rfl rfl ?_
  refine own_iconst (pc' := 31) (v := (0 : Int32)) C d11_30 own_ki_0 rfl ?_
  refine own_istore (pc' := 33) (y := (0 : Int32)) (Ls' := #[.val (.ref a), .val (.long x3_), .second, .val (.int i3_), .val (.int (0 : Int32)), .unset]) C d11_31 rfl rfl rfl ?_
  refine own_iconst (pc' := 34) (v := (2 : Int32)) C d11_33 own_ki_2 rfl ?_
  refine own_iload (pc' := 36) C d11_34 rfl rfl ?_
  refine own_imul (pc' := 37) (v := (0 : Int32)) C d11_36 (by decide) rfl ?_
  refine own_iconst (pc' := 38) (v := (1 : Int32)) C d11_37 own_ki_1 rfl ?_
  refine own_iadd (pc' := 39) (v := (1 : Int32)) C d11_38 (by decide) rfl ?_
  refine own_istore (pc' := 41) (y := (1 : Int32)) (Ls' := #[.val (.ref a), .val (.long x3_), .second, .val (.int i3_), .val (.int (0 : Int32)), .val (.int (1 : Int32))]) C d11_39 rfl rfl rfl ?_
  refine own_iload (pc' := 43) C d11_41 rfl rfl ?_
  refine own_aloadN (pc' := 44) C d11_43 rfl rfl rfl ?_
  refine own_getfield (pc' := 47) C d11_44 (hw _ (List.mem_of_getElem? (i := 24) rfl)) F_a_size rfl ?_
  refine own_icmp_lt (pt := 53) (pf := 50) C d11_47 (by decide) (by decide) rfl (fun _ => ?_) (fun q => absurd (by decide) q)
  refine own_iload (pc' := 55) C d11_53 rfl rfl ?_
  refine own_iconst (pc' := 56) (v := (1 : Int32)) C d11_55 own_ki_1 rfl ?_
  refine own_iadd (pc' := 57) (v := (2 : Int32)) C d11_56 (by decide) rfl ?_
  refine own_aloadN (pc' := 58) C d11_57 rfl rfl rfl ?_
  refine own_getfield (pc' := 61) C d11_58 (hw _ (List.mem_of_getElem? (i := 24) rfl)) F_a_size rfl ?_
  refine own_icmp_ge (pt := 105) (pf := 64) C d11_61 (by decide) (by decide) rfl (fun q => absurd (by decide) q) (fun _ => ?_)
  refine own_aloadN (pc' := 65) C d11_64 rfl rfl rfl ?_
  refine own_getfield (pc' := 68) C d11_65 (hw _ (List.mem_of_getElem? (i := 14) rfl)) F_a_gains rfl ?_
  refine own_iload (pc' := 70) C d11_68 rfl rfl ?_
  refine own_iconst (pc' := 71) (v := (1 : Int32)) C d11_70 own_ki_1 rfl ?_
  refine own_iadd (pc' := 72) (v := (2 : Int32)) C d11_71 (by decide) rfl ?_
  refine own_laload (pc' := 73) (v := x2_) (i := 2) C d11_72 A_g (by decide) rfl rfl rfl ?_
  refine own_aloadN (pc' := 74) C d11_73 rfl rfl rfl ?_
  refine own_getfield (pc' := 77) C d11_74 (hw _ (List.mem_of_getElem? (i := 17) rfl)) F_a_ids rfl ?_
  refine own_iload (pc' := 79) C d11_77 rfl rfl ?_
  refine own_iconst (pc' := 80) (v := (1 : Int32)) C d11_79 own_ki_1 rfl ?_
  refine own_iadd (pc' := 81) (v := (2 : Int32)) C d11_80 (by decide) rfl ?_
  refine own_iaload (pc' := 82) (v := i2_) (i := 2) C d11_81 A_d (by decide) rfl rfl rfl ?_
  refine own_aloadN (pc' := 83) C d11_82 rfl rfl rfl ?_
  refine own_getfield (pc' := 86) C d11_83 (hw _ (List.mem_of_getElem? (i := 14) rfl)) F_a_gains rfl ?_
  refine own_iload (pc' := 88) C d11_86 rfl rfl ?_
  refine own_laload (pc' := 89) (v := x1_) (i := 1) C d11_88 A_g (by decide) rfl rfl rfl ?_
  refine own_aloadN (pc' := 90) C d11_89 rfl rfl rfl ?_
  refine own_getfield (pc' := 93) C d11_90 (hw _ (List.mem_of_getElem? (i := 17) rfl)) F_a_ids rfl ?_
  refine own_iload (pc' := 95) C d11_93 rfl rfl ?_
  refine own_iaload (pc' := 96) (v := i1_) (i := 1) C d11_95 A_d (by decide) rfl rfl rfl ?_
  refine own_callS (pc' := 99) (wL := 0) (argsL := [(.long x2_), (.int i2_), (.long x1_), (.int i1_)]) (rest := []) C (own_m5 l Z a0 hw x2_ i2_ x1_ i1_ h1 n0 Z_) d11_96 (hw _ (List.mem_of_getElem? (i := 26) rfl)) (hw _ (List.mem_of_getElem? (i := 27) rfl)) (hw _ (List.mem_of_getElem? (i := 6) rfl)) (hw _ (List.mem_of_getElem? (i := 28) rfl)) (by decide) (by decide) (by decide) rfl (lenOf pd5 rfl) rfl rfl (Nat.le_of_eq rfl) (by decide) (by decide) rfl ?_
  rintro _ _ ⟨rfl, rfl⟩
  show Wp p l e _ s m _ below meth c n0 _ h1 0 0 (mkF m 99 #[.val (.ref a), .val (.long x3_), .second, .val (.int i3_), .val (.int (0 : Int32)), .val (.int (1 : Int32))] [(.int (own_f5 x2_ i2_ x1_ i1_))])
  refine own_if_eq (pt := 105) (pf := 102) C d11_99 (by decide) (by decide) rfl ?_ ?_
  · intro hc99
    refine own_aloadN (pc' := 106) C d11_105 rfl rfl rfl ?_
    refine own_getfield (pc' := 109) C d11_106 (hw _ (List.mem_of_getElem? (i := 14) rfl)) F_a_gains rfl ?_
    refine own_iload (pc' := 111) C d11_109 rfl rfl ?_
    refine own_laload (pc' := 112) (v := x1_) (i := 1) C d11_111 A_g (by decide) rfl rfl rfl ?_
    refine own_aloadN (pc' := 113) C d11_112 rfl rfl rfl ?_
    refine own_getfield (pc' := 116) C d11_113 (hw _ (List.mem_of_getElem? (i := 17) rfl)) F_a_ids rfl ?_
    refine own_iload (pc' := 118) C d11_116 rfl rfl ?_
    refine own_iaload (pc' := 119) (v := i1_) (i := 1) C d11_118 A_d (by decide) rfl rfl rfl ?_
    refine own_lloadN (pc' := 120) C d11_119 rfl rfl ?_
    refine own_iloadN (pc' := 121) C d11_120 rfl rfl ?_
    refine own_callS (pc' := 124) (wL := 0) (argsL := [(.long x1_), (.int i1_), (.long x3_), (.int i3_)]) (rest := []) C (own_m5 l Z a0 hw x1_ i1_ x3_ i3_ h1 n0 Z_) d11_121 (hw _ (List.mem_of_getElem? (i := 26) rfl)) (hw _ (List.mem_of_getElem? (i := 27) rfl)) (hw _ (List.mem_of_getElem? (i := 6) rfl)) (hw _ (List.mem_of_getElem? (i := 28) rfl)) (by decide) (by decide) (by decide) rfl (lenOf pd5 rfl) rfl rfl (Nat.le_of_eq rfl) (by decide) (by decide) rfl ?_
    rintro _ _ ⟨rfl, rfl⟩
    show Wp p l e _ s m _ below meth c n0 _ h1 0 0 (mkF m 124 #[.val (.ref a), .val (.long x3_), .second, .val (.int i3_), .val (.int (0 : Int32)), .val (.int (1 : Int32))] [(.int (own_f5 x1_ i1_ x3_ i3_))])
    refine own_if_ne (pt := 130) (pf := 127) C d11_124 (by decide) (by decide) rfl ?_ ?_
    · intro hc124
      refine own_aloadN (pc' := 131) C d11_130 rfl rfl rfl ?_
      refine own_getfield (pc' := 134) C d11_131 (hw _ (List.mem_of_getElem? (i := 14) rfl)) F_a_gains rfl ?_
      refine own_iload (pc' := 136) C d11_134 rfl rfl ?_
      refine own_aloadN (pc' := 137) C d11_136 rfl rfl rfl ?_
      refine own_getfield (pc' := 140) C d11_137 (hw _ (List.mem_of_getElem? (i := 14) rfl)) F_a_gains rfl ?_
      refine own_iload (pc' := 142) C d11_140 rfl rfl ?_
      refine own_laload (pc' := 143) (v := x1_) (i := 1) C d11_142 A_g (by decide) rfl rfl rfl ?_
      refine own_lastore (pc' := 144) (i := 0) (ys := (x1_ :: x1_ :: x2_ :: x3_ :: x4_ :: own_zJ)) C d11_143 A_g (by decide) rfl (Nat.le_of_ble_eq_true rfl) rfl g_g rfl ?_
      intro h2 W2 A2_
      replace E_a := E_a.wr W2
      replace F_a_gains := F_a_gains.other W2 (Or.inl ne_a_g)
      replace F_a_ids := F_a_ids.other W2 (Or.inl ne_a_g)
      replace F_a_size := F_a_size.other W2 (Or.inl ne_a_g)
      replace A_d := A_d.other W2 (Ne.symm ne_g_d)
      replace A_g := A2_
      replace Z_ : n0 ≤ _ := Nat.le_trans Z_ (Nat.le_of_eq W2.size.symm)
      replace K_ := K_.wr W2 (Or.inl (List.mem_of_getElem? (i := 1) rfl))
      refine own_aloadN (pc' := 145) C d11_144 rfl rfl rfl ?_
      refine own_getfield (pc' := 148) C d11_145 (hw _ (List.mem_of_getElem? (i := 17) rfl)) F_a_ids rfl ?_
      refine own_iload (pc' := 150) C d11_148 rfl rfl ?_
      refine own_aloadN (pc' := 151) C d11_150 rfl rfl rfl ?_
      refine own_getfield (pc' := 154) C d11_151 (hw _ (List.mem_of_getElem? (i := 17) rfl)) F_a_ids rfl ?_
      refine own_iload (pc' := 156) C d11_154 rfl rfl ?_
      refine own_iaload (pc' := 157) (v := i1_) (i := 1) C d11_156 A_d (by decide) rfl rfl rfl ?_
      refine own_iastore (pc' := 158) (i := 0) (ys := (i1_ :: i1_ :: i2_ :: i3_ :: i4_ :: own_zI)) C d11_157 A_d (by decide) rfl (Nat.le_of_ble_eq_true rfl) rfl g_d rfl ?_
      intro h3 W3 A3_
      replace E_a := E_a.wr W3
      replace F_a_gains := F_a_gains.other W3 (Or.inl ne_a_d)
      replace F_a_ids := F_a_ids.other W3 (Or.inl ne_a_d)
      replace F_a_size := F_a_size.other W3 (Or.inl ne_a_d)
      replace A_g := A_g.other W3 ne_g_d
      replace A_d := A3_
      replace Z_ : n0 ≤ _ := Nat.le_trans Z_ (Nat.le_of_eq W3.size.symm)
      replace K_ := K_.wr W3 (Or.inl (List.mem_of_getElem? (i := 2) rfl))
      refine own_iload (pc' := 160) C d11_158 rfl rfl ?_
      refine own_istore (pc' := 162) (y := (1 : Int32)) (Ls' := #[.val (.ref a), .val (.long x3_), .second, .val (.int i3_), .val (.int (1 : Int32)), .val (.int (1 : Int32))]) C d11_160 rfl rfl rfl ?_
      refine own_goto (pc' := 33) C d11_162 (by decide) (by decide) ?_
      refine own_iconst (pc' := 34) (v := (2 : Int32)) C d11_33 own_ki_2 rfl ?_
      refine own_iload (pc' := 36) C d11_34 rfl rfl ?_
      refine own_imul (pc' := 37) (v := (2 : Int32)) C d11_36 (by decide) rfl ?_
      refine own_iconst (pc' := 38) (v := (1 : Int32)) C d11_37 own_ki_1 rfl ?_
      refine own_iadd (pc' := 39) (v := (3 : Int32)) C d11_38 (by decide) rfl ?_
      refine own_istore (pc' := 41) (y := (3 : Int32)) (Ls' := #[.val (.ref a), .val (.long x3_), .second, .val (.int i3_), .val (.int (1 : Int32)), .val (.int (3 : Int32))]) C d11_39 rfl rfl rfl ?_
      refine own_iload (pc' := 43) C d11_41 rfl rfl ?_
      refine own_aloadN (pc' := 44) C d11_43 rfl rfl rfl ?_
      refine own_getfield (pc' := 47) C d11_44 (hw _ (List.mem_of_getElem? (i := 24) rfl)) F_a_size rfl ?_
      refine own_icmp_lt (pt := 53) (pf := 50) C d11_47 (by decide) (by decide) rfl (fun q => absurd q (by decide)) (fun _ => ?_)
      refine own_goto (pc' := 165) C d11_50 (by decide) (by decide) ?_
      refine own_aloadN (pc' := 166) C d11_165 rfl rfl rfl ?_
      refine own_getfield (pc' := 169) C d11_166 (hw _ (List.mem_of_getElem? (i := 14) rfl)) F_a_gains rfl ?_
      refine own_iload (pc' := 171) C d11_169 rfl rfl ?_
      refine own_lloadN (pc' := 172) C d11_171 rfl rfl ?_
      refine own_lastore (pc' := 173) (i := 1) (ys := (x1_ :: x3_ :: x2_ :: x3_ :: x4_ :: own_zJ)) C d11_172 A_g (by decide) rfl (Nat.le_of_ble_eq_true rfl) rfl g_g rfl ?_
      intro h4 W4 A4_
      replace E_a := E_a.wr W4
      replace F_a_gains := F_a_gains.other W4 (Or.inl ne_a_g)
      replace F_a_ids := F_a_ids.other W4 (Or.inl ne_a_g)
      replace F_a_size := F_a_size.other W4 (Or.inl ne_a_g)
      replace A_d := A_d.other W4 (Ne.symm ne_g_d)
      replace A_g := A4_
      replace Z_ : n0 ≤ _ := Nat.le_trans Z_ (Nat.le_of_eq W4.size.symm)
      replace K_ := K_.wr W4 (Or.inl (List.mem_of_getElem? (i := 1) rfl))
      refine own_aloadN (pc' := 174) C d11_173 rfl rfl rfl ?_
      refine own_getfield (pc' := 177) C d11_174 (hw _ (List.mem_of_getElem? (i := 17) rfl)) F_a_ids rfl ?_
      refine own_iload (pc' := 179) C d11_177 rfl rfl ?_
      refine own_iloadN (pc' := 180) C d11_179 rfl rfl ?_
      refine own_iastore (pc' := 181) (i := 1) (ys := (i1_ :: i3_ :: i2_ :: i3_ :: i4_ :: own_zI)) C d11_180 A_d (by decide) rfl (Nat.le_of_ble_eq_true rfl) rfl g_d rfl ?_
      intro h5 W5 A5_
      replace E_a := E_a.wr W5
      replace F_a_gains := F_a_gains.other W5 (Or.inl ne_a_d)
      replace F_a_ids := F_a_ids.other W5 (Or.inl ne_a_d)
      replace F_a_size := F_a_size.other W5 (Or.inl ne_a_d)
      replace A_g := A_g.other W5 ne_g_d
      replace A_d := A5_
      replace Z_ : n0 ≤ _ := Nat.le_trans Z_ (Nat.le_of_eq W5.size.symm)
      replace K_ := K_.wr W5 (Or.inl (List.mem_of_getElem? (i := 2) rfl))
      refine own_vret C d11_181 (by decide) (by decide) ?_
      have l_hc99 : own_lt (x2_, i2_) (x1_, i1_) = false := by simp [own_lt, hc99]
      have l_hc124 : own_lt (x1_, i1_) (x3_, i3_) = true := by simp [own_lt, hc124]
      refine ⟨rfl, K_, F_a_gains, F_a_ids, F_a_size, ?_, ?_⟩
      · simp only [own_q3, l_hc99, l_hc124, if_true, if_false, Bool.false_eq_true]; exact A_g
      · simp only [own_q3, l_hc99, l_hc124, if_true, if_false, Bool.false_eq_true]; exact A_d
    · intro hc124
      refine own_goto (pc' := 165) C d11_127 (by decide) (by decide) ?_
      refine own_aloadN (pc' := 166) C d11_165 rfl rfl rfl ?_
      refine own_getfield (pc' := 169) C d11_166 (hw _ (List.mem_of_getElem? (i := 14) rfl)) F_a_gains rfl ?_
      refine own_iload (pc' := 171) C d11_169 rfl rfl ?_
      refine own_lloadN (pc' := 172) C d11_171 rfl rfl ?_
      refine own_lastore (pc' := 173) (i := 0) (ys := (x3_ :: x1_ :: x2_ :: x3_ :: x4_ :: own_zJ)) C d11_172 A_g (by decide) rfl (Nat.le_of_ble_eq_true rfl) rfl g_g rfl ?_
      intro h2 W2 A2_
      replace E_a := E_a.wr W2
      replace F_a_gains := F_a_gains.other W2 (Or.inl ne_a_g)
      replace F_a_ids := F_a_ids.other W2 (Or.inl ne_a_g)
      replace F_a_size := F_a_size.other W2 (Or.inl ne_a_g)
      replace A_d := A_d.other W2 (Ne.symm ne_g_d)
      replace A_g := A2_
      replace Z_ : n0 ≤ _ := Nat.le_trans Z_ (Nat.le_of_eq W2.size.symm)
      replace K_ := K_.wr W2 (Or.inl (List.mem_of_getElem? (i := 1) rfl))
      refine own_aloadN (pc' := 174) C d11_173 rfl rfl rfl ?_
      refine own_getfield (pc' := 177) C d11_174 (hw _ (List.mem_of_getElem? (i := 17) rfl)) F_a_ids rfl ?_
      refine own_iload (pc' := 179) C d11_177 rfl rfl ?_
      refine own_iloadN (pc' := 180) C d11_179 rfl rfl ?_
      refine own_iastore (pc' := 181) (i := 0) (ys := (i3_ :: i1_ :: i2_ :: i3_ :: i4_ :: own_zI)) C d11_180 A_d (by decide) rfl (Nat.le_of_ble_eq_true rfl) rfl g_d rfl ?_
      intro h3 W3 A3_
      replace E_a := E_a.wr W3
      replace F_a_gains := F_a_gains.other W3 (Or.inl ne_a_d)
      replace F_a_ids := F_a_ids.other W3 (Or.inl ne_a_d)
      replace F_a_size := F_a_size.other W3 (Or.inl ne_a_d)
      replace A_g := A_g.other W3 ne_g_d
      replace A_d := A3_
      replace Z_ : n0 ≤ _ := Nat.le_trans Z_ (Nat.le_of_eq W3.size.symm)
      replace K_ := K_.wr W3 (Or.inl (List.mem_of_getElem? (i := 2) rfl))
      refine own_vret C d11_181 (by decide) (by decide) ?_
      have l_hc99 : own_lt (x2_, i2_) (x1_, i1_) = false := by simp [own_lt, hc99]
      have l_hc124 : own_lt (x1_, i1_) (x3_, i3_) = false := by simp [own_lt, hc124]
      refine ⟨rfl, K_, F_a_gains, F_a_ids, F_a_size, ?_, ?_⟩
      · simp only [own_q3, l_hc99, l_hc124, if_true, if_false, Bool.false_eq_true]; exact A_g
      · simp only [own_q3, l_hc99, l_hc124, if_true, if_false, Bool.false_eq_true]; exact A_d
  · intro hc99
    refine own_iinc (pc' := 105) (v := (2 : Int32)) (Ls' := #[.val (.ref a), .val (.long x3_), .second, .val (.int i3_), .val (.int (0 : Int32)), .val (.int (2 : Int32))]) C d11_102 rfl (by decide) rfl rfl ?_
    refine own_aloadN (pc' := 106) C d11_105 rfl rfl rfl ?_
    refine own_getfield (pc' := 109) C d11_106 (hw _ (List.mem_of_getElem? (i := 14) rfl)) F_a_gains rfl ?_
    refine own_iload (pc' := 111) C d11_109 rfl rfl ?_
    refine own_laload (pc' := 112) (v := x2_) (i := 2) C d11_111 A_g (by decide) rfl rfl rfl ?_
    refine own_aloadN (pc' := 113) C d11_112 rfl rfl rfl ?_
    refine own_getfield (pc' := 116) C d11_113 (hw _ (List.mem_of_getElem? (i := 17) rfl)) F_a_ids rfl ?_
    refine own_iload (pc' := 118) C d11_116 rfl rfl ?_
    refine own_iaload (pc' := 119) (v := i2_) (i := 2) C d11_118 A_d (by decide) rfl rfl rfl ?_
    refine own_lloadN (pc' := 120) C d11_119 rfl rfl ?_
    refine own_iloadN (pc' := 121) C d11_120 rfl rfl ?_
    refine own_callS (pc' := 124) (wL := 0) (argsL := [(.long x2_), (.int i2_), (.long x3_), (.int i3_)]) (rest := []) C (own_m5 l Z a0 hw x2_ i2_ x3_ i3_ h1 n0 Z_) d11_121 (hw _ (List.mem_of_getElem? (i := 26) rfl)) (hw _ (List.mem_of_getElem? (i := 27) rfl)) (hw _ (List.mem_of_getElem? (i := 6) rfl)) (hw _ (List.mem_of_getElem? (i := 28) rfl)) (by decide) (by decide) (by decide) rfl (lenOf pd5 rfl) rfl rfl (Nat.le_of_eq rfl) (by decide) (by decide) rfl ?_
    rintro _ _ ⟨rfl, rfl⟩
    show Wp p l e _ s m _ below meth c n0 _ h1 0 0 (mkF m 124 #[.val (.ref a), .val (.long x3_), .second, .val (.int i3_), .val (.int (0 : Int32)), .val (.int (2 : Int32))] [(.int (own_f5 x2_ i2_ x3_ i3_))])
    refine own_if_ne (pt := 130) (pf := 127) C d11_124 (by decide) (by decide) rfl ?_ ?_
    · intro hc124
      refine own_aloadN (pc' := 131) C d11_130 rfl rfl rfl ?_
      refine own_getfield (pc' := 134) C d11_131 (hw _ (List.mem_of_getElem? (i := 14) rfl)) F_a_gains rfl ?_
      refine own_iload (pc' := 136) C d11_134 rfl rfl ?_
      refine own_aloadN (pc' := 137) C d11_136 rfl rfl rfl ?_
      refine own_getfield (pc' := 140) C d11_137 (hw _ (List.mem_of_getElem? (i := 14) rfl)) F_a_gains rfl ?_
      refine own_iload (pc' := 142) C d11_140 rfl rfl ?_
      refine own_laload (pc' := 143) (v := x2_) (i := 2) C d11_142 A_g (by decide) rfl rfl rfl ?_
      refine own_lastore (pc' := 144) (i := 0) (ys := (x2_ :: x1_ :: x2_ :: x3_ :: x4_ :: own_zJ)) C d11_143 A_g (by decide) rfl (Nat.le_of_ble_eq_true rfl) rfl g_g rfl ?_
      intro h2 W2 A2_
      replace E_a := E_a.wr W2
      replace F_a_gains := F_a_gains.other W2 (Or.inl ne_a_g)
      replace F_a_ids := F_a_ids.other W2 (Or.inl ne_a_g)
      replace F_a_size := F_a_size.other W2 (Or.inl ne_a_g)
      replace A_d := A_d.other W2 (Ne.symm ne_g_d)
      replace A_g := A2_
      replace Z_ : n0 ≤ _ := Nat.le_trans Z_ (Nat.le_of_eq W2.size.symm)
      replace K_ := K_.wr W2 (Or.inl (List.mem_of_getElem? (i := 1) rfl))
      refine own_aloadN (pc' := 145) C d11_144 rfl rfl rfl ?_
      refine own_getfield (pc' := 148) C d11_145 (hw _ (List.mem_of_getElem? (i := 17) rfl)) F_a_ids rfl ?_
      refine own_iload (pc' := 150) C d11_148 rfl rfl ?_
      refine own_aloadN (pc' := 151) C d11_150 rfl rfl rfl ?_
      refine own_getfield (pc' := 154) C d11_151 (hw _ (List.mem_of_getElem? (i := 17) rfl)) F_a_ids rfl ?_
      refine own_iload (pc' := 156) C d11_154 rfl rfl ?_
      refine own_iaload (pc' := 157) (v := i2_) (i := 2) C d11_156 A_d (by decide) rfl rfl rfl ?_
      refine own_iastore (pc' := 158) (i := 0) (ys := (i2_ :: i1_ :: i2_ :: i3_ :: i4_ :: own_zI)) C d11_157 A_d (by decide) rfl (Nat.le_of_ble_eq_true rfl) rfl g_d rfl ?_
      intro h3 W3 A3_
      replace E_a := E_a.wr W3
      replace F_a_gains := F_a_gains.other W3 (Or.inl ne_a_d)
      replace F_a_ids := F_a_ids.other W3 (Or.inl ne_a_d)
      replace F_a_size := F_a_size.other W3 (Or.inl ne_a_d)
      replace A_g := A_g.other W3 ne_g_d
      replace A_d := A3_
      replace Z_ : n0 ≤ _ := Nat.le_trans Z_ (Nat.le_of_eq W3.size.symm)
      replace K_ := K_.wr W3 (Or.inl (List.mem_of_getElem? (i := 2) rfl))
      refine own_iload (pc' := 160) C d11_158 rfl rfl ?_
      refine own_istore (pc' := 162) (y := (2 : Int32)) (Ls' := #[.val (.ref a), .val (.long x3_), .second, .val (.int i3_), .val (.int (2 : Int32)), .val (.int (2 : Int32))]) C d11_160 rfl rfl rfl ?_
      refine own_goto (pc' := 33) C d11_162 (by decide) (by decide) ?_
      refine own_iconst (pc' := 34) (v := (2 : Int32)) C d11_33 own_ki_2 rfl ?_
      refine own_iload (pc' := 36) C d11_34 rfl rfl ?_
      refine own_imul (pc' := 37) (v := (4 : Int32)) C d11_36 (by decide) rfl ?_
      refine own_iconst (pc' := 38) (v := (1 : Int32)) C d11_37 own_ki_1 rfl ?_
      refine own_iadd (pc' := 39) (v := (5 : Int32)) C d11_38 (by decide) rfl ?_
      refine own_istore (pc' := 41) (y := (5 : Int32)) (Ls' := #[.val (.ref a), .val (.long x3_), .second, .val (.int i3_), .val (.int (2 : Int32)), .val (.int (5 : Int32))]) C d11_39 rfl rfl rfl ?_
      refine own_iload (pc' := 43) C d11_41 rfl rfl ?_
      refine own_aloadN (pc' := 44) C d11_43 rfl rfl rfl ?_
      refine own_getfield (pc' := 47) C d11_44 (hw _ (List.mem_of_getElem? (i := 24) rfl)) F_a_size rfl ?_
      refine own_icmp_lt (pt := 53) (pf := 50) C d11_47 (by decide) (by decide) rfl (fun q => absurd q (by decide)) (fun _ => ?_)
      refine own_goto (pc' := 165) C d11_50 (by decide) (by decide) ?_
      refine own_aloadN (pc' := 166) C d11_165 rfl rfl rfl ?_
      refine own_getfield (pc' := 169) C d11_166 (hw _ (List.mem_of_getElem? (i := 14) rfl)) F_a_gains rfl ?_
      refine own_iload (pc' := 171) C d11_169 rfl rfl ?_
      refine own_lloadN (pc' := 172) C d11_171 rfl rfl ?_
      refine own_lastore (pc' := 173) (i := 2) (ys := (x2_ :: x1_ :: x3_ :: x3_ :: x4_ :: own_zJ)) C d11_172 A_g (by decide) rfl (Nat.le_of_ble_eq_true rfl) rfl g_g rfl ?_
      intro h4 W4 A4_
      replace E_a := E_a.wr W4
      replace F_a_gains := F_a_gains.other W4 (Or.inl ne_a_g)
      replace F_a_ids := F_a_ids.other W4 (Or.inl ne_a_g)
      replace F_a_size := F_a_size.other W4 (Or.inl ne_a_g)
      replace A_d := A_d.other W4 (Ne.symm ne_g_d)
      replace A_g := A4_
      replace Z_ : n0 ≤ _ := Nat.le_trans Z_ (Nat.le_of_eq W4.size.symm)
      replace K_ := K_.wr W4 (Or.inl (List.mem_of_getElem? (i := 1) rfl))
      refine own_aloadN (pc' := 174) C d11_173 rfl rfl rfl ?_
      refine own_getfield (pc' := 177) C d11_174 (hw _ (List.mem_of_getElem? (i := 17) rfl)) F_a_ids rfl ?_
      refine own_iload (pc' := 179) C d11_177 rfl rfl ?_
      refine own_iloadN (pc' := 180) C d11_179 rfl rfl ?_
      refine own_iastore (pc' := 181) (i := 2) (ys := (i2_ :: i1_ :: i3_ :: i3_ :: i4_ :: own_zI)) C d11_180 A_d (by decide) rfl (Nat.le_of_ble_eq_true rfl) rfl g_d rfl ?_
      intro h5 W5 A5_
      replace E_a := E_a.wr W5
      replace F_a_gains := F_a_gains.other W5 (Or.inl ne_a_d)
      replace F_a_ids := F_a_ids.other W5 (Or.inl ne_a_d)
      replace F_a_size := F_a_size.other W5 (Or.inl ne_a_d)
      replace A_g := A_g.other W5 ne_g_d
      replace A_d := A5_
      replace Z_ : n0 ≤ _ := Nat.le_trans Z_ (Nat.le_of_eq W5.size.symm)
      replace K_ := K_.wr W5 (Or.inl (List.mem_of_getElem? (i := 2) rfl))
      refine own_vret C d11_181 (by decide) (by decide) ?_
      have l_hc99 : own_lt (x2_, i2_) (x1_, i1_) = true := by simp [own_lt, hc99]
      have l_hc124 : own_lt (x2_, i2_) (x3_, i3_) = true := by simp [own_lt, hc124]
      refine ⟨rfl, K_, F_a_gains, F_a_ids, F_a_size, ?_, ?_⟩
      · simp only [own_q3, l_hc99, l_hc124, if_true, if_false, Bool.false_eq_true]; exact A_g
      · simp only [own_q3, l_hc99, l_hc124, if_true, if_false, Bool.false_eq_true]; exact A_d
    · intro hc124
      refine own_goto (pc' := 165) C d11_127 (by decide) (by decide) ?_
      refine own_aloadN (pc' := 166) C d11_165 rfl rfl rfl ?_
      refine own_getfield (pc' := 169) C d11_166 (hw _ (List.mem_of_getElem? (i := 14) rfl)) F_a_gains rfl ?_
      refine own_iload (pc' := 171) C d11_169 rfl rfl ?_
      refine own_lloadN (pc' := 172) C d11_171 rfl rfl ?_
      refine own_lastore (pc' := 173) (i := 0) (ys := (x3_ :: x1_ :: x2_ :: x3_ :: x4_ :: own_zJ)) C d11_172 A_g (by decide) rfl (Nat.le_of_ble_eq_true rfl) rfl g_g rfl ?_
      intro h2 W2 A2_
      replace E_a := E_a.wr W2
      replace F_a_gains := F_a_gains.other W2 (Or.inl ne_a_g)
      replace F_a_ids := F_a_ids.other W2 (Or.inl ne_a_g)
      replace F_a_size := F_a_size.other W2 (Or.inl ne_a_g)
      replace A_d := A_d.other W2 (Ne.symm ne_g_d)
      replace A_g := A2_
      replace Z_ : n0 ≤ _ := Nat.le_trans Z_ (Nat.le_of_eq W2.size.symm)
      replace K_ := K_.wr W2 (Or.inl (List.mem_of_getElem? (i := 1) rfl))
      refine own_aloadN (pc' := 174) C d11_173 rfl rfl rfl ?_
      refine own_getfield (pc' := 177) C d11_174 (hw _ (List.mem_of_getElem? (i := 17) rfl)) F_a_ids rfl ?_
      refine own_iload (pc' := 179) C d11_177 rfl rfl ?_
      refine own_iloadN (pc' := 180) C d11_179 rfl rfl ?_
      refine own_iastore (pc' := 181) (i := 0) (ys := (i3_ :: i1_ :: i2_ :: i3_ :: i4_ :: own_zI)) C d11_180 A_d (by decide) rfl (Nat.le_of_ble_eq_true rfl) rfl g_d rfl ?_
      intro h3 W3 A3_
      replace E_a := E_a.wr W3
      replace F_a_gains := F_a_gains.other W3 (Or.inl ne_a_d)
      replace F_a_ids := F_a_ids.other W3 (Or.inl ne_a_d)
      replace F_a_size := F_a_size.other W3 (Or.inl ne_a_d)
      replace A_g := A_g.other W3 ne_g_d
      replace A_d := A3_
      replace Z_ : n0 ≤ _ := Nat.le_trans Z_ (Nat.le_of_eq W3.size.symm)
      replace K_ := K_.wr W3 (Or.inl (List.mem_of_getElem? (i := 2) rfl))
      refine own_vret C d11_181 (by decide) (by decide) ?_
      have l_hc99 : own_lt (x2_, i2_) (x1_, i1_) = true := by simp [own_lt, hc99]
      have l_hc124 : own_lt (x2_, i2_) (x3_, i3_) = false := by simp [own_lt, hc124]
      refine ⟨rfl, K_, F_a_gains, F_a_ids, F_a_size, ?_, ?_⟩
      · simp only [own_q3, l_hc99, l_hc124, if_true, if_false, Bool.false_eq_true]; exact A_g
      · simp only [own_q3, l_hc99, l_hc124, if_true, if_false, Bool.false_eq_true]; exact A_d

set_option maxRecDepth 65536 in
set_option maxHeartbeats 40000000 in
theorem own_pop4 (l : Launch) (Z : State) (a0 : Array Value) (hw : ∀ d ∈ tables_1, d.before a0 Z = true) (a : Addr) (g d : Addr) (x0_ x1_ x2_ x3_ x4_ : Int64) (i0_ i1_ i2_ i3_ i4_ : Int32) (h0 : Heap) (n0 : Nat) (Z_ : n0 ≤ h0.size) (E_a : Exa Z h0 a "com/example/cachewright/cachewright/placement/CandidateHeap") (F_a_gains : Fld Z h0 a "com/example/cachewright/cachewright/placement/CandidateHeap" "gains" "[J" (.ref g)) (F_a_ids : Fld Z h0 a "com/example/cachewright/cachewright/placement/CandidateHeap" "ids" "[I" (.ref d)) (F_a_size : Fld Z h0 a "com/example/cachewright/cachewright/placement/CandidateHeap" "size" "I" (.int (5 : Int32))) (g_a : n0 ≤ a) (A_g : AJ Z h0 g (x0_ :: x1_ :: x2_ :: x3_ :: x4_ :: own_zJ)) (A_d : AI Z h0 d .int (i0_ :: i1_ :: i2_ :: i3_ :: i4_ :: own_zI)) (g_g : n0 ≤ g) (g_d : n0 ≤ d) (ne_a_g : a ≠ g) (ne_a_d : a ≠ d) (ne_g_d : g ≠ d) :
    Met l (⟨"com/example/cachewright/cachewright/placement/CandidateHeap", "pop", "()V"⟩ : MethodName) prog_9_method_7_code 6 none [] ({ frames := 1, cells := 0, slots := 0, locals := 17 } : Room) Z n0 #[(.ref a)] h0 (fun v h => v = none ∧ Keep h0 h [a, g, d] ∧ Fld Z h a "com/example/cachewright/cachewright/placement/CandidateHeap" "gains" "[J" (.ref g) ∧ Fld Z h a "com/example/cachewright/cachewright/placement/CandidateHeap" "ids" "[I" (.ref d) ∧ Fld Z h a "com/example/cachewright/cachewright/placement/CandidateHeap" "size" "I" (.int (4 : Int32)) ∧ AJ Z h g ((own_q4 own_lt (x0_, i0_) (x1_, i1_) (x2_, i2_) (x3_, i3_) (x4_, i4_)).1.1 :: (own_q4 own_lt (x0_, i0_) (x1_, i1_) (x2_, i2_) (x3_, i3_) (x4_, i4_)).2.1.1 :: (own_q4 own_lt (x0_, i0_) (x1_, i1_) (x2_, i2_) (x3_, i3_) (x4_, i4_)).2.2.1.1 :: (own_q4 own_lt (x0_, i0_) (x1_, i1_) (x2_, i2_) (x3_, i3_) (x4_, i4_)).2.2.2.1 :: x4_ :: own_zJ) ∧ AI Z h d .int ((own_q4 own_lt (x0_, i0_) (x1_, i1_) (x2_, i2_) (x3_, i3_) (x4_, i4_)).1.2 :: (own_q4 own_lt (x0_, i0_) (x1_, i1_) (x2_, i2_) (x3_, i3_) (x4_, i4_)).2.1.2 :: (own_q4 own_lt (x0_, i0_) (x1_, i1_) (x2_, i2_) (x3_, i3_) (x4_, i4_)).2.2.1.2 :: (own_q4 own_lt (x0_, i0_) (x1_, i1_) (x2_, i2_) (x3_, i3_) (x4_, i4_)).2.2.2.2 :: i4_ :: own_zI)) := by
  refine own_met pn11 (fun m => ef11 m a) ?_
  intro p e s m below meth c C
  have K_ : Keep h0 h0 [a, g, d] := Keep.refl _ _
  refine own_aloadN (pc' := 1) C d11_0 rfl rfl rfl ?_
  refine own_dup (pc' := 2) C d11_1 rfl rfl ?_
  refine own_getfield (pc' := 5) C d11_2 (hw _ (List.mem_of_getElem? (i := 24) rfl)) F_a_size rfl ?_
  refine own_iconst (pc' := 6) (v := (1 : Int32)) C d11_5 own_ki_1 rfl ?_
  refine own_isub (pc' := 7) (v := (4 : Int32)) C d11_6 (by decide) rfl ?_
  refine own_putfield (pc' := 10) C d11_7 (hw _ (List.mem_of_getElem? (i := 24) rfl)) F_a_size E_a (Or.inl (hw _ (List.mem_of_getElem? (i := 25) rfl))) (hw _ (List.mem_of_getElem? (i := 5) rfl)) (ty := .int) (by decide) rfl rfl g_a rfl ?_
  intro h1 W1 F1_
  replace E_a := E_a.wr W1
  replace F_a_gains := F_a_gains.other W1 (Or.inr (slot_ne (Or.inl (hw _ (List.mem_of_getElem? (i := 15) rfl))) (Or.inl (hw _ (List.mem_of_getElem? (i := 25) rfl))) (by decide) (t := (.array .long)) (t' := .int) (by decide) (by decide)))
  replace F_a_ids := F_a_ids.other W1 (Or.inr (slot_ne (Or.inl (hw _ (List.mem_of_getElem? (i := 18) rfl))) (Or.inl (hw _ (List.mem_of_getElem? (i := 25) rfl))) (by decide) (t := (.array .int)) (t' := .int) (by decide) (by decide)))
  replace A_g := A_g.other W1 (Ne.symm ne_a_g)
  replace A_d := A_d.other W1 (Ne.symm ne_a_d)
  replace F_a_size := F1_
  replace Z_ : n0 ≤ _ := Nat.le_trans Z_ (Nat.le_of_eq W1.size.symm)
  replace K_ := K_.wr W1 (Or.inl (List.mem_of_getElem? (i := 0) rfl))
  refine own_aloadN (pc' := 11) C d11_10 rfl rfl rfl ?_
  refine own_getfield (pc' := 14) C d11_11 (hw _ (List.mem_of_getElem? (i := 14) rfl)) F_a_gains rfl ?_
  refine own_aloadN (pc' := 15) C d11_14 rfl rfl rfl ?_
  refine own_getfield (pc' := 18) C d11_15 (hw _ (List.mem_of_getElem? (i := 24) rfl)) F_a_size rfl ?_
  refine own_laload (pc' := 19) (v := x4_) (i := 4) C d11_18 A_g (by decide) rfl rfl rfl ?_
  refine own_lstoreN (pc' := 20) (y := x4_) (Ls' := #[.val (.ref a), .val (.long x4_), .second, .unset, .unset, .unset]) C d11_19 rfl rfl rfl ?_
  refine own_aloadN (pc' := 21) C d11_20 rfl rfl rfl ?_
  refine own_getfield (pc' := 24) C d11_21 (hw _ (List.mem_of_getElem? (i := 17) rfl)) F_a_ids rfl ?_
  refine own_aloadN (pc' := 25) C d11_24 rfl rfl rfl ?_
  refine own_getfield (pc' := 28) C d11_25 (hw _ (List.mem_of_getElem? (i := 24) rfl)) F_a_size rfl ?_
  refine own_iaload (pc' := 29) (v := i4_) (i := 4) C d11_28 A_d (by decide) rfl rfl rfl ?_
  refine own_istoreN (pc' := 30) (y := i4_) (Ls' := #[.val (.ref a), .val (.long x4_), .second, .val (.int i4_), .unset, .unset]) C d11_29 rfl rfl rfl ?_
  refine own_iconst (pc' := 31) (v := (0 : Int32)) C d11_30 own_ki_0 rfl ?_
  refine own_istore (pc' := 33) (y := (0 : Int32)) (Ls' := #[.val (.ref a), .val (.long x4_), .second, .val (.int i4_), .val (.int (0 : Int32)), .unset]) C d11_31 rfl rfl rfl ?_
  refine own_iconst (pc' := 34) (v := (2 : Int32)) C d11_33 own_ki_2 rfl ?_
  refine own_iload (pc' := 36) C d11_34 rfl rfl ?_
  refine own_imul (pc' := 37) (v := (0 : Int32)) C d11_36 (by decide) rfl ?_
  refine own_iconst (pc' := 38) (v := (1 : Int32)) C d11_37 own_ki_1 rfl ?_
  refine own_iadd (pc' := 39) (v := (1 : Int32)) C d11_38 (by decide) rfl ?_
  refine own_istore (pc' := 41) (y := (1 : Int32)) (Ls' := #[.val (.ref a), .val (.long x4_), .second, .val (.int i4_), .val (.int (0 : Int32)), .val (.int (1 : Int32))]) C d11_39 rfl rfl rfl ?_
  refine own_iload (pc' := 43) C d11_41 rfl rfl ?_
  refine own_aloadN (pc' := 44) C d11_43 rfl rfl rfl ?_
  refine own_getfield (pc' := 47) C d11_44 (hw _ (List.mem_of_getElem? (i := 24) rfl)) F_a_size rfl ?_
  refine own_icmp_lt (pt := 53) (pf := 50) C d11_47 (by decide) (by decide) rfl (fun _ => ?_) (fun q => absurd (by decide) q)
  refine own_iload (pc' := 55) C d11_53 rfl rfl ?_
  refine own_iconst (pc' := 56) (v := (1 : Int32)) C d11_55 own_ki_1 rfl ?_
  refine own_iadd (pc' := 57) (v := (2 : Int32)) C d11_56 (by decide) rfl ?_
  refine own_aloadN (pc' := 58) C d11_57 rfl rfl rfl ?_
  refine own_getfield (pc' := 61) C d11_58 (hw _ (List.mem_of_getElem? (i := 24) rfl)) F_a_size rfl ?_
  refine own_icmp_ge (pt := 105) (pf := 64) C d11_61 (by decide) (by decide) rfl (fun q => absurd (by decide) q) (fun _ => ?_)
  refine own_aloadN (pc' := 65) C d11_64 rfl rfl rfl ?_
  refine own_getfield (pc' := 68) C d11_65 (hw _ (List.mem_of_getElem? (i := 14) rfl)) F_a_gains rfl ?_
  refine own_iload (pc' := 70) C d11_68 rfl rfl ?_
  refine own_iconst (pc' := 71) (v := (1 : Int32)) C d11_70 own_ki_1 rfl ?_
  refine own_iadd (pc' := 72) (v := (2 : Int32)) C d11_71 (by decide) rfl ?_
  refine own_laload (pc' := 73) (v := x2_) (i := 2) C d11_72 A_g (by decide) rfl rfl rfl ?_
  refine own_aloadN (pc' := 74) C d11_73 rfl rfl rfl ?_
  refine own_getfield (pc' := 77) C d11_74 (hw _ (List.mem_of_getElem? (i := 17) rfl)) F_a_ids rfl ?_
  refine own_iload (pc' := 79) C d11_77 rfl rfl ?_
  refine own_iconst (pc' := 80) (v := (1 : Int32)) C d11_79 own_ki_1 rfl ?_
  refine own_iadd (pc' := 81) (v := (2 : Int32)) C d11_80 (by decide) rfl ?_
  refine own_iaload (pc' := 82) (v := i2_) (i := 2) C d11_81 A_d (by decide) rfl rfl rfl ?_
  refine own_aloadN (pc' := 83) C d11_82 rfl rfl rfl ?_
  refine own_getfield (pc' := 86) C d11_83 (hw _ (List.mem_of_getElem? (i := 14) rfl)) F_a_gains rfl ?_
  refine own_iload (pc' := 88) C d11_86 rfl rfl ?_
  refine own_laload (pc' := 89) (v := x1_) (i := 1) C d11_88 A_g (by decide) rfl rfl rfl ?_
  refine own_aloadN (pc' := 90) C d11_89 rfl rfl rfl ?_
  refine own_getfield (pc' := 93) C d11_90 (hw _ (List.mem_of_getElem? (i := 17) rfl)) F_a_ids rfl ?_
  refine own_iload (pc' := 95) C d11_93 rfl rfl ?_
  refine own_iaload (pc' := 96) (v := i1_) (i := 1) C d11_95 A_d (by decide) rfl rfl rfl ?_
  refine own_callS (pc' := 99) (wL := 0) (argsL := [(.long x2_), (.int i2_), (.long x1_), (.int i1_)]) (rest := []) C (own_m5 l Z a0 hw x2_ i2_ x1_ i1_ h1 n0 Z_) d11_96 (hw _ (List.mem_of_getElem? (i := 26) rfl)) (hw _ (List.mem_of_getElem? (i := 27) rfl)) (hw _ (List.mem_of_getElem? (i := 6) rfl)) (hw _ (List.mem_of_getElem? (i := 28) rfl)) (by decide) (by decide) (by decide) rfl (lenOf pd5 rfl) rfl rfl (Nat.le_of_eq rfl) (by decide) (by decide) rfl ?_
  rintro _ _ ⟨rfl, rfl⟩
  show Wp p l e _ s m _ below meth c n0 _ h1 0 0 (mkF m 99 #[.val (.ref a), .val (.long x4_), .second, .val (.int i4_), .val (.int (0 : Int32)), .val (.int (1 : Int32))] [(.int (own_f5 x2_ i2_ x1_ i1_))])
  refine own_if_eq (pt := 105) (pf := 102) C d11_99 (by decide) (by decide) rfl ?_ ?_
  · intro hc99
    refine own_aloadN (pc' := 106) C d11_105 rfl rfl rfl ?_
    refine own_getfield (pc' := 109) C d11_106 (hw _ (List.mem_of_getElem? (i := 14) rfl)) F_a_gains rfl ?_
    refine own_iload (pc' := 111) C d11_109 rfl rfl ?_
    refine own_laload (pc' := 112) (v := x1_) (i := 1) C d11_111 A_g (by decide) rfl rfl rfl ?_
    refine own_aloadN (pc' := 113) C d11_112 rfl rfl rfl ?_
    refine own_getfield (pc' := 116) C d11_113 (hw _ (List.mem_of_getElem? (i := 17) rfl)) F_a_ids rfl ?_
    refine own_iload (pc' := 118) C d11_116 rfl rfl ?_
    refine own_iaload (pc' := 119) (v := i1_) (i := 1) C d11_118 A_d (by decide) rfl rfl rfl ?_
    refine own_lloadN (pc' := 120) C d11_119 rfl rfl ?_
    refine own_iloadN (pc' := 121) C d11_120 rfl rfl ?_
    refine own_callS (pc' := 124) (wL := 0) (argsL := [(.long x1_), (.int i1_), (.long x4_), (.int i4_)]) (rest := []) C (own_m5 l Z a0 hw x1_ i1_ x4_ i4_ h1 n0 Z_) d11_121 (hw _ (List.mem_of_getElem? (i := 26) rfl)) (hw _ (List.mem_of_getElem? (i := 27) rfl)) (hw _ (List.mem_of_getElem? (i := 6) rfl)) (hw _ (List.mem_of_getElem? (i := 28) rfl)) (by decide) (by decide) (by decide) rfl (lenOf pd5 rfl) rfl rfl (Nat.le_of_eq rfl) (by decide) (by decide) rfl ?_
    rintro _ _ ⟨rfl, rfl⟩
    show Wp p l e _ s m _ below meth c n0 _ h1 0 0 (mkF m 124 #[.val (.ref a), .val (.long x4_), .second, .val (.int i4_), .val (.int (0 : Int32)), .val (.int (1 : Int32))] [(.int (own_f5 x1_ i1_ x4_ i4_))])
    refine own_if_ne (pt := 130) (pf := 127) C d11_124 (by decide) (by decide) rfl ?_ ?_
    · intro hc124
      refine own_aloadN (pc' := 131) C d11_130 rfl rfl rfl ?_
      refine own_getfield (pc' := 134) C d11_131 (hw _ (List.mem_of_getElem? (i := 14) rfl)) F_a_gains rfl ?_
      refine own_iload (pc' := 136) C d11_134 rfl rfl ?_
      refine own_aloadN (pc' := 137) C d11_136 rfl rfl rfl ?_
      refine own_getfield (pc' := 140) C d11_137 (hw _ (List.mem_of_getElem? (i := 14) rfl)) F_a_gains rfl ?_
      refine own_iload (pc' := 142) C d11_140 rfl rfl ?_
      refine own_laload (pc' := 143) (v := x1_) (i := 1) C d11_142 A_g (by decide) rfl rfl rfl ?_
      refine own_lastore (pc' := 144) (i := 0) (ys := (x1_ :: x1_ :: x2_ :: x3_ :: x4_ :: own_zJ)) C d11_143 A_g (by decide) rfl (Nat.le_of_ble_eq_true rfl) rfl g_g rfl ?_
      intro h2 W2 A2_
      replace E_a := E_a.wr W2
      replace F_a_gains := F_a_gains.other W2 (Or.inl ne_a_g)
      replace F_a_ids := F_a_ids.other W2 (Or.inl ne_a_g)
      replace F_a_size := F_a_size.other W2 (Or.inl ne_a_g)
      replace A_d := A_d.other W2 (Ne.symm ne_g_d)
      replace A_g := A2_
      replace Z_ : n0 ≤ _ := Nat.le_trans Z_ (Nat.le_of_eq W2.size.symm)
      replace K_ := K_.wr W2 (Or.inl (List.mem_of_getElem? (i := 1) rfl))
      refine own_aloadN (pc' := 145) C d11_144 rfl rfl rfl ?_
      refine own_getfield (pc' := 148) C d11_145 (hw _ (List.mem_of_getElem? (i := 17) rfl)) F_a_ids rfl ?_
      refine own_iload (pc' := 150) C d11_148 rfl rfl ?_
      refine own_aloadN (pc' := 151) C d11_150 rfl rfl rfl ?_
      refine own_getfield (pc' := 154) C d11_151 (hw _ (List.mem_of_getElem? (i := 17) rfl)) F_a_ids rfl ?_
      refine own_iload (pc' := 156) C d11_154 rfl rfl ?_
      refine own_iaload (pc' := 157) (v := i1_) (i := 1) C d11_156 A_d (by decide) rfl rfl rfl ?_
      refine own_iastore (pc' := 158) (i := 0) (ys := (i1_ :: i1_ :: i2_ :: i3_ :: i4_ :: own_zI)) C d11_157 A_d (by decide) rfl (Nat.le_of_ble_eq_true rfl) rfl g_d rfl ?_
      intro h3 W3 A3_
      replace E_a := E_a.wr W3
      replace F_a_gains := F_a_gains.other W3 (Or.inl ne_a_d)
      replace F_a_ids := F_a_ids.other W3 (Or.inl ne_a_d)
      replace F_a_size := F_a_size.other W3 (Or.inl ne_a_d)
      replace A_g := A_g.other W3 ne_g_d
      replace A_d := A3_
      replace Z_ : n0 ≤ _ := Nat.le_trans Z_ (Nat.le_of_eq W3.size.symm)
      replace K_ := K_.wr W3 (Or.inl (List.mem_of_getElem? (i := 2) rfl))
      refine own_iload (pc' := 160) C d11_158 rfl rfl ?_
      refine own_istore (pc' := 162) (y := (1 : Int32)) (Ls' := #[.val (.ref a), .val (.long x4_), .second, .val (.int i4_), .val (.int (1 : Int32)), .val (.int (1 : Int32))]) C d11_160 rfl rfl rfl ?_
      refine own_goto (pc' := 33) C d11_162 (by decide) (by decide) ?_
      refine own_iconst (pc' := 34) (v := (2 : Int32)) C d11_33 own_ki_2 rfl ?_
      refine own_iload (pc' := 36) C d11_34 rfl rfl ?_
      refine own_imul (pc' := 37) (v := (2 : Int32)) C d11_36 (by decide) rfl ?_
      refine own_iconst (pc' := 38) (v := (1 : Int32)) C d11_37 own_ki_1 rfl ?_
      refine own_iadd (pc' := 39) (v := (3 : Int32)) C d11_38 (by decide) rfl ?_
      refine own_istore (pc' := 41) (y := (3 : Int32)) (Ls' := #[.val (.ref a), .val (.long x4_), .second, .val (.int i4_), .val (.int (1 : Int32)), .val (.int (3 : Int32))]) C d11_39 rfl rfl rfl ?_
      refine own_iload (pc' := 43) C d11_41 rfl rfl ?_
      refine own_aloadN (pc' := 44) C d11_43 rfl rfl rfl ?_
      refine own_getfield (pc' := 47) C d11_44 (hw _ (List.mem_of_getElem? (i := 24) rfl)) F_a_size rfl ?_
      refine own_icmp_lt (pt := 53) (pf := 50) C d11_47 (by decide) (by decide) rfl (fun _ => ?_) (fun q => absurd (by decide) q)
      refine own_iload (pc' := 55) C d11_53 rfl rfl ?_
      refine own_iconst (pc' := 56) (v := (1 : Int32)) C d11_55 own_ki_1 rfl ?_
      refine own_iadd (pc' := 57) (v := (4 : Int32)) C d11_56 (by decide) rfl ?_
      refine own_aloadN (pc' := 58) C d11_57 rfl rfl rfl ?_
      refine own_getfield (pc' := 61) C d11_58 (hw _ (List.mem_of_getElem? (i := 24) rfl)) F_a_size rfl ?_
      refine own_icmp_ge (pt := 105) (pf := 64) C d11_61 (by decide) (by decide) rfl (fun _ => ?_) (fun q => absurd q (by decide))
      refine own_aloadN (pc' := 106) C d11_105 rfl rfl rfl ?_
      refine own_getfield (pc' := 109) C d11_106 (hw _ (List.mem_of_getElem? (i := 14) rfl)) F_a_gains rfl ?_
      refine own_iload (pc' := 111) C d11_109 rfl rfl ?_
      refine own_laload (pc' := 112) (v := x3_) (i := 3) C d11_111 A_g (by decide) rfl rfl rfl ?_
      refine own_aloadN (pc' := 113) C d11_112 rfl rfl rfl ?_
      refine own_getfield (pc' := 116) C d11_113 (hw _ (List.mem_of_getElem? (i := 17) rfl)) F_a_ids rfl ?_
      refine own_iload (pc' := 118) C d11_116 rfl rfl ?_
      refine own_iaload (pc' := 119) (v := i3_) (i := 3) C d11_118 A_d (by decide) rfl rfl rfl ?_
      refine own_lloadN (pc' := 120) C d11_119 rfl rfl ?_
      refine own_iloadN (pc' := 121) C d11_120 rfl rfl ?_
      refine own_callS (pc' := 124) (wL := 0) (argsL := [(.long x3_), (.int i3_), (.long x4_), (.int i4_)]) (rest := []) C (own_m5 l Z a0 hw x3_ i3_ x4_ i4_ h3 n0 Z_) d11_121 (hw _ (List.mem_of_getElem? (i := 26) rfl)) (hw _ (List.mem_of_getElem? (i := 27) rfl)) (hw _ (List.mem_of_getElem? (i := 6) rfl)) (hw _ (List.mem_of_getElem? (i := 28) rfl)) (by decide) (by decide) (by decide) rfl (lenOf pd5 rfl) rfl rfl (Nat.le_of_eq rfl) (by decide) (by decide) rfl ?_
      rintro _ _ ⟨rfl, rfl⟩
      show Wp p l e _ s m _ below meth c n0 _ h3 0 0 (mkF m 124 #[.val (.ref a), .val (.long x4_), .second, .val (.int i4_), .val (.int (1 : Int32)), .val (.int (3 : Int32))] [(.int (own_f5 x3_ i3_ x4_ i4_))])
      refine own_if_ne (pt := 130) (pf := 127) C d11_124 (by decide) (by decide) rfl ?_ ?_
      · intro hc124_2
        refine own_aloadN (pc' := 131) C d11_130 rfl rfl rfl ?_
        refine own_getfield (pc' := 134) C d11_131 (hw _ (List.mem_of_getElem? (i := 14) rfl)) F_a_gains rfl ?_
        refine own_iload (pc' := 136) C d11_134 rfl rfl ?_
        refine own_aloadN (pc' := 137) C d11_136 rfl rfl rfl ?_
        refine own_getfield (pc' := 140) C d11_137 (hw _ (List.mem_of_getElem? (i := 14) rfl)) F_a_gains rfl ?_
        refine own_iload (pc' := 142) C d11_140 rfl rfl ?_
        refine own_laload (pc' := 143) (v := x3_) (i := 3) C d11_142 A_g (by decide) rfl rfl rfl ?_
        refine own_lastore (pc' := 144) (i := 1) (ys := (x1_ :: x3_ :: x2_ :: x3_ :: x4_ :: own_zJ)) C d11_143 A_g (by decide) rfl (Nat.le_of_ble_eq_true rfl) rfl g_g rfl ?_
        intro h4 W4 A4_
        replace E_a := E_a.wr W4
        replace F_a_gains := F_a_gains.other W4 (Or.inl ne_a_g)
        replace F_a_ids := F_a_ids.other W4 (Or.inl ne_a_g)
        replace F_a_size := F_a_size.other W4 (Or.inl ne_a_g)
        replace A_d := A_d.other W4 (Ne.symm ne_g_d)
        replace A_g := A4_
        replace Z_ : n0 ≤ _ := Nat.le_trans Z_ (Nat.le_of_eq W4.size.symm)
        replace K_ := K_.wr W4 (Or.inl (List.mem_of_getElem? (i := 1) rfl))
        refine own_aloadN (pc' := 145) C d11_144 rfl rfl rfl ?_
        refine own_getfield (pc' := 148) C d11_145 (hw _ (List.mem_of_getElem? (i := 17) rfl)) F_a_ids rfl ?_
        refine own_iload (pc' := 150) C d11_148 rfl rfl ?_
        refine own_aloadN (pc' := 151) C d11_150 rfl rfl rfl ?_
        refine own_getfield (pc' := 154) C d11_151 (hw _ (List.mem_of_getElem? (i := 17) rfl)) F_a_ids rfl ?_
        refine own_iload (pc' := 156) C d11_154 rfl rfl ?_
        refine own_iaload (pc' := 157) (v := i3_) (i := 3) C d11_156 A_d (by decide) rfl rfl rfl ?_
        refine own_iastore (pc' := 158) (i := 1) (ys := (i1_ :: i3_ :: i2_ :: i3_ :: i4_ :: own_zI)) C d11_157 A_d (by decide) rfl (Nat.le_of_ble_eq_true rfl) rfl g_d rfl ?_
        intro h5 W5 A5_
        replace E_a := E_a.wr W5
        replace F_a_gains := F_a_gains.other W5 (Or.inl ne_a_d)
        replace F_a_ids := F_a_ids.other W5 (Or.inl ne_a_d)
        replace F_a_size := F_a_size.other W5 (Or.inl ne_a_d)
        replace A_g := A_g.other W5 ne_g_d
        replace A_d := A5_
        replace Z_ : n0 ≤ _ := Nat.le_trans Z_ (Nat.le_of_eq W5.size.symm)
        replace K_ := K_.wr W5 (Or.inl (List.mem_of_getElem? (i := 2) rfl))
        refine own_iload (pc' := 160) C d11_158 rfl rfl ?_
        refine own_istore (pc' := 162) (y := (3 : Int32)) (Ls' := #[.val (.ref a), .val (.long x4_), .second, .val (.int i4_), .val (.int (3 : Int32)), .val (.int (3 : Int32))]) C d11_160 rfl rfl rfl ?_
        refine own_goto (pc' := 33) C d11_162 (by decide) (by decide) ?_
        refine own_iconst (pc' := 34) (v := (2 : Int32)) C d11_33 own_ki_2 rfl ?_
        refine own_iload (pc' := 36) C d11_34 rfl rfl ?_
        refine own_imul (pc' := 37) (v := (6 : Int32)) C d11_36 (by decide) rfl ?_
        refine own_iconst (pc' := 38) (v := (1 : Int32)) C d11_37 own_ki_1 rfl ?_
        refine own_iadd (pc' := 39) (v := (7 : Int32)) C d11_38 (by decide) rfl ?_
        refine own_istore (pc' := 41) (y := (7 : Int32)) (Ls' := #[.val (.ref a), .val (.long x4_), .second, .val (.int i4_), .val (.int (3 : Int32)), .val (.int (7 : Int32))]) C d11_39 rfl rfl rfl ?_
        refine own_iload (pc' := 43) C d11_41 rfl rfl ?_
        refine own_aloadN (pc' := 44) C d11_43 rfl rfl rfl ?_
        refine own_getfield (pc' := 47) C d11_44 (hw _ (List.mem_of_getElem? (i := 24) rfl)) F_a_size rfl ?_
        refine own_icmp_lt (pt := 53) (pf := 50) C d11_47 (by decide) (by decide) rfl (fun q => absurd q (by decide)) (fun _ => ?_)
        refine own_goto (pc' := 165) C d11_50 (by decide) (by decide) ?_
        refine own_aloadN (pc' := 166) C d11_165 rfl rfl rfl ?_
        refine own_getfield (pc' := 169) C d11_166 (hw _ (List.mem_of_getElem? (i := 14) rfl)) F_a_gains rfl ?_
        refine own_iload (pc' := 171) C d11_169 rfl rfl ?_
        refine own_lloadN (pc' := 172) C d11_171 rfl rfl ?_
        refine own_lastore (pc' := 173) (i := 3) (ys := (x1_ :: x3_ :: x2_ :: x4_ :: x4_ :: own_zJ)) C d11_172 A_g (by decide) rfl (Nat.le_of_ble_eq_true rfl) rfl g_g rfl ?_
        intro h6 W6 A6_
        replace E_a := E_a.wr W6
        replace F_a_gains := F_a_gains.other W6 (Or.inl ne_a_g)
        replace F_a_ids := F_a_ids.other W6 (Or.inl ne_a_g)
        replace F_a_size := F_a_size.other W6 (Or.inl ne_a_g)
        replace A_d := A_d.other W6 (Ne.symm ne_g_d)
        replace A_g := A6_
        replace Z_ : n0 ≤ _ := Nat.le_trans Z_ (Nat.le_of_eq W6.size.symm)
        replace K_ := K_.wr W6 (Or.inl (List.mem_of_getElem? (i := 1) rfl))
        refine own_aloadN (pc' := 174) C d11_173 rfl rfl rfl ?_
        refine own_getfield (pc' := 177) C d11_174 (hw _ (List.mem_of_getElem? (i := 17) rfl)) F_a_ids rfl ?_
        refine own_iload (pc' := 179) C d11_177 rfl rfl ?_
        refine own_iloadN (pc' := 180) C d11_179 rfl rfl ?_
        refine own_iastore (pc' := 181) (i := 3) (ys := (i1_ :: i3_ :: i2_ :: i4_ :: i4_ :: own_zI)) C d11_180 A_d (by decide) rfl (Nat.le_of_ble_eq_true rfl) rfl g_d rfl ?_
        intro h7 W7 A7_
        replace E_a := E_a.wr W7
        replace F_a_gains := F_a_gains.other W7 (Or.inl ne_a_d)
        replace F_a_ids := F_a_ids.other W7 (Or.inl ne_a_d)
        replace F_a_size := F_a_size.other W7 (Or.inl ne_a_d)
        replace A_g := A_g.other W7 ne_g_d
        replace A_d := A7_
        replace Z_ : n0 ≤ _ := Nat.le_trans Z_ (Nat.le_of_eq W7.size.symm)
        replace K_ := K_.wr W7 (Or.inl (List.mem_of_getElem? (i := 2) rfl))
        refine own_vret C d11_181 (by decide) (by decide) ?_
        have l_hc99 : own_lt (x2_, i2_) (x1_, i1_) = false := by simp [own_lt, hc99]
        have l_hc124 : own_lt (x1_, i1_) (x4_, i4_) = true := by simp [own_lt, hc124]
        have l_hc124_2 : own_lt (x3_, i3_) (x4_, i4_) = true := by simp [own_lt, hc124_2]
        refine ⟨rfl, K_, F_a_gains, F_a_ids, F_a_size, ?_, ?_⟩
        · simp only [own_q4, l_hc99, l_hc124, l_hc124_2, if_true, if_false, Bool.false_eq_true]; exact A_g
        · simp only [own_q4, l_hc99, l_hc124, l_hc124_2, if_true, if_false, Bool.false_eq_true]; exact A_d
      · intro hc124_2
        refine own_goto (pc' := 165) C d11_127 (by decide) (by decide) ?_
        refine own_aloadN (pc' := 166) C d11_165 rfl rfl rfl ?_
        refine own_getfield (pc' := 169) C d11_166 (hw _ (List.mem_of_getElem? (i := 14) rfl)) F_a_gains rfl ?_
        refine own_iload (pc' := 171) C d11_169 rfl rfl ?_
        refine own_lloadN (pc' := 172) C d11_171 rfl rfl ?_
        refine own_lastore (pc' := 173) (i := 1) (ys := (x1_ :: x4_ :: x2_ :: x3_ :: x4_ :: own_zJ)) C d11_172 A_g (by decide) rfl (Nat.le_of_ble_eq_true rfl) rfl g_g rfl ?_
        intro h4 W4 A4_
        replace E_a := E_a.wr W4
        replace F_a_gains := F_a_gains.other W4 (Or.inl ne_a_g)
        replace F_a_ids := F_a_ids.other W4 (Or.inl ne_a_g)
        replace F_a_size := F_a_size.other W4 (Or.inl ne_a_g)
        replace A_d := A_d.other W4 (Ne.symm ne_g_d)
        replace A_g := A4_
        replace Z_ : n0 ≤ _ := Nat.le_trans Z_ (Nat.le_of_eq W4.size.symm)
        replace K_ := K_.wr W4 (Or.inl (List.mem_of_getElem? (i := 1) rfl))
        refine own_aloadN (pc' := 174) C d11_173 rfl rfl rfl ?_
        refine own_getfield (pc' := 177) C d11_174 (hw _ (List.mem_of_getElem? (i := 17) rfl)) F_a_ids rfl ?_
        refine own_iload (pc' := 179) C d11_177 rfl rfl ?_
        refine own_iloadN (pc' := 180) C d11_179 rfl rfl ?_
        refine own_iastore (pc' := 181) (i := 1) (ys := (i1_ :: i4_ :: i2_ :: i3_ :: i4_ :: own_zI)) C d11_180 A_d (by decide) rfl (Nat.le_of_ble_eq_true rfl) rfl g_d rfl ?_
        intro h5 W5 A5_
        replace E_a := E_a.wr W5
        replace F_a_gains := F_a_gains.other W5 (Or.inl ne_a_d)
        replace F_a_ids := F_a_ids.other W5 (Or.inl ne_a_d)
        replace F_a_size := F_a_size.other W5 (Or.inl ne_a_d)
        replace A_g := A_g.other W5 ne_g_d
        replace A_d := A5_
        replace Z_ : n0 ≤ _ := Nat.le_trans Z_ (Nat.le_of_eq W5.size.symm)
        replace K_ := K_.wr W5 (Or.inl (List.mem_of_getElem? (i := 2) rfl))
        refine own_vret C d11_181 (by decide) (by decide) ?_
        have l_hc99 : own_lt (x2_, i2_) (x1_, i1_) = false := by simp [own_lt, hc99]
        have l_hc124 : own_lt (x1_, i1_) (x4_, i4_) = true := by simp [own_lt, hc124]
        have l_hc124_2 : own_lt (x3_, i3_) (x4_, i4_) = false := by simp [own_lt, hc124_2]
        refine ⟨rfl, K_, F_a_gains, F_a_ids, F_a_size, ?_, ?_⟩
        · simp only [own_q4, l_hc99, l_hc124, l_hc124_2, if_true, if_false, Bool.false_eq_true]; exact A_g
        · simp only [own_q4, l_hc99, l_hc124, l_hc124_2, if_true, if_false, Bool.false_eq_true]; exact A_d
    · intro hc124
      refine own_goto (pc' := 165) C d11_127 (by decide) (by decide) ?_
      refine own_aloadN (pc' := 166) C d11_165 rfl rfl rfl ?_
      refine own_getfield (pc' := 169) C d11_166 (hw _ (List.mem_of_getElem? (i := 14) rfl)) F_a_gains rfl ?_
      refine own_iload (pc' := 171) C d11_169 rfl rfl ?_
      refine own_lloadN (pc' := 172) C d11_171 rfl rfl ?_
      refine own_lastore (pc' := 173) (i := 0) (ys := (x4_ :: x1_ :: x2_ :: x3_ :: x4_ :: own_zJ)) C d11_172 A_g (by decide) rfl (Nat.le_of_ble_eq_true rfl) rfl g_g rfl ?_
      intro h2 W2 A2_
      replace E_a := E_a.wr W2
      replace F_a_gains := F_a_gains.other W2 (Or.inl ne_a_g)
      replace F_a_ids := F_a_ids.other W2 (Or.inl ne_a_g)
      replace F_a_size := F_a_size.other W2 (Or.inl ne_a_g)
      replace A_d := A_d.other W2 (Ne.symm ne_g_d)
      replace A_g := A2_
      replace Z_ : n0 ≤ _ := Nat.le_trans Z_ (Nat.le_of_eq W2.size.symm)
      replace K_ := K_.wr W2 (Or.inl (List.mem_of_getElem? (i := 1) rfl))
      refine own_aloadN (pc' := 174) C d11_173 rfl rfl rfl ?_
      refine own_getfield (pc' := 177) C d11_174 (hw _ (List.mem_of_getElem? (i := 17) rfl)) F_a_ids rfl ?_
      refine own_iload (pc' := 179) C d11_177 rfl rfl ?_
      refine own_iloadN (pc' := 180) C d11_179 rfl rfl ?_
      refine own_iastore (pc' := 181) (i := 0) (ys := (i4_ :: i1_ :: i2_ :: i3_ :: i4_ :: own_zI)) C d11_180 A_d (by decide) rfl (Nat.le_of_ble_eq_true rfl) rfl g_d rfl ?_
      intro h3 W3 A3_
      replace E_a := E_a.wr W3
      replace F_a_gains := F_a_gains.other W3 (Or.inl ne_a_d)
      replace F_a_ids := F_a_ids.other W3 (Or.inl ne_a_d)
      replace F_a_size := F_a_size.other W3 (Or.inl ne_a_d)
      replace A_g := A_g.other W3 ne_g_d
      replace A_d := A3_
      replace Z_ : n0 ≤ _ := Nat.le_trans Z_ (Nat.le_of_eq W3.size.symm)
      replace K_ := K_.wr W3 (Or.inl (List.mem_of_getElem? (i := 2) rfl))
      refine own_vret C d11_181 (by decide) (by decide) ?_
      have l_hc99 : own_lt (x2_, i2_) (x1_, i1_) = false := by simp [own_lt, hc99]
      have l_hc124 : own_lt (x1_, i1_) (x4_, i4_) = false := by simp [own_lt, hc124]
      refine ⟨rfl, K_, F_a_gains, F_a_ids, F_a_size, ?_, ?_⟩
      · simp only [own_q4, l_hc99, l_hc124, if_true, if_false, Bool.false_eq_true]; exact A_g
      · simp only [own_q4, l_hc99, l_hc124, if_true, if_false, Bool.false_eq_true]; exact A_d
  · intro hc99
    refine own_iinc (pc' := 105) (v := (2 : Int32)) (Ls' := #[.val (.ref a), .val (.long x4_), .second, .val (.int i4_), .val (.int (0 : Int32)), .val (.int (2 : Int32))]) C d11_102 rfl (by decide) rfl rfl ?_
    refine own_aloadN (pc' := 106) C d11_105 rfl rfl rfl ?_
    refine own_getfield (pc' := 109) C d11_106 (hw _ (List.mem_of_getElem? (i := 14) rfl)) F_a_gains rfl ?_
    refine own_iload (pc' := 111) C d11_109 rfl rfl ?_
    refine own_laload (pc' := 112) (v := x2_) (i := 2) C d11_111 A_g (by decide) rfl rfl rfl ?_
    refine own_aloadN (pc' := 113) C d11_112 rfl rfl rfl ?_
    refine own_getfield (pc' := 116) C d11_113 (hw _ (List.mem_of_getElem? (i := 17) rfl)) F_a_ids rfl ?_
    refine own_iload (pc' := 118) C d11_116 rfl rfl ?_
    refine own_iaload (pc' := 119) (v := i2_) (i := 2) C d11_118 A_d (by decide) rfl rfl rfl ?_
    refine own_lloadN (pc' := 120) C d11_119 rfl rfl ?_
    refine own_iloadN (pc' := 121) C d11_120 rfl rfl ?_
    refine own_callS (pc' := 124) (wL := 0) (argsL := [(.long x2_), (.int i2_), (.long x4_), (.int i4_)]) (rest := []) C (own_m5 l Z a0 hw x2_ i2_ x4_ i4_ h1 n0 Z_) d11_121 (hw _ (List.mem_of_getElem? (i := 26) rfl)) (hw _ (List.mem_of_getElem? (i := 27) rfl)) (hw _ (List.mem_of_getElem? (i := 6) rfl)) (hw _ (List.mem_of_getElem? (i := 28) rfl)) (by decide) (by decide) (by decide) rfl (lenOf pd5 rfl) rfl rfl (Nat.le_of_eq rfl) (by decide) (by decide) rfl ?_
    rintro _ _ ⟨rfl, rfl⟩
    show Wp p l e _ s m _ below meth c n0 _ h1 0 0 (mkF m 124 #[.val (.ref a), .val (.long x4_), .second, .val (.int i4_), .val (.int (0 : Int32)), .val (.int (2 : Int32))] [(.int (own_f5 x2_ i2_ x4_ i4_))])
    refine own_if_ne (pt := 130) (pf := 127) C d11_124 (by decide) (by decide) rfl ?_ ?_
    · intro hc124
      refine own_aloadN (pc' := 131) C d11_130 rfl rfl rfl ?_
      refine own_getfield (pc' := 134) C d11_131 (hw _ (List.mem_of_getElem? (i := 14) rfl)) F_a_gains rfl ?_
      refine own_iload (pc' := 136) C d11_134 rfl rfl ?_
      refine own_aloadN (pc' := 137) C d11_136 rfl rfl rfl ?_
      refine own_getfield (pc' := 140) C d11_137 (hw _ (List.mem_of_getElem? (i := 14) rfl)) F_a_gains rfl ?_
      refine own_iload (pc' := 142) C d11_140 rfl rfl ?_
      refine own_laload (pc' := 143) (v := x2_) (i := 2) C d11_142 A_g (by decide) rfl rfl rfl ?_
      refine own_lastore (pc' := 144) (i := 0) (ys := (x2_ :: x1_ :: x2_ :: x3_ :: x4_ :: own_zJ)) C d11_143 A_g (by decide) rfl (Nat.le_of_ble_eq_true rfl) rfl g_g rfl ?_
      intro h2 W2 A2_
      replace E_a := E_a.wr W2
      replace F_a_gains := F_a_gains.other W2 (Or.inl ne_a_g)
      replace F_a_ids := F_a_ids.other W2 (Or.inl ne_a_g)
      replace F_a_size := F_a_size.other W2 (Or.inl ne_a_g)
      replace A_d := A_d.other W2 (Ne.symm ne_g_d)
      replace A_g := A2_
      replace Z_ : n0 ≤ _ := Nat.le_trans Z_ (Nat.le_of_eq W2.size.symm)
      replace K_ := K_.wr W2 (Or.inl (List.mem_of_getElem? (i := 1) rfl))
      refine own_aloadN (pc' := 145) C d11_144 rfl rfl rfl ?_
      refine own_getfield (pc' := 148) C d11_145 (hw _ (List.mem_of_getElem? (i := 17) rfl)) F_a_ids rfl ?_
      refine own_iload (pc' := 150) C d11_148 rfl rfl ?_
      refine own_aloadN (pc' := 151) C d11_150 rfl rfl rfl ?_
      refine own_getfield (pc' := 154) C d11_151 (hw _ (List.mem_of_getElem? (i := 17) rfl)) F_a_ids rfl ?_
      refine own_iload (pc' := 156) C d11_154 rfl rfl ?_
      refine own_iaload (pc' := 157) (v := i2_) (i := 2) C d11_156 A_d (by decide) rfl rfl rfl ?_
      refine own_iastore (pc' := 158) (i := 0) (ys := (i2_ :: i1_ :: i2_ :: i3_ :: i4_ :: own_zI)) C d11_157 A_d (by decide) rfl (Nat.le_of_ble_eq_true rfl) rfl g_d rfl ?_
      intro h3 W3 A3_
      replace E_a := E_a.wr W3
      replace F_a_gains := F_a_gains.other W3 (Or.inl ne_a_d)
      replace F_a_ids := F_a_ids.other W3 (Or.inl ne_a_d)
      replace F_a_size := F_a_size.other W3 (Or.inl ne_a_d)
      replace A_g := A_g.other W3 ne_g_d
      replace A_d := A3_
      replace Z_ : n0 ≤ _ := Nat.le_trans Z_ (Nat.le_of_eq W3.size.symm)
      replace K_ := K_.wr W3 (Or.inl (List.mem_of_getElem? (i := 2) rfl))
      refine own_iload (pc' := 160) C d11_158 rfl rfl ?_
      refine own_istore (pc' := 162) (y := (2 : Int32)) (Ls' := #[.val (.ref a), .val (.long x4_), .second, .val (.int i4_), .val (.int (2 : Int32)), .val (.int (2 : Int32))]) C d11_160 rfl rfl rfl ?_
      refine own_goto (pc' := 33) C d11_162 (by decide) (by decide) ?_
      refine own_iconst (pc' := 34) (v := (2 : Int32)) C d11_33 own_ki_2 rfl ?_
      refine own_iload (pc' := 36) C d11_34 rfl rfl ?_
      refine own_imul (pc' := 37) (v := (4 : Int32)) C d11_36 (by decide) rfl ?_
      refine own_iconst (pc' := 38) (v := (1 : Int32)) C d11_37 own_ki_1 rfl ?_
      refine own_iadd (pc' := 39) (v := (5 : Int32)) C d11_38 (by decide) rfl ?_
      refine own_istore (pc' := 41) (y := (5 : Int32)) (Ls' := #[.val (.ref a), .val (.long x4_), .second, .val (.int i4_), .val (.int (2 : Int32)), .val (.int (5 : Int32))]) C d11_39 rfl rfl rfl ?_
      refine own_iload (pc' := 43) C d11_41 rfl rfl ?_
      refine own_aloadN (pc' := 44) C d11_43 rfl rfl rfl ?_
      refine own_getfield (pc' := 47) C d11_44 (hw _ (List.mem_of_getElem? (i := 24) rfl)) F_a_size rfl ?_
      refine own_icmp_lt (pt := 53) (pf := 50) C d11_47 (by decide) (by decide) rfl (fun q => absurd q (by decide)) (fun _ => ?_)
      refine own_goto (pc' := 165) C d11_50 (by decide) (by decide) ?_
      refine own_aloadN (pc' := 166) C d11_165 rfl rfl rfl ?_
      refine own_getfield (pc' := 169) C d11_166 (hw _ (List.mem_of_getElem? (i := 14) rfl)) F_a_gains rfl ?_
      refine own_iload (pc' := 171) C d11_169 rfl rfl ?_
      refine own_lloadN (pc' := 172) C d11_171 rfl rfl ?_
      refine own_lastore (pc' := 173) (i := 2) (ys := (x2_ :: x1_ :: x4_ :: x3_ :: x4_ :: own_zJ)) C d11_172 A_g (by decide) rfl (Nat.le_of_ble_eq_true rfl) rfl g_g rfl ?_
      intro h4 W4 A4_
      replace E_a := E_a.wr W4
      replace F_a_gains := F_a_gains.other W4 (Or.inl ne_a_g)
      replace F_a_ids := F_a_ids.other W4 (Or.inl ne_a_g)
      replace F_a_size := F_a_size.other W4 (Or.inl ne_a_g)
      replace A_d := A_d.other W4 (Ne.symm ne_g_d)
      replace A_g := A4_
      replace Z_ : n0 ≤ _ := Nat.le_trans Z_ (Nat.le_of_eq W4.size.symm)
      replace K_ := K_.wr W4 (Or.inl (List.mem_of_getElem? (i := 1) rfl))
      refine own_aloadN (pc' := 174) C d11_173 rfl rfl rfl ?_
      refine own_getfield (pc' := 177) C d11_174 (hw _ (List.mem_of_getElem? (i := 17) rfl)) F_a_ids rfl ?_
      refine own_iload (pc' := 179) C d11_177 rfl rfl ?_
      refine own_iloadN (pc' := 180) C d11_179 rfl rfl ?_
      refine own_iastore (pc' := 181) (i := 2) (ys := (i2_ :: i1_ :: i4_ :: i3_ :: i4_ :: own_zI)) C d11_180 A_d (by decide) rfl (Nat.le_of_ble_eq_true rfl) rfl g_d rfl ?_
      intro h5 W5 A5_
      replace E_a := E_a.wr W5
      replace F_a_gains := F_a_gains.other W5 (Or.inl ne_a_d)
      replace F_a_ids := F_a_ids.other W5 (Or.inl ne_a_d)
      replace F_a_size := F_a_size.other W5 (Or.inl ne_a_d)
      replace A_g := A_g.other W5 ne_g_d
      replace A_d := A5_
      replace Z_ : n0 ≤ _ := Nat.le_trans Z_ (Nat.le_of_eq W5.size.symm)
      replace K_ := K_.wr W5 (Or.inl (List.mem_of_getElem? (i := 2) rfl))
      refine own_vret C d11_181 (by decide) (by decide) ?_
      have l_hc99 : own_lt (x2_, i2_) (x1_, i1_) = true := by simp [own_lt, hc99]
      have l_hc124 : own_lt (x2_, i2_) (x4_, i4_) = true := by simp [own_lt, hc124]
      refine ⟨rfl, K_, F_a_gains, F_a_ids, F_a_size, ?_, ?_⟩
      · simp only [own_q4, l_hc99, l_hc124, if_true, if_false, Bool.false_eq_true]; exact A_g
      · simp only [own_q4, l_hc99, l_hc124, if_true, if_false, Bool.false_eq_true]; exact A_d
    · intro hc124
      refine own_goto (pc' := 165) C d11_127 (by decide) (by decide) ?_
      refine own_aloadN (pc' := 166) C d11_165 rfl rfl rfl ?_
      refine own_getfield (pc' := 169) C d11_166 (hw _ (List.mem_of_getElem? (i := 14) rfl)) F_a_gains rfl ?_
      refine own_iload (pc' := 171) C d11_169 rfl rfl ?_
      refine own_lloadN (pc' := 172) C d11_171 rfl rfl ?_
      refine own_lastore (pc' := 173) (i := 0) (ys := (x4_ :: x1_ :: x2_ :: x3_ :: x4_ :: own_zJ)) C d11_172 A_g (by decide) rfl (Nat.le_of_ble_eq_true rfl) rfl g_g rfl ?_
      intro h2 W2 A2_
      replace E_a := E_a.wr W2
      replace F_a_gains := F_a_gains.other W2 (Or.inl ne_a_g)
      replace F_a_ids := F_a_ids.other W2 (Or.inl ne_a_g)
      replace F_a_size := F_a_size.other W2 (Or.inl ne_a_g)
      replace A_d := A_d.other W2 (Ne.symm ne_g_d)
      replace A_g := A2_
      replace Z_ : n0 ≤ _ := Nat.le_trans Z_ (Nat.le_of_eq W2.size.symm)
      replace K_ := K_.wr W2 (Or.inl (List.mem_of_getElem? (i := 1) rfl))
      refine own_aloadN (pc' := 174) C d11_173 rfl rfl rfl ?_
      refine own_getfield (pc' := 177) C d11_174 (hw _ (List.mem_of_getElem? (i := 17) rfl)) F_a_ids rfl ?_
      refine own_iload (pc' := 179) C d11_177 rfl rfl ?_
      refine own_iloadN (pc' := 180) C d11_179 rfl rfl ?_
      refine own_iastore (pc' := 181) (i := 0) (ys := (i4_ :: i1_ :: i2_ :: i3_ :: i4_ :: own_zI)) C d11_180 A_d (by decide) rfl (Nat.le_of_ble_eq_true rfl) rfl g_d rfl ?_
      intro h3 W3 A3_
      replace E_a := E_a.wr W3
      replace F_a_gains := F_a_gains.other W3 (Or.inl ne_a_d)
      replace F_a_ids := F_a_ids.other W3 (Or.inl ne_a_d)
      replace F_a_size := F_a_size.other W3 (Or.inl ne_a_d)
      replace A_g := A_g.other W3 ne_g_d
      replace A_d := A3_
      replace Z_ : n0 ≤ _ := Nat.le_trans Z_ (Nat.le_of_eq W3.size.symm)
      replace K_ := K_.wr W3 (Or.inl (List.mem_of_getElem? (i := 2) rfl))
      refine own_vret C d11_181 (by decide) (by decide) ?_
      have l_hc99 : own_lt (x2_, i2_) (x1_, i1_) = true := by simp [own_lt, hc99]
      have l_hc124 : own_lt (x2_, i2_) (x4_, i4_) = false := by simp [own_lt, hc124]
      refine ⟨rfl, K_, F_a_gains, F_a_ids, F_a_size, ?_, ?_⟩
      · simp only [own_q4, l_hc99, l_hc124, if_true, if_false, Bool.false_eq_true]; exact A_g
      · simp only [own_q4, l_hc99, l_hc124, if_true, if_false, Bool.false_eq_true]; exact A_d

theorem d6_0 : decode method_3_code 0 = .ok (.aload_n 0, 1) := by decide +kernel
theorem d6_1 : decode method_3_code 1 = .ok (.iload_n 3, 1) := by decide +kernel
theorem d6_2 : decode method_3_code 2 = .ok (.laload, 1) := by decide +kernel
theorem d6_3 : decode method_3_code 3 = .ok (.aload_n 1, 1) := by decide +kernel
theorem d6_4 : decode method_3_code 4 = .ok (.iload_n 3, 1) := by decide +kernel
theorem d6_5 : decode method_3_code 5 = .ok (.iaload, 1) := by decide +kernel
theorem d6_6 : decode method_3_code 6 = .ok (.aload_n 0, 1) := by decide +kernel
theorem d6_7 : decode method_3_code 7 = .ok (.iload_n 2, 1) := by decide +kernel
theorem d6_8 : decode method_3_code 8 = .ok (.laload, 1) := by decide +kernel
theorem d6_9 : decode method_3_code 9 = .ok (.aload_n 1, 1) := by decide +kernel
theorem d6_10 : decode method_3_code 10 = .ok (.iload_n 2, 1) := by decide +kernel
theorem d6_11 : decode method_3_code 11 = .ok (.iaload, 1) := by decide +kernel
theorem d6_12 : decode method_3_code 12 = .ok (.invokestatic 7, 3) := by decide +kernel
theorem d6_15 : decode method_3_code 15 = .ok (.ifCond .eq 35, 3) := by decide +kernel
theorem d6_18 : decode method_3_code 18 = .ok (.aload_n 0, 1) := by decide +kernel
theorem d6_19 : decode method_3_code 19 = .ok (.iload_n 2, 1) := by decide +kernel
theorem d6_20 : decode method_3_code 20 = .ok (.laload, 1) := by decide +kernel
theorem d6_21 : decode method_3_code 21 = .ok (.lstore 4, 2) := by decide +kernel
theorem d6_23 : decode method_3_code 23 = .ok (.aload_n 0, 1) := by decide +kernel
theorem d6_24 : decode method_3_code 24 = .ok (.iload_n 2, 1) := by decide +kernel
theorem d6_25 : decode method_3_code 25 = .ok (.aload_n 0, 1) := by decide +kernel
theorem d6_26 : decode method_3_code 26 = .ok (.iload_n 3, 1) := by decide +kernel
theorem d6_27 : decode method_3_code 27 = .ok (.laload, 1) := by decide +kernel
theorem d6_28 : decode method_3_code 28 = .ok (.lastore, 1) := by decide +kernel
theorem d6_29 : decode method_3_code 29 = .ok (.aload_n 0, 1) := by decide +kernel
theorem d6_30 : decode method_3_code 30 = .ok (.iload_n 3, 1) := by decide +kernel
theorem d6_31 : decode method_3_code 31 = .ok (.lload 4, 2) := by decide +kernel
theorem d6_33 : decode method_3_code 33 = .ok (.lastore, 1) := by decide +kernel
theorem d6_34 : decode method_3_code 34 = .ok (.aload_n 1, 1) := by decide +kernel
theorem d6_35 : decode method_3_code 35 = .ok (.iload_n 2, 1) := by decide +kernel
theorem d6_36 : decode method_3_code 36 = .ok (.iaload, 1) := by decide +kernel
theorem d6_37 : decode method_3_code 37 = .ok (.istore 6, 2) := by decide +kernel
theorem d6_39 : decode method_3_code 39 = .ok (.aload_n 1, 1) := by decide +kernel
theorem d6_40 : decode method_3_code 40 = .ok (.iload_n 2, 1) := by decide +kernel
theorem d6_41 : decode method_3_code 41 = .ok (.aload_n 1, 1) := by decide +kernel
theorem d6_42 : decode method_3_code 42 = .ok (.iload_n 3, 1) := by decide +kernel
theorem d6_43 : decode method_3_code 43 = .ok (.iaload, 1) := by decide +kernel
theorem d6_44 : decode method_3_code 44 = .ok (.iastore, 1) := by decide +kernel
theorem d6_45 : decode method_3_code 45 = .ok (.aload_n 1, 1) := by decide +kernel
theorem d6_46 : decode method_3_code 46 = .ok (.iload_n 3, 1) := by decide +kernel
theorem d6_47 : decode method_3_code 47 = .ok (.iload 6, 2) := by decide +kernel
theorem d6_49 : decode method_3_code 49 = .ok (.iastore, 1) := by decide +kernel
theorem d6_50 : decode method_3_code 50 = .ok (.return_, 1) := by decide +kernel
theorem pn6 : plainName "com/example/cachewright/cachewright/placement/CandidateHeapPopPinLaw" = true := by first | (simp [plainName, overriddenIn]; done) | decide +kernel
theorem ef6 (m : MethodId) (x0 : Addr) (x1 : Addr) (x2 : Int32) (x3 : Int32) : entryFrame m #[(.ref x0), (.ref x1), (.int x2), (.int x3)] 7 = mkF m 0 #[.val (.ref x0), .val (.ref x1), .val (.int x2), .val (.int x3), .unset, .unset, .unset] [] := by first | (simp [entryFrame, mkF, argsToLocals, Value.category]; done) | rfl
theorem pd7 : parseMethodDescriptor "(JIJI)Z" = some ⟨[.long, .int, .long, .int], some .boolean⟩ := by decide +kernel
set_option maxRecDepth 65536 in
set_option maxHeartbeats 40000000 in
theorem own_cs03 (l : Launch) (Z : State) (a0 : Array Value) (hw : ∀ d ∈ tables_1, d.before a0 Z = true) (g : Addr) (d : Addr) (x0_ x1_ x2_ x3_ x4_ : Int64) (i0_ i1_ i2_ i3_ i4_ : Int32) (h0 : Heap) (n0 : Nat) (Z_ : n0 ≤ h0.size) (A_g : AJ Z h0 g [x0_, x1_, x2_, x3_, x4_]) (A_d : AI Z h0 d .int [i0_, i1_, i2_, i3_, i4_]) (g_g : n0 ≤ g) (g_d : n0 ≤ d) (ne_g_d : g ≠ d) :
    Met l (⟨"com/example/cachewright/cachewright/placement/CandidateHeapPopPinLaw", "cs", "([J[III)V"⟩ : MethodName) method_3_code 7 none [] ({ frames := 1, cells := 0, slots := 0, locals := 17 } : Room) Z n0 #[(.ref g), (.ref d), (.int (0 : Int32)), (.int (3 : Int32))] h0 (fun v h => v = none ∧ Keep h0 h [g, d] ∧ AJ Z h g [(own_cs own_lt (x0_, i0_) (x3_, i3_)).1.1, x1_, x2_, (own_cs own_lt (x0_, i0_) (x3_, i3_)).2.1, x4_] ∧ AI Z h d .int [(own_cs own_lt (x0_, i0_) (x3_, i3_)).1.2, i1_, i2_, (own_cs own_lt (x0_, i0_) (x3_, i3_)).2.2, i4_]) := by
  refine own_met pn6 (fun m => ef6 m g d (0 : Int32) (3 : Int32)) ?_
  intro p e s m below meth c C
  have K_ : Keep h0 h0 [g, d] := Keep.refl _ _
  refine own_aloadN (pc' := 1) C d6_0 rfl rfl rfl ?_
  refine own_iloadN (pc' := 2) C d6_1 rfl rfl ?_
  refine own_laload (pc' := 3) (v := x3_) (i := 3) C d6_2 A_g (by decide) rfl rfl rfl ?_
  refine own_aloadN (pc' := 4) C d6_3 rfl rfl rfl ?_
  refine own_iloadN (pc' := 5) C d6_4 rfl rfl ?_
  refine own_iaload (pc' := 6) (v := i3_) (i := 3) C d6_5 A_d (by decide) rfl rfl rfl ?_
  refine own_aloadN (pc' := 7) C d6_6 rfl rfl rfl ?_
  refine own_iloadN (pc' := 8) C d6_7 rfl rfl ?_
  refine own_laload (pc' := 9) (v := x0_) (i := 0) C d6_8 A_g (by decide) rfl rfl rfl ?_
  refine own_aloadN (pc' := 10) C d6_9 rfl rfl rfl ?_
  refine own_iloadN (pc' := 11) C d6_10 rfl rfl ?_
  refine own_iaload (pc' := 12) (v := i0_) (i := 0) C d6_11 A_d (by decide) rfl rfl rfl ?_
  refine own_callS (pc' := 15) (wL := 0) (argsL := [(.long x3_), (.int i3_), (.long x0_), (.int i0_)]) (rest := []) C (own_m7 l Z a0 hw x3_ i3_ x0_ i0_ h0 n0 Z_) d6_12 (hw _ (List.mem_of_getElem? (i := 32) rfl)) (hw _ (List.mem_of_getElem? (i := 33) rfl)) (hw _ (List.mem_of_getElem? (i := 2) rfl)) (hw _ (List.mem_of_getElem? (i := 34) rfl)) (by decide) (by decide) (by decide) rfl (lenOf pd7 rfl) rfl rfl (Nat.le_of_eq rfl) (by decide) (by decide) rfl ?_
  rintro _ _ ⟨rfl, rfl⟩
  show Wp p l e _ s m _ below meth c n0 _ h0 0 0 (mkF m 15 #[.val (.ref g), .val (.ref d), .val (.int (0 : Int32)), .val (.int (3 : Int32)), .unset, .unset, .unset] [(.int (own_f7 x3_ i3_ x0_ i0_))])
  refine own_if_eq (pt := 50) (pf := 18) C d6_15 (by decide) (by decide) rfl ?_ ?_
  · intro hc15
    refine own_vret C d6_50 (by decide) (by decide) ?_
    have l_hc15 : own_lt (x3_, i3_) (x0_, i0_) = false := by simp [own_lt, own_BA, hc15]
    refine ⟨rfl, K_, ?_, ?_⟩
    · simp only [own_cs, l_hc15, if_true, if_false, Bool.false_eq_true]; exact A_g
    · simp only [own_cs, l_hc15, if_true, if_false, Bool.false_eq_true]; exact A_d
  · intro hc15
    refine own_aloadN (pc' := 19) C d6_18 rfl rfl rfl ?_
    refine own_iloadN (pc' := 20) C d6_19 rfl rfl ?_
    refine own_laload (pc' := 21) (v := x0_) (i := 0) C d6_20 A_g (by decide) rfl rfl rfl ?_
    refine own_lstore (pc' := 23) (y := x0_) (Ls' := #[.val (.ref g), .val (.ref d), .val (.int (0 : Int32)), .val (.int (3 : Int32)), .val (.long x0_), .second, .unset]) C d6_21 rfl rfl rfl ?_
    refine own_aloadN (pc' := 24) C d6_23 rfl rfl rfl ?_
    refine own_iloadN (pc' := 25) C d6_24 rfl rfl ?_
    refine own_aloadN (pc' := 26) C d6_25 rfl rfl rfl ?_
    refine own_iloadN (pc' := 27) C d6_26 rfl rfl ?_
    refine own_laload (pc' := 28) (v := x3_) (i := 3) C d6_27 A_g (by decide) rfl rfl rfl ?_
    refine own_lastore (pc' := 29) (i := 0) (ys := [x3_, x1_, x2_, x3_, x4_]) C d6_28 A_g (by decide) rfl (Nat.le_of_ble_eq_true rfl) rfl g_g rfl ?_
    intro h1 W1 A1_
    replace A_d := A_d.other W1 (Ne.symm ne_g_d)
    replace A_g := A1_
    replace Z_ : n0 ≤ _ := Nat.le_trans Z_ (Nat.le_of_eq W1.size.symm)
    replace K_ := K_.wr W1 (Or.inl (List.mem_of_getElem? (i := 0) rfl))
    refine own_aloadN (pc' := 30) C d6_29 rfl rfl rfl ?_
    refine own_iloadN (pc' := 31) C d6_30 rfl rfl ?_
    refine own_lload (pc' := 33) C d6_31 rfl rfl ?_
    refine own_lastore (pc' := 34) (i := 3) (ys := [x3_, x1_, x2_, x0_, x4_]) C d6_33 A_g (by decide) rfl (Nat.le_of_ble_eq_true rfl) rfl g_g rfl ?_
    intro h2 W2 A2_
    replace A_d := A_d.other W2 (Ne.symm ne_g_d)
    replace A_g := A2_
    replace Z_ : n0 ≤ _ := Nat.le_trans Z_ (Nat.le_of_eq W2.size.symm)
    replace K_ := K_.wr W2 (Or.inl (List.mem_of_getElem? (i := 0) rfl))
    refine own_aloadN (pc' := 35) C d6_34 rfl rfl rfl ?_
    refine own_iloadN (pc' := 36) C d6_35 rfl rfl ?_
    refine own_iaload (pc' := 37) (v := i0_) (i := 0) C d6_36 A_d (by decide) rfl rfl rfl ?_
    refine own_istore (pc' := 39) (y := i0_) (Ls' := #[.val (.ref g), .val (.ref d), .val (.int (0 : Int32)), .val (.int (3 : Int32)), .val (.long x0_), .second, .val (.int i0_)]) C d6_37 rfl rfl rfl ?_
    refine own_aloadN (pc' := 40) C d6_39 rfl rfl rfl ?_
    refine own_iloadN (pc' := 41) C d6_40 rfl rfl ?_
    refine own_aloadN (pc' := 42) C d6_41 rfl rfl rfl ?_
    refine own_iloadN (pc' := 43) C d6_42 rfl rfl ?_
    refine own_iaload (pc' := 44) (v := i3_) (i := 3) C d6_43 A_d (by decide) rfl rfl rfl ?_
    refine own_iastore (pc' := 45) (i := 0) (ys := [i3_, i1_, i2_, i3_, i4_]) C d6_44 A_d (by decide) rfl (Nat.le_of_ble_eq_true rfl) rfl g_d rfl ?_
    intro h3 W3 A3_
    replace A_g := A_g.other W3 ne_g_d
    replace A_d := A3_
    replace Z_ : n0 ≤ _ := Nat.le_trans Z_ (Nat.le_of_eq W3.size.symm)
    replace K_ := K_.wr W3 (Or.inl (List.mem_of_getElem? (i := 1) rfl))
    refine own_aloadN (pc' := 46) C d6_45 rfl rfl rfl ?_
    refine own_iloadN (pc' := 47) C d6_46 rfl rfl ?_
    refine own_iload (pc' := 49) C d6_47 rfl rfl ?_
    refine own_iastore (pc' := 50) (i := 3) (ys := [i3_, i1_, i2_, i0_, i4_]) C d6_49 A_d (by decide) rfl (Nat.le_of_ble_eq_true rfl) rfl g_d rfl ?_
    intro h4 W4 A4_
    replace A_g := A_g.other W4 ne_g_d
    replace A_d := A4_
    replace Z_ : n0 ≤ _ := Nat.le_trans Z_ (Nat.le_of_eq W4.size.symm)
    replace K_ := K_.wr W4 (Or.inl (List.mem_of_getElem? (i := 1) rfl))
    refine own_vret C d6_50 (by decide) (by decide) ?_
    have l_hc15 : own_lt (x3_, i3_) (x0_, i0_) = true := by simp [own_lt, own_BA, hc15]
    refine ⟨rfl, K_, ?_, ?_⟩
    · simp only [own_cs, l_hc15, if_true, if_false, Bool.false_eq_true]; exact A_g
    · simp only [own_cs, l_hc15, if_true, if_false, Bool.false_eq_true]; exact A_d

set_option maxRecDepth 65536 in
set_option maxHeartbeats 40000000 in
theorem own_cs14 (l : Launch) (Z : State) (a0 : Array Value) (hw : ∀ d ∈ tables_1, d.before a0 Z = true) (g : Addr) (d : Addr) (x0_ x1_ x2_ x3_ x4_ : Int64) (i0_ i1_ i2_ i3_ i4_ : Int32) (h0 : Heap) (n0 : Nat) (Z_ : n0 ≤ h0.size) (A_g : AJ Z h0 g [x0_, x1_, x2_, x3_, x4_]) (A_d : AI Z h0 d .int [i0_, i1_, i2_, i3_, i4_]) (g_g : n0 ≤ g) (g_d : n0 ≤ d) (ne_g_d : g ≠ d) :
    Met l (⟨"com/example/cachewright/cachewright/placement/CandidateHeapPopPinLaw", "cs", "([J[III)V"⟩ : MethodName) method_3_code 7 none [] ({ frames := 1, cells := 0, slots := 0, locals := 17 } : Room) Z n0 #[(.ref g), (.ref d), (.int (1 : Int32)), (.int (4 : Int32))] h0 (fun v h => v = none ∧ Keep h0 h [g, d] ∧ AJ Z h g [x0_, (own_cs own_lt (x1_, i1_) (x4_, i4_)).1.1, x2_, x3_, (own_cs own_lt (x1_, i1_) (x4_, i4_)).2.1] ∧ AI Z h d .int [i0_, (own_cs own_lt (x1_, i1_) (x4_, i4_)).1.2, i2_, i3_, (own_cs own_lt (x1_, i1_) (x4_, i4_)).2.2]) := by
  refine own_met pn6 (fun m => ef6 m g d (1 : Int32) (4 : Int32)) ?_
  intro p e s m below meth c C
  have K_ : Keep h0 h0 [g, d] := Keep.refl _ _
  refine own_aloadN (pc' := 1) C d6_0 rfl rfl rfl ?_
  refine own_iloadN (pc' := 2) C d6_1 rfl rfl ?_
  refine own_laload (pc' := 3) (v := x4_) (i := 4) C d6_2 A_g (by decide) rfl rfl rfl ?_
  refine own_aloadN (pc' := 4) C d6_3 rfl rfl rfl ?_
  refine own_iloadN (pc' := 5) C d6_4 rfl rfl ?_
  refine own_iaload (pc' := 6) (v := i4_) (i := 4) C d6_5 A_d (by decide) rfl rfl rfl ?_
  refine own_aloadN (pc' := 7) C d6_6 rfl rfl rfl ?_
  refine own_iloadN (pc' := 8) C d6_7 rfl rfl ?_
  refine own_laload (pc' := 9) (v := x1_) (i := 1) C d6_8 A_g (by decide) rfl rfl rfl ?_
  refine own_aloadN (pc' := 10) C d6_9 rfl rfl rfl ?_
  refine own_iloadN (pc' := 11) C d6_10 rfl rfl ?_
  refine own_iaload (pc' := 12) (v := i1_) (i := 1) C d6_11 A_d (by decide) rfl rfl rfl ?_
  refine own_callS (pc' := 15) (wL := 0) (argsL := [(.long x4_), (.int i4_), (.long x1_), (.int i1_)]) (rest := []) C (own_m7 l Z a0 hw x4_ i4_ x1_ i1_ h0 n0 Z_) d6_12 (hw _ (List.mem_of_getElem? (i := 32) rfl)) (hw _ (List.mem_of_getElem? (i := 33) rfl)) (hw _ (List.mem_of_getElem? (i := 2) rfl)) (hw _ (List.mem_of_getElem? (i := 34) rfl)) (by decide) (by decide) (by decide) rfl (lenOf pd7 rfl) rfl rfl (Nat.le_of_eq rfl) (by decide) (by decide) rfl ?_
  rintro _ _ ⟨rfl, rfl⟩
  show Wp p l e _ s m _ below meth c n0 _ h0 0 0 (mkF m 15 #[.val (.ref g), .val (.ref d), .val (.int (1 : Int32)), .val (.int (4 : Int32)), .unset, .unset, .unset] [(.int (own_f7 x4_ i4_ x1_ i1_))])
  refine own_if_eq (pt := 50) (pf := 18) C d6_15 (by decide) (by decide) rfl ?_ ?_
  · intro hc15
    refine own_vret C d6_50 (by decide) (by decide) ?_
    have l_hc15 : own_lt (x4_, i4_) (x1_, i1_) = false := by simp [own_lt, own_BA, hc15]
    refine ⟨rfl, K_, ?_, ?_⟩
    · simp only [own_cs, l_hc15, if_true, if_false, Bool.false_eq_true]; exact A_g
    · simp only [own_cs, l_hc15, if_true, if_false, Bool.false_eq_true]; exact A_d
  · intro hc15
    refine own_aloadN (pc' := 19) C d6_18 rfl rfl rfl ?_
    refine own_iloadN (pc' := 20) C d6_19 rfl rfl ?_
    refine own_laload (pc' := 21) (v := x1_) (i := 1) C d6_20 A_g (by decide) rfl rfl rfl ?_
    refine own_lstore (pc' := 23) (y := x1_) (Ls' := #[.val (.ref g), .val (.ref d), .val (.int (1 : Int32)), .val (.int (4 : Int32)), .val (.long x1_), .second, .unset]) C d6_21 rfl rfl rfl ?_
    refine own_aloadN (pc' := 24) C d6_23 rfl rfl rfl ?_
    refine own_iloadN (pc' := 25) C d6_24 rfl rfl ?_
    refine own_aloadN (pc' := 26) C d6_25 rfl rfl rfl ?_
    refine own_iloadN (pc' := 27) C d6_26 rfl rfl ?_
    refine own_laload (pc' := 28) (v := x4_) (i := 4) C d6_27 A_g (by decide) rfl rfl rfl ?_
    refine own_lastore (pc' := 29) (i := 1) (ys := [x0_, x4_, x2_, x3_, x4_]) C d6_28 A_g (by decide) rfl (Nat.le_of_ble_eq_true rfl) rfl g_g rfl ?_
    intro h1 W1 A1_
    replace A_d := A_d.other W1 (Ne.symm ne_g_d)
    replace A_g := A1_
    replace Z_ : n0 ≤ _ := Nat.le_trans Z_ (Nat.le_of_eq W1.size.symm)
    replace K_ := K_.wr W1 (Or.inl (List.mem_of_getElem? (i := 0) rfl))
    refine own_aloadN (pc' := 30) C d6_29 rfl rfl rfl ?_
    refine own_iloadN (pc' := 31) C d6_30 rfl rfl ?_
    refine own_lload (pc' := 33) C d6_31 rfl rfl ?_
    refine own_lastore (pc' := 34) (i := 4) (ys := [x0_, x4_, x2_, x3_, x1_]) C d6_33 A_g (by decide) rfl (Nat.le_of_ble_eq_true rfl) rfl g_g rfl ?_
    intro h2 W2 A2_
    replace A_d := A_d.other W2 (Ne.symm ne_g_d)
    replace A_g := A2_
    replace Z_ : n0 ≤ _ := Nat.le_trans Z_ (Nat.le_of_eq W2.size.symm)
    replace K_ := K_.wr W2 (Or.inl (List.mem_of_getElem? (i := 0) rfl))
    refine own_aloadN (pc' := 35) C d6_34 rfl rfl rfl ?_
    refine own_iloadN (pc' := 36) C d6_35 rfl rfl ?_
    refine own_iaload (pc' := 37) (v := i1_) (i := 1) C d6_36 A_d (by decide) rfl rfl rfl ?_
    refine own_istore (pc' := 39) (y := i1_) (Ls' := #[.val (.ref g), .val (.ref d), .val (.int (1 : Int32)), .val (.int (4 : Int32)), .val (.long x1_), .second, .val (.int i1_)]) C d6_37 rfl rfl rfl ?_
    refine own_aloadN (pc' := 40) C d6_39 rfl rfl rfl ?_
    refine own_iloadN (pc' := 41) C d6_40 rfl rfl ?_
    refine own_aloadN (pc' := 42) C d6_41 rfl rfl rfl ?_
    refine own_iloadN (pc' := 43) C d6_42 rfl rfl ?_
    refine own_iaload (pc' := 44) (v := i4_) (i := 4) C d6_43 A_d (by decide) rfl rfl rfl ?_
    refine own_iastore (pc' := 45) (i := 1) (ys := [i0_, i4_, i2_, i3_, i4_]) C d6_44 A_d (by decide) rfl (Nat.le_of_ble_eq_true rfl) rfl g_d rfl ?_
    intro h3 W3 A3_
    replace A_g := A_g.other W3 ne_g_d
    replace A_d := A3_
    replace Z_ : n0 ≤ _ := Nat.le_trans Z_ (Nat.le_of_eq W3.size.symm)
    replace K_ := K_.wr W3 (Or.inl (List.mem_of_getElem? (i := 1) rfl))
    refine own_aloadN (pc' := 46) C d6_45 rfl rfl rfl ?_
    refine own_iloadN (pc' := 47) C d6_46 rfl rfl ?_
    refine own_iload (pc' := 49) C d6_47 rfl rfl ?_
    refine own_iastore (pc' := 50) (i := 4) (ys := [i0_, i4_, i2_, i3_, i1_]) C d6_49 A_d (by decide) rfl (Nat.le_of_ble_eq_true rfl) rfl g_d rfl ?_
    intro h4 W4 A4_
    replace A_g := A_g.other W4 ne_g_d
    replace A_d := A4_
    replace Z_ : n0 ≤ _ := Nat.le_trans Z_ (Nat.le_of_eq W4.size.symm)
    replace K_ := K_.wr W4 (Or.inl (List.mem_of_getElem? (i := 1) rfl))
    refine own_vret C d6_50 (by decide) (by decide) ?_
    have l_hc15 : own_lt (x4_, i4_) (x1_, i1_) = true := by simp [own_lt, own_BA, hc15]
    refine ⟨rfl, K_, ?_, ?_⟩
    · simp only [own_cs, l_hc15, if_true, if_false, Bool.false_eq_true]; exact A_g
    · simp only [own_cs, l_hc15, if_true, if_false, Bool.false_eq_true]; exact A_d

set_option maxRecDepth 65536 in
set_option maxHeartbeats 40000000 in
theorem own_cs02 (l : Launch) (Z : State) (a0 : Array Value) (hw : ∀ d ∈ tables_1, d.before a0 Z = true) (g : Addr) (d : Addr) (x0_ x1_ x2_ x3_ x4_ : Int64) (i0_ i1_ i2_ i3_ i4_ : Int32) (h0 : Heap) (n0 : Nat) (Z_ : n0 ≤ h0.size) (A_g : AJ Z h0 g [x0_, x1_, x2_, x3_, x4_]) (A_d : AI Z h0 d .int [i0_, i1_, i2_, i3_, i4_]) (g_g : n0 ≤ g) (g_d : n0 ≤ d) (ne_g_d : g ≠ d) :
    Met l (⟨"com/example/cachewright/cachewright/placement/CandidateHeapPopPinLaw", "cs", "([J[III)V"⟩ : MethodName) method_3_code 7 none [] ({ frames := 1, cells := 0, slots := 0, locals := 17 } : Room) Z n0 #[(.ref g), (.ref d), (.int (0 : Int32)), (.int (2 : Int32))] h0 (fun v h => v = none ∧ Keep h0 h [g, d] ∧ AJ Z h g [(own_cs own_lt (x0_, i0_) (x2_, i2_)).1.1, x1_, (own_cs own_lt (x0_, i0_) (x2_, i2_)).2.1, x3_, x4_] ∧ AI Z h d .int [(own_cs own_lt (x0_, i0_) (x2_, i2_)).1.2, i1_, (own_cs own_lt (x0_, i0_) (x2_, i2_)).2.2, i3_, i4_]) := by
  refine own_met pn6 (fun m => ef6 m g d (0 : Int32) (2 : Int32)) ?_
  intro p e s m below meth c C
  have K_ : Keep h0 h0 [g, d] := Keep.refl _ _
  refine own_aloadN (pc' := 1) C d6_0 rfl rfl rfl ?_
  refine own_iloadN (pc' := 2) C d6_1 rfl rfl ?_
  refine own_laload (pc' := 3) (v := x2_) (i := 2) C d6_2 A_g (by decide) rfl rfl rfl ?_
  refine own_aloadN (pc' := 4) C d6_3 rfl rfl rfl ?_
  refine own_iloadN (pc' := 5) C d6_4 rfl rfl ?_
  refine own_iaload (pc' := 6) (v := i2_) (i := 2) C d6_5 A_d (by decide) rfl rfl rfl ?_
  refine own_aloadN (pc' := 7) C d6_6 rfl rfl rfl ?_
  refine own_iloadN (pc' := 8) C d6_7 rfl rfl ?_
  refine own_laload (pc' := 9) (v := x0_) (i := 0) C d6_8 A_g (by decide) rfl rfl rfl ?_
  refine own_aloadN (pc' := 10) C d6_9 rfl rfl rfl ?_
  refine own_iloadN (pc' := 11) C d6_10 rfl rfl ?_
  refine own_iaload (pc' := 12) (v := i0_) (i := 0) C d6_11 A_d (by decide) rfl rfl rfl ?_
  refine own_callS (pc' := 15) (wL := 0) (argsL := [(.long x2_), (.int i2_), (.long x0_), (.int i0_)]) (rest := []) C (own_m7 l Z a0 hw x2_ i2_ x0_ i0_ h0 n0 Z_) d6_12 (hw _ (List.mem_of_getElem? (i := 32) rfl)) (hw _ (List.mem_of_getElem? (i := 33) rfl)) (hw _ (List.mem_of_getElem? (i := 2) rfl)) (hw _ (List.mem_of_getElem? (i := 34) rfl)) (by decide) (by decide) (by decide) rfl (lenOf pd7 rfl) rfl rfl (Nat.le_of_eq rfl) (by decide) (by decide) rfl ?_
  rintro _ _ ⟨rfl, rfl⟩
  show Wp p l e _ s m _ below meth c n0 _ h0 0 0 (mkF m 15 #[.val (.ref g), .val (.ref d), .val (.int (0 : Int32)), .val (.int (2 : Int32)), .unset, .unset, .unset] [(.int (own_f7 x2_ i2_ x0_ i0_))])
  refine own_if_eq (pt := 50) (pf := 18) C d6_15 (by decide) (by decide) rfl ?_ ?_
  · intro hc15
    refine own_vret C d6_50 (by decide) (by decide) ?_
    have l_hc15 : own_lt (x2_, i2_) (x0_, i0_) = false := by simp [own_lt, own_BA, hc15]
    refine ⟨rfl, K_, ?_, ?_⟩
    · simp only [own_cs, l_hc15, if_true, if_false, Bool.false_eq_true]; exact A_g
    · simp only [own_cs, l_hc15, if_true, if_false, Bool.false_eq_true]; exact A_d
  · intro hc15
    refine own_aloadN (pc' := 19) C d6_18 rfl rfl rfl ?_
    refine own_iloadN (pc' := 20) C d6_19 rfl rfl ?_
    refine own_laload (pc' := 21) (v := x0_) (i := 0) C d6_20 A_g (by decide) rfl rfl rfl ?_
    refine own_lstore (pc' := 23) (y := x0_) (Ls' := #[.val (.ref g), .val (.ref d), .val (.int (0 : Int32)), .val (.int (2 : Int32)), .val (.long x0_), .second, .unset]) C d6_21 rfl rfl rfl ?_
    refine own_aloadN (pc' := 24) C d6_23 rfl rfl rfl ?_
    refine own_iloadN (pc' := 25) C d6_24 rfl rfl ?_
    refine own_aloadN (pc' := 26) C d6_25 rfl rfl rfl ?_
    refine own_iloadN (pc' := 27) C d6_26 rfl rfl ?_
    refine own_laload (pc' := 28) (v := x2_) (i := 2) C d6_27 A_g (by decide) rfl rfl rfl ?_
    refine own_lastore (pc' := 29) (i := 0) (ys := [x2_, x1_, x2_, x3_, x4_]) C d6_28 A_g (by decide) rfl (Nat.le_of_ble_eq_true rfl) rfl g_g rfl ?_
    intro h1 W1 A1_
    replace A_d := A_d.other W1 (Ne.symm ne_g_d)
    replace A_g := A1_
    replace Z_ : n0 ≤ _ := Nat.le_trans Z_ (Nat.le_of_eq W1.size.symm)
    replace K_ := K_.wr W1 (Or.inl (List.mem_of_getElem? (i := 0) rfl))
    refine own_aloadN (pc' := 30) C d6_29 rfl rfl rfl ?_
    refine own_iloadN (pc' := 31) C d6_30 rfl rfl ?_
    refine own_lload (pc' := 33) C d6_31 rfl rfl ?_
    refine own_lastore (pc' := 34) (i := 2) (ys := [x2_, x1_, x0_, x3_, x4_]) C d6_33 A_g (by decide) rfl (Nat.le_of_ble_eq_true rfl) rfl g_g rfl ?_
    intro h2 W2 A2_
    replace A_d := A_d.other W2 (Ne.symm ne_g_d)
    replace A_g := A2_
    replace Z_ : n0 ≤ _ := Nat.le_trans Z_ (Nat.le_of_eq W2.size.symm)
    replace K_ := K_.wr W2 (Or.inl (List.mem_of_getElem? (i := 0) rfl))
    refine own_aloadN (pc' := 35) C d6_34 rfl rfl rfl ?_
    refine own_iloadN (pc' := 36) C d6_35 rfl rfl ?_
    refine own_iaload (pc' := 37) (v := i0_) (i := 0) C d6_36 A_d (by decide) rfl rfl rfl ?_
    refine own_istore (pc' := 39) (y := i0_) (Ls' := #[.val (.ref g), .val (.ref d), .val (.int (0 : Int32)), .val (.int (2 : Int32)), .val (.long x0_), .second, .val (.int i0_)]) C d6_37 rfl rfl rfl ?_
    refine own_aloadN (pc' := 40) C d6_39 rfl rfl rfl ?_
    refine own_iloadN (pc' := 41) C d6_40 rfl rfl ?_
    refine own_aloadN (pc' := 42) C d6_41 rfl rfl rfl ?_
    refine own_iloadN (pc' := 43) C d6_42 rfl rfl ?_
    refine own_iaload (pc' := 44) (v := i2_) (i := 2) C d6_43 A_d (by decide) rfl rfl rfl ?_
    refine own_iastore (pc' := 45) (i := 0) (ys := [i2_, i1_, i2_, i3_, i4_]) C d6_44 A_d (by decide) rfl (Nat.le_of_ble_eq_true rfl) rfl g_d rfl ?_
    intro h3 W3 A3_
    replace A_g := A_g.other W3 ne_g_d
    replace A_d := A3_
    replace Z_ : n0 ≤ _ := Nat.le_trans Z_ (Nat.le_of_eq W3.size.symm)
    replace K_ := K_.wr W3 (Or.inl (List.mem_of_getElem? (i := 1) rfl))
    refine own_aloadN (pc' := 46) C d6_45 rfl rfl rfl ?_
    refine own_iloadN (pc' := 47) C d6_46 rfl rfl ?_
    refine own_iload (pc' := 49) C d6_47 rfl rfl ?_
    refine own_iastore (pc' := 50) (i := 2) (ys := [i2_, i1_, i0_, i3_, i4_]) C d6_49 A_d (by decide) rfl (Nat.le_of_ble_eq_true rfl) rfl g_d rfl ?_
    intro h4 W4 A4_
    replace A_g := A_g.other W4 ne_g_d
    replace A_d := A4_
    replace Z_ : n0 ≤ _ := Nat.le_trans Z_ (Nat.le_of_eq W4.size.symm)
    replace K_ := K_.wr W4 (Or.inl (List.mem_of_getElem? (i := 1) rfl))
    refine own_vret C d6_50 (by decide) (by decide) ?_
    have l_hc15 : own_lt (x2_, i2_) (x0_, i0_) = true := by simp [own_lt, own_BA, hc15]
    refine ⟨rfl, K_, ?_, ?_⟩
    · simp only [own_cs, l_hc15, if_true, if_false, Bool.false_eq_true]; exact A_g
    · simp only [own_cs, l_hc15, if_true, if_false, Bool.false_eq_true]; exact A_d

set_option maxRecDepth 65536 in
set_option maxHeartbeats 40000000 in
theorem own_cs13 (l : Launch) (Z : State) (a0 : Array Value) (hw : ∀ d ∈ tables_1, d.before a0 Z = true) (g : Addr) (d : Addr) (x0_ x1_ x2_ x3_ x4_ : Int64) (i0_ i1_ i2_ i3_ i4_ : Int32) (h0 : Heap) (n0 : Nat) (Z_ : n0 ≤ h0.size) (A_g : AJ Z h0 g [x0_, x1_, x2_, x3_, x4_]) (A_d : AI Z h0 d .int [i0_, i1_, i2_, i3_, i4_]) (g_g : n0 ≤ g) (g_d : n0 ≤ d) (ne_g_d : g ≠ d) :
    Met l (⟨"com/example/cachewright/cachewright/placement/CandidateHeapPopPinLaw", "cs", "([J[III)V"⟩ : MethodName) method_3_code 7 none [] ({ frames := 1, cells := 0, slots := 0, locals := 17 } : Room) Z n0 #[(.ref g), (.ref d), (.int (1 : Int32)), (.int (3 : Int32))] h0 (fun v h => v = none ∧ Keep h0 h [g, d] ∧ AJ Z h g [x0_, (own_cs own_lt (x1_, i1_) (x3_, i3_)).1.1, x2_, (own_cs own_lt (x1_, i1_) (x3_, i3_)).2.1, x4_] ∧ AI Z h d .int [i0_, (own_cs own_lt (x1_, i1_) (x3_, i3_)).1.2, i2_, (own_cs own_lt (x1_, i1_) (x3_, i3_)).2.2, i4_]) := by
  refine own_met pn6 (fun m => ef6 m g d (1 : Int32) (3 : Int32)) ?_
  intro p e s m below meth c C
  have K_ : Keep h0 h0 [g, d] := Keep.refl _ _
  refine own_aloadN (pc' := 1) C d6_0 rfl rfl rfl ?_
  refine own_iloadN (pc' := 2) C d6_1 rfl rfl ?_
  refine own_laload (pc' := 3) (v := x3_) (i := 3) C d6_2 A_g (by decide) rfl rfl rfl ?_
  refine own_aloadN (pc' := 4) C d6_3 rfl rfl rfl ?_
  refine own_iloadN (pc' := 5) C d6_4 rfl rfl ?_
  refine own_iaload (pc' := 6) (v := i3_) (i := 3) C d6_5 A_d (by decide) rfl rfl rfl ?_
  refine own_aloadN (pc' := 7) C d6_6 rfl rfl rfl ?_
  refine own_iloadN (pc' := 8) C d6_7 rfl rfl ?_
  refine own_laload (pc' := 9) (v := x1_) (i := 1) C d6_8 A_g (by decide) rfl rfl rfl ?_
  refine own_aloadN (pc' := 10) C d6_9 rfl rfl rfl ?_
  refine own_iloadN (pc' := 11) C d6_10 rfl rfl ?_
  refine own_iaload (pc' := 12) (v := i1_) (i := 1) C d6_11 A_d (by decide) rfl rfl rfl ?_
  refine own_callS (pc' := 15) (wL := 0) (argsL := [(.long x3_), (.int i3_), (.long x1_), (.int i1_)]) (rest := []) C (own_m7 l Z a0 hw x3_ i3_ x1_ i1_ h0 n0 Z_) d6_12 (hw _ (List.mem_of_getElem? (i := 32) rfl)) (hw _ (List.mem_of_getElem? (i := 33) rfl)) (hw _ (List.mem_of_getElem? (i := 2) rfl)) (hw _ (List.mem_of_getElem? (i := 34) rfl)) (by decide) (by decide) (by decide) rfl (lenOf pd7 rfl) rfl rfl (Nat.le_of_eq rfl) (by decide) (by decide) rfl ?_
  rintro _ _ ⟨rfl, rfl⟩
  show Wp p l e _ s m _ below meth c n0 _ h0 0 0 (mkF m 15 #[.val (.ref g), .val (.ref d), .val (.int (1 : Int32)), .val (.int (3 : Int32)), .unset, .unset, .unset] [(.int (own_f7 x3_ i3_ x1_ i1_))])
  refine own_if_eq (pt := 50) (pf := 18) C d6_15 (by decide) (by decide) rfl ?_ ?_
  · intro hc15
    refine own_vret C d6_50 (by decide) (by decide) ?_
    have l_hc15 : own_lt (x3_, i3_) (x1_, i1_) = false := by simp [own_lt, own_BA, hc15]
    refine ⟨rfl, K_, ?_, ?_⟩
    · simp only [own_cs, l_hc15, if_true, if_false, Bool.false_eq_true]; exact A_g
    · simp only [own_cs, l_hc15, if_true, if_false, Bool.false_eq_true]; exact A_d
  · intro hc15
    refine own_aloadN (pc' := 19) C d6_18 rfl rfl rfl ?_
    refine own_iloadN (pc' := 20) C d6_19 rfl rfl ?_
    refine own_laload (pc' := 21) (v := x1_) (i := 1) C d6_20 A_g (by decide) rfl rfl rfl ?_
    refine own_lstore (pc' := 23) (y := x1_) (Ls' := #[.val (.ref g), .val (.ref d), .val (.int (1 : Int32)), .val (.int (3 : Int32)), .val (.long x1_), .second, .unset]) C d6_21 rfl rfl rfl ?_
    refine own_aloadN (pc' := 24) C d6_23 rfl rfl rfl ?_
    refine own_iloadN (pc' := 25) C d6_24 rfl rfl ?_
    refine own_aloadN (pc' := 26) C d6_25 rfl rfl rfl ?_
    refine own_iloadN (pc' := 27) C d6_26 rfl rfl ?_
    refine own_laload (pc' := 28) (v := x3_) (i := 3) C d6_27 A_g (by decide) rfl rfl rfl ?_
    refine own_lastore (pc' := 29) (i := 1) (ys := [x0_, x3_, x2_, x3_, x4_]) C d6_28 A_g (by decide) rfl (Nat.le_of_ble_eq_true rfl) rfl g_g rfl ?_
    intro h1 W1 A1_
    replace A_d := A_d.other W1 (Ne.symm ne_g_d)
    replace A_g := A1_
    replace Z_ : n0 ≤ _ := Nat.le_trans Z_ (Nat.le_of_eq W1.size.symm)
    replace K_ := K_.wr W1 (Or.inl (List.mem_of_getElem? (i := 0) rfl))
    refine own_aloadN (pc' := 30) C d6_29 rfl rfl rfl ?_
    refine own_iloadN (pc' := 31) C d6_30 rfl rfl ?_
    refine own_lload (pc' := 33) C d6_31 rfl rfl ?_
    refine own_lastore (pc' := 34) (i := 3) (ys := [x0_, x3_, x2_, x1_, x4_]) C d6_33 A_g (by decide) rfl (Nat.le_of_ble_eq_true rfl) rfl g_g rfl ?_
    intro h2 W2 A2_
    replace A_d := A_d.other W2 (Ne.symm ne_g_d)
    replace A_g := A2_
    replace Z_ : n0 ≤ _ := Nat.le_trans Z_ (Nat.le_of_eq W2.size.symm)
    replace K_ := K_.wr W2 (Or.inl (List.mem_of_getElem? (i := 0) rfl))
    refine own_aloadN (pc' := 35) C d6_34 rfl rfl rfl ?_
    refine own_iloadN (pc' := 36) C d6_35 rfl rfl ?_
    refine own_iaload (pc' := 37) (v := i1_) (i := 1) C d6_36 A_d (by decide) rfl rfl rfl ?_
    refine own_istore (pc' := 39) (y := i1_) (Ls' := #[.val (.ref g), .val (.ref d), .val (.int (1 : Int32)), .val (.int (3 : Int32)), .val (.long x1_), .second, .val (.int i1_)]) C d6_37 rfl rfl rfl ?_
    refine own_aloadN (pc' := 40) C d6_39 rfl rfl rfl ?_
    refine own_iloadN (pc' := 41) C d6_40 rfl rfl ?_
    refine own_aloadN (pc' := 42) C d6_41 rfl rfl rfl ?_
    refine own_iloadN (pc' := 43) C d6_42 rfl rfl ?_
    refine own_iaload (pc' := 44) (v := i3_) (i := 3) C d6_43 A_d (by decide) rfl rfl rfl ?_
    refine own_iastore (pc' := 45) (i := 1) (ys := [i0_, i3_, i2_, i3_, i4_]) C d6_44 A_d (by decide) rfl (Nat.le_of_ble_eq_true rfl) rfl g_d rfl ?_
    intro h3 W3 A3_
    replace A_g := A_g.other W3 ne_g_d
    replace A_d := A3_
    replace Z_ : n0 ≤ _ := Nat.le_trans Z_ (Nat.le_of_eq W3.size.symm)
    replace K_ := K_.wr W3 (Or.inl (List.mem_of_getElem? (i := 1) rfl))
    refine own_aloadN (pc' := 46) C d6_45 rfl rfl rfl ?_
    refine own_iloadN (pc' := 47) C d6_46 rfl rfl ?_
    refine own_iload (pc' := 49) C d6_47 rfl rfl ?_
    refine own_iastore (pc' := 50) (i := 3) (ys := [i0_, i3_, i2_, i1_, i4_]) C d6_49 A_d (by decide) rfl (Nat.le_of_ble_eq_true rfl) rfl g_d rfl ?_
    intro h4 W4 A4_
    replace A_g := A_g.other W4 ne_g_d
    replace A_d := A4_
    replace Z_ : n0 ≤ _ := Nat.le_trans Z_ (Nat.le_of_eq W4.size.symm)
    replace K_ := K_.wr W4 (Or.inl (List.mem_of_getElem? (i := 1) rfl))
    refine own_vret C d6_50 (by decide) (by decide) ?_
    have l_hc15 : own_lt (x3_, i3_) (x1_, i1_) = true := by simp [own_lt, own_BA, hc15]
    refine ⟨rfl, K_, ?_, ?_⟩
    · simp only [own_cs, l_hc15, if_true, if_false, Bool.false_eq_true]; exact A_g
    · simp only [own_cs, l_hc15, if_true, if_false, Bool.false_eq_true]; exact A_d

set_option maxRecDepth 65536 in
set_option maxHeartbeats 40000000 in
theorem own_cs01 (l : Launch) (Z : State) (a0 : Array Value) (hw : ∀ d ∈ tables_1, d.before a0 Z = true) (g : Addr) (d : Addr) (x0_ x1_ x2_ x3_ x4_ : Int64) (i0_ i1_ i2_ i3_ i4_ : Int32) (h0 : Heap) (n0 : Nat) (Z_ : n0 ≤ h0.size) (A_g : AJ Z h0 g [x0_, x1_, x2_, x3_, x4_]) (A_d : AI Z h0 d .int [i0_, i1_, i2_, i3_, i4_]) (g_g : n0 ≤ g) (g_d : n0 ≤ d) (ne_g_d : g ≠ d) :
    Met l (⟨"com/example/cachewright/cachewright/placement/CandidateHeapPopPinLaw", "cs", "([J[III)V"⟩ : MethodName) method_3_code 7 none [] ({ frames := 1, cells := 0, slots := 0, locals := 17 } : Room) Z n0 #[(.ref g), (.ref d), (.int (0 : Int32)), (.int (1 : Int32))] h0 (fun v h => v = none ∧ Keep h0 h [g, d] ∧ AJ Z h g [(own_cs own_lt (x0_, i0_) (x1_, i1_)).1.1, (own_cs own_lt (x0_, i0_) (x1_, i1_)).2.1, x2_, x3_, x4_] ∧ AI Z h d .int [(own_cs own_lt (x0_, i0_) (x1_, i1_)).1.2, (own_cs own_lt (x0_, i0_) (x1_, i1_)).2.2, i2_, i3_, i4_]) := by
  refine own_met pn6 (fun m => ef6 m g d (0 : Int32) (1 : Int32)) ?_
  intro p e s m below meth c C
  have K_ : Keep h0 h0 [g, d] := Keep.refl _ _
  refine own_aloadN (pc' := 1) C d6_0 rfl rfl rfl ?_
  refine own_iloadN (pc' := 2) C d6_1 rfl rfl ?_
  refine own_laload (pc' := 3) (v := x1_) (i := 1) C d6_2 A_g (by decide) rfl rfl rfl ?_
  refine own_aloadN (pc' := 4) C d6_3 rfl rfl rfl ?_
  refine own_iloadN (pc' := 5) C d6_4 rfl rfl ?_
  refine own_iaload (pc' := 6) (v := i1_) (i := 1) C d6_5 A_d (by decide) rfl rfl rfl ?_
  refine own_aloadN (pc' := 7) C d6_6 rfl rfl rfl ?_
  refine own_iloadN (pc' := 8) C d6_7 rfl rfl ?_
  refine own_laload (pc' := 9) (v := x0_) (i := 0) C d6_8 A_g (by decide) rfl rfl rfl ?_
  refine own_aloadN (pc' := 10) C d6_9 rfl rfl rfl ?_
  refine own_iloadN (pc' := 11) C d6_10 rfl rfl ?_
  refine own_iaload (pc' := 12) (v := i0_) (i := 0) C d6_11 A_d (by decide) rfl rfl rfl ?_
  refine own_callS (pc' := 15) (wL := 0) (argsL := [(.long x1_), (.int i1_), (.long x0_), (.int i0_)]) (rest := []) C (own_m7 l Z a0 hw x1_ i1_ x0_ i0_ h0 n0 Z_) d6_12 (hw _ (List.mem_of_getElem? (i := 32) rfl)) (hw _ (List.mem_of_getElem? (i := 33) rfl)) (hw _ (List.mem_of_getElem? (i := 2) rfl)) (hw _ (List.mem_of_getElem? (i := 34) rfl)) (by decide) (by decide) (by decide) rfl (lenOf pd7 rfl) rfl rfl (Nat.le_of_eq rfl) (by decide) (by decide) rfl ?_
  rintro _ _ ⟨rfl, rfl⟩
  show Wp p l e _ s m _ below meth c n0 _ h0 0 0 (mkF m 15 #[.val (.ref g), .val (.ref d), .val (.int (0 : Int32)), .val (.int (1 : Int32)), .unset, .unset, .unset] [(.int (own_f7 x1_ i1_ x0_ i0_))])
  refine own_if_eq (pt := 50) (pf := 18) C d6_15 (by decide) (by decide) rfl ?_ ?_
  · intro hc15
    refine own_vret C d6_50 (by decide) (by decide) ?_
    have l_hc15 : own_lt (x1_, i1_) (x0_, i0_) = false := by simp [own_lt, own_BA, hc15]
    refine ⟨rfl, K_, ?_, ?_⟩
    · simp only [own_cs, l_hc15, if_true, if_false, Bool.false_eq_true]; exact A_g
    · simp only [own_cs, l_hc15, if_true, if_false, Bool.false_eq_true]; exact A_d
  · intro hc15
    refine own_aloadN (pc' := 19) C d6_18 rfl rfl rfl ?_
    refine own_iloadN (pc' := 20) C d6_19 rfl rfl ?_
    refine own_laload (pc' := 21) (v := x0_) (i := 0) C d6_20 A_g (by decide) rfl rfl rfl ?_
    refine own_lstore (pc' := 23) (y := x0_) (Ls' := #[.val (.ref g), .val (.ref d), .val (.int (0 : Int32)), .val (.int (1 : Int32)), .val (.long x0_), .second, .unset]) C d6_21 rfl rfl rfl ?_
    refine own_aloadN (pc' := 24) C d6_23 rfl rfl rfl ?_
    refine own_iloadN (pc' := 25) C d6_24 rfl rfl ?_
    refine own_aloadN (pc' := 26) C d6_25 rfl rfl rfl ?_
    refine own_iloadN (pc' := 27) C d6_26 rfl rfl ?_
    refine own_laload (pc' := 28) (v := x1_) (i := 1) C d6_27 A_g (by decide) rfl rfl rfl ?_
    refine own_lastore (pc' := 29) (i := 0) (ys := [x1_, x1_, x2_, x3_, x4_]) C d6_28 A_g (by decide) rfl (Nat.le_of_ble_eq_true rfl) rfl g_g rfl ?_
    intro h1 W1 A1_
    replace A_d := A_d.other W1 (Ne.symm ne_g_d)
    replace A_g := A1_
    replace Z_ : n0 ≤ _ := Nat.le_trans Z_ (Nat.le_of_eq W1.size.symm)
    replace K_ := K_.wr W1 (Or.inl (List.mem_of_getElem? (i := 0) rfl))
    refine own_aloadN (pc' := 30) C d6_29 rfl rfl rfl ?_
    refine own_iloadN (pc' := 31) C d6_30 rfl rfl ?_
    refine own_lload (pc' := 33) C d6_31 rfl rfl ?_
    refine own_lastore (pc' := 34) (i := 1) (ys := [x1_, x0_, x2_, x3_, x4_]) C d6_33 A_g (by decide) rfl (Nat.le_of_ble_eq_true rfl) rfl g_g rfl ?_
    intro h2 W2 A2_
    replace A_d := A_d.other W2 (Ne.symm ne_g_d)
    replace A_g := A2_
    replace Z_ : n0 ≤ _ := Nat.le_trans Z_ (Nat.le_of_eq W2.size.symm)
    replace K_ := K_.wr W2 (Or.inl (List.mem_of_getElem? (i := 0) rfl))
    refine own_aloadN (pc' := 35) C d6_34 rfl rfl rfl ?_
    refine own_iloadN (pc' := 36) C d6_35 rfl rfl ?_
    refine own_iaload (pc' := 37) (v := i0_) (i := 0) C d6_36 A_d (by decide) rfl rfl rfl ?_
    refine own_istore (pc' := 39) (y := i0_) (Ls' := #[.val (.ref g), .val (.ref d), .val (.int (0 : Int32)), .val (.int (1 : Int32)), .val (.long x0_), .second, .val (.int i0_)]) C d6_37 rfl rfl rfl ?_
    refine own_aloadN (pc' := 40) C d6_39 rfl rfl rfl ?_
    refine own_iloadN (pc' := 41) C d6_40 rfl rfl ?_
    refine own_aloadN (pc' := 42) C d6_41 rfl rfl rfl ?_
    refine own_iloadN (pc' := 43) C d6_42 rfl rfl ?_
    refine own_iaload (pc' := 44) (v := i1_) (i := 1) C d6_43 A_d (by decide) rfl rfl rfl ?_
    refine own_iastore (pc' := 45) (i := 0) (ys := [i1_, i1_, i2_, i3_, i4_]) C d6_44 A_d (by decide) rfl (Nat.le_of_ble_eq_true rfl) rfl g_d rfl ?_
    intro h3 W3 A3_
    replace A_g := A_g.other W3 ne_g_d
    replace A_d := A3_
    replace Z_ : n0 ≤ _ := Nat.le_trans Z_ (Nat.le_of_eq W3.size.symm)
    replace K_ := K_.wr W3 (Or.inl (List.mem_of_getElem? (i := 1) rfl))
    refine own_aloadN (pc' := 46) C d6_45 rfl rfl rfl ?_
    refine own_iloadN (pc' := 47) C d6_46 rfl rfl ?_
    refine own_iload (pc' := 49) C d6_47 rfl rfl ?_
    refine own_iastore (pc' := 50) (i := 1) (ys := [i1_, i0_, i2_, i3_, i4_]) C d6_49 A_d (by decide) rfl (Nat.le_of_ble_eq_true rfl) rfl g_d rfl ?_
    intro h4 W4 A4_
    replace A_g := A_g.other W4 ne_g_d
    replace A_d := A4_
    replace Z_ : n0 ≤ _ := Nat.le_trans Z_ (Nat.le_of_eq W4.size.symm)
    replace K_ := K_.wr W4 (Or.inl (List.mem_of_getElem? (i := 1) rfl))
    refine own_vret C d6_50 (by decide) (by decide) ?_
    have l_hc15 : own_lt (x1_, i1_) (x0_, i0_) = true := by simp [own_lt, own_BA, hc15]
    refine ⟨rfl, K_, ?_, ?_⟩
    · simp only [own_cs, l_hc15, if_true, if_false, Bool.false_eq_true]; exact A_g
    · simp only [own_cs, l_hc15, if_true, if_false, Bool.false_eq_true]; exact A_d

set_option maxRecDepth 65536 in
set_option maxHeartbeats 40000000 in
theorem own_cs24 (l : Launch) (Z : State) (a0 : Array Value) (hw : ∀ d ∈ tables_1, d.before a0 Z = true) (g : Addr) (d : Addr) (x0_ x1_ x2_ x3_ x4_ : Int64) (i0_ i1_ i2_ i3_ i4_ : Int32) (h0 : Heap) (n0 : Nat) (Z_ : n0 ≤ h0.size) (A_g : AJ Z h0 g [x0_, x1_, x2_, x3_, x4_]) (A_d : AI Z h0 d .int [i0_, i1_, i2_, i3_, i4_]) (g_g : n0 ≤ g) (g_d : n0 ≤ d) (ne_g_d : g ≠ d) :
    Met l (⟨"com/example/cachewright/cachewright/placement/CandidateHeapPopPinLaw", "cs", "([J[III)V"⟩ : MethodName) method_3_code 7 none [] ({ frames := 1, cells := 0, slots := 0, locals := 17 } : Room) Z n0 #[(.ref g), (.ref d), (.int (2 : Int32)), (.int (4 : Int32))] h0 (fun v h => v = none ∧ Keep h0 h [g, d] ∧ AJ Z h g [x0_, x1_, (own_cs own_lt (x2_, i2_) (x4_, i4_)).1.1, x3_, (own_cs own_lt (x2_, i2_) (x4_, i4_)).2.1] ∧ AI Z h d .int [i0_, i1_, (own_cs own_lt (x2_, i2_) (x4_, i4_)).1.2, i3_, (own_cs own_lt (x2_, i2_) (x4_, i4_)).2.2]) := by
  refine own_met pn6 (fun m => ef6 m g d (2 : Int32) (4 : Int32)) ?_
  intro p e s m below meth c C
  have K_ : Keep h0 h0 [g, d] := Keep.refl _ _
  refine own_aloadN (pc' := 1) C d6_0 rfl rfl rfl ?_
  refine own_iloadN (pc' := 2) C d6_1 rfl rfl ?_
  refine own_laload (pc' := 3) (v := x4_) (i := 4) C d6_2 A_g (by decide) rfl rfl rfl ?_
  refine own_aloadN (pc' := 4) C d6_3 rfl rfl rfl ?_
  refine own_iloadN (pc' := 5) C d6_4 rfl rfl ?_
  refine own_iaload (pc' := 6) (v := i4_) (i := 4) C d6_5 A_d (by decide) rfl rfl rfl ?_
  refine own_aloadN (pc' := 7) C d6_6 rfl rfl rfl ?_
  refine own_iloadN (pc' := 8) C d6_7 rfl rfl ?_
  refine own_laload (pc' := 9) (v := x2_) (i := 2) C d6_8 A_g (by decide) rfl rfl rfl ?_
  refine own_aloadN (pc' := 10) C d6_9 rfl rfl rfl ?_
  refine own_iloadN (pc' := 11) C d6_10 rfl rfl ?_
  refine own_iaload (pc' := 12) (v := i2_) (i := 2) C d6_11 A_d (by decide) rfl rfl rfl ?_
  refine own_callS (pc' := 15) (wL := 0) (argsL := [(.long x4_), (.int i4_), (.long x2_), (.int i2_)]) (rest := []) C (own_m7 l Z a0 hw x4_ i4_ x2_ i2_ h0 n0 Z_) d6_12 (hw _ (List.mem_of_getElem? (i := 32) rfl)) (hw _ (List.mem_of_getElem? (i := 33) rfl)) (hw _ (List.mem_of_getElem? (i := 2) rfl)) (hw _ (List.mem_of_getElem? (i := 34) rfl)) (by decide) (by decide) (by decide) rfl (lenOf pd7 rfl) rfl rfl (Nat.le_of_eq rfl) (by decide) (by decide) rfl ?_
  rintro _ _ ⟨rfl, rfl⟩
  show Wp p l e _ s m _ below meth c n0 _ h0 0 0 (mkF m 15 #[.val (.ref g), .val (.ref d), .val (.int (2 : Int32)), .val (.int (4 : Int32)), .unset, .unset, .unset] [(.int (own_f7 x4_ i4_ x2_ i2_))])
  refine own_if_eq (pt := 50) (pf := 18) C d6_15 (by decide) (by decide) rfl ?_ ?_
  · intro hc15
    refine own_vret C d6_50 (by decide) (by decide) ?_
    have l_hc15 : own_lt (x4_, i4_) (x2_, i2_) = false := by simp [own_lt, own_BA, hc15]
    refine ⟨rfl, K_, ?_, ?_⟩
    · simp only [own_cs, l_hc15, if_true, if_false, Bool.false_eq_true]; exact A_g
    · simp only [own_cs, l_hc15, if_true, if_false, Bool.false_eq_true]; exact A_d
  · intro hc15
    refine own_aloadN (pc' := 19) C d6_18 rfl rfl rfl ?_
    refine own_iloadN (pc' := 20) C d6_19 rfl rfl ?_
    refine own_laload (pc' := 21) (v := x2_) (i := 2) C d6_20 A_g (by decide) rfl rfl rfl ?_
    refine own_lstore (pc' := 23) (y := x2_) (Ls' := #[.val (.ref g), .val (.ref d), .val (.int (2 : Int32)), .val (.int (4 : Int32)), .val (.long x2_), .second, .unset]) C d6_21 rfl rfl rfl ?_
    refine own_aloadN (pc' := 24) C d6_23 rfl rfl rfl ?_
    refine own_iloadN (pc' := 25) C d6_24 rfl rfl ?_
    refine own_aloadN (pc' := 26) C d6_25 rfl rfl rfl ?_
    refine own_iloadN (pc' := 27) C d6_26 rfl rfl ?_
    refine own_laload (pc' := 28) (v := x4_) (i := 4) C d6_27 A_g (by decide) rfl rfl rfl ?_
    refine own_lastore (pc' := 29) (i := 2) (ys := [x0_, x1_, x4_, x3_, x4_]) C d6_28 A_g (by decide) rfl (Nat.le_of_ble_eq_true rfl) rfl g_g rfl ?_
    intro h1 W1 A1_
    replace A_d := A_d.other W1 (Ne.symm ne_g_d)
    replace A_g := A1_
    replace Z_ : n0 ≤ _ := Nat.le_trans Z_ (Nat.le_of_eq W1.size.symm)
    replace K_ := K_.wr W1 (Or.inl (List.mem_of_getElem? (i := 0) rfl))
    refine own_aloadN (pc' := 30) C d6_29 rfl rfl rfl ?_
    refine own_iloadN (pc' := 31) C d6_30 rfl rfl ?_
    refine own_lload (pc' := 33) C d6_31 rfl rfl ?_
    refine own_lastore (pc' := 34) (i := 4) (ys := [x0_, x1_, x4_, x3_, x2_]) C d6_33 A_g (by decide) rfl (Nat.le_of_ble_eq_true rfl) rfl g_g rfl ?_
    intro h2 W2 A2_
    replace A_d := A_d.other W2 (Ne.symm ne_g_d)
    replace A_g := A2_
    replace Z_ : n0 ≤ _ := Nat.le_trans Z_ (Nat.le_of_eq W2.size.symm)
    replace K_ := K_.wr W2 (Or.inl (List.mem_of_getElem? (i := 0) rfl))
    refine own_aloadN (pc' := 35) C d6_34 rfl rfl rfl ?_
    refine own_iloadN (pc' := 36) C d6_35 rfl rfl ?_
    refine own_iaload (pc' := 37) (v := i2_) (i := 2) C d6_36 A_d (by decide) rfl rfl rfl ?_
    refine own_istore (pc' := 39) (y := i2_) (Ls' := #[.val (.ref g), .val (.ref d), .val (.int (2 : Int32)), .val (.int (4 : Int32)), .val (.long x2_), .second, .val (.int i2_)]) C d6_37 rfl rfl rfl ?_
    refine own_aloadN (pc' := 40) C d6_39 rfl rfl rfl ?_
    refine own_iloadN (pc' := 41) C d6_40 rfl rfl ?_
    refine own_aloadN (pc' := 42) C d6_41 rfl rfl rfl ?_
    refine own_iloadN (pc' := 43) C d6_42 rfl rfl ?_
    refine own_iaload (pc' := 44) (v := i4_) (i := 4) C d6_43 A_d (by decide) rfl rfl rfl ?_
    refine own_iastore (pc' := 45) (i := 2) (ys := [i0_, i1_, i4_, i3_, i4_]) C d6_44 A_d (by decide) rfl (Nat.le_of_ble_eq_true rfl) rfl g_d rfl ?_
    intro h3 W3 A3_
    replace A_g := A_g.other W3 ne_g_d
    replace A_d := A3_
    replace Z_ : n0 ≤ _ := Nat.le_trans Z_ (Nat.le_of_eq W3.size.symm)
    replace K_ := K_.wr W3 (Or.inl (List.mem_of_getElem? (i := 1) rfl))
    refine own_aloadN (pc' := 46) C d6_45 rfl rfl rfl ?_
    refine own_iloadN (pc' := 47) C d6_46 rfl rfl ?_
    refine own_iload (pc' := 49) C d6_47 rfl rfl ?_
    refine own_iastore (pc' := 50) (i := 4) (ys := [i0_, i1_, i4_, i3_, i2_]) C d6_49 A_d (by decide) rfl (Nat.le_of_ble_eq_true rfl) rfl g_d rfl ?_
    intro h4 W4 A4_
    replace A_g := A_g.other W4 ne_g_d
    replace A_d := A4_
    replace Z_ : n0 ≤ _ := Nat.le_trans Z_ (Nat.le_of_eq W4.size.symm)
    replace K_ := K_.wr W4 (Or.inl (List.mem_of_getElem? (i := 1) rfl))
    refine own_vret C d6_50 (by decide) (by decide) ?_
    have l_hc15 : own_lt (x4_, i4_) (x2_, i2_) = true := by simp [own_lt, own_BA, hc15]
    refine ⟨rfl, K_, ?_, ?_⟩
    · simp only [own_cs, l_hc15, if_true, if_false, Bool.false_eq_true]; exact A_g
    · simp only [own_cs, l_hc15, if_true, if_false, Bool.false_eq_true]; exact A_d

set_option maxRecDepth 65536 in
set_option maxHeartbeats 40000000 in
theorem own_cs12 (l : Launch) (Z : State) (a0 : Array Value) (hw : ∀ d ∈ tables_1, d.before a0 Z = true) (g : Addr) (d : Addr) (x0_ x1_ x2_ x3_ x4_ : Int64) (i0_ i1_ i2_ i3_ i4_ : Int32) (h0 : Heap) (n0 : Nat) (Z_ : n0 ≤ h0.size) (A_g : AJ Z h0 g [x0_, x1_, x2_, x3_, x4_]) (A_d : AI Z h0 d .int [i0_, i1_, i2_, i3_, i4_]) (g_g : n0 ≤ g) (g_d : n0 ≤ d) (ne_g_d : g ≠ d) :
    Met l (⟨"com/example/cachewright/cachewright/placement/CandidateHeapPopPinLaw", "cs", "([J[III)V"⟩ : MethodName) method_3_code 7 none [] ({ frames := 1, cells := 0, slots := 0, locals := 17 } : Room) Z n0 #[(.ref g), (.ref d), (.int (1 : Int32)), (.int (2 : Int32))] h0 (fun v h => v = none ∧ Keep h0 h [g, d] ∧ AJ Z h g [x0_, (own_cs own_lt (x1_, i1_) (x2_, i2_)).1.1, (own_cs own_lt (x1_, i1_) (x2_, i2_)).2.1, x3_, x4_] ∧ AI Z h d .int [i0_, (own_cs own_lt (x1_, i1_) (x2_, i2_)).1.2, (own_cs own_lt (x1_, i1_) (x2_, i2_)).2.2, i3_, i4_]) := by
  refine own_met pn6 (fun m => ef6 m g d (1 : Int32) (2 : Int32)) ?_
  intro p e s m below meth c C
  have K_ : Keep h0 h0 [g, d] := Keep.refl _ _
  refine own_aloadN (pc' := 1) C d6_0 rfl rfl rfl ?_
  refine own_iloadN (pc' := 2) C d6_1 rfl rfl ?_
  refine own_laload (pc' := 3) (v := x2_) (i := 2) C d6_2 A_g (by decide) rfl rfl rfl ?_
  refine own_aloadN (pc' := 4) C d6_3 rfl rfl rfl ?_
  refine own_iloadN (pc' := 5) C d6_4 rfl rfl ?_
  refine own_iaload (pc' := 6) (v := i2_) (i := 2) C d6_5 A_d (by decide) rfl rfl rfl ?_
  refine own_aloadN (pc' := 7) C d6_6 rfl rfl rfl ?_
  refine own_iloadN (pc' := 8) C d6_7 rfl rfl ?_
  refine own_laload (pc' := 9) (v := x1_) (i := 1) C d6_8 A_g (by decide) rfl rfl rfl ?_
  refine own_aloadN (pc' := 10) C d6_9 rfl rfl rfl ?_
  refine own_iloadN (pc' := 11) C d6_10 rfl rfl ?_
  refine own_iaload (pc' := 12) (v := i1_) (i := 1) C d6_11 A_d (by decide) rfl rfl rfl ?_
  refine own_callS (pc' := 15) (wL := 0) (argsL := [(.long x2_), (.int i2_), (.long x1_), (.int i1_)]) (rest := []) C (own_m7 l Z a0 hw x2_ i2_ x1_ i1_ h0 n0 Z_) d6_12 (hw _ (List.mem_of_getElem? (i := 32) rfl)) (hw _ (List.mem_of_getElem? (i := 33) rfl)) (hw _ (List.mem_of_getElem? (i := 2) rfl)) (hw _ (List.mem_of_getElem? (i := 34) rfl)) (by decide) (by decide) (by decide) rfl (lenOf pd7 rfl) rfl rfl (Nat.le_of_eq rfl) (by decide) (by decide) rfl ?_
  rintro _ _ ⟨rfl, rfl⟩
  show Wp p l e _ s m _ below meth c n0 _ h0 0 0 (mkF m 15 #[.val (.ref g), .val (.ref d), .val (.int (1 : Int32)), .val (.int (2 : Int32)), .unset, .unset, .unset] [(.int (own_f7 x2_ i2_ x1_ i1_))])
  refine own_if_eq (pt := 50) (pf := 18) C d6_15 (by decide) (by decide) rfl ?_ ?_
  · intro hc15
    refine own_vret C d6_50 (by decide) (by decide) ?_
    have l_hc15 : own_lt (x2_, i2_) (x1_, i1_) = false := by simp [own_lt, own_BA, hc15]
    refine ⟨rfl, K_, ?_, ?_⟩
    · simp only [own_cs, l_hc15, if_true, if_false, Bool.false_eq_true]; exact A_g
    · simp only [own_cs, l_hc15, if_true, if_false, Bool.false_eq_true]; exact A_d
  · intro hc15
    refine own_aloadN (pc' := 19) C d6_18 rfl rfl rfl ?_
    refine own_iloadN (pc' := 20) C d6_19 rfl rfl ?_
    refine own_laload (pc' := 21) (v := x1_) (i := 1) C d6_20 A_g (by decide) rfl rfl rfl ?_
    refine own_lstore (pc' := 23) (y := x1_) (Ls' := #[.val (.ref g), .val (.ref d), .val (.int (1 : Int32)), .val (.int (2 : Int32)), .val (.long x1_), .second, .unset]) C d6_21 rfl rfl rfl ?_
    refine own_aloadN (pc' := 24) C d6_23 rfl rfl rfl ?_
    refine own_iloadN (pc' := 25) C d6_24 rfl rfl ?_
    refine own_aloadN (pc' := 26) C d6_25 rfl rfl rfl ?_
    refine own_iloadN (pc' := 27) C d6_26 rfl rfl ?_
    refine own_laload (pc' := 28) (v := x2_) (i := 2) C d6_27 A_g (by decide) rfl rfl rfl ?_
    refine own_lastore (pc' := 29) (i := 1) (ys := [x0_, x2_, x2_, x3_, x4_]) C d6_28 A_g (by decide) rfl (Nat.le_of_ble_eq_true rfl) rfl g_g rfl ?_
    intro h1 W1 A1_
    replace A_d := A_d.other W1 (Ne.symm ne_g_d)
    replace A_g := A1_
    replace Z_ : n0 ≤ _ := Nat.le_trans Z_ (Nat.le_of_eq W1.size.symm)
    replace K_ := K_.wr W1 (Or.inl (List.mem_of_getElem? (i := 0) rfl))
    refine own_aloadN (pc' := 30) C d6_29 rfl rfl rfl ?_
    refine own_iloadN (pc' := 31) C d6_30 rfl rfl ?_
    refine own_lload (pc' := 33) C d6_31 rfl rfl ?_
    refine own_lastore (pc' := 34) (i := 2) (ys := [x0_, x2_, x1_, x3_, x4_]) C d6_33 A_g (by decide) rfl (Nat.le_of_ble_eq_true rfl) rfl g_g rfl ?_
    intro h2 W2 A2_
    replace A_d := A_d.other W2 (Ne.symm ne_g_d)
    replace A_g := A2_
    replace Z_ : n0 ≤ _ := Nat.le_trans Z_ (Nat.le_of_eq W2.size.symm)
    replace K_ := K_.wr W2 (Or.inl (List.mem_of_getElem? (i := 0) rfl))
    refine own_aloadN (pc' := 35) C d6_34 rfl rfl rfl ?_
    refine own_iloadN (pc' := 36) C d6_35 rfl rfl ?_
    refine own_iaload (pc' := 37) (v := i1_) (i := 1) C d6_36 A_d (by decide) rfl rfl rfl ?_
    refine own_istore (pc' := 39) (y := i1_) (Ls' := #[.val (.ref g), .val (.ref d), .val (.int (1 : Int32)), .val (.int (2 : Int32)), .val (.long x1_), .second, .val (.int i1_)]) C d6_37 rfl rfl rfl ?_
    refine own_aloadN (pc' := 40) C d6_39 rfl rfl rfl ?_
    refine own_iloadN (pc' := 41) C d6_40 rfl rfl ?_
    refine own_aloadN (pc' := 42) C d6_41 rfl rfl rfl ?_
    refine own_iloadN (pc' := 43) C d6_42 rfl rfl ?_
    refine own_iaload (pc' := 44) (v := i2_) (i := 2) C d6_43 A_d (by decide) rfl rfl rfl ?_
    refine own_iastore (pc' := 45) (i := 1) (ys := [i0_, i2_, i2_, i3_, i4_]) C d6_44 A_d (by decide) rfl (Nat.le_of_ble_eq_true rfl) rfl g_d rfl ?_
    intro h3 W3 A3_
    replace A_g := A_g.other W3 ne_g_d
    replace A_d := A3_
    replace Z_ : n0 ≤ _ := Nat.le_trans Z_ (Nat.le_of_eq W3.size.symm)
    replace K_ := K_.wr W3 (Or.inl (List.mem_of_getElem? (i := 1) rfl))
    refine own_aloadN (pc' := 46) C d6_45 rfl rfl rfl ?_
    refine own_iloadN (pc' := 47) C d6_46 rfl rfl ?_
    refine own_iload (pc' := 49) C d6_47 rfl rfl ?_
    refine own_iastore (pc' := 50) (i := 2) (ys := [i0_, i2_, i1_, i3_, i4_]) C d6_49 A_d (by decide) rfl (Nat.le_of_ble_eq_true rfl) rfl g_d rfl ?_
    intro h4 W4 A4_
    replace A_g := A_g.other W4 ne_g_d
    replace A_d := A4_
    replace Z_ : n0 ≤ _ := Nat.le_trans Z_ (Nat.le_of_eq W4.size.symm)
    replace K_ := K_.wr W4 (Or.inl (List.mem_of_getElem? (i := 1) rfl))
    refine own_vret C d6_50 (by decide) (by decide) ?_
    have l_hc15 : own_lt (x2_, i2_) (x1_, i1_) = true := by simp [own_lt, own_BA, hc15]
    refine ⟨rfl, K_, ?_, ?_⟩
    · simp only [own_cs, l_hc15, if_true, if_false, Bool.false_eq_true]; exact A_g
    · simp only [own_cs, l_hc15, if_true, if_false, Bool.false_eq_true]; exact A_d

set_option maxRecDepth 65536 in
set_option maxHeartbeats 40000000 in
theorem own_cs34 (l : Launch) (Z : State) (a0 : Array Value) (hw : ∀ d ∈ tables_1, d.before a0 Z = true) (g : Addr) (d : Addr) (x0_ x1_ x2_ x3_ x4_ : Int64) (i0_ i1_ i2_ i3_ i4_ : Int32) (h0 : Heap) (n0 : Nat) (Z_ : n0 ≤ h0.size) (A_g : AJ Z h0 g [x0_, x1_, x2_, x3_, x4_]) (A_d : AI Z h0 d .int [i0_, i1_, i2_, i3_, i4_]) (g_g : n0 ≤ g) (g_d : n0 ≤ d) (ne_g_d : g ≠ d) :
    Met l (⟨"com/example/cachewright/cachewright/placement/CandidateHeapPopPinLaw", "cs", "([J[III)V"⟩ : MethodName) method_3_code 7 none [] ({ frames := 1, cells := 0, slots := 0, locals := 17 } : Room) Z n0 #[(.ref g), (.ref d), (.int (3 : Int32)), (.int (4 : Int32))] h0 (fun v h => v = none ∧ Keep h0 h [g, d] ∧ AJ Z h g [x0_, x1_, x2_, (own_cs own_lt (x3_, i3_) (x4_, i4_)).1.1, (own_cs own_lt (x3_, i3_) (x4_, i4_)).2.1] ∧ AI Z h d .int [i0_, i1_, i2_, (own_cs own_lt (x3_, i3_) (x4_, i4_)).1.2, (own_cs own_lt (x3_, i3_) (x4_, i4_)).2.2]) := by
  refine own_met pn6 (fun m => ef6 m g d (3 : Int32) (4 : Int32)) ?_
  intro p e s m below meth c C
  have K_ : Keep h0 h0 [g, d] := Keep.refl _ _
  refine own_aloadN (pc' := 1) C d6_0 rfl rfl rfl ?_
  refine own_iloadN (pc' := 2) C d6_1 rfl rfl ?_
  refine own_laload (pc' := 3) (v := x4_) (i := 4) C d6_2 A_g (by decide) rfl rfl rfl ?_
  refine own_aloadN (pc' := 4) C d6_3 rfl rfl rfl ?_
  refine own_iloadN (pc' := 5) C d6_4 rfl rfl ?_
  refine own_iaload (pc' := 6) (v := i4_) (i := 4) C d6_5 A_d (by decide) rfl rfl rfl ?_
  refine own_aloadN (pc' := 7) C d6_6 rfl rfl rfl ?_
  refine own_iloadN (pc' := 8) C d6_7 rfl rfl ?_
  refine own_laload (pc' := 9) (v := x3_) (i := 3) C d6_8 A_g (by decide) rfl rfl rfl ?_
  refine own_aloadN (pc' := 10) C d6_9 rfl rfl rfl ?_
  refine own_iloadN (pc' := 11) C d6_10 rfl rfl ?_
  refine own_iaload (pc' := 12) (v := i3_) (i := 3) C d6_11 A_d (by decide) rfl rfl rfl ?_
  refine own_callS (pc' := 15) (wL := 0) (argsL := [(.long x4_), (.int i4_), (.long x3_), (.int i3_)]) (rest := []) C (own_m7 l Z a0 hw x4_ i4_ x3_ i3_ h0 n0 Z_) d6_12 (hw _ (List.mem_of_getElem? (i := 32) rfl)) (hw _ (List.mem_of_getElem? (i := 33) rfl)) (hw _ (List.mem_of_getElem? (i := 2) rfl)) (hw _ (List.mem_of_getElem? (i := 34) rfl)) (by decide) (by decide) (by decide) rfl (lenOf pd7 rfl) rfl rfl (Nat.le_of_eq rfl) (by decide) (by decide) rfl ?_
  rintro _ _ ⟨rfl, rfl⟩
  show Wp p l e _ s m _ below meth c n0 _ h0 0 0 (mkF m 15 #[.val (.ref g), .val (.ref d), .val (.int (3 : Int32)), .val (.int (4 : Int32)), .unset, .unset, .unset] [(.int (own_f7 x4_ i4_ x3_ i3_))])
  refine own_if_eq (pt := 50) (pf := 18) C d6_15 (by decide) (by decide) rfl ?_ ?_
  · intro hc15
    refine own_vret C d6_50 (by decide) (by decide) ?_
    have l_hc15 : own_lt (x4_, i4_) (x3_, i3_) = false := by simp [own_lt, own_BA, hc15]
    refine ⟨rfl, K_, ?_, ?_⟩
    · simp only [own_cs, l_hc15, if_true, if_false, Bool.false_eq_true]; exact A_g
    · simp only [own_cs, l_hc15, if_true, if_false, Bool.false_eq_true]; exact A_d
  · intro hc15
    refine own_aloadN (pc' := 19) C d6_18 rfl rfl rfl ?_
    refine own_iloadN (pc' := 20) C d6_19 rfl rfl ?_
    refine own_laload (pc' := 21) (v := x3_) (i := 3) C d6_20 A_g (by decide) rfl rfl rfl ?_
    refine own_lstore (pc' := 23) (y := x3_) (Ls' := #[.val (.ref g), .val (.ref d), .val (.int (3 : Int32)), .val (.int (4 : Int32)), .val (.long x3_), .second, .unset]) C d6_21 rfl rfl rfl ?_
    refine own_aloadN (pc' := 24) C d6_23 rfl rfl rfl ?_
    refine own_iloadN (pc' := 25) C d6_24 rfl rfl ?_
    refine own_aloadN (pc' := 26) C d6_25 rfl rfl rfl ?_
    refine own_iloadN (pc' := 27) C d6_26 rfl rfl ?_
    refine own_laload (pc' := 28) (v := x4_) (i := 4) C d6_27 A_g (by decide) rfl rfl rfl ?_
    refine own_lastore (pc' := 29) (i := 3) (ys := [x0_, x1_, x2_, x4_, x4_]) C d6_28 A_g (by decide) rfl (Nat.le_of_ble_eq_true rfl) rfl g_g rfl ?_
    intro h1 W1 A1_
    replace A_d := A_d.other W1 (Ne.symm ne_g_d)
    replace A_g := A1_
    replace Z_ : n0 ≤ _ := Nat.le_trans Z_ (Nat.le_of_eq W1.size.symm)
    replace K_ := K_.wr W1 (Or.inl (List.mem_of_getElem? (i := 0) rfl))
    refine own_aloadN (pc' := 30) C d6_29 rfl rfl rfl ?_
    refine own_iloadN (pc' := 31) C d6_30 rfl rfl ?_
    refine own_lload (pc' := 33) C d6_31 rfl rfl ?_
    refine own_lastore (pc' := 34) (i := 4) (ys := [x0_, x1_, x2_, x4_, x3_]) C d6_33 A_g (by decide) rfl (Nat.le_of_ble_eq_true rfl) rfl g_g rfl ?_
    intro h2 W2 A2_
    replace A_d := A_d.other W2 (Ne.symm ne_g_d)
    replace A_g := A2_
    replace Z_ : n0 ≤ _ := Nat.le_trans Z_ (Nat.le_of_eq W2.size.symm)
    replace K_ := K_.wr W2 (Or.inl (List.mem_of_getElem? (i := 0) rfl))
    refine own_aloadN (pc' := 35) C d6_34 rfl rfl rfl ?_
    refine own_iloadN (pc' := 36) C d6_35 rfl rfl ?_
    refine own_iaload (pc' := 37) (v := i3_) (i := 3) C d6_36 A_d (by decide) rfl rfl rfl ?_
    refine own_istore (pc' := 39) (y := i3_) (Ls' := #[.val (.ref g), .val (.ref d), .val (.int (3 : Int32)), .val (.int (4 : Int32)), .val (.long x3_), .second, .val (.int i3_)]) C d6_37 rfl rfl rfl ?_
    refine own_aloadN (pc' := 40) C d6_39 rfl rfl rfl ?_
    refine own_iloadN (pc' := 41) C d6_40 rfl rfl ?_
    refine own_aloadN (pc' := 42) C d6_41 rfl rfl rfl ?_
    refine own_iloadN (pc' := 43) C d6_42 rfl rfl ?_
    refine own_iaload (pc' := 44) (v := i4_) (i := 4) C d6_43 A_d (by decide) rfl rfl rfl ?_
    refine own_iastore (pc' := 45) (i := 3) (ys := [i0_, i1_, i2_, i4_, i4_]) C d6_44 A_d (by decide) rfl (Nat.le_of_ble_eq_true rfl) rfl g_d rfl ?_
    intro h3 W3 A3_
    replace A_g := A_g.other W3 ne_g_d
    replace A_d := A3_
    replace Z_ : n0 ≤ _ := Nat.le_trans Z_ (Nat.le_of_eq W3.size.symm)
    replace K_ := K_.wr W3 (Or.inl (List.mem_of_getElem? (i := 1) rfl))
    refine own_aloadN (pc' := 46) C d6_45 rfl rfl rfl ?_
    refine own_iloadN (pc' := 47) C d6_46 rfl rfl ?_
    refine own_iload (pc' := 49) C d6_47 rfl rfl ?_
    refine own_iastore (pc' := 50) (i := 4) (ys := [i0_, i1_, i2_, i4_, i3_]) C d6_49 A_d (by decide) rfl (Nat.le_of_ble_eq_true rfl) rfl g_d rfl ?_
    intro h4 W4 A4_
    replace A_g := A_g.other W4 ne_g_d
    replace A_d := A4_
    replace Z_ : n0 ≤ _ := Nat.le_trans Z_ (Nat.le_of_eq W4.size.symm)
    replace K_ := K_.wr W4 (Or.inl (List.mem_of_getElem? (i := 1) rfl))
    refine own_vret C d6_50 (by decide) (by decide) ?_
    have l_hc15 : own_lt (x4_, i4_) (x3_, i3_) = true := by simp [own_lt, own_BA, hc15]
    refine ⟨rfl, K_, ?_, ?_⟩
    · simp only [own_cs, l_hc15, if_true, if_false, Bool.false_eq_true]; exact A_g
    · simp only [own_cs, l_hc15, if_true, if_false, Bool.false_eq_true]; exact A_d

set_option maxRecDepth 65536 in
set_option maxHeartbeats 40000000 in
theorem own_cs23 (l : Launch) (Z : State) (a0 : Array Value) (hw : ∀ d ∈ tables_1, d.before a0 Z = true) (g : Addr) (d : Addr) (x0_ x1_ x2_ x3_ x4_ : Int64) (i0_ i1_ i2_ i3_ i4_ : Int32) (h0 : Heap) (n0 : Nat) (Z_ : n0 ≤ h0.size) (A_g : AJ Z h0 g [x0_, x1_, x2_, x3_, x4_]) (A_d : AI Z h0 d .int [i0_, i1_, i2_, i3_, i4_]) (g_g : n0 ≤ g) (g_d : n0 ≤ d) (ne_g_d : g ≠ d) :
    Met l (⟨"com/example/cachewright/cachewright/placement/CandidateHeapPopPinLaw", "cs", "([J[III)V"⟩ : MethodName) method_3_code 7 none [] ({ frames := 1, cells := 0, slots := 0, locals := 17 } : Room) Z n0 #[(.ref g), (.ref d), (.int (2 : Int32)), (.int (3 : Int32))] h0 (fun v h => v = none ∧ Keep h0 h [g, d] ∧ AJ Z h g [x0_, x1_, (own_cs own_lt (x2_, i2_) (x3_, i3_)).1.1, (own_cs own_lt (x2_, i2_) (x3_, i3_)).2.1, x4_] ∧ AI Z h d .int [i0_, i1_, (own_cs own_lt (x2_, i2_) (x3_, i3_)).1.2, (own_cs own_lt (x2_, i2_) (x3_, i3_)).2.2, i4_]) := by
  refine own_met pn6 (fun m => ef6 m g d (2 : Int32) (3 : Int32)) ?_
  intro p e s m below meth c C
  have K_ : Keep h0 h0 [g, d] := Keep.refl _ _
  refine own_aloadN (pc' := 1) C d6_0 rfl rfl rfl ?_
  refine own_iloadN (pc' := 2) C d6_1 rfl rfl ?_
  refine own_laload (pc' := 3) (v := x3_) (i := 3) C d6_2 A_g (by decide) rfl rfl rfl ?_
  refine own_aloadN (pc' := 4) C d6_3 rfl rfl rfl ?_
  refine own_iloadN (pc' := 5) C d6_4 rfl rfl ?_
  refine own_iaload (pc' := 6) (v := i3_) (i := 3) C d6_5 A_d (by decide) rfl rfl rfl ?_
  refine own_aloadN (pc' := 7) C d6_6 rfl rfl rfl ?_
  refine own_iloadN (pc' := 8) C d6_7 rfl rfl ?_
  refine own_laload (pc' := 9) (v := x2_) (i := 2) C d6_8 A_g (by decide) rfl rfl rfl ?_
  refine own_aloadN (pc' := 10) C d6_9 rfl rfl rfl ?_
  refine own_iloadN (pc' := 11) C d6_10 rfl rfl ?_
  refine own_iaload (pc' := 12) (v := i2_) (i := 2) C d6_11 A_d (by decide) rfl rfl rfl ?_
  refine own_callS (pc' := 15) (wL := 0) (argsL := [(.long x3_), (.int i3_), (.long x2_), (.int i2_)]) (rest := []) C (own_m7 l Z a0 hw x3_ i3_ x2_ i2_ h0 n0 Z_) d6_12 (hw _ (List.mem_of_getElem? (i := 32) rfl)) (hw _ (List.mem_of_getElem? (i := 33) rfl)) (hw _ (List.mem_of_getElem? (i := 2) rfl)) (hw _ (List.mem_of_getElem? (i := 34) rfl)) (by decide) (by decide) (by decide) rfl (lenOf pd7 rfl) rfl rfl (Nat.le_of_eq rfl) (by decide) (by decide) rfl ?_
  rintro _ _ ⟨rfl, rfl⟩
  show Wp p l e _ s m _ below meth c n0 _ h0 0 0 (mkF m 15 #[.val (.ref g), .val (.ref d), .val (.int (2 : Int32)), .val (.int (3 : Int32)), .unset, .unset, .unset] [(.int (own_f7 x3_ i3_ x2_ i2_))])
  refine own_if_eq (pt := 50) (pf := 18) C d6_15 (by decide) (by decide) rfl ?_ ?_
  · intro hc15
    refine own_vret C d6_50 (by decide) (by decide) ?_
    have l_hc15 : own_lt (x3_, i3_) (x2_, i2_) = false := by simp [own_lt, own_BA, hc15]
    refine ⟨rfl, K_, ?_, ?_⟩
    · simp only [own_cs, l_hc15, if_true, if_false, Bool.false_eq_true]; exact A_g
    · simp only [own_cs, l_hc15, if_true, if_false, Bool.false_eq_true]; exact A_d
  · intro hc15
    refine own_aloadN (pc' := 19) C d6_18 rfl rfl rfl ?_
    refine own_iloadN (pc' := 20) C d6_19 rfl rfl ?_
    refine own_laload (pc' := 21) (v := x2_) (i := 2) C d6_20 A_g (by decide) rfl rfl rfl ?_
    refine own_lstore (pc' := 23) (y := x2_) (Ls' := #[.val (.ref g), .val (.ref d), .val (.int (2 : Int32)), .val (.int (3 : Int32)), .val (.long x2_), .second, .unset]) C d6_21 rfl rfl rfl ?_
    refine own_aloadN (pc' := 24) C d6_23 rfl rfl rfl ?_
    refine own_iloadN (pc' := 25) C d6_24 rfl rfl ?_
    refine own_aloadN (pc' := 26) C d6_25 rfl rfl rfl ?_
    refine own_iloadN (pc' := 27) C d6_26 rfl rfl ?_
    refine own_laload (pc' := 28) (v := x3_) (i := 3) C d6_27 A_g (by decide) rfl rfl rfl ?_
    refine own_lastore (pc' := 29) (i := 2) (ys := [x0_, x1_, x3_, x3_, x4_]) C d6_28 A_g (by decide) rfl (Nat.le_of_ble_eq_true rfl) rfl g_g rfl ?_
    intro h1 W1 A1_
    replace A_d := A_d.other W1 (Ne.symm ne_g_d)
    replace A_g := A1_
    replace Z_ : n0 ≤ _ := Nat.le_trans Z_ (Nat.le_of_eq W1.size.symm)
    replace K_ := K_.wr W1 (Or.inl (List.mem_of_getElem? (i := 0) rfl))
    refine own_aloadN (pc' := 30) C d6_29 rfl rfl rfl ?_
    refine own_iloadN (pc' := 31) C d6_30 rfl rfl ?_
    refine own_lload (pc' := 33) C d6_31 rfl rfl ?_
    refine own_lastore (pc' := 34) (i := 3) (ys := [x0_, x1_, x3_, x2_, x4_]) C d6_33 A_g (by decide) rfl (Nat.le_of_ble_eq_true rfl) rfl g_g rfl ?_
    intro h2 W2 A2_
    replace A_d := A_d.other W2 (Ne.symm ne_g_d)
    replace A_g := A2_
    replace Z_ : n0 ≤ _ := Nat.le_trans Z_ (Nat.le_of_eq W2.size.symm)
    replace K_ := K_.wr W2 (Or.inl (List.mem_of_getElem? (i := 0) rfl))
    refine own_aloadN (pc' := 35) C d6_34 rfl rfl rfl ?_
    refine own_iloadN (pc' := 36) C d6_35 rfl rfl ?_
    refine own_iaload (pc' := 37) (v := i2_) (i := 2) C d6_36 A_d (by decide) rfl rfl rfl ?_
    refine own_istore (pc' := 39) (y := i2_) (Ls' := #[.val (.ref g), .val (.ref d), .val (.int (2 : Int32)), .val (.int (3 : Int32)), .val (.long x2_), .second, .val (.int i2_)]) C d6_37 rfl rfl rfl ?_
    refine own_aloadN (pc' := 40) C d6_39 rfl rfl rfl ?_
    refine own_iloadN (pc' := 41) C d6_40 rfl rfl ?_
    refine own_aloadN (pc' := 42) C d6_41 rfl rfl rfl ?_
    refine own_iloadN (pc' := 43) C d6_42 rfl rfl ?_
    refine own_iaload (pc' := 44) (v := i3_) (i := 3) C d6_43 A_d (by decide) rfl rfl rfl ?_
    refine own_iastore (pc' := 45) (i := 2) (ys := [i0_, i1_, i3_, i3_, i4_]) C d6_44 A_d (by decide) rfl (Nat.le_of_ble_eq_true rfl) rfl g_d rfl ?_
    intro h3 W3 A3_
    replace A_g := A_g.other W3 ne_g_d
    replace A_d := A3_
    replace Z_ : n0 ≤ _ := Nat.le_trans Z_ (Nat.le_of_eq W3.size.symm)
    replace K_ := K_.wr W3 (Or.inl (List.mem_of_getElem? (i := 1) rfl))
    refine own_aloadN (pc' := 46) C d6_45 rfl rfl rfl ?_
    refine own_iloadN (pc' := 47) C d6_46 rfl rfl ?_
    refine own_iload (pc' := 49) C d6_47 rfl rfl ?_
    refine own_iastore (pc' := 50) (i := 3) (ys := [i0_, i1_, i3_, i2_, i4_]) C d6_49 A_d (by decide) rfl (Nat.le_of_ble_eq_true rfl) rfl g_d rfl ?_
    intro h4 W4 A4_
    replace A_g := A_g.other W4 ne_g_d
    replace A_d := A4_
    replace Z_ : n0 ≤ _ := Nat.le_trans Z_ (Nat.le_of_eq W4.size.symm)
    replace K_ := K_.wr W4 (Or.inl (List.mem_of_getElem? (i := 1) rfl))
    refine own_vret C d6_50 (by decide) (by decide) ?_
    have l_hc15 : own_lt (x3_, i3_) (x2_, i2_) = true := by simp [own_lt, own_BA, hc15]
    refine ⟨rfl, K_, ?_, ?_⟩
    · simp only [own_cs, l_hc15, if_true, if_false, Bool.false_eq_true]; exact A_g
    · simp only [own_cs, l_hc15, if_true, if_false, Bool.false_eq_true]; exact A_d

theorem d9_0 : decode prog_9_method_4_code 0 = .ok (.aload_n 0, 1) := by decide +kernel
theorem d9_1 : decode prog_9_method_4_code 1 = .ok (.getfield 7, 3) := by decide +kernel
theorem d9_4 : decode prog_9_method_4_code 4 = .ok (.iconst 0, 1) := by decide +kernel
theorem d9_5 : decode prog_9_method_4_code 5 = .ok (.laload, 1) := by decide +kernel
theorem d9_6 : decode prog_9_method_4_code 6 = .ok (.lreturn, 1) := by decide +kernel
theorem pn9 : plainName "com/example/cachewright/cachewright/placement/CandidateHeap" = true := by first | (simp [plainName, overriddenIn]; done) | decide +kernel
theorem ef9 (m : MethodId) (x0 : Addr) : entryFrame m #[(.ref x0)] 1 = mkF m 0 #[.val (.ref x0)] [] := by first | (simp [entryFrame, mkF, argsToLocals, Value.category]; done) | rfl
set_option maxRecDepth 65536 in
set_option maxHeartbeats 40000000 in
theorem own_topGain (l : Launch) (Z : State) (a0 : Array Value) (hw : ∀ d ∈ tables_1, d.before a0 Z = true) (a : Addr) (g : Addr) (x0_ x1_ x2_ x3_ x4_ : Int64) (h0 : Heap) (n0 : Nat) (Z_ : n0 ≤ h0.size) (F_a_gains : Fld Z h0 a "com/example/cachewright/cachewright/placement/CandidateHeap" "gains" "[J" (.ref g)) (A_g : AJ Z h0 g (x0_ :: x1_ :: x2_ :: x3_ :: x4_ :: own_zJ)) :
    Met l (⟨"com/example/cachewright/cachewright/placement/CandidateHeap", "topGain", "()J"⟩ : MethodName) prog_9_method_4_code 1 (some .long) [] ({ frames := 0, cells := 0, slots := 0, locals := 0 } : Room) Z n0 #[(.ref a)] h0 (fun v h => v = some (.long x0_) ∧ h0 = h) := by
  refine own_met pn9 (fun m => ef9 m a) ?_
  intro p e s m below meth c C
  refine own_aloadN (pc' := 1) C d9_0 rfl rfl rfl ?_
  refine own_getfield (pc' := 4) C d9_1 (hw _ (List.mem_of_getElem? (i := 14) rfl)) F_a_gains rfl ?_
  refine own_iconst (pc' := 5) (v := (0 : Int32)) C d9_4 own_ki_0 rfl ?_
  refine own_laload (pc' := 6) (v := x0_) (i := 0) C d9_5 A_g (by decide) rfl rfl rfl ?_
  refine own_lret C d9_6 (by decide) (by decide) ?_
  exact ⟨rfl, rfl⟩

theorem d10_0 : decode prog_9_method_5_code 0 = .ok (.aload_n 0, 1) := by decide +kernel
theorem d10_1 : decode prog_9_method_5_code 1 = .ok (.getfield 13, 3) := by decide +kernel
theorem d10_4 : decode prog_9_method_5_code 4 = .ok (.iconst 0, 1) := by decide +kernel
theorem d10_5 : decode prog_9_method_5_code 5 = .ok (.iaload, 1) := by decide +kernel
theorem d10_6 : decode prog_9_method_5_code 6 = .ok (.ireturn, 1) := by decide +kernel
theorem pn10 : plainName "com/example/cachewright/cachewright/placement/CandidateHeap" = true := by first | (simp [plainName, overriddenIn]; done) | decide +kernel
theorem ef10 (m : MethodId) (x0 : Addr) : entryFrame m #[(.ref x0)] 1 = mkF m 0 #[.val (.ref x0)] [] := by first | (simp [entryFrame, mkF, argsToLocals, Value.category]; done) | rfl
set_option maxRecDepth 65536 in
set_option maxHeartbeats 40000000 in
theorem own_topId (l : Launch) (Z : State) (a0 : Array Value) (hw : ∀ d ∈ tables_1, d.before a0 Z = true) (a : Addr) (d : Addr) (i0_ i1_ i2_ i3_ i4_ : Int32) (h0 : Heap) (n0 : Nat) (Z_ : n0 ≤ h0.size) (F_a_ids : Fld Z h0 a "com/example/cachewright/cachewright/placement/CandidateHeap" "ids" "[I" (.ref d)) (A_d : AI Z h0 d .int (i0_ :: i1_ :: i2_ :: i3_ :: i4_ :: own_zI)) :
    Met l (⟨"com/example/cachewright/cachewright/placement/CandidateHeap", "topId", "()I"⟩ : MethodName) prog_9_method_5_code 1 (some .int) [] ({ frames := 0, cells := 0, slots := 0, locals := 0 } : Room) Z n0 #[(.ref a)] h0 (fun v h => v = some (.int i0_) ∧ h0 = h) := by
  refine own_met pn10 (fun m => ef10 m a) ?_
  intro p e s m below meth c C
  refine own_aloadN (pc' := 1) C d10_0 rfl rfl rfl ?_
  refine own_getfield (pc' := 4) C d10_1 (hw _ (List.mem_of_getElem? (i := 17) rfl)) F_a_ids rfl ?_
  refine own_iconst (pc' := 5) (v := (0 : Int32)) C d10_4 own_ki_0 rfl ?_
  refine own_iaload (pc' := 6) (v := i0_) (i := 0) C d10_5 A_d (by decide) rfl rfl rfl ?_
  refine own_iret C d10_6 (by decide) (by decide) ?_
  exact ⟨rfl, rfl⟩

def own_top (x y : Int64) (i j : Int32) : Int32 := if x = y then (if i = j then 1 else 0) else 0

theorem d8_0 : decode method_5_code 0 = .ok (.aload_n 0, 1) := by decide +kernel
theorem d8_1 : decode method_5_code 1 = .ok (.invokevirtual 13, 3) := by decide +kernel
theorem d8_4 : decode method_5_code 4 = .ok (.aload_n 1, 1) := by decide +kernel
theorem d8_5 : decode method_5_code 5 = .ok (.iload_n 3, 1) := by decide +kernel
theorem d8_6 : decode method_5_code 6 = .ok (.laload, 1) := by decide +kernel
theorem d8_7 : decode method_5_code 7 = .ok (.lcmp, 1) := by decide +kernel
theorem d8_8 : decode method_5_code 8 = .ok (.ifCond .ne 17, 3) := by decide +kernel
theorem d8_11 : decode method_5_code 11 = .ok (.aload_n 0, 1) := by decide +kernel
theorem d8_12 : decode method_5_code 12 = .ok (.invokevirtual 19, 3) := by decide +kernel
theorem d8_15 : decode method_5_code 15 = .ok (.aload_n 2, 1) := by decide +kernel
theorem d8_16 : decode method_5_code 16 = .ok (.iload_n 3, 1) := by decide +kernel
theorem d8_17 : decode method_5_code 17 = .ok (.iaload, 1) := by decide +kernel
theorem d8_18 : decode method_5_code 18 = .ok (.if_icmp .ne 7, 3) := by decide +kernel
theorem d8_21 : decode method_5_code 21 = .ok (.iconst 1, 1) := by decide +kernel
theorem d8_22 : decode method_5_code 22 = .ok (.goto 4, 3) := by decide +kernel
theorem d8_25 : decode method_5_code 25 = .ok (.iconst 0, 1) := by decide +kernel
theorem d8_26 : decode method_5_code 26 = .ok (.ireturn, 1) := by decide +kernel
theorem pn8 : plainName "com/example/cachewright/cachewright/placement/CandidateHeapPopPinLaw" = true := by first | (simp [plainName, overriddenIn]; done) | decide +kernel
theorem ef8 (m : MethodId) (x0 : Addr) (x1 : Addr) (x2 : Addr) (x3 : Int32) : entryFrame m #[(.ref x0), (.ref x1), (.ref x2), (.int x3)] 4 = mkF m 0 #[.val (.ref x0), .val (.ref x1), .val (.ref x2), .val (.int x3)] [] := by first | (simp [entryFrame, mkF, argsToLocals, Value.category]; done) | rfl
theorem pd9 : parseMethodDescriptor "()J" = some ⟨[], some .long⟩ := by decide +kernel
theorem pd10 : parseMethodDescriptor "()I" = some ⟨[], some .int⟩ := by decide +kernel
set_option maxRecDepth 65536 in
set_option maxHeartbeats 40000000 in
theorem own_topIs0 (l : Launch) (Z : State) (a0 : Array Value) (hw : ∀ d ∈ tables_1, d.before a0 Z = true) (a : Addr) (gs : Addr) (ds : Addr) (g d : Addr) (x0_ x1_ x2_ x3_ x4_ y0_ y1_ y2_ y3_ y4_ : Int64) (i0_ i1_ i2_ i3_ i4_ e0_ e1_ e2_ e3_ e4_ : Int32) (h0 : Heap) (n0 : Nat) (Z_ : n0 ≤ h0.size) (E_a : Exa Z h0 a "com/example/cachewright/cachewright/placement/CandidateHeap") (F_a_gains : Fld Z h0 a "com/example/cachewright/cachewright/placement/CandidateHeap" "gains" "[J" (.ref g)) (F_a_ids : Fld Z h0 a "com/example/cachewright/cachewright/placement/CandidateHeap" "ids" "[I" (.ref d)) (A_g : AJ Z h0 g (x0_ :: x1_ :: x2_ :: x3_ :: x4_ :: own_zJ)) (A_d : AI Z h0 d .int (i0_ :: i1_ :: i2_ :: i3_ :: i4_ :: own_zI)) (A_gs : AJ Z h0 gs [y0_, y1_, y2_, y3_, y4_]) (A_ds : AI Z h0 ds .int [e0_, e1_, e2_, e3_, e4_]) :
    Met l (⟨"com/example/cachewright/cachewright/placement/CandidateHeapPopPinLaw", "topIs", "(Lcom/example/cachewright/cachewright/placement/CandidateHeap;[J[II)Z"⟩ : MethodName) method_5_code 4 (some .boolean) [] ({ frames := 1, cells := 0, slots := 0, locals := 12 } : Room) Z n0 #[(.ref a), (.ref gs), (.ref ds), (.int (0 : Int32))] h0 (fun v h => v = some (.int (own_top x0_ y0_ i0_ e0_)) ∧ h0 = h) := by
  refine own_met pn8 (fun m => ef8 m a gs ds (0 : Int32)) ?_
  intro p e s m below meth c C
  refine own_aloadN (pc' := 1) C d8_0 rfl rfl rfl ?_
  refine own_callV (pc' := 4) (wL := 0) (a := a) (argsL := []) (rest := []) C (own_topGain l Z a0 hw a g x0_ x1_ x2_ x3_ x4_ h0 n0 Z_ F_a_gains A_g) E_a d8_1 (hw _ (List.mem_of_getElem? (i := 38) rfl)) (hw _ (List.mem_of_getElem? (i := 39) rfl)) (hw _ (List.mem_of_getElem? (i := 41) rfl)) (hw _ (List.mem_of_getElem? (i := 40) rfl)) (hw _ (List.mem_of_getElem? (i := 6) rfl)) (hw _ (List.mem_of_getElem? (i := 42) rfl)) (by decide) (by decide) (by decide) rfl (lenOf pd9 rfl) rfl rfl (Nat.le_of_eq rfl) (by decide) (by decide) rfl ?_
  rintro _ _ ⟨rfl, rfl⟩
  show Wp p l e _ s m _ below meth c n0 _ h0 0 0 (mkF m 4 #[.val (.ref a), .val (.ref gs), .val (.ref ds), .val (.int (0 : Int32))] [(.long x0_)])
  refine own_aloadN (pc' := 5) C d8_4 rfl rfl rfl ?_
  refine own_iloadN (pc' := 6) C d8_5 rfl rfl ?_
  refine own_laload (pc' := 7) (v := y0_) (i := 0) C d8_6 A_gs (by decide) rfl rfl rfl ?_
  obtain ⟨vs_26, hvs_26⟩ : ∃ z : Int32, z = (if x0_ = y0_ then (if i0_ = e0_ then (1 : Int32) else (0 : Int32)) else (0 : Int32)) := ⟨_, rfl⟩
  have hzvs_26 : vs_26 = 0 ∨ vs_26 = 1 := by rw [hvs_26]; repeat (first | exact Or.inl rfl | exact Or.inr rfl | split)
  refine own_seq (g' := mkF m 26 #[.val (.ref a), .val (.ref gs), .val (.ref ds), .val (.int (0 : Int32))] [(.int vs_26)]) (fun J26 => ?_) ?_
  · refine own_lcmp_ne (pt := 25) (pf := 11) C d8_7 rfl d8_8 (by decide) (by decide) rfl ?_ ?_
    · intro hc7
      refine own_iconst (pc' := 26) (v := (0 : Int32)) C d8_25 own_ki_0 rfl ?_
      exact own_cast (by simp only [hvs_26, if_neg hc7]) (J26)
    · intro hc7
      refine own_aloadN (pc' := 12) C d8_11 rfl rfl rfl ?_
      refine own_callV (pc' := 15) (wL := 0) (a := a) (argsL := []) (rest := []) C (own_topId l Z a0 hw a d i0_ i1_ i2_ i3_ i4_ h0 n0 Z_ F_a_ids A_d) E_a d8_12 (hw _ (List.mem_of_getElem? (i := 43) rfl)) (hw _ (List.mem_of_getElem? (i := 44) rfl)) (hw _ (List.mem_of_getElem? (i := 46) rfl)) (hw _ (List.mem_of_getElem? (i := 45) rfl)) (hw _ (List.mem_of_getElem? (i := 6) rfl)) (hw _ (List.mem_of_getElem? (i := 47) rfl)) (by decide) (by decide) (by decide) rfl (lenOf pd10 rfl) rfl rfl (Nat.le_of_eq rfl) (by decide) (by decide) rfl ?_
      rintro _ _ ⟨rfl, rfl⟩
      show Wp p l e _ s m _ below meth c n0 _ h0 0 0 (mkF m 15 #[.val (.ref a), .val (.ref gs), .val (.ref ds), .val (.int (0 : Int32))] [(.int i0_)])
      refine own_aloadN (pc' := 16) C d8_15 rfl rfl rfl ?_
      refine own_iloadN (pc' := 17) C d8_16 rfl rfl ?_
      refine own_iaload (pc' := 18) (v := e0_) (i := 0) C d8_17 A_ds (by decide) rfl rfl rfl ?_
      refine own_icmp_ne (pt := 25) (pf := 21) C d8_18 (by decide) (by decide) rfl ?_ ?_
      · intro hc18
        refine own_iconst (pc' := 26) (v := (0 : Int32)) C d8_25 own_ki_0 rfl ?_
        exact own_cast (by simp only [hvs_26, if_pos hc7, if_neg hc18]) (J26)
      · intro hc18
        refine own_iconst (pc' := 22) (v := (1 : Int32)) C d8_21 own_ki_1 rfl ?_
        refine own_goto (pc' := 26) C d8_22 (by decide) (by decide) ?_
        exact own_cast (by simp only [hvs_26, if_pos hc7, if_pos hc18]) (J26)
  refine own_zret C d8_26 (by decide) (by decide) hzvs_26 ?_
  exact ⟨by rw [own_top, hvs_26], rfl⟩

set_option maxRecDepth 65536 in
set_option maxHeartbeats 40000000 in
theorem own_topIs1 (l : Launch) (Z : State) (a0 : Array Value) (hw : ∀ d ∈ tables_1, d.before a0 Z = true) (a : Addr) (gs : Addr) (ds : Addr) (g d : Addr) (x0_ x1_ x2_ x3_ x4_ y0_ y1_ y2_ y3_ y4_ : Int64) (i0_ i1_ i2_ i3_ i4_ e0_ e1_ e2_ e3_ e4_ : Int32) (h0 : Heap) (n0 : Nat) (Z_ : n0 ≤ h0.size) (E_a : Exa Z h0 a "com/example/cachewright/cachewright/placement/CandidateHeap") (F_a_gains : Fld Z h0 a "com/example/cachewright/cachewright/placement/CandidateHeap" "gains" "[J" (.ref g)) (F_a_ids : Fld Z h0 a "com/example/cachewright/cachewright/placement/CandidateHeap" "ids" "[I" (.ref d)) (A_g : AJ Z h0 g (x0_ :: x1_ :: x2_ :: x3_ :: x4_ :: own_zJ)) (A_d : AI Z h0 d .int (i0_ :: i1_ :: i2_ :: i3_ :: i4_ :: own_zI)) (A_gs : AJ Z h0 gs [y0_, y1_, y2_, y3_, y4_]) (A_ds : AI Z h0 ds .int [e0_, e1_, e2_, e3_, e4_]) :
    Met l (⟨"com/example/cachewright/cachewright/placement/CandidateHeapPopPinLaw", "topIs", "(Lcom/example/cachewright/cachewright/placement/CandidateHeap;[J[II)Z"⟩ : MethodName) method_5_code 4 (some .boolean) [] ({ frames := 1, cells := 0, slots := 0, locals := 12 } : Room) Z n0 #[(.ref a), (.ref gs), (.ref ds), (.int (1 : Int32))] h0 (fun v h => v = some (.int (own_top x0_ y1_ i0_ e1_)) ∧ h0 = h) := by
  refine own_met pn8 (fun m => ef8 m a gs ds (1 : Int32)) ?_
  intro p e s m below meth c C
  refine own_aloadN (pc' := 1) C d8_0 rfl rfl rfl ?_
  refine own_callV (pc' := 4) (wL := 0) (a := a) (argsL := []) (rest := []) C (own_topGain l Z a0 hw a g x0_ x1_ x2_ x3_ x4_ h0 n0 Z_ F_a_gains A_g) E_a d8_1 (hw _ (List.mem_of_getElem? (i := 38) rfl)) (hw _ (List.mem_of_getElem? (i := 39) rfl)) (hw _ (List.mem_of_getElem? (i := 41) rfl)) (hw _ (List.mem_of_getElem? (i := 40) rfl)) (hw _ (List.mem_of_getElem? (i := 6) rfl)) (hw _ (List.mem_of_getElem? (i := 42) rfl)) (by decide) (by decide) (by decide) rfl (lenOf pd9 rfl) rfl rfl (Nat.le_of_eq rfl) (by decide) (by decide) rfl ?_
  rintro _ _ ⟨rfl, rfl⟩
  show Wp p l e _ s m _ below meth c n0 _ h0 0 0 (mkF m 4 #[.val (.ref a), .val (.ref gs), .val (.ref ds), .val (.int (1 : Int32))] [(.long x0_)])
  refine own_aloadN (pc' := 5) C d8_4 rfl rfl rfl ?_
  refine own_iloadN (pc' := 6) C d8_5 rfl rfl ?_
  refine own_laload (pc' := 7) (v := y1_) (i := 1) C d8_6 A_gs (by decide) rfl rfl rfl ?_
  obtain ⟨vs_26, hvs_26⟩ : ∃ z : Int32, z = (if x0_ = y1_ then (if i0_ = e1_ then (1 : Int32) else (0 : Int32)) else (0 : Int32)) := ⟨_, rfl⟩
  have hzvs_26 : vs_26 = 0 ∨ vs_26 = 1 := by rw [hvs_26]; repeat (first | exact Or.inl rfl | exact Or.inr rfl | split)
  refine own_seq (g' := mkF m 26 #[.val (.ref a), .val (.ref gs), .val (.ref ds), .val (.int (1 : Int32))] [(.int vs_26)]) (fun J26 => ?_) ?_
  · refine own_lcmp_ne (pt := 25) (pf := 11) C d8_7 rfl d8_8 (by decide) (by decide) rfl ?_ ?_
    · intro hc7
      refine own_iconst (pc' := 26) (v := (0 : Int32)) C d8_25 own_ki_0 rfl ?_
      exact own_cast (by simp only [hvs_26, if_neg hc7]) (J26)
    · intro hc7
      refine own_aloadN (pc' := 12) C d8_11 rfl rfl rfl ?_
      refine own_callV (pc' := 15) (wL := 0) (a := a) (argsL := []) (rest := []) C (own_topId l Z a0 hw a d i0_ i1_ i2_ i3_ i4_ h0 n0 Z_ F_a_ids A_d) E_a d8_12 (hw _ (List.mem_of_getElem? (i := 43) rfl)) (hw _ (List.mem_of_getElem? (i := 44) rfl)) (hw _ (List.mem_of_getElem? (i := 46) rfl)) (hw _ (List.mem_of_getElem? (i := 45) rfl)) (hw _ (List.mem_of_getElem? (i := 6) rfl)) (hw _ (List.mem_of_getElem? (i := 47) rfl)) (by decide) (by decide) (by decide) rfl (lenOf pd10 rfl) rfl rfl (Nat.le_of_eq rfl) (by decide) (by decide) rfl ?_
      rintro _ _ ⟨rfl, rfl⟩
      show Wp p l e _ s m _ below meth c n0 _ h0 0 0 (mkF m 15 #[.val (.ref a), .val (.ref gs), .val (.ref ds), .val (.int (1 : Int32))] [(.int i0_)])
      refine own_aloadN (pc' := 16) C d8_15 rfl rfl rfl ?_
      refine own_iloadN (pc' := 17) C d8_16 rfl rfl ?_
      refine own_iaload (pc' := 18) (v := e1_) (i := 1) C d8_17 A_ds (by decide) rfl rfl rfl ?_
      refine own_icmp_ne (pt := 25) (pf := 21) C d8_18 (by decide) (by decide) rfl ?_ ?_
      · intro hc18
        refine own_iconst (pc' := 26) (v := (0 : Int32)) C d8_25 own_ki_0 rfl ?_
        exact own_cast (by simp only [hvs_26, if_pos hc7, if_neg hc18]) (J26)
      · intro hc18
        refine own_iconst (pc' := 22) (v := (1 : Int32)) C d8_21 own_ki_1 rfl ?_
        refine own_goto (pc' := 26) C d8_22 (by decide) (by decide) ?_
        exact own_cast (by simp only [hvs_26, if_pos hc7, if_pos hc18]) (J26)
  refine own_zret C d8_26 (by decide) (by decide) hzvs_26 ?_
  exact ⟨by rw [own_top, hvs_26], rfl⟩

set_option maxRecDepth 65536 in
set_option maxHeartbeats 40000000 in
theorem own_topIs2 (l : Launch) (Z : State) (a0 : Array Value) (hw : ∀ d ∈ tables_1, d.before a0 Z = true) (a : Addr) (gs : Addr) (ds : Addr) (g d : Addr) (x0_ x1_ x2_ x3_ x4_ y0_ y1_ y2_ y3_ y4_ : Int64) (i0_ i1_ i2_ i3_ i4_ e0_ e1_ e2_ e3_ e4_ : Int32) (h0 : Heap) (n0 : Nat) (Z_ : n0 ≤ h0.size) (E_a : Exa Z h0 a "com/example/cachewright/cachewright/placement/CandidateHeap") (F_a_gains : Fld Z h0 a "com/example/cachewright/cachewright/placement/CandidateHeap" "gains" "[J" (.ref g)) (F_a_ids : Fld Z h0 a "com/example/cachewright/cachewright/placement/CandidateHeap" "ids" "[I" (.ref d)) (A_g : AJ Z h0 g (x0_ :: x1_ :: x2_ :: x3_ :: x4_ :: own_zJ)) (A_d : AI Z h0 d .int (i0_ :: i1_ :: i2_ :: i3_ :: i4_ :: own_zI)) (A_gs : AJ Z h0 gs [y0_, y1_, y2_, y3_, y4_]) (A_ds : AI Z h0 ds .int [e0_, e1_, e2_, e3_, e4_]) :
    Met l (⟨"com/example/cachewright/cachewright/placement/CandidateHeapPopPinLaw", "topIs", "(Lcom/example/cachewright/cachewright/placement/CandidateHeap;[J[II)Z"⟩ : MethodName) method_5_code 4 (some .boolean) [] ({ frames := 1, cells := 0, slots := 0, locals := 12 } : Room) Z n0 #[(.ref a), (.ref gs), (.ref ds), (.int (2 : Int32))] h0 (fun v h => v = some (.int (own_top x0_ y2_ i0_ e2_)) ∧ h0 = h) := by
  refine own_met pn8 (fun m => ef8 m a gs ds (2 : Int32)) ?_
  intro p e s m below meth c C
  refine own_aloadN (pc' := 1) C d8_0 rfl rfl rfl ?_
  refine own_callV (pc' := 4) (wL := 0) (a := a) (argsL := []) (rest := []) C (own_topGain l Z a0 hw a g x0_ x1_ x2_ x3_ x4_ h0 n0 Z_ F_a_gains A_g) E_a d8_1 (hw _ (List.mem_of_getElem? (i := 38) rfl)) (hw _ (List.mem_of_getElem? (i := 39) rfl)) (hw _ (List.mem_of_getElem? (i := 41) rfl)) (hw _ (List.mem_of_getElem? (i := 40) rfl)) (hw _ (List.mem_of_getElem? (i := 6) rfl)) (hw _ (List.mem_of_getElem? (i := 42) rfl)) (by decide) (by decide) (by decide) rfl (lenOf pd9 rfl) rfl rfl (Nat.le_of_eq rfl) (by decide) (by decide) rfl ?_
  rintro _ _ ⟨rfl, rfl⟩
  show Wp p l e _ s m _ below meth c n0 _ h0 0 0 (mkF m 4 #[.val (.ref a), .val (.ref gs), .val (.ref ds), .val (.int (2 : Int32))] [(.long x0_)])
  refine own_aloadN (pc' := 5) C d8_4 rfl rfl rfl ?_
  refine own_iloadN (pc' := 6) C d8_5 rfl rfl ?_
  refine own_laload (pc' := 7) (v := y2_) (i := 2) C d8_6 A_gs (by decide) rfl rfl rfl ?_
  obtain ⟨vs_26, hvs_26⟩ : ∃ z : Int32, z = (if x0_ = y2_ then (if i0_ = e2_ then (1 : Int32) else (0 : Int32)) else (0 : Int32)) := ⟨_, rfl⟩
  have hzvs_26 : vs_26 = 0 ∨ vs_26 = 1 := by rw [hvs_26]; repeat (first | exact Or.inl rfl | exact Or.inr rfl | split)
  refine own_seq (g' := mkF m 26 #[.val (.ref a), .val (.ref gs), .val (.ref ds), .val (.int (2 : Int32))] [(.int vs_26)]) (fun J26 => ?_) ?_
  · refine own_lcmp_ne (pt := 25) (pf := 11) C d8_7 rfl d8_8 (by decide) (by decide) rfl ?_ ?_
    · intro hc7
      refine own_iconst (pc' := 26) (v := (0 : Int32)) C d8_25 own_ki_0 rfl ?_
      exact own_cast (by simp only [hvs_26, if_neg hc7]) (J26)
    · intro hc7
      refine own_aloadN (pc' := 12) C d8_11 rfl rfl rfl ?_
      refine own_callV (pc' := 15) (wL := 0) (a := a) (argsL := []) (rest := []) C (own_topId l Z a0 hw a d i0_ i1_ i2_ i3_ i4_ h0 n0 Z_ F_a_ids A_d) E_a d8_12 (hw _ (List.mem_of_getElem? (i := 43) rfl)) (hw _ (List.mem_of_getElem? (i := 44) rfl)) (hw _ (List.mem_of_getElem? (i := 46) rfl)) (hw _ (List.mem_of_getElem? (i := 45) rfl)) (hw _ (List.mem_of_getElem? (i := 6) rfl)) (hw _ (List.mem_of_getElem? (i := 47) rfl)) (by decide) (by decide) (by decide) rfl (lenOf pd10 rfl) rfl rfl (Nat.le_of_eq rfl) (by decide) (by decide) rfl ?_
      rintro _ _ ⟨rfl, rfl⟩
      show Wp p l e _ s m _ below meth c n0 _ h0 0 0 (mkF m 15 #[.val (.ref a), .val (.ref gs), .val (.ref ds), .val (.int (2 : Int32))] [(.int i0_)])
      refine own_aloadN (pc' := 16) C d8_15 rfl rfl rfl ?_
      refine own_iloadN (pc' := 17) C d8_16 rfl rfl ?_
      refine own_iaload (pc' := 18) (v := e2_) (i := 2) C d8_17 A_ds (by decide) rfl rfl rfl ?_
      refine own_icmp_ne (pt := 25) (pf := 21) C d8_18 (by decide) (by decide) rfl ?_ ?_
      · intro hc18
        refine own_iconst (pc' := 26) (v := (0 : Int32)) C d8_25 own_ki_0 rfl ?_
        exact own_cast (by simp only [hvs_26, if_pos hc7, if_neg hc18]) (J26)
      · intro hc18
        refine own_iconst (pc' := 22) (v := (1 : Int32)) C d8_21 own_ki_1 rfl ?_
        refine own_goto (pc' := 26) C d8_22 (by decide) (by decide) ?_
        exact own_cast (by simp only [hvs_26, if_pos hc7, if_pos hc18]) (J26)
  refine own_zret C d8_26 (by decide) (by decide) hzvs_26 ?_
  exact ⟨by rw [own_top, hvs_26], rfl⟩

set_option maxRecDepth 65536 in
set_option maxHeartbeats 40000000 in
theorem own_topIs3 (l : Launch) (Z : State) (a0 : Array Value) (hw : ∀ d ∈ tables_1, d.before a0 Z = true) (a : Addr) (gs : Addr) (ds : Addr) (g d : Addr) (x0_ x1_ x2_ x3_ x4_ y0_ y1_ y2_ y3_ y4_ : Int64) (i0_ i1_ i2_ i3_ i4_ e0_ e1_ e2_ e3_ e4_ : Int32) (h0 : Heap) (n0 : Nat) (Z_ : n0 ≤ h0.size) (E_a : Exa Z h0 a "com/example/cachewright/cachewright/placement/CandidateHeap") (F_a_gains : Fld Z h0 a "com/example/cachewright/cachewright/placement/CandidateHeap" "gains" "[J" (.ref g)) (F_a_ids : Fld Z h0 a "com/example/cachewright/cachewright/placement/CandidateHeap" "ids" "[I" (.ref d)) (A_g : AJ Z h0 g (x0_ :: x1_ :: x2_ :: x3_ :: x4_ :: own_zJ)) (A_d : AI Z h0 d .int (i0_ :: i1_ :: i2_ :: i3_ :: i4_ :: own_zI)) (A_gs : AJ Z h0 gs [y0_, y1_, y2_, y3_, y4_]) (A_ds : AI Z h0 ds .int [e0_, e1_, e2_, e3_, e4_]) :
    Met l (⟨"com/example/cachewright/cachewright/placement/CandidateHeapPopPinLaw", "topIs", "(Lcom/example/cachewright/cachewright/placement/CandidateHeap;[J[II)Z"⟩ : MethodName) method_5_code 4 (some .boolean) [] ({ frames := 1, cells := 0, slots := 0, locals := 12 } : Room) Z n0 #[(.ref a), (.ref gs), (.ref ds), (.int (3 : Int32))] h0 (fun v h => v = some (.int (own_top x0_ y3_ i0_ e3_)) ∧ h0 = h) := by
  refine own_met pn8 (fun m => ef8 m a gs ds (3 : Int32)) ?_
  intro p e s m below meth c C
  refine own_aloadN (pc' := 1) C d8_0 rfl rfl rfl ?_
  refine own_callV (pc' := 4) (wL := 0) (a := a) (argsL := []) (rest := []) C (own_topGain l Z a0 hw a g x0_ x1_ x2_ x3_ x4_ h0 n0 Z_ F_a_gains A_g) E_a d8_1 (hw _ (List.mem_of_getElem? (i := 38) rfl)) (hw _ (List.mem_of_getElem? (i := 39) rfl)) (hw _ (List.mem_of_getElem? (i := 41) rfl)) (hw _ (List.mem_of_getElem? (i := 40) rfl)) (hw _ (List.mem_of_getElem? (i := 6) rfl)) (hw _ (List.mem_of_getElem? (i := 42) rfl)) (by decide) (by decide) (by decide) rfl (lenOf pd9 rfl) rfl rfl (Nat.le_of_eq rfl) (by decide) (by decide) rfl ?_
  rintro _ _ ⟨rfl, rfl⟩
  show Wp p l e _ s m _ below meth c n0 _ h0 0 0 (mkF m 4 #[.val (.ref a), .val (.ref gs), .val (.ref ds), .val (.int (3 : Int32))] [(.long x0_)])
  refine own_aloadN (pc' := 5) C d8_4 rfl rfl rfl ?_
  refine own_iloadN (pc' := 6) C d8_5 rfl rfl ?_
  refine own_laload (pc' := 7) (v := y3_) (i := 3) C d8_6 A_gs (by decide) rfl rfl rfl ?_
  obtain ⟨vs_26, hvs_26⟩ : ∃ z : Int32, z = (if x0_ = y3_ then (if i0_ = e3_ then (1 : Int32) else (0 : Int32)) else (0 : Int32)) := ⟨_, rfl⟩
  have hzvs_26 : vs_26 = 0 ∨ vs_26 = 1 := by rw [hvs_26]; repeat (first | exact Or.inl rfl | exact Or.inr rfl | split)
  refine own_seq (g' := mkF m 26 #[.val (.ref a), .val (.ref gs), .val (.ref ds), .val (.int (3 : Int32))] [(.int vs_26)]) (fun J26 => ?_) ?_
  · refine own_lcmp_ne (pt := 25) (pf := 11) C d8_7 rfl d8_8 (by decide) (by decide) rfl ?_ ?_
    · intro hc7
      refine own_iconst (pc' := 26) (v := (0 : Int32)) C d8_25 own_ki_0 rfl ?_
      exact own_cast (by simp only [hvs_26, if_neg hc7]) (J26)
    · intro hc7
      refine own_aloadN (pc' := 12) C d8_11 rfl rfl rfl ?_
      refine own_callV (pc' := 15) (wL := 0) (a := a) (argsL := []) (rest := []) C (own_topId l Z a0 hw a d i0_ i1_ i2_ i3_ i4_ h0 n0 Z_ F_a_ids A_d) E_a d8_12 (hw _ (List.mem_of_getElem? (i := 43) rfl)) (hw _ (List.mem_of_getElem? (i := 44) rfl)) (hw _ (List.mem_of_getElem? (i := 46) rfl)) (hw _ (List.mem_of_getElem? (i := 45) rfl)) (hw _ (List.mem_of_getElem? (i := 6) rfl)) (hw _ (List.mem_of_getElem? (i := 47) rfl)) (by decide) (by decide) (by decide) rfl (lenOf pd10 rfl) rfl rfl (Nat.le_of_eq rfl) (by decide) (by decide) rfl ?_
      rintro _ _ ⟨rfl, rfl⟩
      show Wp p l e _ s m _ below meth c n0 _ h0 0 0 (mkF m 15 #[.val (.ref a), .val (.ref gs), .val (.ref ds), .val (.int (3 : Int32))] [(.int i0_)])
      refine own_aloadN (pc' := 16) C d8_15 rfl rfl rfl ?_
      refine own_iloadN (pc' := 17) C d8_16 rfl rfl ?_
      refine own_iaload (pc' := 18) (v := e3_) (i := 3) C d8_17 A_ds (by decide) rfl rfl rfl ?_
      refine own_icmp_ne (pt := 25) (pf := 21) C d8_18 (by decide) (by decide) rfl ?_ ?_
      · intro hc18
        refine own_iconst (pc' := 26) (v := (0 : Int32)) C d8_25 own_ki_0 rfl ?_
        exact own_cast (by simp only [hvs_26, if_pos hc7, if_neg hc18]) (J26)
      · intro hc18
        refine own_iconst (pc' := 22) (v := (1 : Int32)) C d8_21 own_ki_1 rfl ?_
        refine own_goto (pc' := 26) C d8_22 (by decide) (by decide) ?_
        exact own_cast (by simp only [hvs_26, if_pos hc7, if_pos hc18]) (J26)
  refine own_zret C d8_26 (by decide) (by decide) hzvs_26 ?_
  exact ⟨by rw [own_top, hvs_26], rfl⟩

set_option maxRecDepth 65536 in
set_option maxHeartbeats 40000000 in
theorem own_topIs4 (l : Launch) (Z : State) (a0 : Array Value) (hw : ∀ d ∈ tables_1, d.before a0 Z = true) (a : Addr) (gs : Addr) (ds : Addr) (g d : Addr) (x0_ x1_ x2_ x3_ x4_ y0_ y1_ y2_ y3_ y4_ : Int64) (i0_ i1_ i2_ i3_ i4_ e0_ e1_ e2_ e3_ e4_ : Int32) (h0 : Heap) (n0 : Nat) (Z_ : n0 ≤ h0.size) (E_a : Exa Z h0 a "com/example/cachewright/cachewright/placement/CandidateHeap") (F_a_gains : Fld Z h0 a "com/example/cachewright/cachewright/placement/CandidateHeap" "gains" "[J" (.ref g)) (F_a_ids : Fld Z h0 a "com/example/cachewright/cachewright/placement/CandidateHeap" "ids" "[I" (.ref d)) (A_g : AJ Z h0 g (x0_ :: x1_ :: x2_ :: x3_ :: x4_ :: own_zJ)) (A_d : AI Z h0 d .int (i0_ :: i1_ :: i2_ :: i3_ :: i4_ :: own_zI)) (A_gs : AJ Z h0 gs [y0_, y1_, y2_, y3_, y4_]) (A_ds : AI Z h0 ds .int [e0_, e1_, e2_, e3_, e4_]) :
    Met l (⟨"com/example/cachewright/cachewright/placement/CandidateHeapPopPinLaw", "topIs", "(Lcom/example/cachewright/cachewright/placement/CandidateHeap;[J[II)Z"⟩ : MethodName) method_5_code 4 (some .boolean) [] ({ frames := 1, cells := 0, slots := 0, locals := 12 } : Room) Z n0 #[(.ref a), (.ref gs), (.ref ds), (.int (4 : Int32))] h0 (fun v h => v = some (.int (own_top x0_ y4_ i0_ e4_)) ∧ h0 = h) := by
  refine own_met pn8 (fun m => ef8 m a gs ds (4 : Int32)) ?_
  intro p e s m below meth c C
  refine own_aloadN (pc' := 1) C d8_0 rfl rfl rfl ?_
  refine own_callV (pc' := 4) (wL := 0) (a := a) (argsL := []) (rest := []) C (own_topGain l Z a0 hw a g x0_ x1_ x2_ x3_ x4_ h0 n0 Z_ F_a_gains A_g) E_a d8_1 (hw _ (List.mem_of_getElem? (i := 38) rfl)) (hw _ (List.mem_of_getElem? (i := 39) rfl)) (hw _ (List.mem_of_getElem? (i := 41) rfl)) (hw _ (List.mem_of_getElem? (i := 40) rfl)) (hw _ (List.mem_of_getElem? (i := 6) rfl)) (hw _ (List.mem_of_getElem? (i := 42) rfl)) (by decide) (by decide) (by decide) rfl (lenOf pd9 rfl) rfl rfl (Nat.le_of_eq rfl) (by decide) (by decide) rfl ?_
  rintro _ _ ⟨rfl, rfl⟩
  show Wp p l e _ s m _ below meth c n0 _ h0 0 0 (mkF m 4 #[.val (.ref a), .val (.ref gs), .val (.ref ds), .val (.int (4 : Int32))] [(.long x0_)])
  refine own_aloadN (pc' := 5) C d8_4 rfl rfl rfl ?_
  refine own_iloadN (pc' := 6) C d8_5 rfl rfl ?_
  refine own_laload (pc' := 7) (v := y4_) (i := 4) C d8_6 A_gs (by decide) rfl rfl rfl ?_
  obtain ⟨vs_26, hvs_26⟩ : ∃ z : Int32, z = (if x0_ = y4_ then (if i0_ = e4_ then (1 : Int32) else (0 : Int32)) else (0 : Int32)) := ⟨_, rfl⟩
  have hzvs_26 : vs_26 = 0 ∨ vs_26 = 1 := by rw [hvs_26]; repeat (first | exact Or.inl rfl | exact Or.inr rfl | split)
  refine own_seq (g' := mkF m 26 #[.val (.ref a), .val (.ref gs), .val (.ref ds), .val (.int (4 : Int32))] [(.int vs_26)]) (fun J26 => ?_) ?_
  · refine own_lcmp_ne (pt := 25) (pf := 11) C d8_7 rfl d8_8 (by decide) (by decide) rfl ?_ ?_
    · intro hc7
      refine own_iconst (pc' := 26) (v := (0 : Int32)) C d8_25 own_ki_0 rfl ?_
      exact own_cast (by simp only [hvs_26, if_neg hc7]) (J26)
    · intro hc7
      refine own_aloadN (pc' := 12) C d8_11 rfl rfl rfl ?_
      refine own_callV (pc' := 15) (wL := 0) (a := a) (argsL := []) (rest := []) C (own_topId l Z a0 hw a d i0_ i1_ i2_ i3_ i4_ h0 n0 Z_ F_a_ids A_d) E_a d8_12 (hw _ (List.mem_of_getElem? (i := 43) rfl)) (hw _ (List.mem_of_getElem? (i := 44) rfl)) (hw _ (List.mem_of_getElem? (i := 46) rfl)) (hw _ (List.mem_of_getElem? (i := 45) rfl)) (hw _ (List.mem_of_getElem? (i := 6) rfl)) (hw _ (List.mem_of_getElem? (i := 47) rfl)) (by decide) (by decide) (by decide) rfl (lenOf pd10 rfl) rfl rfl (Nat.le_of_eq rfl) (by decide) (by decide) rfl ?_
      rintro _ _ ⟨rfl, rfl⟩
      show Wp p l e _ s m _ below meth c n0 _ h0 0 0 (mkF m 15 #[.val (.ref a), .val (.ref gs), .val (.ref ds), .val (.int (4 : Int32))] [(.int i0_)])
      refine own_aloadN (pc' := 16) C d8_15 rfl rfl rfl ?_
      refine own_iloadN (pc' := 17) C d8_16 rfl rfl ?_
      refine own_iaload (pc' := 18) (v := e4_) (i := 4) C d8_17 A_ds (by decide) rfl rfl rfl ?_
      refine own_icmp_ne (pt := 25) (pf := 21) C d8_18 (by decide) (by decide) rfl ?_ ?_
      · intro hc18
        refine own_iconst (pc' := 26) (v := (0 : Int32)) C d8_25 own_ki_0 rfl ?_
        exact own_cast (by simp only [hvs_26, if_pos hc7, if_neg hc18]) (J26)
      · intro hc18
        refine own_iconst (pc' := 22) (v := (1 : Int32)) C d8_21 own_ki_1 rfl ?_
        refine own_goto (pc' := 26) C d8_22 (by decide) (by decide) ?_
        exact own_cast (by simp only [hvs_26, if_pos hc7, if_pos hc18]) (J26)
  refine own_zret C d8_26 (by decide) (by decide) hzvs_26 ?_
  exact ⟨by rw [own_top, hvs_26], rfl⟩

section OwnNat
variable {α β : Type} (f : β → α) (lt : α → α → Bool)
theorem own_p1N (x v : β) : own_p1 lt (f x) (f v) = (f (own_p1 (fun i j => lt (f i) (f j)) x v).1, f (own_p1 (fun i j => lt (f i) (f j)) x v).2) := by simp only [own_p1]; split <;> rfl
theorem own_p2N (x y v : β) : own_p2 lt (f x) (f y) (f v) = (f (own_p2 (fun i j => lt (f i) (f j)) x y v).1, f (own_p2 (fun i j => lt (f i) (f j)) x y v).2.1, f (own_p2 (fun i j => lt (f i) (f j)) x y v).2.2) := by simp only [own_p2]; split <;> rfl
theorem own_p3N (x y z v : β) : own_p3 lt (f x) (f y) (f z) (f v) = (f (own_p3 (fun i j => lt (f i) (f j)) x y z v).1, f (own_p3 (fun i j => lt (f i) (f j)) x y z v).2.1, f (own_p3 (fun i j => lt (f i) (f j)) x y z v).2.2.1, f (own_p3 (fun i j => lt (f i) (f j)) x y z v).2.2.2) := by simp only [own_p3]; split <;> (try split) <;> rfl
theorem own_p4N (x y z u v : β) : own_p4 lt (f x) (f y) (f z) (f u) (f v) = (f (own_p4 (fun i j => lt (f i) (f j)) x y z u v).1, f (own_p4 (fun i j => lt (f i) (f j)) x y z u v).2.1, f (own_p4 (fun i j => lt (f i) (f j)) x y z u v).2.2.1, f (own_p4 (fun i j => lt (f i) (f j)) x y z u v).2.2.2.1, f (own_p4 (fun i j => lt (f i) (f j)) x y z u v).2.2.2.2) := by simp only [own_p4]; split <;> (try split) <;> rfl
theorem own_q4N (x y z u v : β) : own_q4 lt (f x) (f y) (f z) (f u) (f v) = (f (own_q4 (fun i j => lt (f i) (f j)) x y z u v).1, f (own_q4 (fun i j => lt (f i) (f j)) x y z u v).2.1, f (own_q4 (fun i j => lt (f i) (f j)) x y z u v).2.2.1, f (own_q4 (fun i j => lt (f i) (f j)) x y z u v).2.2.2) := by simp only [own_q4]; split <;> split <;> (try split) <;> rfl
theorem own_q3N (x y z u : β) : own_q3 lt (f x) (f y) (f z) (f u) = (f (own_q3 (fun i j => lt (f i) (f j)) x y z u).1, f (own_q3 (fun i j => lt (f i) (f j)) x y z u).2.1, f (own_q3 (fun i j => lt (f i) (f j)) x y z u).2.2) := by simp only [own_q3]; split <;> split <;> rfl
theorem own_q2N (x y z : β) : own_q2 lt (f x) (f y) (f z) = (f (own_q2 (fun i j => lt (f i) (f j)) x y z).1, f (own_q2 (fun i j => lt (f i) (f j)) x y z).2) := by simp only [own_q2]; split <;> rfl
theorem own_csN (x y : β) : own_cs lt (f x) (f y) = (f (own_cs (fun i j => lt (f i) (f j)) x y).1, f (own_cs (fun i j => lt (f i) (f j)) x y).2) := by simp only [own_cs]; split <;> rfl
end OwnNat
def own_vec {α : Type} (a b c d e : α) : Nat → α | 0 => a | 1 => b | 2 => c | 3 => d | _ => e
theorem own_vecs {α : Type} (P : α → α → Nat → Nat → Prop) (a b c d e : α) (g : Fin 5 → α) (hg : g 0 = a ∧ g 1 = b ∧ g 2 = c ∧ g 3 = d ∧ g 4 = e) (x0 x1 x2 x3 x4 : Nat) (r : Fin 5 → Nat) (hr : r 0 = x0 ∧ r 1 = x1 ∧ r 2 = x2 ∧ r 3 = x3 ∧ r 4 = x4) (h : ∀ i j, P (g i) (g j) (r i) (r j)) (i j : Nat) : P (own_vec a b c d e i) (own_vec a b c d e j) (own_vec x0 x1 x2 x3 x4 i) (own_vec x0 x1 x2 x3 x4 j) := by
  obtain ⟨rfl, rfl, rfl, rfl, rfl⟩ := hg
  obtain ⟨rfl, rfl, rfl, rfl, rfl⟩ := hr
  have key : ∀ i : Nat, ∃ k : Fin 5, own_vec (g 0) (g 1) (g 2) (g 3) (g 4) i = g k ∧ own_vec (r 0) (r 1) (r 2) (r 3) (r 4) i = r k := fun i => by
    match i with
    | 0 => exact ⟨0, rfl, rfl⟩
    | 1 => exact ⟨1, rfl, rfl⟩
    | 2 => exact ⟨2, rfl, rfl⟩
    | 3 => exact ⟨3, rfl, rfl⟩
    | n + 4 => exact ⟨4, rfl, rfl⟩
  obtain ⟨k, e1, e2⟩ := key i
  obtain ⟨q, e3, e4⟩ := key j
  rw [e1, e2, e3, e4]
  exact h k q
def own_run {α : Type} (lt : α → α → Bool) (a0 a1 a2 a3 a4 : α) : (α × α × α × α × α) × (α × α × α × α × α) :=
  let t1 := own_p1 lt a0 a1
  let t2 := own_p2 lt t1.1 t1.2 a2
  let t3 := own_p3 lt t2.1 t2.2.1 t2.2.2 a3
  let t4 := own_p4 lt t3.1 t3.2.1 t3.2.2.1 t3.2.2.2 a4
  let u4 := own_q4 lt t4.1 t4.2.1 t4.2.2.1 t4.2.2.2.1 t4.2.2.2.2
  let u3 := own_q3 lt u4.1 u4.2.1 u4.2.2.1 u4.2.2.2
  let u2 := own_q2 lt u3.1 u3.2.1 u3.2.2
  let c1 := own_cs lt a0 a3
  let c2 := own_cs lt a1 a4
  let c3 := own_cs lt c1.1 a2
  let c4 := own_cs lt c2.1 c1.2
  let c5 := own_cs lt c3.1 c4.1
  let c6 := own_cs lt c3.2 c2.2
  let c7 := own_cs lt c5.2 c6.1
  let c8 := own_cs lt c4.2 c6.2
  let c9 := own_cs lt c7.2 c8.1
  ((t4.1, u4.1, u3.1, u2.1, u2.2), (c5.1, c7.1, c9.1, c9.2, c8.2))
def own_chk (r : Nat → Nat) : Bool :=
  let x := own_run (fun i j => Nat.blt (r i) (r j)) 0 1 2 3 4
  Nat.beq (r x.1.1) (r x.2.1) && Nat.beq (r x.1.2.1) (r x.2.2.1) && Nat.beq (r x.1.2.2.1) (r x.2.2.2.1) && Nat.beq (r x.1.2.2.2.1) (r x.2.2.2.2.1) && Nat.beq (r x.1.2.2.2.2) (r x.2.2.2.2.2)
set_option maxRecDepth 65536 in
theorem own_chk_all : ∀ a b c d e : Fin 5, own_chk (own_vec a.val b.val c.val d.val e.val) = true := by decide +kernel
def own_map5 {α β : Type} (f : β → α) (x : (β × β × β × β × β) × (β × β × β × β × β)) : (α × α × α × α × α) × (α × α × α × α × α) := ((f x.1.1, f x.1.2.1, f x.1.2.2.1, f x.1.2.2.2.1, f x.1.2.2.2.2), (f x.2.1, f x.2.2.1, f x.2.2.2.1, f x.2.2.2.2.1, f x.2.2.2.2.2))
theorem own_runN {α β : Type} (f : β → α) (lt : α → α → Bool) (a0 a1 a2 a3 a4 : β) : own_run lt (f a0) (f a1) (f a2) (f a3) (f a4) = own_map5 f (own_run (fun i j => lt (f i) (f j)) a0 a1 a2 a3 a4) := by
  simp only [own_run, own_map5, own_p1N f lt, own_p2N f lt, own_p3N f lt, own_p4N f lt, own_q4N f lt, own_q3N f lt, own_q2N f lt, own_csN f lt]
theorem own_sorted {α : Type} (lt : α → α → Bool) (K : α → Int) (hK : ∀ a b, lt a b = decide (K a < K b)) (hI : ∀ a b, K a = K b → a = b) (a0 a1 a2 a3 a4 : α) : (own_run lt a0 a1 a2 a3 a4).1 = (own_run lt a0 a1 a2 a3 a4).2 := by
  obtain ⟨r, hr⟩ := own_rank (fun i : Fin 5 => K (own_vec a0 a1 a2 a3 a4 i.val))
  have hv := own_vecs (fun a b i j => lt a b = Nat.blt i j ∧ (Nat.beq i j = true → a = b)) a0 a1 a2 a3 a4 (fun i => own_vec a0 a1 a2 a3 a4 i.val) ⟨rfl, rfl, rfl, rfl, rfl⟩ (r 0).val (r 1).val (r 2).val (r 3).val (r 4).val (fun i => (r i).val) ⟨rfl, rfl, rfl, rfl, rfl⟩ (fun i j => by
    refine ⟨?_, fun h => hI _ _ ?_⟩
    · rw [hK, Bool.eq_iff_iff, decide_eq_true_iff, Nat.blt_eq]; exact hr i j
    · have h1 := Nat.eq_of_beq_eq_true h
      have h2 := hr i j; have h3 := hr j i
      simp only [Fin.lt_def] at h2 h3
      omega)
  have e : (fun i j => lt (own_vec a0 a1 a2 a3 a4 i) (own_vec a0 a1 a2 a3 a4 j)) = (fun i j => Nat.blt (own_vec (r 0).val (r 1).val (r 2).val (r 3).val (r 4).val i) (own_vec (r 0).val (r 1).val (r 2).val (r 3).val (r 4).val j)) := by
    funext i j; exact (hv i j).1
  have n := own_runN (own_vec a0 a1 a2 a3 a4) lt 0 1 2 3 4
  rw [e] at n
  have n' : own_run lt a0 a1 a2 a3 a4 = _ := n
  rw [n']
  have c := own_chk_all (r 0) (r 1) (r 2) (r 3) (r 4)
  simp only [own_chk, Bool.and_eq_true] at c
  simp only [own_map5]
  rw [(hv _ _).2 c.1.1.1.1, (hv _ _).2 c.1.1.1.2, (hv _ _).2 c.1.1.2, (hv _ _).2 c.1.2, (hv _ _).2 c.2]
def own_key (a : Int64 × Int32) : Int := -(a.1.toInt * 4294967296) + a.2.toInt
theorem own_ltK (a b : Int64 × Int32) : own_lt a b = decide (own_key a < own_key b) := by
  obtain ⟨g, i⟩ := a
  obtain ⟨og, oi⟩ := b
  have r1 := rng32 i; have r2 := rng32 oi
  rw [Bool.eq_iff_iff, decide_eq_true_iff]
  simp only [own_lt, own_key, decide_eq_true_iff, own_f5, Int64.lt_iff_toInt_lt, Int32.lt_iff_toInt_lt, ← Int64.toInt_inj]
  repeat' split
  all_goals first | (constructor <;> intro h <;> first | omega | decide | (exact absurd rfl h))
theorem own_keyI (a b : Int64 × Int32) (h : own_key a = own_key b) : a = b := by
  obtain ⟨g, i⟩ := a
  obtain ⟨og, oi⟩ := b
  have r1 := rng32 i; have r2 := rng32 oi
  simp only [own_key] at h
  have h1 : g = og := Int64.toInt_inj.mp (by omega)
  have h2 : i = oi := Int32.toInt_inj.mp (by omega)
  rw [h1, h2]
theorem own_top1 {a b : Int64 × Int32} (h : a = b) : own_top a.1 b.1 a.2 b.2 = 1 := by subst h; simp [own_top]
theorem own_main {a0 a1 a2 a3 a4 : Int64 × Int32} {t1 t2 t3 t4} {c1 c2 c3 c4 c5 c6 c7 c8 c9}
    (h1 : t1 = own_p1 own_lt a0 a1) (h2 : t2 = own_p2 own_lt t1.1 t1.2 a2) (h3 : t3 = own_p3 own_lt t2.1 t2.2.1 t2.2.2 a3) (h4 : t4 = own_p4 own_lt t3.1 t3.2.1 t3.2.2.1 t3.2.2.2 a4)
    (k1 : c1 = own_cs own_lt a0 a3) (k2 : c2 = own_cs own_lt a1 a4) (k3 : c3 = own_cs own_lt c1.1 a2) (k4 : c4 = own_cs own_lt c2.1 c1.2) (k5 : c5 = own_cs own_lt c3.1 c4.1) (k6 : c6 = own_cs own_lt c3.2 c2.2) (k7 : c7 = own_cs own_lt c5.2 c6.1) (k8 : c8 = own_cs own_lt c4.2 c6.2) (k9 : c9 = own_cs own_lt c7.2 c8.1) :
    t4.1 = c5.1 ∧ ∀ u4, u4 = own_q4 own_lt t4.1 t4.2.1 t4.2.2.1 t4.2.2.2.1 t4.2.2.2.2 → u4.1 = c7.1 ∧ ∀ u3, u3 = own_q3 own_lt u4.1 u4.2.1 u4.2.2.1 u4.2.2.2 → u3.1 = c9.1 ∧ ∀ u2, u2 = own_q2 own_lt u3.1 u3.2.1 u3.2.2 → u2.1 = c9.2 ∧ u2.2 = c8.2 := by
  have s := own_sorted own_lt own_key own_ltK own_keyI a0 a1 a2 a3 a4
  have e : ∀ u4 u3 u2, u4 = own_q4 own_lt t4.1 t4.2.1 t4.2.2.1 t4.2.2.2.1 t4.2.2.2.2 → u3 = own_q3 own_lt u4.1 u4.2.1 u4.2.2.1 u4.2.2.2 → u2 = own_q2 own_lt u3.1 u3.2.1 u3.2.2 → own_run own_lt a0 a1 a2 a3 a4 = ((t4.1, u4.1, u3.1, u2.1, u2.2), (c5.1, c7.1, c9.1, c9.2, c8.2)) := fun u4 u3 u2 g4 g3 g2 => by
    simp only [own_run, ← h1, ← h2, ← h3, ← h4, ← g4, ← g3, ← g2, ← k1, ← k2, ← k3, ← k4, ← k5, ← k6, ← k7, ← k8, ← k9]
  have key : ∀ u4 u3 u2, u4 = own_q4 own_lt t4.1 t4.2.1 t4.2.2.1 t4.2.2.2.1 t4.2.2.2.2 → u3 = own_q3 own_lt u4.1 u4.2.1 u4.2.2.1 u4.2.2.2 → u2 = own_q2 own_lt u3.1 u3.2.1 u3.2.2 → t4.1 = c5.1 ∧ u4.1 = c7.1 ∧ u3.1 = c9.1 ∧ u2.1 = c9.2 ∧ u2.2 = c8.2 := fun u4 u3 u2 g4 g3 g2 => by
    rw [e u4 u3 u2 g4 g3 g2] at s
    simpa only [Prod.mk.injEq] using s
  exact ⟨(key _ _ _ rfl rfl rfl).1, fun u4 g4 => ⟨(key u4 _ _ g4 rfl rfl).2.1, fun u3 g3 => ⟨(key u4 u3 _ g4 g3 rfl).2.2.1, fun u2 g2 => (key u4 u3 u2 g4 g3 g2).2.2.2⟩⟩⟩

theorem pn0 : plainName "com/example/cachewright/cachewright/placement/CandidateHeapPopPinLaw" = true := by first | (simp [plainName, overriddenIn]; done) | decide +kernel
theorem ef0 (m : MethodId) (x0 : Int64) (x1 : Int64) (x2 : Int64) (x3 : Int64) (x4 : Int64) (x5 : Int32) : entryFrame m #[(.long x0), (.long x1), (.long x2), (.long x3), (.long x4), (.int x5)] maxLocals = mkF m 0 #[.val (.long x0), .second, .val (.long x1), .second, .val (.long x2), .second, .val (.long x3), .second, .val (.long x4), .second, .val (.int x5), .unset, .unset, .unset, .unset, .unset, .unset, .unset, .unset, .unset] [] := by first | (simp [entryFrame, mkF, argsToLocals, Value.category, maxLocals]; done) | rfl
theorem pd1 : parseMethodDescriptor "(II)I" = some ⟨[.int, .int], some .int⟩ := by decide +kernel
theorem pd2 : parseMethodDescriptor "()V" = some ⟨[], none⟩ := by decide +kernel
theorem pd4 : parseMethodDescriptor "(JI)V" = some ⟨[.long, .int], none⟩ := by decide +kernel
theorem pd6 : parseMethodDescriptor "([J[III)V" = some ⟨[(.array .long), (.array .int), .int, .int], none⟩ := by decide +kernel
theorem pd8 : parseMethodDescriptor "(Lcom/example/cachewright/cachewright/placement/CandidateHeap;[J[II)Z" = some ⟨[(.object "com/example/cachewright/cachewright/placement/CandidateHeap"), (.array .long), (.array .int), .int], some .boolean⟩ := by decide +kernel
theorem pd11 : parseMethodDescriptor "()V" = some ⟨[], none⟩ := by decide +kernel
theorem pd12 : parseMethodDescriptor "()Z" = some ⟨[], some .boolean⟩ := by decide +kernel
theorem own_ki_3 : Int32.ofInt (3) = (3 : Int32) := by decide
theorem own_ki_4 : Int32.ofInt (4) = (4 : Int32) := by decide
theorem own_ki_5 : Int32.ofInt (5) = (5 : Int32) := by decide
set_option maxRecDepth 65536 in
set_option maxHeartbeats 40000000 in
theorem own_law (l : Launch) (Z : State) (a0 : Array Value) (hw : ∀ d ∈ tables_1, d.before a0 Z = true) (ws : List Jvm.Cond) (p0 : Int64) (p1 : Int64) (p2 : Int64) (p3 : Int64) (p4 : Int64) (p5 : Int32)  (h0 : Heap) (n0 : Nat) (Z_ : n0 ≤ h0.size)  :
    Met l x code maxLocals ret ws room_1 Z n0 #[(.long p0), (.long p1), (.long p2), (.long p3), (.long p4), (.int p5)] h0 (fun v h => v = some (.int 1)) := by
  refine own_met pn0 (fun m => ef0 m p0 p1 p2 p3 p4 p5) ?_
  intro p e s m below meth c C0
  have C : Cx p s m meth c Z code 20 (some .boolean) "com/example/cachewright/cachewright/placement/CandidateHeapPopPinLaw" "law" := C0
  refine own_iload (pc' := 2) C at_0 rfl rfl ?_
  refine own_iconst (pc' := 3) (v := (0 : Int32)) C at_2 own_ki_0 rfl ?_
  refine own_callS (pc' := 6) (wL := 0) (argsL := [(.int p5), (.int (0 : Int32))]) (rest := []) C (own_m1 l Z a0 hw p5 (0 : Int32) h0 n0 Z_) at_3 (hw _ (List.mem_of_getElem? (i := 0) rfl)) (hw _ (List.mem_of_getElem? (i := 1) rfl)) (hw _ (List.mem_of_getElem? (i := 2) rfl)) (hw _ (List.mem_of_getElem? (i := 3) rfl)) (by decide) (by decide) (by decide) rfl (lenOf pd1 rfl) rfl rfl (Nat.le_of_eq rfl) (by decide) (by decide) rfl ?_
  rintro _ _ ⟨rfl, rfl⟩
  show Wp p l e _ s m _ below meth c n0 _ h0 0 0 (mkF m 6 #[.val (.long p0), .second, .val (.long p1), .second, .val (.long p2), .second, .val (.long p3), .second, .val (.long p4), .second, .val (.int p5), .unset, .unset, .unset, .unset, .unset, .unset, .unset, .unset, .unset] [(.int (own_f1 p5 (0 : Int32)))])
  obtain ⟨v11_6, hv11_6⟩ : ∃ z : Int32, z = (own_f1 p5 (0 : Int32)) := ⟨_, rfl⟩
  refine own_istore (pc' := 8) (y := v11_6) (Ls' := #[.val (.long p0), .second, .val (.long p1), .second, .val (.long p2), .second, .val (.long p3), .second, .val (.long p4), .second, .val (.int p5), .val (.int v11_6), .unset, .unset, .unset, .unset, .unset, .unset, .unset, .unset]) C at_6 hv11_6.symm rfl rfl ?_
  refine own_iload (pc' := 10) C at_8 rfl rfl ?_
  refine own_iconst (pc' := 11) (v := (1 : Int32)) C at_10 own_ki_1 rfl ?_
  refine own_callS (pc' := 14) (wL := 0) (argsL := [(.int p5), (.int (1 : Int32))]) (rest := []) C (own_m1 l Z a0 hw p5 (1 : Int32) h0 n0 Z_) at_11 (hw _ (List.mem_of_getElem? (i := 0) rfl)) (hw _ (List.mem_of_getElem? (i := 1) rfl)) (hw _ (List.mem_of_getElem? (i := 2) rfl)) (hw _ (List.mem_of_getElem? (i := 3) rfl)) (by decide) (by decide) (by decide) rfl (lenOf pd1 rfl) rfl rfl (Nat.le_of_eq rfl) (by decide) (by decide) rfl ?_
  rintro _ _ ⟨rfl, rfl⟩
  show Wp p l e _ s m _ below meth c n0 _ h0 0 0 (mkF m 14 #[.val (.long p0), .second, .val (.long p1), .second, .val (.long p2), .second, .val (.long p3), .second, .val (.long p4), .second, .val (.int p5), .val (.int v11_6), .unset, .unset, .unset, .unset, .unset, .unset, .unset, .unset] [(.int (own_f1 p5 (1 : Int32)))])
  obtain ⟨v12_14, hv12_14⟩ : ∃ z : Int32, z = (own_f1 p5 (1 : Int32)) := ⟨_, rfl⟩
  refine own_istore (pc' := 16) (y := v12_14) (Ls' := #[.val (.long p0), .second, .val (.long p1), .second, .val (.long p2), .second, .val (.long p3), .second, .val (.long p4), .second, .val (.int p5), .val (.int v11_6), .val (.int v12_14), .unset, .unset, .unset, .unset, .unset, .unset, .unset]) C at_14 hv12_14.symm rfl rfl ?_
  refine own_iload (pc' := 18) C at_16 rfl rfl ?_
  refine own_iconst (pc' := 19) (v := (2 : Int32)) C at_18 own_ki_2 rfl ?_
  refine own_callS (pc' := 22) (wL := 0) (argsL := [(.int p5), (.int (2 : Int32))]) (rest := []) C (own_m1 l Z a0 hw p5 (2 : Int32) h0 n0 Z_) at_19 (hw _ (List.mem_of_getElem? (i := 0) rfl)) (hw _ (List.mem_of_getElem? (i := 1) rfl)) (hw _ (List.mem_of_getElem? (i := 2) rfl)) (hw _ (List.mem_of_getElem? (i := 3) rfl)) (by decide) (by decide) (by decide) rfl (lenOf pd1 rfl) rfl rfl (Nat.le_of_eq rfl) (by decide) (by decide) rfl ?_
  rintro _ _ ⟨rfl, rfl⟩
  show Wp p l e _ s m _ below meth c n0 _ h0 0 0 (mkF m 22 #[.val (.long p0), .second, .val (.long p1), .second, .val (.long p2), .second, .val (.long p3), .second, .val (.long p4), .second, .val (.int p5), .val (.int v11_6), .val (.int v12_14), .unset, .unset, .unset, .unset, .unset, .unset, .unset] [(.int (own_f1 p5 (2 : Int32)))])
  obtain ⟨v13_22, hv13_22⟩ : ∃ z : Int32, z = (own_f1 p5 (2 : Int32)) := ⟨_, rfl⟩
  refine own_istore (pc' := 24) (y := v13_22) (Ls' := #[.val (.long p0), .second, .val (.long p1), .second, .val (.long p2), .second, .val (.long p3), .second, .val (.long p4), .second, .val (.int p5), .val (.int v11_6), .val (.int v12_14), .val (.int v13_22), .unset, .unset, .unset, .unset, .unset, .unset]) C at_22 hv13_22.symm rfl rfl ?_
  refine own_iload (pc' := 26) C at_24 rfl rfl ?_
  refine own_iconst (pc' := 27) (v := (3 : Int32)) C at_26 own_ki_3 rfl ?_
  refine own_callS (pc' := 30) (wL := 0) (argsL := [(.int p5), (.int (3 : Int32))]) (rest := []) C (own_m1 l Z a0 hw p5 (3 : Int32) h0 n0 Z_) at_27 (hw _ (List.mem_of_getElem? (i := 0) rfl)) (hw _ (List.mem_of_getElem? (i := 1) rfl)) (hw _ (List.mem_of_getElem? (i := 2) rfl)) (hw _ (List.mem_of_getElem? (i := 3) rfl)) (by decide) (by decide) (by decide) rfl (lenOf pd1 rfl) rfl rfl (Nat.le_of_eq rfl) (by decide) (by decide) rfl ?_
  rintro _ _ ⟨rfl, rfl⟩
  show Wp p l e _ s m _ below meth c n0 _ h0 0 0 (mkF m 30 #[.val (.long p0), .second, .val (.long p1), .second, .val (.long p2), .second, .val (.long p3), .second, .val (.long p4), .second, .val (.int p5), .val (.int v11_6), .val (.int v12_14), .val (.int v13_22), .unset, .unset, .unset, .unset, .unset, .unset] [(.int (own_f1 p5 (3 : Int32)))])
  obtain ⟨v14_30, hv14_30⟩ : ∃ z : Int32, z = (own_f1 p5 (3 : Int32)) := ⟨_, rfl⟩
  refine own_istore (pc' := 32) (y := v14_30) (Ls' := #[.val (.long p0), .second, .val (.long p1), .second, .val (.long p2), .second, .val (.long p3), .second, .val (.long p4), .second, .val (.int p5), .val (.int v11_6), .val (.int v12_14), .val (.int v13_22), .val (.int v14_30), .unset, .unset, .unset, .unset, .unset]) C at_30 hv14_30.symm rfl rfl ?_
  refine own_iload (pc' := 34) C at_32 rfl rfl ?_
  refine own_iconst (pc' := 35) (v := (4 : Int32)) C at_34 own_ki_4 rfl ?_
  refine own_callS (pc' := 38) (wL := 0) (argsL := [(.int p5), (.int (4 : Int32))]) (rest := []) C (own_m1 l Z a0 hw p5 (4 : Int32) h0 n0 Z_) at_35 (hw _ (List.mem_of_getElem? (i := 0) rfl)) (hw _ (List.mem_of_getElem? (i := 1) rfl)) (hw _ (List.mem_of_getElem? (i := 2) rfl)) (hw _ (List.mem_of_getElem? (i := 3) rfl)) (by decide) (by decide) (by decide) rfl (lenOf pd1 rfl) rfl rfl (Nat.le_of_eq rfl) (by decide) (by decide) rfl ?_
  rintro _ _ ⟨rfl, rfl⟩
  show Wp p l e _ s m _ below meth c n0 _ h0 0 0 (mkF m 38 #[.val (.long p0), .second, .val (.long p1), .second, .val (.long p2), .second, .val (.long p3), .second, .val (.long p4), .second, .val (.int p5), .val (.int v11_6), .val (.int v12_14), .val (.int v13_22), .val (.int v14_30), .unset, .unset, .unset, .unset, .unset] [(.int (own_f1 p5 (4 : Int32)))])
  obtain ⟨v15_38, hv15_38⟩ : ∃ z : Int32, z = (own_f1 p5 (4 : Int32)) := ⟨_, rfl⟩
  refine own_istore (pc' := 40) (y := v15_38) (Ls' := #[.val (.long p0), .second, .val (.long p1), .second, .val (.long p2), .second, .val (.long p3), .second, .val (.long p4), .second, .val (.int p5), .val (.int v11_6), .val (.int v12_14), .val (.int v13_22), .val (.int v14_30), .val (.int v15_38), .unset, .unset, .unset, .unset]) C at_38 hv15_38.symm rfl rfl ?_
  refine own_new (pc' := 43) C at_40 (hw _ (List.mem_of_getElem? (i := 4) rfl)) (hw _ (List.mem_of_getElem? (i := 5) rfl)) (hw _ (List.mem_of_getElem? (i := 6) rfl)) (by decide) (by decide) rfl ?_
  intro h1 b1 g1 X1 E_b1 D1
  have g_b1 : n0 ≤ b1 := g1 ▸ Z_
  replace Z_ := Nat.le_trans Z_ X1.1
  have F_b1_gains : Fld Z h1 b1 "com/example/cachewright/cachewright/placement/CandidateHeap" "gains" "[J" .null := D1 (Or.inl (hw _ (List.mem_of_getElem? (i := 15) rfl))) (ty := (.array .long)) (by decide)
  have F_b1_ids : Fld Z h1 b1 "com/example/cachewright/cachewright/placement/CandidateHeap" "ids" "[I" .null := D1 (Or.inl (hw _ (List.mem_of_getElem? (i := 18) rfl))) (ty := (.array .int)) (by decide)
  have F_b1_size : Fld Z h1 b1 "com/example/cachewright/cachewright/placement/CandidateHeap" "size" "I" (.int (0 : Int32)) := D1 (Or.inl (hw _ (List.mem_of_getElem? (i := 25) rfl))) (ty := .int) (by decide)
  refine own_dup (pc' := 44) C at_43 rfl rfl ?_
  refine own_callI (pc' := 47) (wL := 1) (a := b1) (argsL := []) (rest := [(.ref b1)]) C (own_newH l Z a0 hw b1 h1 n0 Z_ E_b1 F_b1_gains F_b1_ids F_b1_size g_b1) at_44 (hw _ (List.mem_of_getElem? (i := 7) rfl)) (hw _ (List.mem_of_getElem? (i := 8) rfl)) (hw _ (List.mem_of_getElem? (i := 6) rfl)) (hw _ (List.mem_of_getElem? (i := 9) rfl)) (by decide) (by decide) (by decide) rfl (lenOf pd2 rfl) rfl rfl (Nat.le_of_eq rfl) (by decide) (by decide) rfl ?_
  rintro _ h2 ⟨rfl, K2, g_2, d_2, sz2_g, sz2_d, ne2_gd, F2_gains, F2_ids, F2_size, A2_g, A2_d⟩
  have ne_b1_g_2 : b1 ≠ g_2 := Nat.ne_of_lt (Nat.lt_of_lt_of_le E_b1.lt sz2_g)
  have g_g_2 : n0 ≤ g_2 := Nat.le_trans Z_ sz2_g
  have ne_b1_d_2 : b1 ≠ d_2 := Nat.ne_of_lt (Nat.lt_of_lt_of_le E_b1.lt sz2_d)
  have g_d_2 : n0 ≤ d_2 := Nat.le_trans Z_ sz2_d
  replace E_b1 := E_b1.keep K2
  replace Z_ := Nat.le_trans Z_ K2.1
  replace F_b1_gains := F2_gains
  replace F_b1_ids := F2_ids
  replace F_b1_size := F2_size
  show Wp p l e _ s m _ below meth c n0 _ h2 ((0 + 1) + 2) ((0 + 3) + 128) (mkF m 47 #[.val (.long p0), .second, .val (.long p1), .second, .val (.long p2), .second, .val (.long p3), .second, .val (.long p4), .second, .val (.int p5), .val (.int v11_6), .val (.int v12_14), .val (.int v13_22), .val (.int v14_30), .val (.int v15_38), .unset, .unset, .unset, .unset] [(.ref b1)])
  refine own_astore (pc' := 49) (Ls' := #[.val (.long p0), .second, .val (.long p1), .second, .val (.long p2), .second, .val (.long p3), .second, .val (.long p4), .second, .val (.int p5), .val (.int v11_6), .val (.int v12_14), .val (.int v13_22), .val (.int v14_30), .val (.int v15_38), .val (.ref b1), .unset, .unset, .unset]) C at_47 rfl rfl rfl ?_
  refine own_aload (pc' := 51) C at_49 rfl rfl rfl ?_
  refine own_lloadN (pc' := 52) C at_51 rfl rfl ?_
  refine own_iload (pc' := 54) C at_52 rfl rfl ?_
  refine own_callV (pc' := 57) (wL := 0) (a := b1) (argsL := [(.long p0), (.int v11_6)]) (rest := []) C (own_push0 l Z a0 hw b1 p0 v11_6 g_2 d_2 (0 : Int64) (0 : Int64) (0 : Int64) (0 : Int64) (0 : Int64) (0 : Int32) (0 : Int32) (0 : Int32) (0 : Int32) (0 : Int32) h2 n0 Z_ E_b1 F_b1_gains F_b1_ids F_b1_size g_b1 A2_g A2_d g_g_2 g_d_2 ne_b1_g_2 ne_b1_d_2 ne2_gd) E_b1 at_54 (hw _ (List.mem_of_getElem? (i := 19) rfl)) (hw _ (List.mem_of_getElem? (i := 20) rfl)) (hw _ (List.mem_of_getElem? (i := 22) rfl)) (hw _ (List.mem_of_getElem? (i := 21) rfl)) (hw _ (List.mem_of_getElem? (i := 6) rfl)) (hw _ (List.mem_of_getElem? (i := 23) rfl)) (by decide) (by decide) (by decide) rfl (lenOf pd4 rfl) rfl rfl (Nat.le_of_eq rfl) (by decide) (by decide) rfl ?_
  rintro _ h3 ⟨rfl, K3, F3_gains, F3_ids, F3_size, G3_, D3_⟩
  replace E_b1 := E_b1.keep K3
  replace Z_ := Nat.le_trans Z_ K3.1
  replace F_b1_gains := F3_gains
  replace F_b1_ids := F3_ids
  replace F_b1_size := F3_size
  replace A2_g := G3_
  replace A2_d := D3_
  show Wp p l e _ s m _ below meth c n0 _ h3 ((0 + 1) + 2) ((0 + 3) + 128) (mkF m 57 #[.val (.long p0), .second, .val (.long p1), .second, .val (.long p2), .second, .val (.long p3), .second, .val (.long p4), .second, .val (.int p5), .val (.int v11_6), .val (.int v12_14), .val (.int v13_22), .val (.int v14_30), .val (.int v15_38), .val (.ref b1), .unset, .unset, .unset] [])
  refine own_aload (pc' := 59) C at_57 rfl rfl rfl ?_
  refine own_lloadN (pc' := 60) C at_59 rfl rfl ?_
  refine own_iload (pc' := 62) C at_60 rfl rfl ?_
  refine own_callV (pc' := 65) (wL := 0) (a := b1) (argsL := [(.long p1), (.int v12_14)]) (rest := []) C (own_push1 l Z a0 hw b1 p1 v12_14 g_2 d_2 p0 (0 : Int64) (0 : Int64) (0 : Int64) (0 : Int64) v11_6 (0 : Int32) (0 : Int32) (0 : Int32) (0 : Int32) h3 n0 Z_ E_b1 F_b1_gains F_b1_ids F_b1_size g_b1 A2_g A2_d g_g_2 g_d_2 ne_b1_g_2 ne_b1_d_2 ne2_gd) E_b1 at_62 (hw _ (List.mem_of_getElem? (i := 19) rfl)) (hw _ (List.mem_of_getElem? (i := 20) rfl)) (hw _ (List.mem_of_getElem? (i := 22) rfl)) (hw _ (List.mem_of_getElem? (i := 21) rfl)) (hw _ (List.mem_of_getElem? (i := 6) rfl)) (hw _ (List.mem_of_getElem? (i := 23) rfl)) (by decide) (by decide) (by decide) rfl (lenOf pd4 rfl) rfl rfl (Nat.le_of_eq rfl) (by decide) (by decide) rfl ?_
  rintro _ h4 ⟨rfl, K4, F4_gains, F4_ids, F4_size, G4_, D4_⟩
  replace E_b1 := E_b1.keep K4
  replace Z_ := Nat.le_trans Z_ K4.1
  replace F_b1_gains := F4_gains
  replace F_b1_ids := F4_ids
  replace F_b1_size := F4_size
  replace A2_g := G4_
  replace A2_d := D4_
  obtain ⟨T1, hT1⟩ : ∃ z, z = own_p1 own_lt (p0, v11_6) (p1, v12_14) := ⟨_, rfl⟩
  rw [← hT1] at A2_g A2_d
  show Wp p l e _ s m _ below meth c n0 _ h4 ((0 + 1) + 2) ((0 + 3) + 128) (mkF m 65 #[.val (.long p0), .second, .val (.long p1), .second, .val (.long p2), .second, .val (.long p3), .second, .val (.long p4), .second, .val (.int p5), .val (.int v11_6), .val (.int v12_14), .val (.int v13_22), .val (.int v14_30), .val (.int v15_38), .val (.ref b1), .unset, .unset, .unset] [])
  refine own_aload (pc' := 67) C at_65 rfl rfl rfl ?_
  refine own_lload (pc' := 69) C at_67 rfl rfl ?_
  refine own_iload (pc' := 71) C at_69 rfl rfl ?_
  refine own_callV (pc' := 74) (wL := 0) (a := b1) (argsL := [(.long p2), (.int v13_22)]) (rest := []) C (own_push2 l Z a0 hw b1 p2 v13_22 g_2 d_2 T1.1.1 T1.2.1 (0 : Int64) (0 : Int64) (0 : Int64) T1.1.2 T1.2.2 (0 : Int32) (0 : Int32) (0 : Int32) h4 n0 Z_ E_b1 F_b1_gains F_b1_ids F_b1_size g_b1 A2_g A2_d g_g_2 g_d_2 ne_b1_g_2 ne_b1_d_2 ne2_gd) E_b1 at_71 (hw _ (List.mem_of_getElem? (i := 19) rfl)) (hw _ (List.mem_of_getElem? (i := 20) rfl)) (hw _ (List.mem_of_getElem? (i := 22) rfl)) (hw _ (List.mem_of_getElem? (i := 21) rfl)) (hw _ (List.mem_of_getElem? (i := 6) rfl)) (hw _ (List.mem_of_getElem? (i := 23) rfl)) (by decide) (by decide) (by decide) rfl (lenOf pd4 rfl) rfl rfl (Nat.le_of_eq rfl) (by decide) (by decide) rfl ?_
  rintro _ h5 ⟨rfl, K5, F5_gains, F5_ids, F5_size, G5_, D5_⟩
  replace E_b1 := E_b1.keep K5
  replace Z_ := Nat.le_trans Z_ K5.1
  replace F_b1_gains := F5_gains
  replace F_b1_ids := F5_ids
  replace F_b1_size := F5_size
  replace A2_g := G5_
  replace A2_d := D5_
  obtain ⟨T2, hT2⟩ : ∃ z, z = own_p2 own_lt (T1.1.1, T1.1.2) (T1.2.1, T1.2.2) (p2, v13_22) := ⟨_, rfl⟩
  rw [← hT2] at A2_g A2_d
  show Wp p l e _ s m _ below meth c n0 _ h5 ((0 + 1) + 2) ((0 + 3) + 128) (mkF m 74 #[.val (.long p0), .second, .val (.long p1), .second, .val (.long p2), .second, .val (.long p3), .second, .val (.long p4), .second, .val (.int p5), .val (.int v11_6), .val (.int v12_14), .val (.int v13_22), .val (.int v14_30), .val (.int v15_38), .val (.ref b1), .unset, .unset, .unset] [])
  refine own_aload (pc' := 76) C at_74 rfl rfl rfl ?_
  refine own_lload (pc' := 78) C at_76 rfl rfl ?_
  refine own_iload (pc' := 80) C at_78 rfl rfl ?_
  refine own_callV (pc' := 83) (wL := 0) (a := b1) (argsL := [(.long p3), (.int v14_30)]) (rest := []) C (own_push3 l Z a0 hw b1 p3 v14_30 g_2 d_2 T2.1.1 T2.2.1.1 T2.2.2.1 (0 : Int64) (0 : Int64) T2.1.2 T2.2.1.2 T2.2.2.2 (0 : Int32) (0 : Int32) h5 n0 Z_ E_b1 F_b1_gains F_b1_ids F_b1_size g_b1 A2_g A2_d g_g_2 g_d_2 ne_b1_g_2 ne_b1_d_2 ne2_gd) E_b1 at_80 (hw _ (List.mem_of_getElem? (i := 19) rfl)) (hw _ (List.mem_of_getElem? (i := 20) rfl)) (hw _ (List.mem_of_getElem? (i := 22) rfl)) (hw _ (List.mem_of_getElem? (i := 21) rfl)) (hw _ (List.mem_of_getElem? (i := 6) rfl)) (hw _ (List.mem_of_getElem? (i := 23) rfl)) (by decide) (by decide) (by decide) rfl (lenOf pd4 rfl) rfl rfl (Nat.le_of_eq rfl) (by decide) (by decide) rfl ?_
  rintro _ h6 ⟨rfl, K6, F6_gains, F6_ids, F6_size, G6_, D6_⟩
  replace E_b1 := E_b1.keep K6
  replace Z_ := Nat.le_trans Z_ K6.1
  replace F_b1_gains := F6_gains
  replace F_b1_ids := F6_ids
  replace F_b1_size := F6_size
  replace A2_g := G6_
  replace A2_d := D6_
  obtain ⟨T3, hT3⟩ : ∃ z, z = own_p3 own_lt (T2.1.1, T2.1.2) (T2.2.1.1, T2.2.1.2) (T2.2.2.1, T2.2.2.2) (p3, v14_30) := ⟨_, rfl⟩
  rw [← hT3] at A2_g A2_d
  show Wp p l e _ s m _ below meth c n0 _ h6 ((0 + 1) + 2) ((0 + 3) + 128) (mkF m 83 #[.val (.long p0), .second, .val (.long p1), .second, .val (.long p2), .second, .val (.long p3), .second, .val (.long p4), .second, .val (.int p5), .val (.int v11_6), .val (.int v12_14), .val (.int v13_22), .val (.int v14_30), .val (.int v15_38), .val (.ref b1), .unset, .unset, .unset] [])
  refine own_aload (pc' := 85) C at_83 rfl rfl rfl ?_
  refine own_lload (pc' := 87) C at_85 rfl rfl ?_
  refine own_iload (pc' := 89) C at_87 rfl rfl ?_
  refine own_callV (pc' := 92) (wL := 0) (a := b1) (argsL := [(.long p4), (.int v15_38)]) (rest := []) C (own_push4 l Z a0 hw b1 p4 v15_38 g_2 d_2 T3.1.1 T3.2.1.1 T3.2.2.1.1 T3.2.2.2.1 (0 : Int64) T3.1.2 T3.2.1.2 T3.2.2.1.2 T3.2.2.2.2 (0 : Int32) h6 n0 Z_ E_b1 F_b1_gains F_b1_ids F_b1_size g_b1 A2_g A2_d g_g_2 g_d_2 ne_b1_g_2 ne_b1_d_2 ne2_gd) E_b1 at_89 (hw _ (List.mem_of_getElem? (i := 19) rfl)) (hw _ (List.mem_of_getElem? (i := 20) rfl)) (hw _ (List.mem_of_getElem? (i := 22) rfl)) (hw _ (List.mem_of_getElem? (i := 21) rfl)) (hw _ (List.mem_of_getElem? (i := 6) rfl)) (hw _ (List.mem_of_getElem? (i := 23) rfl)) (by decide) (by decide) (by decide) rfl (lenOf pd4 rfl) rfl rfl (Nat.le_of_eq rfl) (by decide) (by decide) rfl ?_
  rintro _ h7 ⟨rfl, K7, F7_gains, F7_ids, F7_size, G7_, D7_⟩
  replace E_b1 := E_b1.keep K7
  replace Z_ := Nat.le_trans Z_ K7.1
  replace F_b1_gains := F7_gains
  replace F_b1_ids := F7_ids
  replace F_b1_size := F7_size
  replace A2_g := G7_
  replace A2_d := D7_
  obtain ⟨T4, hT4⟩ : ∃ z, z = own_p4 own_lt (T3.1.1, T3.1.2) (T3.2.1.1, T3.2.1.2) (T3.2.2.1.1, T3.2.2.1.2) (T3.2.2.2.1, T3.2.2.2.2) (p4, v15_38) := ⟨_, rfl⟩
  rw [← hT4] at A2_g A2_d
  show Wp p l e _ s m _ below meth c n0 _ h7 ((0 + 1) + 2) ((0 + 3) + 128) (mkF m 92 #[.val (.long p0), .second, .val (.long p1), .second, .val (.long p2), .second, .val (.long p3), .second, .val (.long p4), .second, .val (.int p5), .val (.int v11_6), .val (.int v12_14), .val (.int v13_22), .val (.int v14_30), .val (.int v15_38), .val (.ref b1), .unset, .unset, .unset] [])
  refine own_iconst (pc' := 93) (v := (5 : Int32)) C at_92 own_ki_5 rfl ?_
  refine own_newJ (pc' := 95) (len := 5) (cap := 5) C at_93 (hw _ (List.mem_of_getElem? (i := 13) rfl)) (by decide) rfl (by decide) (by decide) (by decide) (by decide) rfl ?_
  intro h8 b8 g8 X8 A_b8
  have ne_b1_b8 : b1 ≠ b8 := Nat.ne_of_lt (g8 ▸ E_b1.lt)
  have ne_g_2_b8 : g_2 ≠ b8 := Nat.ne_of_lt (g8 ▸ A2_g.lt)
  have ne_d_2_b8 : d_2 ≠ b8 := Nat.ne_of_lt (g8 ▸ A2_d.lt)
  replace E_b1 := E_b1.ext X8
  replace F_b1_gains := F_b1_gains.ext X8
  replace F_b1_ids := F_b1_ids.ext X8
  replace F_b1_size := F_b1_size.ext X8
  replace A2_g := A2_g.ext X8
  replace A2_d := A2_d.ext X8
  have g_b8 : n0 ≤ b8 := g8 ▸ Z_
  replace Z_ := Nat.le_trans Z_ X8.1
  replace A_b8 : AJ Z h8 b8 [(0 : Int64), (0 : Int64), (0 : Int64), (0 : Int64), (0 : Int64)] := A_b8
  refine own_dup (pc' := 96) C at_95 rfl rfl ?_
  refine own_iconst (pc' := 97) (v := (0 : Int32)) C at_96 own_ki_0 rfl ?_
  refine own_lloadN (pc' := 98) C at_97 rfl rfl ?_
  refine own_lastore (pc' := 99) (i := 0) (ys := [p0, (0 : Int64), (0 : Int64), (0 : Int64), (0 : Int64)]) C at_98 A_b8 (by decide) rfl (Nat.le_of_ble_eq_true rfl) rfl g_b8 rfl ?_
  intro h9 W9 A9_
  replace E_b1 := E_b1.wr W9
  replace F_b1_gains := F_b1_gains.other W9 (Or.inl ne_b1_b8)
  replace F_b1_ids := F_b1_ids.other W9 (Or.inl ne_b1_b8)
  replace F_b1_size := F_b1_size.other W9 (Or.inl ne_b1_b8)
  replace A2_g := A2_g.other W9 ne_g_2_b8
  replace A2_d := A2_d.other W9 ne_d_2_b8
  replace A_b8 := A9_
  replace Z_ : n0 ≤ _ := Nat.le_trans Z_ (Nat.le_of_eq W9.size.symm)
  refine own_dup (pc' := 100) C at_99 rfl rfl ?_
  refine own_iconst (pc' := 101) (v := (1 : Int32)) C at_100 own_ki_1 rfl ?_
  refine own_lloadN (pc' := 102) C at_101 rfl rfl ?_
  refine own_lastore (pc' := 103) (i := 1) (ys := [p0, p1, (0 : Int64), (0 : Int64), (0 : Int64)]) C at_102 A_b8 (by decide) rfl (Nat.le_of_ble_eq_true rfl) rfl g_b8 rfl ?_
  intro h10 W10 A10_
  replace E_b1 := E_b1.wr W10
  replace F_b1_gains := F_b1_gains.other W10 (Or.inl ne_b1_b8)
  replace F_b1_ids := F_b1_ids.other W10 (Or.inl ne_b1_b8)
  replace F_b1_size := F_b1_size.other W10 (Or.inl ne_b1_b8)
  replace A2_g := A2_g.other W10 ne_g_2_b8
  replace A2_d := A2_d.other W10 ne_d_2_b8
  replace A_b8 := A10_
  replace Z_ : n0 ≤ _ := Nat.le_trans Z_ (Nat.le_of_eq W10.size.symm)
  refine own_dup (pc' := 104) C at_103 rfl rfl ?_
  refine own_iconst (pc' := 105) (v := (2 : Int32)) C at_104 own_ki_2 rfl ?_
  refine own_lload (pc' := 107) C at_105 rfl rfl ?_
  refine own_lastore (pc' := 108) (i := 2) (ys := [p0, p1, p2, (0 : Int64), (0 : Int64)]) C at_107 A_b8 (by decide) rfl (Nat.le_of_ble_eq_true rfl) rfl g_b8 rfl ?_
  intro h11 W11 A11_
  replace E_b1 := E_b1.wr W11
  replace F_b1_gains := F_b1_gains.other W11 (Or.inl ne_b1_b8)
  replace F_b1_ids := F_b1_ids.other W11 (Or.inl ne_b1_b8)
  replace F_b1_size := F_b1_size.other W11 (Or.inl ne_b1_b8)
  replace A2_g := A2_g.other W11 ne_g_2_b8
  replace A2_d := A2_d.other W11 ne_d_2_b8
  replace A_b8 := A11_
  replace Z_ : n0 ≤ _ := Nat.le_trans Z_ (Nat.le_of_eq W11.size.symm)
  refine own_dup (pc' := 109) C at_108 rfl rfl ?_
  refine own_iconst (pc' := 110) (v := (3 : Int32)) C at_109 own_ki_3 rfl ?_
  refine own_lload (pc' := 112) C at_110 rfl rfl ?_
  refine own_lastore (pc' := 113) (i := 3) (ys := [p0, p1, p2, p3, (0 : Int64)]) C at_112 A_b8 (by decide) rfl (Nat.le_of_ble_eq_true rfl) rfl g_b8 rfl ?_
  intro h12 W12 A12_
  replace E_b1 := E_b1.wr W12
  replace F_b1_gains := F_b1_gains.other W12 (Or.inl ne_b1_b8)
  replace F_b1_ids := F_b1_ids.other W12 (Or.inl ne_b1_b8)
  replace F_b1_size := F_b1_size.other W12 (Or.inl ne_b1_b8)
  replace A2_g := A2_g.other W12 ne_g_2_b8
  replace A2_d := A2_d.other W12 ne_d_2_b8
  replace A_b8 := A12_
  replace Z_ : n0 ≤ _ := Nat.le_trans Z_ (Nat.le_of_eq W12.size.symm)
  refine own_dup (pc' := 114) C at_113 rfl rfl ?_
  refine own_iconst (pc' := 115) (v := (4 : Int32)) C at_114 own_ki_4 rfl ?_
  refine own_lload (pc' := 117) C at_115 rfl rfl ?_
  refine own_lastore (pc' := 118) (i := 4) (ys := [p0, p1, p2, p3, p4]) C at_117 A_b8 (by decide) rfl (Nat.le_of_ble_eq_true rfl) rfl g_b8 rfl ?_
  intro h13 W13 A13_
  replace E_b1 := E_b1.wr W13
  replace F_b1_gains := F_b1_gains.other W13 (Or.inl ne_b1_b8)
  replace F_b1_ids := F_b1_ids.other W13 (Or.inl ne_b1_b8)
  replace F_b1_size := F_b1_size.other W13 (Or.inl ne_b1_b8)
  replace A2_g := A2_g.other W13 ne_g_2_b8
  replace A2_d := A2_d.other W13 ne_d_2_b8
  replace A_b8 := A13_
  replace Z_ : n0 ≤ _ := Nat.le_trans Z_ (Nat.le_of_eq W13.size.symm)
  refine own_astore (pc' := 120) (Ls' := #[.val (.long p0), .second, .val (.long p1), .second, .val (.long p2), .second, .val (.long p3), .second, .val (.long p4), .second, .val (.int p5), .val (.int v11_6), .val (.int v12_14), .val (.int v13_22), .val (.int v14_30), .val (.int v15_38), .val (.ref b1), .val (.ref b8), .unset, .unset]) C at_118 rfl rfl rfl ?_
  refine own_iconst (pc' := 121) (v := (5 : Int32)) C at_120 own_ki_5 rfl ?_
  refine own_newI (pc' := 123) (len := 5) (cap := 5) C at_121 rfl rfl (hw _ (List.mem_of_getElem? (i := 16) rfl)) (by decide) rfl (by decide) (by decide) (by decide) (by decide) rfl ?_
  intro h14 b14 g14 X14 A_b14
  have ne_b1_b14 : b1 ≠ b14 := Nat.ne_of_lt (g14 ▸ E_b1.lt)
  have ne_g_2_b14 : g_2 ≠ b14 := Nat.ne_of_lt (g14 ▸ A2_g.lt)
  have ne_d_2_b14 : d_2 ≠ b14 := Nat.ne_of_lt (g14 ▸ A2_d.lt)
  have ne_b8_b14 : b8 ≠ b14 := Nat.ne_of_lt (g14 ▸ A_b8.lt)
  replace E_b1 := E_b1.ext X14
  replace F_b1_gains := F_b1_gains.ext X14
  replace F_b1_ids := F_b1_ids.ext X14
  replace F_b1_size := F_b1_size.ext X14
  replace A2_g := A2_g.ext X14
  replace A2_d := A2_d.ext X14
  replace A_b8 := A_b8.ext X14
  have g_b14 : n0 ≤ b14 := g14 ▸ Z_
  replace Z_ := Nat.le_trans Z_ X14.1
  replace A_b14 : AI Z h14 b14 .int [(0 : Int32), (0 : Int32), (0 : Int32), (0 : Int32), (0 : Int32)] := A_b14
  refine own_dup (pc' := 124) C at_123 rfl rfl ?_
  refine own_iconst (pc' := 125) (v := (0 : Int32)) C at_124 own_ki_0 rfl ?_
  refine own_iload (pc' := 127) C at_125 rfl rfl ?_
  refine own_iastore (pc' := 128) (i := 0) (ys := [v11_6, (0 : Int32), (0 : Int32), (0 : Int32), (0 : Int32)]) C at_127 A_b14 (by decide) rfl (Nat.le_of_ble_eq_true rfl) rfl g_b14 rfl ?_
  intro h15 W15 A15_
  replace E_b1 := E_b1.wr W15
  replace F_b1_gains := F_b1_gains.other W15 (Or.inl ne_b1_b14)
  replace F_b1_ids := F_b1_ids.other W15 (Or.inl ne_b1_b14)
  replace F_b1_size := F_b1_size.other W15 (Or.inl ne_b1_b14)
  replace A2_g := A2_g.other W15 ne_g_2_b14
  replace A2_d := A2_d.other W15 ne_d_2_b14
  replace A_b8 := A_b8.other W15 ne_b8_b14
  replace A_b14 := A15_
  replace Z_ : n0 ≤ _ := Nat.le_trans Z_ (Nat.le_of_eq W15.size.symm)
  refine own_dup (pc' := 129) C at_128 rfl rfl ?_
  refine own_iconst (pc' := 130) (v := (1 : Int32)) C at_129 own_ki_1 rfl ?_
  refine own_iload (pc' := 132) C at_130 rfl rfl ?_
  refine own_iastore (pc' := 133) (i := 1) (ys := [v11_6, v12_14, (0 : Int32), (0 : Int32), (0 : Int32)]) C at_132 A_b14 (by decide) rfl (Nat.le_of_ble_eq_true rfl) rfl g_b14 rfl ?_
  intro h16 W16 A16_
  replace E_b1 := E_b1.wr W16
  replace F_b1_gains := F_b1_gains.other W16 (Or.inl ne_b1_b14)
  replace F_b1_ids := F_b1_ids.other W16 (Or.inl ne_b1_b14)
  replace F_b1_size := F_b1_size.other W16 (Or.inl ne_b1_b14)
  replace A2_g := A2_g.other W16 ne_g_2_b14
  replace A2_d := A2_d.other W16 ne_d_2_b14
  replace A_b8 := A_b8.other W16 ne_b8_b14
  replace A_b14 := A16_
  replace Z_ : n0 ≤ _ := Nat.le_trans Z_ (Nat.le_of_eq W16.size.symm)
  refine own_dup (pc' := 134) C at_133 rfl rfl ?_
  refine own_iconst (pc' := 135) (v := (2 : Int32)) C at_134 own_ki_2 rfl ?_
  refine own_iload (pc' := 137) C at_135 rfl rfl ?_
  refine own_iastore (pc' := 138) (i := 2) (ys := [v11_6, v12_14, v13_22, (0 : Int32), (0 : Int32)]) C at_137 A_b14 (by decide) rfl (Nat.le_of_ble_eq_true rfl) rfl g_b14 rfl ?_
  intro h17 W17 A17_
  replace E_b1 := E_b1.wr W17
  replace F_b1_gains := F_b1_gains.other W17 (Or.inl ne_b1_b14)
  replace F_b1_ids := F_b1_ids.other W17 (Or.inl ne_b1_b14)
  replace F_b1_size := F_b1_size.other W17 (Or.inl ne_b1_b14)
  replace A2_g := A2_g.other W17 ne_g_2_b14
  replace A2_d := A2_d.other W17 ne_d_2_b14
  replace A_b8 := A_b8.other W17 ne_b8_b14
  replace A_b14 := A17_
  replace Z_ : n0 ≤ _ := Nat.le_trans Z_ (Nat.le_of_eq W17.size.symm)
  refine own_dup (pc' := 139) C at_138 rfl rfl ?_
  refine own_iconst (pc' := 140) (v := (3 : Int32)) C at_139 own_ki_3 rfl ?_
  refine own_iload (pc' := 142) C at_140 rfl rfl ?_
  refine own_iastore (pc' := 143) (i := 3) (ys := [v11_6, v12_14, v13_22, v14_30, (0 : Int32)]) C at_142 A_b14 (by decide) rfl (Nat.le_of_ble_eq_true rfl) rfl g_b14 rfl ?_
  intro h18 W18 A18_
  replace E_b1 := E_b1.wr W18
  replace F_b1_gains := F_b1_gains.other W18 (Or.inl ne_b1_b14)
  replace F_b1_ids := F_b1_ids.other W18 (Or.inl ne_b1_b14)
  replace F_b1_size := F_b1_size.other W18 (Or.inl ne_b1_b14)
  replace A2_g := A2_g.other W18 ne_g_2_b14
  replace A2_d := A2_d.other W18 ne_d_2_b14
  replace A_b8 := A_b8.other W18 ne_b8_b14
  replace A_b14 := A18_
  replace Z_ : n0 ≤ _ := Nat.le_trans Z_ (Nat.le_of_eq W18.size.symm)
  refine own_dup (pc' := 144) C at_143 rfl rfl ?_
  refine own_iconst (pc' := 145) (v := (4 : Int32)) C at_144 own_ki_4 rfl ?_
  refine own_iload (pc' := 147) C at_145 rfl rfl ?_
  refine own_iastore (pc' := 148) (i := 4) (ys := [v11_6, v12_14, v13_22, v14_30, v15_38]) C at_147 A_b14 (by decide) rfl (Nat.le_of_ble_eq_true rfl) rfl g_b14 rfl ?_
  intro h19 W19 A19_
  replace E_b1 := E_b1.wr W19
  replace F_b1_gains := F_b1_gains.other W19 (Or.inl ne_b1_b14)
  replace F_b1_ids := F_b1_ids.other W19 (Or.inl ne_b1_b14)
  replace F_b1_size := F_b1_size.other W19 (Or.inl ne_b1_b14)
  replace A2_g := A2_g.other W19 ne_g_2_b14
  replace A2_d := A2_d.other W19 ne_d_2_b14
  replace A_b8 := A_b8.other W19 ne_b8_b14
  replace A_b14 := A19_
  replace Z_ : n0 ≤ _ := Nat.le_trans Z_ (Nat.le_of_eq W19.size.symm)
  refine own_astore (pc' := 150) (Ls' := #[.val (.long p0), .second, .val (.long p1), .second, .val (.long p2), .second, .val (.long p3), .second, .val (.long p4), .second, .val (.int p5), .val (.int v11_6), .val (.int v12_14), .val (.int v13_22), .val (.int v14_30), .val (.int v15_38), .val (.ref b1), .val (.ref b8), .val (.ref b14), .unset]) C at_148 rfl rfl rfl ?_
  refine own_aload (pc' := 152) C at_150 rfl rfl rfl ?_
  refine own_aload (pc' := 154) C at_152 rfl rfl rfl ?_
  refine own_iconst (pc' := 155) (v := (0 : Int32)) C at_154 own_ki_0 rfl ?_
  refine own_iconst (pc' := 156) (v := (3 : Int32)) C at_155 own_ki_3 rfl ?_
  refine own_callS (pc' := 159) (wL := 0) (argsL := [(.ref b8), (.ref b14), (.int (0 : Int32)), (.int (3 : Int32))]) (rest := []) C (own_cs03 l Z a0 hw b8 b14 p0 p1 p2 p3 p4 v11_6 v12_14 v13_22 v14_30 v15_38 h19 n0 Z_ A_b8 A_b14 g_b8 g_b14 ne_b8_b14) at_156 (hw _ (List.mem_of_getElem? (i := 29) rfl)) (hw _ (List.mem_of_getElem? (i := 30) rfl)) (hw _ (List.mem_of_getElem? (i := 2) rfl)) (hw _ (List.mem_of_getElem? (i := 31) rfl)) (by decide) (by decide) (by decide) rfl (lenOf pd6 rfl) rfl rfl (Nat.le_of_eq rfl) (by decide) (by decide) rfl ?_
  rintro _ h20 ⟨rfl, K20, G20_, D20_⟩
  replace E_b1 := E_b1.keep K20
  replace F_b1_gains := F_b1_gains.keep K20 (ninS ne_b1_b8 (ninS ne_b1_b14 nin0))
  replace F_b1_ids := F_b1_ids.keep K20 (ninS ne_b1_b8 (ninS ne_b1_b14 nin0))
  replace F_b1_size := F_b1_size.keep K20 (ninS ne_b1_b8 (ninS ne_b1_b14 nin0))
  replace A2_g := A2_g.keep K20 (ninS ne_g_2_b8 (ninS ne_g_2_b14 nin0))
  replace A2_d := A2_d.keep K20 (ninS ne_d_2_b8 (ninS ne_d_2_b14 nin0))
  replace Z_ := Nat.le_trans Z_ K20.1
  replace A_b8 := G20_
  replace A_b14 := D20_
  obtain ⟨C1, hC1⟩ : ∃ z, z = own_cs own_lt (p0, v11_6) (p3, v14_30) := ⟨_, rfl⟩
  rw [← hC1] at A_b8 A_b14
  show Wp p l e _ s m _ below meth c n0 _ h20 ((((0 + 1) + 2) + 1) + 1) ((((0 + 3) + 128) + 5) + 5) (mkF m 159 #[.val (.long p0), .second, .val (.long p1), .second, .val (.long p2), .second, .val (.long p3), .second, .val (.long p4), .second, .val (.int p5), .val (.int v11_6), .val (.int v12_14), .val (.int v13_22), .val (.int v14_30), .val (.int v15_38), .val (.ref b1), .val (.ref b8), .val (.ref b14), .unset] [])
  refine own_aload (pc' := 161) C at_159 rfl rfl rfl ?_
  refine own_aload (pc' := 163) C at_161 rfl rfl rfl ?_
  refine own_iconst (pc' := 164) (v := (1 : Int32)) C at_163 own_ki_1 rfl ?_
  refine own_iconst (pc' := 165) (v := (4 : Int32)) C at_164 own_ki_4 rfl ?_
  refine own_callS (pc' := 168) (wL := 0) (argsL := [(.ref b8), (.ref b14), (.int (1 : Int32)), (.int (4 : Int32))]) (rest := []) C (own_cs14 l Z a0 hw b8 b14 C1.1.1 p1 p2 C1.2.1 p4 C1.1.2 v12_14 v13_22 C1.2.2 v15_38 h20 n0 Z_ A_b8 A_b14 g_b8 g_b14 ne_b8_b14) at_165 (hw _ (List.mem_of_getElem? (i := 29) rfl)) (hw _ (List.mem_of_getElem? (i := 30) rfl)) (hw _ (List.mem_of_getElem? (i := 2) rfl)) (hw _ (List.mem_of_getElem? (i := 31) rfl)) (by decide) (by decide) (by decide) rfl (lenOf pd6 rfl) rfl rfl (Nat.le_of_eq rfl) (by decide) (by decide) rfl ?_
  rintro _ h21 ⟨rfl, K21, G21_, D21_⟩
  replace E_b1 := E_b1.keep K21
  replace F_b1_gains := F_b1_gains.keep K21 (ninS ne_b1_b8 (ninS ne_b1_b14 nin0))
  replace F_b1_ids := F_b1_ids.keep K21 (ninS ne_b1_b8 (ninS ne_b1_b14 nin0))
  replace F_b1_size := F_b1_size.keep K21 (ninS ne_b1_b8 (ninS ne_b1_b14 nin0))
  replace A2_g := A2_g.keep K21 (ninS ne_g_2_b8 (ninS ne_g_2_b14 nin0))
  replace A2_d := A2_d.keep K21 (ninS ne_d_2_b8 (ninS ne_d_2_b14 nin0))
  replace Z_ := Nat.le_trans Z_ K21.1
  replace A_b8 := G21_
  replace A_b14 := D21_
  obtain ⟨C2, hC2⟩ : ∃ z, z = own_cs own_lt (p1, v12_14) (p4, v15_38) := ⟨_, rfl⟩
  rw [← hC2] at A_b8 A_b14
  show Wp p l e _ s m _ below meth c n0 _ h21 ((((0 + 1) + 2) + 1) + 1) ((((0 + 3) + 128) + 5) + 5) (mkF m 168 #[.val (.long p0), .second, .val (.long p1), .second, .val (.long p2), .second, .val (.long p3), .second, .val (.long p4), .second, .val (.int p5), .val (.int v11_6), .val (.int v12_14), .val (.int v13_22), .val (.int v14_30), .val (.int v15_38), .val (.ref b1), .val (.ref b8), .val (.ref b14), .unset] [])
  refine own_aload (pc' := 170) C at_168 rfl rfl rfl ?_
  refine own_aload (pc' := 172) C at_170 rfl rfl rfl ?_
  refine own_iconst (pc' := 173) (v := (0 : Int32)) C at_172 own_ki_0 rfl ?_
  refine own_iconst (pc' := 174) (v := (2 : Int32)) C at_173 own_ki_2 rfl ?_
  refine own_callS (pc' := 177) (wL := 0) (argsL := [(.ref b8), (.ref b14), (.int (0 : Int32)), (.int (2 : Int32))]) (rest := []) C (own_cs02 l Z a0 hw b8 b14 C1.1.1 C2.1.1 p2 C1.2.1 C2.2.1 C1.1.2 C2.1.2 v13_22 C1.2.2 C2.2.2 h21 n0 Z_ A_b8 A_b14 g_b8 g_b14 ne_b8_b14) at_174 (hw _ (List.mem_of_getElem? (i := 29) rfl)) (hw _ (List.mem_of_getElem? (i := 30) rfl)) (hw _ (List.mem_of_getElem? (i := 2) rfl)) (hw _ (List.mem_of_getElem? (i := 31) rfl)) (by decide) (by decide) (by decide) rfl (lenOf pd6 rfl) rfl rfl (Nat.le_of_eq rfl) (by decide) (by decide) rfl ?_
  rintro _ h22 ⟨rfl, K22, G22_, D22_⟩
  replace E_b1 := E_b1.keep K22
  replace F_b1_gains := F_b1_gains.keep K22 (ninS ne_b1_b8 (ninS ne_b1_b14 nin0))
  replace F_b1_ids := F_b1_ids.keep K22 (ninS ne_b1_b8 (ninS ne_b1_b14 nin0))
  replace F_b1_size := F_b1_size.keep K22 (ninS ne_b1_b8 (ninS ne_b1_b14 nin0))
  replace A2_g := A2_g.keep K22 (ninS ne_g_2_b8 (ninS ne_g_2_b14 nin0))
  replace A2_d := A2_d.keep K22 (ninS ne_d_2_b8 (ninS ne_d_2_b14 nin0))
  replace Z_ := Nat.le_trans Z_ K22.1
  replace A_b8 := G22_
  replace A_b14 := D22_
  obtain ⟨C3, hC3⟩ : ∃ z, z = own_cs own_lt (C1.1.1, C1.1.2) (p2, v13_22) := ⟨_, rfl⟩
  rw [← hC3] at A_b8 A_b14
  show Wp p l e _ s m _ below meth c n0 _ h22 ((((0 + 1) + 2) + 1) + 1) ((((0 + 3) + 128) + 5) + 5) (mkF m 177 #[.val (.long p0), .second, .val (.long p1), .second, .val (.long p2), .second, .val (.long p3), .second, .val (.long p4), .second, .val (.int p5), .val (.int v11_6), .val (.int v12_14), .val (.int v13_22), .val (.int v14_30), .val (.int v15_38), .val (.ref b1), .val (.ref b8), .val (.ref b14), .unset] [])
  refine own_aload (pc' := 179) C at_177 rfl rfl rfl ?_
  refine own_aload (pc' := 181) C at_179 rfl rfl rfl ?_
  refine own_iconst (pc' := 182) (v := (1 : Int32)) C at_181 own_ki_1 rfl ?_
  refine own_iconst (pc' := 183) (v := (3 : Int32)) C at_182 own_ki_3 rfl ?_
  refine own_callS (pc' := 186) (wL := 0) (argsL := [(.ref b8), (.ref b14), (.int (1 : Int32)), (.int (3 : Int32))]) (rest := []) C (own_cs13 l Z a0 hw b8 b14 C3.1.1 C2.1.1 C3.2.1 C1.2.1 C2.2.1 C3.1.2 C2.1.2 C3.2.2 C1.2.2 C2.2.2 h22 n0 Z_ A_b8 A_b14 g_b8 g_b14 ne_b8_b14) at_183 (hw _ (List.mem_of_getElem? (i := 29) rfl)) (hw _ (List.mem_of_getElem? (i := 30) rfl)) (hw _ (List.mem_of_getElem? (i := 2) rfl)) (hw _ (List.mem_of_getElem? (i := 31) rfl)) (by decide) (by decide) (by decide) rfl (lenOf pd6 rfl) rfl rfl (Nat.le_of_eq rfl) (by decide) (by decide) rfl ?_
  rintro _ h23 ⟨rfl, K23, G23_, D23_⟩
  replace E_b1 := E_b1.keep K23
  replace F_b1_gains := F_b1_gains.keep K23 (ninS ne_b1_b8 (ninS ne_b1_b14 nin0))
  replace F_b1_ids := F_b1_ids.keep K23 (ninS ne_b1_b8 (ninS ne_b1_b14 nin0))
  replace F_b1_size := F_b1_size.keep K23 (ninS ne_b1_b8 (ninS ne_b1_b14 nin0))
  replace A2_g := A2_g.keep K23 (ninS ne_g_2_b8 (ninS ne_g_2_b14 nin0))
  replace A2_d := A2_d.keep K23 (ninS ne_d_2_b8 (ninS ne_d_2_b14 nin0))
  replace Z_ := Nat.le_trans Z_ K23.1
  replace A_b8 := G23_
  replace A_b14 := D23_
  obtain ⟨C4, hC4⟩ : ∃ z, z = own_cs own_lt (C2.1.1, C2.1.2) (C1.2.1, C1.2.2) := ⟨_, rfl⟩
  rw [← hC4] at A_b8 A_b14
  show Wp p l e _ s m _ below meth c n0 _ h23 ((((0 + 1) + 2) + 1) + 1) ((((0 + 3) + 128) + 5) + 5) (mkF m 186 #[.val (.long p0), .second, .val (.long p1), .second, .val (.long p2), .second, .val (.long p3), .second, .val (.long p4), .second, .val (.int p5), .val (.int v11_6), .val (.int v12_14), .val (.int v13_22), .val (.int v14_30), .val (.int v15_38), .val (.ref b1), .val (.ref b8), .val (.ref b14), .unset] [])
  refine own_aload (pc' := 188) C at_186 rfl rfl rfl ?_
  refine own_aload (pc' := 190) C at_188 rfl rfl rfl ?_
  refine own_iconst (pc' := 191) (v := (0 : Int32)) C at_190 own_ki_0 rfl ?_
  refine own_iconst (pc' := 192) (v := (1 : Int32)) C at_191 own_ki_1 rfl ?_
  refine own_callS (pc' := 195) (wL := 0) (argsL := [(.ref b8), (.ref b14), (.int (0 : Int32)), (.int (1 : Int32))]) (rest := []) C (own_cs01 l Z a0 hw b8 b14 C3.1.1 C4.1.1 C3.2.1 C4.2.1 C2.2.1 C3.1.2 C4.1.2 C3.2.2 C4.2.2 C2.2.2 h23 n0 Z_ A_b8 A_b14 g_b8 g_b14 ne_b8_b14) at_192 (hw _ (List.mem_of_getElem? (i := 29) rfl)) (hw _ (List.mem_of_getElem? (i := 30) rfl)) (hw _ (List.mem_of_getElem? (i := 2) rfl)) (hw _ (List.mem_of_getElem? (i := 31) rfl)) (by decide) (by decide) (by decide) rfl (lenOf pd6 rfl) rfl rfl (Nat.le_of_eq rfl) (by decide) (by decide) rfl ?_
  rintro _ h24 ⟨rfl, K24, G24_, D24_⟩
  replace E_b1 := E_b1.keep K24
  replace F_b1_gains := F_b1_gains.keep K24 (ninS ne_b1_b8 (ninS ne_b1_b14 nin0))
  replace F_b1_ids := F_b1_ids.keep K24 (ninS ne_b1_b8 (ninS ne_b1_b14 nin0))
  replace F_b1_size := F_b1_size.keep K24 (ninS ne_b1_b8 (ninS ne_b1_b14 nin0))
  replace A2_g := A2_g.keep K24 (ninS ne_g_2_b8 (ninS ne_g_2_b14 nin0))
  replace A2_d := A2_d.keep K24 (ninS ne_d_2_b8 (ninS ne_d_2_b14 nin0))
  replace Z_ := Nat.le_trans Z_ K24.1
  replace A_b8 := G24_
  replace A_b14 := D24_
  obtain ⟨C5, hC5⟩ : ∃ z, z = own_cs own_lt (C3.1.1, C3.1.2) (C4.1.1, C4.1.2) := ⟨_, rfl⟩
  rw [← hC5] at A_b8 A_b14
  show Wp p l e _ s m _ below meth c n0 _ h24 ((((0 + 1) + 2) + 1) + 1) ((((0 + 3) + 128) + 5) + 5) (mkF m 195 #[.val (.long p0), .second, .val (.long p1), .second, .val (.long p2), .second, .val (.long p3), .second, .val (.long p4), .second, .val (.int p5), .val (.int v11_6), .val (.int v12_14), .val (.int v13_22), .val (.int v14_30), .val (.int v15_38), .val (.ref b1), .val (.ref b8), .val (.ref b14), .unset] [])
  refine own_aload (pc' := 197) C at_195 rfl rfl rfl ?_
  refine own_aload (pc' := 199) C at_197 rfl rfl rfl ?_
  refine own_iconst (pc' := 200) (v := (2 : Int32)) C at_199 own_ki_2 rfl ?_
  refine own_iconst (pc' := 201) (v := (4 : Int32)) C at_200 own_ki_4 rfl ?_
  refine own_callS (pc' := 204) (wL := 0) (argsL := [(.ref b8), (.ref b14), (.int (2 : Int32)), (.int (4 : Int32))]) (rest := []) C (own_cs24 l Z a0 hw b8 b14 C5.1.1 C5.2.1 C3.2.1 C4.2.1 C2.2.1 C5.1.2 C5.2.2 C3.2.2 C4.2.2 C2.2.2 h24 n0 Z_ A_b8 A_b14 g_b8 g_b14 ne_b8_b14) at_201 (hw _ (List.mem_of_getElem? (i := 29) rfl)) (hw _ (List.mem_of_getElem? (i := 30) rfl)) (hw _ (List.mem_of_getElem? (i := 2) rfl)) (hw _ (List.mem_of_getElem? (i := 31) rfl)) (by decide) (by decide) (by decide) rfl (lenOf pd6 rfl) rfl rfl (Nat.le_of_eq rfl) (by decide) (by decide) rfl ?_
  rintro _ h25 ⟨rfl, K25, G25_, D25_⟩
  replace E_b1 := E_b1.keep K25
  replace F_b1_gains := F_b1_gains.keep K25 (ninS ne_b1_b8 (ninS ne_b1_b14 nin0))
  replace F_b1_ids := F_b1_ids.keep K25 (ninS ne_b1_b8 (ninS ne_b1_b14 nin0))
  replace F_b1_size := F_b1_size.keep K25 (ninS ne_b1_b8 (ninS ne_b1_b14 nin0))
  replace A2_g := A2_g.keep K25 (ninS ne_g_2_b8 (ninS ne_g_2_b14 nin0))
  replace A2_d := A2_d.keep K25 (ninS ne_d_2_b8 (ninS ne_d_2_b14 nin0))
  replace Z_ := Nat.le_trans Z_ K25.1
  replace A_b8 := G25_
  replace A_b14 := D25_
  obtain ⟨C6, hC6⟩ : ∃ z, z = own_cs own_lt (C3.2.1, C3.2.2) (C2.2.1, C2.2.2) := ⟨_, rfl⟩
  rw [← hC6] at A_b8 A_b14
  show Wp p l e _ s m _ below meth c n0 _ h25 ((((0 + 1) + 2) + 1) + 1) ((((0 + 3) + 128) + 5) + 5) (mkF m 204 #[.val (.long p0), .second, .val (.long p1), .second, .val (.long p2), .second, .val (.long p3), .second, .val (.long p4), .second, .val (.int p5), .val (.int v11_6), .val (.int v12_14), .val (.int v13_22), .val (.int v14_30), .val (.int v15_38), .val (.ref b1), .val (.ref b8), .val (.ref b14), .unset] [])
  refine own_aload (pc' := 206) C at_204 rfl rfl rfl ?_
  refine own_aload (pc' := 208) C at_206 rfl rfl rfl ?_
  refine own_iconst (pc' := 209) (v := (1 : Int32)) C at_208 own_ki_1 rfl ?_
  refine own_iconst (pc' := 210) (v := (2 : Int32)) C at_209 own_ki_2 rfl ?_
  refine own_callS (pc' := 213) (wL := 0) (argsL := [(.ref b8), (.ref b14), (.int (1 : Int32)), (.int (2 : Int32))]) (rest := []) C (own_cs12 l Z a0 hw b8 b14 C5.1.1 C5.2.1 C6.1.1 C4.2.1 C6.2.1 C5.1.2 C5.2.2 C6.1.2 C4.2.2 C6.2.2 h25 n0 Z_ A_b8 A_b14 g_b8 g_b14 ne_b8_b14) at_210 (hw _ (List.mem_of_getElem? (i := 29) rfl)) (hw _ (List.mem_of_getElem? (i := 30) rfl)) (hw _ (List.mem_of_getElem? (i := 2) rfl)) (hw _ (List.mem_of_getElem? (i := 31) rfl)) (by decide) (by decide) (by decide) rfl (lenOf pd6 rfl) rfl rfl (Nat.le_of_eq rfl) (by decide) (by decide) rfl ?_
  rintro _ h26 ⟨rfl, K26, G26_, D26_⟩
  replace E_b1 := E_b1.keep K26
  replace F_b1_gains := F_b1_gains.keep K26 (ninS ne_b1_b8 (ninS ne_b1_b14 nin0))
  replace F_b1_ids := F_b1_ids.keep K26 (ninS ne_b1_b8 (ninS ne_b1_b14 nin0))
  replace F_b1_size := F_b1_size.keep K26 (ninS ne_b1_b8 (ninS ne_b1_b14 nin0))
  replace A2_g := A2_g.keep K26 (ninS ne_g_2_b8 (ninS ne_g_2_b14 nin0))
  replace A2_d := A2_d.keep K26 (ninS ne_d_2_b8 (ninS ne_d_2_b14 nin0))
  replace Z_ := Nat.le_trans Z_ K26.1
  replace A_b8 := G26_
  replace A_b14 := D26_
  obtain ⟨C7, hC7⟩ : ∃ z, z = own_cs own_lt (C5.2.1, C5.2.2) (C6.1.1, C6.1.2) := ⟨_, rfl⟩
  rw [← hC7] at A_b8 A_b14
  show Wp p l e _ s m _ below meth c n0 _ h26 ((((0 + 1) + 2) + 1) + 1) ((((0 + 3) + 128) + 5) + 5) (mkF m 213 #[.val (.long p0), .second, .val (.long p1), .second, .val (.long p2), .second, .val (.long p3), .second, .val (.long p4), .second, .val (.int p5), .val (.int v11_6), .val (.int v12_14), .val (.int v13_22), .val (.int v14_30), .val (.int v15_38), .val (.ref b1), .val (.ref b8), .val (.ref b14), .unset] [])
  refine own_aload (pc' := 215) C at_213 rfl rfl rfl ?_
  refine own_aload (pc' := 217) C at_215 rfl rfl rfl ?_
  refine own_iconst (pc' := 218) (v := (3 : Int32)) C at_217 own_ki_3 rfl ?_
  refine own_iconst (pc' := 219) (v := (4 : Int32)) C at_218 own_ki_4 rfl ?_
  refine own_callS (pc' := 222) (wL := 0) (argsL := [(.ref b8), (.ref b14), (.int (3 : Int32)), (.int (4 : Int32))]) (rest := []) C (own_cs34 l Z a0 hw b8 b14 C5.1.1 C7.1.1 C7.2.1 C4.2.1 C6.2.1 C5.1.2 C7.1.2 C7.2.2 C4.2.2 C6.2.2 h26 n0 Z_ A_b8 A_b14 g_b8 g_b14 ne_b8_b14) at_219 (hw _ (List.mem_of_getElem? (i := 29) rfl)) (hw _ (List.mem_of_getElem? (i := 30) rfl)) (hw _ (List.mem_of_getElem? (i := 2) rfl)) (hw _ (List.mem_of_getElem? (i := 31) rfl)) (by decide) (by decide) (by decide) rfl (lenOf pd6 rfl) rfl rfl (Nat.le_of_eq rfl) (by decide) (by decide) rfl ?_
  rintro _ h27 ⟨rfl, K27, G27_, D27_⟩
  replace E_b1 := E_b1.keep K27
  replace F_b1_gains := F_b1_gains.keep K27 (ninS ne_b1_b8 (ninS ne_b1_b14 nin0))
  replace F_b1_ids := F_b1_ids.keep K27 (ninS ne_b1_b8 (ninS ne_b1_b14 nin0))
  replace F_b1_size := F_b1_size.keep K27 (ninS ne_b1_b8 (ninS ne_b1_b14 nin0))
  replace A2_g := A2_g.keep K27 (ninS ne_g_2_b8 (ninS ne_g_2_b14 nin0))
  replace A2_d := A2_d.keep K27 (ninS ne_d_2_b8 (ninS ne_d_2_b14 nin0))
  replace Z_ := Nat.le_trans Z_ K27.1
  replace A_b8 := G27_
  replace A_b14 := D27_
  obtain ⟨C8, hC8⟩ : ∃ z, z = own_cs own_lt (C4.2.1, C4.2.2) (C6.2.1, C6.2.2) := ⟨_, rfl⟩
  rw [← hC8] at A_b8 A_b14
  show Wp p l e _ s m _ below meth c n0 _ h27 ((((0 + 1) + 2) + 1) + 1) ((((0 + 3) + 128) + 5) + 5) (mkF m 222 #[.val (.long p0), .second, .val (.long p1), .second, .val (.long p2), .second, .val (.long p3), .second, .val (.long p4), .second, .val (.int p5), .val (.int v11_6), .val (.int v12_14), .val (.int v13_22), .val (.int v14_30), .val (.int v15_38), .val (.ref b1), .val (.ref b8), .val (.ref b14), .unset] [])
  refine own_aload (pc' := 224) C at_222 rfl rfl rfl ?_
  refine own_aload (pc' := 226) C at_224 rfl rfl rfl ?_
  refine own_iconst (pc' := 227) (v := (2 : Int32)) C at_226 own_ki_2 rfl ?_
  refine own_iconst (pc' := 228) (v := (3 : Int32)) C at_227 own_ki_3 rfl ?_
  refine own_callS (pc' := 231) (wL := 0) (argsL := [(.ref b8), (.ref b14), (.int (2 : Int32)), (.int (3 : Int32))]) (rest := []) C (own_cs23 l Z a0 hw b8 b14 C5.1.1 C7.1.1 C7.2.1 C8.1.1 C8.2.1 C5.1.2 C7.1.2 C7.2.2 C8.1.2 C8.2.2 h27 n0 Z_ A_b8 A_b14 g_b8 g_b14 ne_b8_b14) at_228 (hw _ (List.mem_of_getElem? (i := 29) rfl)) (hw _ (List.mem_of_getElem? (i := 30) rfl)) (hw _ (List.mem_of_getElem? (i := 2) rfl)) (hw _ (List.mem_of_getElem? (i := 31) rfl)) (by decide) (by decide) (by decide) rfl (lenOf pd6 rfl) rfl rfl (Nat.le_of_eq rfl) (by decide) (by decide) rfl ?_
  rintro _ h28 ⟨rfl, K28, G28_, D28_⟩
  replace E_b1 := E_b1.keep K28
  replace F_b1_gains := F_b1_gains.keep K28 (ninS ne_b1_b8 (ninS ne_b1_b14 nin0))
  replace F_b1_ids := F_b1_ids.keep K28 (ninS ne_b1_b8 (ninS ne_b1_b14 nin0))
  replace F_b1_size := F_b1_size.keep K28 (ninS ne_b1_b8 (ninS ne_b1_b14 nin0))
  replace A2_g := A2_g.keep K28 (ninS ne_g_2_b8 (ninS ne_g_2_b14 nin0))
  replace A2_d := A2_d.keep K28 (ninS ne_d_2_b8 (ninS ne_d_2_b14 nin0))
  replace Z_ := Nat.le_trans Z_ K28.1
  replace A_b8 := G28_
  replace A_b14 := D28_
  obtain ⟨C9, hC9⟩ : ∃ z, z = own_cs own_lt (C7.2.1, C7.2.2) (C8.1.1, C8.1.2) := ⟨_, rfl⟩
  rw [← hC9] at A_b8 A_b14
  show Wp p l e _ s m _ below meth c n0 _ h28 ((((0 + 1) + 2) + 1) + 1) ((((0 + 3) + 128) + 5) + 5) (mkF m 231 #[.val (.long p0), .second, .val (.long p1), .second, .val (.long p2), .second, .val (.long p3), .second, .val (.long p4), .second, .val (.int p5), .val (.int v11_6), .val (.int v12_14), .val (.int v13_22), .val (.int v14_30), .val (.int v15_38), .val (.ref b1), .val (.ref b8), .val (.ref b14), .unset] [])
  refine own_aload (pc' := 233) C at_231 rfl rfl rfl ?_
  refine own_aload (pc' := 235) C at_233 rfl rfl rfl ?_
  refine own_aload (pc' := 237) C at_235 rfl rfl rfl ?_
  refine own_iconst (pc' := 238) (v := (0 : Int32)) C at_237 own_ki_0 rfl ?_
  refine own_callS (pc' := 241) (wL := 0) (argsL := [(.ref b1), (.ref b8), (.ref b14), (.int (0 : Int32))]) (rest := []) C (own_topIs0 l Z a0 hw b1 b8 b14 g_2 d_2 T4.1.1 T4.2.1.1 T4.2.2.1.1 T4.2.2.2.1.1 T4.2.2.2.2.1 C5.1.1 C7.1.1 C9.1.1 C9.2.1 C8.2.1 T4.1.2 T4.2.1.2 T4.2.2.1.2 T4.2.2.2.1.2 T4.2.2.2.2.2 C5.1.2 C7.1.2 C9.1.2 C9.2.2 C8.2.2 h28 n0 Z_ E_b1 F_b1_gains F_b1_ids A2_g A2_d A_b8 A_b14) at_238 (hw _ (List.mem_of_getElem? (i := 35) rfl)) (hw _ (List.mem_of_getElem? (i := 36) rfl)) (hw _ (List.mem_of_getElem? (i := 2) rfl)) (hw _ (List.mem_of_getElem? (i := 37) rfl)) (by decide) (by decide) (by decide) rfl (lenOf pd8 rfl) rfl rfl (Nat.le_of_eq rfl) (by decide) (by decide) rfl ?_
  rintro _ _ ⟨rfl, rfl⟩
  rw [show (own_top T4.1.1 C5.1.1 T4.1.2 C5.1.2) = 1 from own_top1 (own_main hT1 hT2 hT3 hT4 hC1 hC2 hC3 hC4 hC5 hC6 hC7 hC8 hC9).1]
  show Wp p l e _ s m _ below meth c n0 _ h28 ((((0 + 1) + 2) + 1) + 1) ((((0 + 3) + 128) + 5) + 5) (mkF m 241 #[.val (.long p0), .second, .val (.long p1), .second, .val (.long p2), .second, .val (.long p3), .second, .val (.long p4), .second, .val (.int p5), .val (.int v11_6), .val (.int v12_14), .val (.int v13_22), .val (.int v14_30), .val (.int v15_38), .val (.ref b1), .val (.ref b8), .val (.ref b14), .unset] [(.int (1 : Int32))])
  refine own_istore (pc' := 243) (y := (1 : Int32)) (Ls' := #[.val (.long p0), .second, .val (.long p1), .second, .val (.long p2), .second, .val (.long p3), .second, .val (.long p4), .second, .val (.int p5), .val (.int v11_6), .val (.int v12_14), .val (.int v13_22), .val (.int v14_30), .val (.int v15_38), .val (.ref b1), .val (.ref b8), .val (.ref b14), .val (.int (1 : Int32))]) C at_241 rfl rfl rfl ?_
  refine own_aload (pc' := 245) C at_243 rfl rfl rfl ?_
  refine own_callV (pc' := 248) (wL := 0) (a := b1) (argsL := []) (rest := []) C (own_pop4 l Z a0 hw b1  g_2 d_2 T4.1.1 T4.2.1.1 T4.2.2.1.1 T4.2.2.2.1.1 T4.2.2.2.2.1 T4.1.2 T4.2.1.2 T4.2.2.1.2 T4.2.2.2.1.2 T4.2.2.2.2.2 h28 n0 Z_ E_b1 F_b1_gains F_b1_ids F_b1_size g_b1 A2_g A2_d g_g_2 g_d_2 ne_b1_g_2 ne_b1_d_2 ne2_gd) E_b1 at_245 (hw _ (List.mem_of_getElem? (i := 48) rfl)) (hw _ (List.mem_of_getElem? (i := 49) rfl)) (hw _ (List.mem_of_getElem? (i := 51) rfl)) (hw _ (List.mem_of_getElem? (i := 50) rfl)) (hw _ (List.mem_of_getElem? (i := 6) rfl)) (hw _ (List.mem_of_getElem? (i := 52) rfl)) (by decide) (by decide) (by decide) rfl (lenOf pd11 rfl) rfl rfl (Nat.le_of_eq rfl) (by decide) (by decide) rfl ?_
  rintro _ h29 ⟨rfl, K29, F29_gains, F29_ids, F29_size, G29_, D29_⟩
  replace E_b1 := E_b1.keep K29
  replace A_b8 := A_b8.keep K29 (ninS (Ne.symm ne_b1_b8) (ninS (Ne.symm ne_g_2_b8) (ninS (Ne.symm ne_d_2_b8) nin0)))
  replace A_b14 := A_b14.keep K29 (ninS (Ne.symm ne_b1_b14) (ninS (Ne.symm ne_g_2_b14) (ninS (Ne.symm ne_d_2_b14) nin0)))
  replace Z_ := Nat.le_trans Z_ K29.1
  replace F_b1_gains := F29_gains
  replace F_b1_ids := F29_ids
  replace F_b1_size := F29_size
  replace A2_g := G29_
  replace A2_d := D29_
  obtain ⟨U4, hU4⟩ : ∃ z, z = own_q4 own_lt (T4.1.1, T4.1.2) (T4.2.1.1, T4.2.1.2) (T4.2.2.1.1, T4.2.2.1.2) (T4.2.2.2.1.1, T4.2.2.2.1.2) (T4.2.2.2.2.1, T4.2.2.2.2.2) := ⟨_, rfl⟩
  rw [← hU4] at A2_g A2_d
  show Wp p l e _ s m _ below meth c n0 _ h29 ((((0 + 1) + 2) + 1) + 1) ((((0 + 3) + 128) + 5) + 5) (mkF m 248 #[.val (.long p0), .second, .val (.long p1), .second, .val (.long p2), .second, .val (.long p3), .second, .val (.long p4), .second, .val (.int p5), .val (.int v11_6), .val (.int v12_14), .val (.int v13_22), .val (.int v14_30), .val (.int v15_38), .val (.ref b1), .val (.ref b8), .val (.ref b14), .val (.int (1 : Int32))] [])
  refine own_iload (pc' := 250) C at_248 rfl rfl ?_
  refine own_if_eq (pt := 270) (pf := 253) C at_250 (by decide) (by decide) rfl (fun q => absurd q (by decide)) (fun _ => ?_)
  refine own_aload (pc' := 255) C at_253 rfl rfl rfl ?_
  refine own_aload (pc' := 257) C at_255 rfl rfl rfl ?_
  refine own_aload (pc' := 259) C at_257 rfl rfl rfl ?_
  refine own_iconst (pc' := 260) (v := (1 : Int32)) C at_259 own_ki_1 rfl ?_
  refine own_callS (pc' := 263) (wL := 0) (argsL := [(.ref b1), (.ref b8), (.ref b14), (.int (1 : Int32))]) (rest := []) C (own_topIs1 l Z a0 hw b1 b8 b14 g_2 d_2 U4.1.1 U4.2.1.1 U4.2.2.1.1 U4.2.2.2.1 T4.2.2.2.2.1 C5.1.1 C7.1.1 C9.1.1 C9.2.1 C8.2.1 U4.1.2 U4.2.1.2 U4.2.2.1.2 U4.2.2.2.2 T4.2.2.2.2.2 C5.1.2 C7.1.2 C9.1.2 C9.2.2 C8.2.2 h29 n0 Z_ E_b1 F_b1_gains F_b1_ids A2_g A2_d A_b8 A_b14) at_260 (hw _ (List.mem_of_getElem? (i := 35) rfl)) (hw _ (List.mem_of_getElem? (i := 36) rfl)) (hw _ (List.mem_of_getElem? (i := 2) rfl)) (hw _ (List.mem_of_getElem? (i := 37) rfl)) (by decide) (by decide) (by decide) rfl (lenOf pd8 rfl) rfl rfl (Nat.le_of_eq rfl) (by decide) (by decide) rfl ?_
  rintro _ _ ⟨rfl, rfl⟩
  rw [show (own_top U4.1.1 C7.1.1 U4.1.2 C7.1.2) = 1 from own_top1 ((own_main hT1 hT2 hT3 hT4 hC1 hC2 hC3 hC4 hC5 hC6 hC7 hC8 hC9).2 U4 hU4).1]
  show Wp p l e _ s m _ below meth c n0 _ h29 ((((0 + 1) + 2) + 1) + 1) ((((0 + 3) + 128) + 5) + 5) (mkF m 263 #[.val (.long p0), .second, .val (.long p1), .second, .val (.long p2), .second, .val (.long p3), .second, .val (.long p4), .second, .val (.int p5), .val (.int v11_6), .val (.int v12_14), .val (.int v13_22), .val (.int v14_30), .val (.int v15_38), .val (.ref b1), .val (.ref b8), .val (.ref b14), .val (.int (1 : Int32))] [(.int (1 : Int32))])
  refine own_if_eq (pt := 270) (pf := 266) C at_263 (by decide) (by decide) rfl (fun q => absurd q (by decide)) (fun _ => ?_)
  refine own_iconst (pc' := 267) (v := (1 : Int32)) C at_266 own_ki_1 rfl ?_
  refine own_goto (pc' := 271) C at_267 (by decide) (by decide) ?_
  refine own_istore (pc' := 273) (y := (1 : Int32)) (Ls' := #[.val (.long p0), .second, .val (.long p1), .second, .val (.long p2), .second, .val (.long p3), .second, .val (.long p4), .second, .val (.int p5), .val (.int v11_6), .val (.int v12_14), .val (.int v13_22), .val (.int v14_30), .val (.int v15_38), .val (.ref b1), .val (.ref b8), .val (.ref b14), .val (.int (1 : Int32))]) C at_271 rfl rfl rfl ?_
  refine own_aload (pc' := 275) C at_273 rfl rfl rfl ?_
  refine own_callV (pc' := 278) (wL := 0) (a := b1) (argsL := []) (rest := []) C (own_pop3 l Z a0 hw b1  g_2 d_2 U4.1.1 U4.2.1.1 U4.2.2.1.1 U4.2.2.2.1 T4.2.2.2.2.1 U4.1.2 U4.2.1.2 U4.2.2.1.2 U4.2.2.2.2 T4.2.2.2.2.2 h29 n0 Z_ E_b1 F_b1_gains F_b1_ids F_b1_size g_b1 A2_g A2_d g_g_2 g_d_2 ne_b1_g_2 ne_b1_d_2 ne2_gd) E_b1 at_275 (hw _ (List.mem_of_getElem? (i := 48) rfl)) (hw _ (List.mem_of_getElem? (i := 49) rfl)) (hw _ (List.mem_of_getElem? (i := 51) rfl)) (hw _ (List.mem_of_getElem? (i := 50) rfl)) (hw _ (List.mem_of_getElem? (i := 6) rfl)) (hw _ (List.mem_of_getElem? (i := 52) rfl)) (by decide) (by decide) (by decide) rfl (lenOf pd11 rfl) rfl rfl (Nat.le_of_eq rfl) (by decide) (by decide) rfl ?_
  rintro _ h30 ⟨rfl, K30, F30_gains, F30_ids, F30_size, G30_, D30_⟩
  replace E_b1 := E_b1.keep K30
  replace A_b8 := A_b8.keep K30 (ninS (Ne.symm ne_b1_b8) (ninS (Ne.symm ne_g_2_b8) (ninS (Ne.symm ne_d_2_b8) nin0)))
  replace A_b14 := A_b14.keep K30 (ninS (Ne.symm ne_b1_b14) (ninS (Ne.symm ne_g_2_b14) (ninS (Ne.symm ne_d_2_b14) nin0)))
  replace Z_ := Nat.le_trans Z_ K30.1
  replace F_b1_gains := F30_gains
  replace F_b1_ids := F30_ids
  replace F_b1_size := F30_size
  replace A2_g := G30_
  replace A2_d := D30_
  obtain ⟨U3, hU3⟩ : ∃ z, z = own_q3 own_lt (U4.1.1, U4.1.2) (U4.2.1.1, U4.2.1.2) (U4.2.2.1.1, U4.2.2.1.2) (U4.2.2.2.1, U4.2.2.2.2) := ⟨_, rfl⟩
  rw [← hU3] at A2_g A2_d
  show Wp p l e _ s m _ below meth c n0 _ h30 ((((0 + 1) + 2) + 1) + 1) ((((0 + 3) + 128) + 5) + 5) (mkF m 278 #[.val (.long p0), .second, .val (.long p1), .second, .val (.long p2), .second, .val (.long p3), .second, .val (.long p4), .second, .val (.int p5), .val (.int v11_6), .val (.int v12_14), .val (.int v13_22), .val (.int v14_30), .val (.int v15_38), .val (.ref b1), .val (.ref b8), .val (.ref b14), .val (.int (1 : Int32))] [])
  refine own_iload (pc' := 280) C at_278 rfl rfl ?_
  refine own_if_eq (pt := 300) (pf := 283) C at_280 (by decide) (by decide) rfl (fun q => absurd q (by decide)) (fun _ => ?_)
  refine own_aload (pc' := 285) C at_283 rfl rfl rfl ?_
  refine own_aload (pc' := 287) C at_285 rfl rfl rfl ?_
  refine own_aload (pc' := 289) C at_287 rfl rfl rfl ?_
  refine own_iconst (pc' := 290) (v := (2 : Int32)) C at_289 own_ki_2 rfl ?_
  refine own_callS (pc' := 293) (wL := 0) (argsL := [(.ref b1), (.ref b8), (.ref b14), (.int (2 : Int32))]) (rest := []) C (own_topIs2 l Z a0 hw b1 b8 b14 g_2 d_2 U3.1.1 U3.2.1.1 U3.2.2.1 U4.2.2.2.1 T4.2.2.2.2.1 C5.1.1 C7.1.1 C9.1.1 C9.2.1 C8.2.1 U3.1.2 U3.2.1.2 U3.2.2.2 U4.2.2.2.2 T4.2.2.2.2.2 C5.1.2 C7.1.2 C9.1.2 C9.2.2 C8.2.2 h30 n0 Z_ E_b1 F_b1_gains F_b1_ids A2_g A2_d A_b8 A_b14) at_290 (hw _ (List.mem_of_getElem? (i := 35) rfl)) (hw _ (List.mem_of_getElem? (i := 36) rfl)) (hw _ (List.mem_of_getElem? (i := 2) rfl)) (hw _ (List.mem_of_getElem? (i := 37) rfl)) (by decide) (by decide) (by decide) rfl (lenOf pd8 rfl) rfl rfl (Nat.le_of_eq rfl) (by decide) (by decide) rfl ?_
  rintro _ _ ⟨rfl, rfl⟩
  rw [show (own_top U3.1.1 C9.1.1 U3.1.2 C9.1.2) = 1 from own_top1 (((own_main hT1 hT2 hT3 hT4 hC1 hC2 hC3 hC4 hC5 hC6 hC7 hC8 hC9).2 U4 hU4).2 U3 hU3).1]
  show Wp p l e _ s m _ below meth c n0 _ h30 ((((0 + 1) + 2) + 1) + 1) ((((0 + 3) + 128) + 5) + 5) (mkF m 293 #[.val (.long p0), .second, .val (.long p1), .second, .val (.long p2), .second, .val (.long p3), .second, .val (.long p4), .second, .val (.int p5), .val (.int v11_6), .val (.int v12_14), .val (.int v13_22), .val (.int v14_30), .val (.int v15_38), .val (.ref b1), .val (.ref b8), .val (.ref b14), .val (.int (1 : Int32))] [(.int (1 : Int32))])
  refine own_if_eq (pt := 300) (pf := 296) C at_293 (by decide) (by decide) rfl (fun q => absurd q (by decide)) (fun _ => ?_)
  refine own_iconst (pc' := 297) (v := (1 : Int32)) C at_296 own_ki_1 rfl ?_
  refine own_goto (pc' := 301) C at_297 (by decide) (by decide) ?_
  refine own_istore (pc' := 303) (y := (1 : Int32)) (Ls' := #[.val (.long p0), .second, .val (.long p1), .second, .val (.long p2), .second, .val (.long p3), .second, .val (.long p4), .second, .val (.int p5), .val (.int v11_6), .val (.int v12_14), .val (.int v13_22), .val (.int v14_30), .val (.int v15_38), .val (.ref b1), .val (.ref b8), .val (.ref b14), .val (.int (1 : Int32))]) C at_301 rfl rfl rfl ?_
  refine own_aload (pc' := 305) C at_303 rfl rfl rfl ?_
  refine own_callV (pc' := 308) (wL := 0) (a := b1) (argsL := []) (rest := []) C (own_pop2 l Z a0 hw b1  g_2 d_2 U3.1.1 U3.2.1.1 U3.2.2.1 U4.2.2.2.1 T4.2.2.2.2.1 U3.1.2 U3.2.1.2 U3.2.2.2 U4.2.2.2.2 T4.2.2.2.2.2 h30 n0 Z_ E_b1 F_b1_gains F_b1_ids F_b1_size g_b1 A2_g A2_d g_g_2 g_d_2 ne_b1_g_2 ne_b1_d_2 ne2_gd) E_b1 at_305 (hw _ (List.mem_of_getElem? (i := 48) rfl)) (hw _ (List.mem_of_getElem? (i := 49) rfl)) (hw _ (List.mem_of_getElem? (i := 51) rfl)) (hw _ (List.mem_of_getElem? (i := 50) rfl)) (hw _ (List.mem_of_getElem? (i := 6) rfl)) (hw _ (List.mem_of_getElem? (i := 52) rfl)) (by decide) (by decide) (by decide) rfl (lenOf pd11 rfl) rfl rfl (Nat.le_of_eq rfl) (by decide) (by decide) rfl ?_
  rintro _ h31 ⟨rfl, K31, F31_gains, F31_ids, F31_size, G31_, D31_⟩
  replace E_b1 := E_b1.keep K31
  replace A_b8 := A_b8.keep K31 (ninS (Ne.symm ne_b1_b8) (ninS (Ne.symm ne_g_2_b8) (ninS (Ne.symm ne_d_2_b8) nin0)))
  replace A_b14 := A_b14.keep K31 (ninS (Ne.symm ne_b1_b14) (ninS (Ne.symm ne_g_2_b14) (ninS (Ne.symm ne_d_2_b14) nin0)))
  replace Z_ := Nat.le_trans Z_ K31.1
  replace F_b1_gains := F31_gains
  replace F_b1_ids := F31_ids
  replace F_b1_size := F31_size
  replace A2_g := G31_
  replace A2_d := D31_
  obtain ⟨U2, hU2⟩ : ∃ z, z = own_q2 own_lt (U3.1.1, U3.1.2) (U3.2.1.1, U3.2.1.2) (U3.2.2.1, U3.2.2.2) := ⟨_, rfl⟩
  rw [← hU2] at A2_g A2_d
  show Wp p l e _ s m _ below meth c n0 _ h31 ((((0 + 1) + 2) + 1) + 1) ((((0 + 3) + 128) + 5) + 5) (mkF m 308 #[.val (.long p0), .second, .val (.long p1), .second, .val (.long p2), .second, .val (.long p3), .second, .val (.long p4), .second, .val (.int p5), .val (.int v11_6), .val (.int v12_14), .val (.int v13_22), .val (.int v14_30), .val (.int v15_38), .val (.ref b1), .val (.ref b8), .val (.ref b14), .val (.int (1 : Int32))] [])
  refine own_iload (pc' := 310) C at_308 rfl rfl ?_
  refine own_if_eq (pt := 330) (pf := 313) C at_310 (by decide) (by decide) rfl (fun q => absurd q (by decide)) (fun _ => ?_)
  refine own_aload (pc' := 315) C at_313 rfl rfl rfl ?_
  refine own_aload (pc' := 317) C at_315 rfl rfl rfl ?_
  refine own_aload (pc' := 319) C at_317 rfl rfl rfl ?_
  refine own_iconst (pc' := 320) (v := (3 : Int32)) C at_319 own_ki_3 rfl ?_
  refine own_callS (pc' := 323) (wL := 0) (argsL := [(.ref b1), (.ref b8), (.ref b14), (.int (3 : Int32))]) (rest := []) C (own_topIs3 l Z a0 hw b1 b8 b14 g_2 d_2 U2.1.1 U2.2.1 U3.2.2.1 U4.2.2.2.1 T4.2.2.2.2.1 C5.1.1 C7.1.1 C9.1.1 C9.2.1 C8.2.1 U2.1.2 U2.2.2 U3.2.2.2 U4.2.2.2.2 T4.2.2.2.2.2 C5.1.2 C7.1.2 C9.1.2 C9.2.2 C8.2.2 h31 n0 Z_ E_b1 F_b1_gains F_b1_ids A2_g A2_d A_b8 A_b14) at_320 (hw _ (List.mem_of_getElem? (i := 35) rfl)) (hw _ (List.mem_of_getElem? (i := 36) rfl)) (hw _ (List.mem_of_getElem? (i := 2) rfl)) (hw _ (List.mem_of_getElem? (i := 37) rfl)) (by decide) (by decide) (by decide) rfl (lenOf pd8 rfl) rfl rfl (Nat.le_of_eq rfl) (by decide) (by decide) rfl ?_
  rintro _ _ ⟨rfl, rfl⟩
  rw [show (own_top U2.1.1 C9.2.1 U2.1.2 C9.2.2) = 1 from own_top1 ((((own_main hT1 hT2 hT3 hT4 hC1 hC2 hC3 hC4 hC5 hC6 hC7 hC8 hC9).2 U4 hU4).2 U3 hU3).2 U2 hU2).1]
  show Wp p l e _ s m _ below meth c n0 _ h31 ((((0 + 1) + 2) + 1) + 1) ((((0 + 3) + 128) + 5) + 5) (mkF m 323 #[.val (.long p0), .second, .val (.long p1), .second, .val (.long p2), .second, .val (.long p3), .second, .val (.long p4), .second, .val (.int p5), .val (.int v11_6), .val (.int v12_14), .val (.int v13_22), .val (.int v14_30), .val (.int v15_38), .val (.ref b1), .val (.ref b8), .val (.ref b14), .val (.int (1 : Int32))] [(.int (1 : Int32))])
  refine own_if_eq (pt := 330) (pf := 326) C at_323 (by decide) (by decide) rfl (fun q => absurd q (by decide)) (fun _ => ?_)
  refine own_iconst (pc' := 327) (v := (1 : Int32)) C at_326 own_ki_1 rfl ?_
  refine own_goto (pc' := 331) C at_327 (by decide) (by decide) ?_
  refine own_istore (pc' := 333) (y := (1 : Int32)) (Ls' := #[.val (.long p0), .second, .val (.long p1), .second, .val (.long p2), .second, .val (.long p3), .second, .val (.long p4), .second, .val (.int p5), .val (.int v11_6), .val (.int v12_14), .val (.int v13_22), .val (.int v14_30), .val (.int v15_38), .val (.ref b1), .val (.ref b8), .val (.ref b14), .val (.int (1 : Int32))]) C at_331 rfl rfl rfl ?_
  refine own_aload (pc' := 335) C at_333 rfl rfl rfl ?_
  refine own_callV (pc' := 338) (wL := 0) (a := b1) (argsL := []) (rest := []) C (own_pop1 l Z a0 hw b1  g_2 d_2 U2.1.1 U2.2.1 U3.2.2.1 U4.2.2.2.1 T4.2.2.2.2.1 U2.1.2 U2.2.2 U3.2.2.2 U4.2.2.2.2 T4.2.2.2.2.2 h31 n0 Z_ E_b1 F_b1_gains F_b1_ids F_b1_size g_b1 A2_g A2_d g_g_2 g_d_2 ne_b1_g_2 ne_b1_d_2 ne2_gd) E_b1 at_335 (hw _ (List.mem_of_getElem? (i := 48) rfl)) (hw _ (List.mem_of_getElem? (i := 49) rfl)) (hw _ (List.mem_of_getElem? (i := 51) rfl)) (hw _ (List.mem_of_getElem? (i := 50) rfl)) (hw _ (List.mem_of_getElem? (i := 6) rfl)) (hw _ (List.mem_of_getElem? (i := 52) rfl)) (by decide) (by decide) (by decide) rfl (lenOf pd11 rfl) rfl rfl (Nat.le_of_eq rfl) (by decide) (by decide) rfl ?_
  rintro _ h32 ⟨rfl, K32, F32_gains, F32_ids, F32_size, G32_, D32_⟩
  replace E_b1 := E_b1.keep K32
  replace A_b8 := A_b8.keep K32 (ninS (Ne.symm ne_b1_b8) (ninS (Ne.symm ne_g_2_b8) (ninS (Ne.symm ne_d_2_b8) nin0)))
  replace A_b14 := A_b14.keep K32 (ninS (Ne.symm ne_b1_b14) (ninS (Ne.symm ne_g_2_b14) (ninS (Ne.symm ne_d_2_b14) nin0)))
  replace Z_ := Nat.le_trans Z_ K32.1
  replace F_b1_gains := F32_gains
  replace F_b1_ids := F32_ids
  replace F_b1_size := F32_size
  replace A2_g := G32_
  replace A2_d := D32_
  show Wp p l e _ s m _ below meth c n0 _ h32 ((((0 + 1) + 2) + 1) + 1) ((((0 + 3) + 128) + 5) + 5) (mkF m 338 #[.val (.long p0), .second, .val (.long p1), .second, .val (.long p2), .second, .val (.long p3), .second, .val (.long p4), .second, .val (.int p5), .val (.int v11_6), .val (.int v12_14), .val (.int v13_22), .val (.int v14_30), .val (.int v15_38), .val (.ref b1), .val (.ref b8), .val (.ref b14), .val (.int (1 : Int32))] [])
  refine own_iload (pc' := 340) C at_338 rfl rfl ?_
  refine own_if_eq (pt := 360) (pf := 343) C at_340 (by decide) (by decide) rfl (fun q => absurd q (by decide)) (fun _ => ?_)
  refine own_aload (pc' := 345) C at_343 rfl rfl rfl ?_
  refine own_aload (pc' := 347) C at_345 rfl rfl rfl ?_
  refine own_aload (pc' := 349) C at_347 rfl rfl rfl ?_
  refine own_iconst (pc' := 350) (v := (4 : Int32)) C at_349 own_ki_4 rfl ?_
  refine own_callS (pc' := 353) (wL := 0) (argsL := [(.ref b1), (.ref b8), (.ref b14), (.int (4 : Int32))]) (rest := []) C (own_topIs4 l Z a0 hw b1 b8 b14 g_2 d_2 U2.2.1 U2.2.1 U3.2.2.1 U4.2.2.2.1 T4.2.2.2.2.1 C5.1.1 C7.1.1 C9.1.1 C9.2.1 C8.2.1 U2.2.2 U2.2.2 U3.2.2.2 U4.2.2.2.2 T4.2.2.2.2.2 C5.1.2 C7.1.2 C9.1.2 C9.2.2 C8.2.2 h32 n0 Z_ E_b1 F_b1_gains F_b1_ids A2_g A2_d A_b8 A_b14) at_350 (hw _ (List.mem_of_getElem? (i := 35) rfl)) (hw _ (List.mem_of_getElem? (i := 36) rfl)) (hw _ (List.mem_of_getElem? (i := 2) rfl)) (hw _ (List.mem_of_getElem? (i := 37) rfl)) (by decide) (by decide) (by decide) rfl (lenOf pd8 rfl) rfl rfl (Nat.le_of_eq rfl) (by decide) (by decide) rfl ?_
  rintro _ _ ⟨rfl, rfl⟩
  rw [show (own_top U2.2.1 C8.2.1 U2.2.2 C8.2.2) = 1 from own_top1 ((((own_main hT1 hT2 hT3 hT4 hC1 hC2 hC3 hC4 hC5 hC6 hC7 hC8 hC9).2 U4 hU4).2 U3 hU3).2 U2 hU2).2]
  show Wp p l e _ s m _ below meth c n0 _ h32 ((((0 + 1) + 2) + 1) + 1) ((((0 + 3) + 128) + 5) + 5) (mkF m 353 #[.val (.long p0), .second, .val (.long p1), .second, .val (.long p2), .second, .val (.long p3), .second, .val (.long p4), .second, .val (.int p5), .val (.int v11_6), .val (.int v12_14), .val (.int v13_22), .val (.int v14_30), .val (.int v15_38), .val (.ref b1), .val (.ref b8), .val (.ref b14), .val (.int (1 : Int32))] [(.int (1 : Int32))])
  refine own_if_eq (pt := 360) (pf := 356) C at_353 (by decide) (by decide) rfl (fun q => absurd q (by decide)) (fun _ => ?_)
  refine own_iconst (pc' := 357) (v := (1 : Int32)) C at_356 own_ki_1 rfl ?_
  refine own_goto (pc' := 361) C at_357 (by decide) (by decide) ?_
  refine own_istore (pc' := 363) (y := (1 : Int32)) (Ls' := #[.val (.long p0), .second, .val (.long p1), .second, .val (.long p2), .second, .val (.long p3), .second, .val (.long p4), .second, .val (.int p5), .val (.int v11_6), .val (.int v12_14), .val (.int v13_22), .val (.int v14_30), .val (.int v15_38), .val (.ref b1), .val (.ref b8), .val (.ref b14), .val (.int (1 : Int32))]) C at_361 rfl rfl rfl ?_
  refine own_aload (pc' := 365) C at_363 rfl rfl rfl ?_
  refine own_callV (pc' := 368) (wL := 0) (a := b1) (argsL := []) (rest := []) C (own_pop0 l Z a0 hw b1  g_2 d_2 U2.2.1 U2.2.1 U3.2.2.1 U4.2.2.2.1 T4.2.2.2.2.1 U2.2.2 U2.2.2 U3.2.2.2 U4.2.2.2.2 T4.2.2.2.2.2 h32 n0 Z_ E_b1 F_b1_gains F_b1_ids F_b1_size g_b1 A2_g A2_d g_g_2 g_d_2 ne_b1_g_2 ne_b1_d_2 ne2_gd) E_b1 at_365 (hw _ (List.mem_of_getElem? (i := 48) rfl)) (hw _ (List.mem_of_getElem? (i := 49) rfl)) (hw _ (List.mem_of_getElem? (i := 51) rfl)) (hw _ (List.mem_of_getElem? (i := 50) rfl)) (hw _ (List.mem_of_getElem? (i := 6) rfl)) (hw _ (List.mem_of_getElem? (i := 52) rfl)) (by decide) (by decide) (by decide) rfl (lenOf pd11 rfl) rfl rfl (Nat.le_of_eq rfl) (by decide) (by decide) rfl ?_
  rintro _ h33 ⟨rfl, K33, F33_gains, F33_ids, F33_size, G33_, D33_⟩
  replace E_b1 := E_b1.keep K33
  replace A_b8 := A_b8.keep K33 (ninS (Ne.symm ne_b1_b8) (ninS (Ne.symm ne_g_2_b8) (ninS (Ne.symm ne_d_2_b8) nin0)))
  replace A_b14 := A_b14.keep K33 (ninS (Ne.symm ne_b1_b14) (ninS (Ne.symm ne_g_2_b14) (ninS (Ne.symm ne_d_2_b14) nin0)))
  replace Z_ := Nat.le_trans Z_ K33.1
  replace F_b1_gains := F33_gains
  replace F_b1_ids := F33_ids
  replace F_b1_size := F33_size
  replace A2_g := G33_
  replace A2_d := D33_
  show Wp p l e _ s m _ below meth c n0 _ h33 ((((0 + 1) + 2) + 1) + 1) ((((0 + 3) + 128) + 5) + 5) (mkF m 368 #[.val (.long p0), .second, .val (.long p1), .second, .val (.long p2), .second, .val (.long p3), .second, .val (.long p4), .second, .val (.int p5), .val (.int v11_6), .val (.int v12_14), .val (.int v13_22), .val (.int v14_30), .val (.int v15_38), .val (.ref b1), .val (.ref b8), .val (.ref b14), .val (.int (1 : Int32))] [])
  refine own_iload (pc' := 370) C at_368 rfl rfl ?_
  refine own_if_eq (pt := 385) (pf := 373) C at_370 (by decide) (by decide) rfl (fun q => absurd q (by decide)) (fun _ => ?_)
  refine own_aload (pc' := 375) C at_373 rfl rfl rfl ?_
  refine own_callV (pc' := 378) (wL := 0) (a := b1) (argsL := []) (rest := []) C (own_m12 l Z a0 hw b1 (0 : Int32) h33 n0 Z_ F_b1_size) E_b1 at_375 (hw _ (List.mem_of_getElem? (i := 53) rfl)) (hw _ (List.mem_of_getElem? (i := 54) rfl)) (hw _ (List.mem_of_getElem? (i := 56) rfl)) (hw _ (List.mem_of_getElem? (i := 55) rfl)) (hw _ (List.mem_of_getElem? (i := 6) rfl)) (hw _ (List.mem_of_getElem? (i := 57) rfl)) (by decide) (by decide) (by decide) rfl (lenOf pd12 rfl) rfl rfl (Nat.le_of_eq rfl) (by decide) (by decide) rfl ?_
  rintro _ _ ⟨rfl, rfl⟩
  rw [show (own_emp (0 : Int32)) = (1 : Int32) from by decide]
  show Wp p l e _ s m _ below meth c n0 _ h33 ((((0 + 1) + 2) + 1) + 1) ((((0 + 3) + 128) + 5) + 5) (mkF m 378 #[.val (.long p0), .second, .val (.long p1), .second, .val (.long p2), .second, .val (.long p3), .second, .val (.long p4), .second, .val (.int p5), .val (.int v11_6), .val (.int v12_14), .val (.int v13_22), .val (.int v14_30), .val (.int v15_38), .val (.ref b1), .val (.ref b8), .val (.ref b14), .val (.int (1 : Int32))] [(.int (1 : Int32))])
  refine own_if_eq (pt := 385) (pf := 381) C at_378 (by decide) (by decide) rfl (fun q => absurd q (by decide)) (fun _ => ?_)
  refine own_iconst (pc' := 382) (v := (1 : Int32)) C at_381 own_ki_1 rfl ?_
  refine own_goto (pc' := 386) C at_382 (by decide) (by decide) ?_
  refine own_istore (pc' := 388) (y := (1 : Int32)) (Ls' := #[.val (.long p0), .second, .val (.long p1), .second, .val (.long p2), .second, .val (.long p3), .second, .val (.long p4), .second, .val (.int p5), .val (.int v11_6), .val (.int v12_14), .val (.int v13_22), .val (.int v14_30), .val (.int v15_38), .val (.ref b1), .val (.ref b8), .val (.ref b14), .val (.int (1 : Int32))]) C at_386 rfl rfl rfl ?_
  refine own_iload (pc' := 390) C at_388 rfl rfl ?_
  refine own_zret C at_390 (by decide) (by decide) (Or.inr rfl) ?_
  exact rfl
set_option maxRecDepth 65536 in
set_option maxHeartbeats 40000000 in
theorem comes_1 {Post : Tables → Env → Array Value → State → Outcome → State → Prop} (hpost : ∀ tb e args s v u, (limb_1_1.after args s (.returned v) u = true ∧ limb_1_2.after args s (.returned v) u = true ∧ True) → FrameEnd s (.returned v) u (Jvm.fieldLocs frame_1_writes args s ++ Jvm.arrayLocs frame_1_arrays args s ++ Jvm.staticLocs frame_1_statics s) 24 384 → Post tb e args s (.returned v) u) :
    ArmFor flags0 classFile x code maxLocals ret World_1 tables_1 room_1 Calls_1 rest_1 Pre_1 Post := by
  intro l hfl _ _ p e ha hc hk s m args below hf hA hF happ hP
  obtain ⟨hcalls, hrest, hpre⟩ := hP
  obtain ⟨-, -, -, hnamed, -, -, -, hat⟩ := (Spec.applies_iff hf).mp happ
  obtain ⟨hg, hn⟩ := and_e (Cond.before_iff.mp (show (Jvm.Cond.and given_1 narrow_1).before args s = true from hpre))
  obtain ⟨hcount, q0⟩ := and_e hg
  obtain ⟨r0, q1⟩ := and_e q0
  obtain ⟨r1, q2⟩ := and_e q1
  obtain ⟨r2, q3⟩ := and_e q2
  obtain ⟨r3, q4⟩ := and_e q3
  obtain ⟨r4, q5⟩ := and_e q4
  obtain ⟨w0, w1, w2, w3, w4, w5, rfl⟩ : ∃ w0 w1 w2 w3 w4 w5 : Value, args = #[w0, w1, w2, w3, w4, w5] := by
    have hs : args.size = 6 := by simpa [Cond.value, given_1] using hcount
    obtain ⟨L⟩ := args
    match L, hs with
    | [w0, w1, w2, w3, w4, w5], _ => exact ⟨w0, w1, w2, w3, w4, w5, rfl⟩
  have hw := fun d (hd : d ∈ tables_1) => atoms_spec (ws := Jvm.Cond.code x code maxLocals ret :: tables_1) hat d (List.mem_cons_of_mem _ hd)
  obtain ⟨i0, e0⟩ := isL_v r0
  obtain rfl : w0 = (.long i0) := Option.some.inj e0
  obtain ⟨i1, e1⟩ := isL_v r1
  obtain rfl : w1 = (.long i1) := Option.some.inj e1
  obtain ⟨i2, e2⟩ := isL_v r2
  obtain rfl : w2 = (.long i2) := Option.some.inj e2
  obtain ⟨i3, e3⟩ := isL_v r3
  obtain rfl : w3 = (.long i3) := Option.some.inj e3
  obtain ⟨i4, e4⟩ := isL_v r4
  obtain rfl : w4 = (.long i4) := Option.some.inj e4
  obtain ⟨i5, e5⟩ := is_v q5
  obtain rfl : w5 = (.int i5) := Option.some.inj e5
  obtain ⟨n, o, h1, h2, h3, _, L, rfl, ⟨rfl, N⟩, hq⟩ := own_law l s _ hw tables_1 i0 i1 i2 i3 i4 i5  s.heap s.heap.size (Nat.le_refl _)  p e ha hc hk s m _ below hf ((Spec.applies_iff_loose hf).mp happ).1 ⟨rfl, State.Warmed39.refl s, rfl⟩ trivial
  refine ⟨n, _, h1, h2, h3, hpost _ _ _ _ _ _ ⟨Cond.after_iff.mpr rfl, Cond.after_iff.mpr (eq_i res_at (Term.int_eval (1)) rfl), trivial⟩ ⟨hq.1, hq.2.1, (hq.2.2.sift fun y hy => Or.inr (N y hy)).mono (by decide) (by decide)⟩⟩
theorem main_1_1 : Claimed_1_1 := comes_1 fun _ _ _ _ _ _ h hF => ⟨h.1, hF⟩
theorem main_1_2 : Claimed_1_2 := comes_1 fun _ _ _ _ _ _ h hF => ⟨h.2.1, hF⟩
end Jvm.Pilot.@@N@@
namespace Jvm.Pilot.@@N@@
open Jvm Jvm.ClassFile Sem Op Lib Jvm.Free Jvm.Stand Jvm.Pilot.@@N@@.Jvm.D
/-! MADE BY PROGRAM (witnessworld.py) out of the Statement's table words and the real class files: 11 classes; the members and pool entries that the words name. The judged class is class 1, her method 5. -/
namespace start1
open Jvm.ClassFile
def u (s : String) : CpInfo := .utf8 (stringToUtf16 s)
/-- a pool by its gaps: so many unusable entries, then the entry; so many at the end -/
def gap : Nat → List CpInfo → List CpInfo
  | 0, r => r
  | n + 1, r => .unusable :: gap n r
def poolList (es : List (Nat × CpInfo)) (last : Nat) : List CpInfo := es.foldr (fun e r => gap e.1 (e.2 :: r)) (gap last [])
def pool (es : List (Nat × CpInfo)) (last : Nat) : Array CpInfo := ⟨poolList es last⟩
def fileOf (pool : Array CpInfo) (this : Nat) (attrs : Array Attribute := #[]) (ms : Array MethodInfo := #[]) (fl : Nat := 33) (sup : Nat := 0) (ifs : Array Nat := #[]) (fds : Array FieldInfo := #[]) : ClassFile where
  minorVersion := 0
  majorVersion := 65
  constantPool := pool
  accessFlags := fl
  thisClass := this
  superClass := sup
  interfaces := ifs
  fields := fds
  methods := ms
  attributes := attrs
def plain (name : String) (sup : Option ClassId) : Class where
  name := name
  kind := .ordinary
  loader := none
  accessFlags := 33
  super := sup
  interfaces := #[]
  cf := none
  fields := #[]
  methods := #[]
  instanceTypes := #[]
  staticTypes := #[]
  resolved := #[]
  callSites := []
  init := .initialized
  statics := none
  mirror := none

def pool0 : Array CpInfo := pool [(5, u "<init>"), (0, u "()V"), (1, .class_ 10), (1, u "java/lang/Object")] 113

def k0c0 : Code := { maxStack := 0, maxLocals := 1, code := object_method_1_code, exceptionTable := #[], attributes := #[] }
def k0m0 : Method := { name := "<init>", desc := "()V", sig := { parameters := [], returnType := none }, accessFlags := 1, code := some k0c0 }
/-- java/lang/Object -/
def k0 : Class := { plain "java/lang/Object" none with
  accessFlags := 33
  interfaces := #[]
  cf := some (fileOf pool0 8 #[] #[{ accessFlags := 1, nameIndex := 5, descriptorIndex := 6, attributes := #[] }] 33 0 #[] #[])
  fields := #[]
  methods := #[k0m0]
  instanceTypes := #[]
  staticTypes := #[]
  resolved := Array.replicate 124 none
  statics := none }

def pool1 : Array CpInfo := pool [(2, .class_ 4), (0, .nameAndType 5 6), (0, u "java/lang/Object"), (0, u "<init>"), (0, u "()V"), (0, .methodref 8 9), (0, .class_ 10), (0, .nameAndType 11 12), (0, u "com/example/cachewright/cachewright/placement/CandidateHeapPopPinLaw"), (0, u "before"), (0, u "(JIJI)Z"), (0, .methodref 14 15), (0, .class_ 16), (0, .nameAndType 17 18), (0, u "com/example/cachewright/cachewright/placement/CandidateHeap"), (0, u "topGain"), (0, u "()J"), (0, .methodref 14 20), (0, .nameAndType 21 22), (0, u "topId"), (0, u "()I"), (0, .methodref 8 24), (0, .nameAndType 25 26), (0, u "idOf"), (0, u "(II)I"), (0, .methodref 14 3), (0, .methodref 14 29), (0, .nameAndType 30 31), (0, u "push"), (0, u "(JI)V"), (0, .methodref 8 33), (0, .nameAndType 34 35), (0, u "cs"), (0, u "([J[III)V"), (0, .methodref 8 37), (0, .nameAndType 38 39), (0, u "topIs"), (0, u "(Lcom/example/cachewright/cachewright/placement/CandidateHeap;[J[II)Z"), (0, .methodref 14 41), (0, .nameAndType 42 6), (0, u "pop"), (0, .methodref 14 44), (0, .nameAndType 45 46), (0, u "isEmpty"), (0, u "()Z"), (3, u "law"), (0, u "(JJJJJI)Z")] 6

def k1m0 : Method := { name := "<init>", desc := "()V", sig := { parameters := [], returnType := none }, accessFlags := 1, code := none }
def k1c1 : Code := { maxStack := 4, maxLocals := 6, code := method_2_code, exceptionTable := #[], attributes := #[] }
def k1m1 : Method := { name := "before", desc := "(JIJI)Z", sig := { parameters := [.long, .int, .long, .int], returnType := some .boolean }, accessFlags := 10, code := some k1c1 }
def k1c2 : Code := { maxStack := 7, maxLocals := 7, code := method_3_code, exceptionTable := #[], attributes := #[] }
def k1m2 : Method := { name := "cs", desc := "([J[III)V", sig := { parameters := [(.array .long), (.array .int), .int, .int], returnType := none }, accessFlags := 10, code := some k1c2 }
def k1c3 : Code := { maxStack := 3, maxLocals := 2, code := method_4_code, exceptionTable := #[], attributes := #[] }
def k1m3 : Method := { name := "idOf", desc := "(II)I", sig := { parameters := [.int, .int], returnType := some .int }, accessFlags := 10, code := some k1c3 }
def k1c4 : Code := { maxStack := 4, maxLocals := 4, code := method_5_code, exceptionTable := #[], attributes := #[] }
def k1m4 : Method := { name := "topIs", desc := "(Lcom/example/cachewright/cachewright/placement/CandidateHeap;[J[II)Z", sig := { parameters := [(.object "com/example/cachewright/cachewright/placement/CandidateHeap"), (.array .long), (.array .int), .int], returnType := some .boolean }, accessFlags := 10, code := some k1c4 }
def k1c5 : Code := { maxStack := 5, maxLocals := 20, code := code, exceptionTable := #[], attributes := #[] }
def k1m5 : Method := { name := "law", desc := "(JJJJJI)Z", sig := { parameters := [.long, .long, .long, .long, .long, .int], returnType := some .boolean }, accessFlags := 9, code := some k1c5 }
/-- com/example/cachewright/cachewright/placement/CandidateHeapPopPinLaw -/
def k1 : Class := { plain "com/example/cachewright/cachewright/placement/CandidateHeapPopPinLaw" (some 0) with
  accessFlags := 49
  interfaces := #[]
  cf := some (fileOf pool1 8 #[] #[{ accessFlags := 1, nameIndex := 5, descriptorIndex := 6, attributes := #[] }, { accessFlags := 10, nameIndex := 11, descriptorIndex := 12, attributes := #[] }, { accessFlags := 10, nameIndex := 34, descriptorIndex := 35, attributes := #[] }, { accessFlags := 10, nameIndex := 25, descriptorIndex := 26, attributes := #[] }, { accessFlags := 10, nameIndex := 38, descriptorIndex := 39, attributes := #[] }, { accessFlags := 9, nameIndex := 50, descriptorIndex := 51, attributes := #[] }] 49 2 #[] #[])
  fields := #[]
  methods := #[k1m0, k1m1, k1m2, k1m3, k1m4, k1m5]
  instanceTypes := #[]
  staticTypes := #[]
  resolved := Array.replicate 58 none
  statics := none }

def pool2 : Array CpInfo := pool [(1, .methodref 2 3), (0, .class_ 4), (0, .nameAndType 5 6), (0, u "java/lang/Object"), (0, u "<init>"), (0, u "()V"), (0, .fieldref 8 9), (0, .class_ 10), (0, .nameAndType 11 12), (0, u "com/example/cachewright/cachewright/placement/CandidateHeap"), (0, u "gains"), (0, u "[J"), (0, .fieldref 8 14), (0, .nameAndType 15 16), (0, u "ids"), (0, u "[I"), (0, .fieldref 8 18), (0, .nameAndType 19 20), (0, u "size"), (0, u "I"), (9, .methodref 8 31), (0, .nameAndType 32 33), (0, u "ahead"), (0, u "(JIJI)Z"), (3, u "isEmpty"), (0, u "()Z"), (0, u "topGain"), (0, u "()J"), (0, u "topId"), (0, u "()I"), (0, u "push"), (0, u "(JI)V"), (0, u "pop")] 2

def k2c0 : Code := { maxStack := 2, maxLocals := 1, code := prog_9_method_1_code, exceptionTable := #[], attributes := #[] }
def k2m0 : Method := { name := "<init>", desc := "()V", sig := { parameters := [], returnType := none }, accessFlags := 0, code := some k2c0 }
def k2c1 : Code := { maxStack := 4, maxLocals := 6, code := prog_9_method_2_code, exceptionTable := #[], attributes := #[] }
def k2m1 : Method := { name := "ahead", desc := "(JIJI)Z", sig := { parameters := [.long, .int, .long, .int], returnType := some .boolean }, accessFlags := 8, code := some k2c1 }
def k2c2 : Code := { maxStack := 1, maxLocals := 1, code := prog_9_method_3_code, exceptionTable := #[], attributes := #[] }
def k2m2 : Method := { name := "isEmpty", desc := "()Z", sig := { parameters := [], returnType := some .boolean }, accessFlags := 0, code := some k2c2 }
def k2c3 : Code := { maxStack := 2, maxLocals := 1, code := prog_9_method_4_code, exceptionTable := #[], attributes := #[] }
def k2m3 : Method := { name := "topGain", desc := "()J", sig := { parameters := [], returnType := some .long }, accessFlags := 0, code := some k2c3 }
def k2c4 : Code := { maxStack := 2, maxLocals := 1, code := prog_9_method_5_code, exceptionTable := #[], attributes := #[] }
def k2m4 : Method := { name := "topId", desc := "()I", sig := { parameters := [], returnType := some .int }, accessFlags := 0, code := some k2c4 }
def k2c5 : Code := { maxStack := 7, maxLocals := 6, code := prog_9_method_6_code, exceptionTable := #[], attributes := #[] }
def k2m5 : Method := { name := "push", desc := "(JI)V", sig := { parameters := [.long, .int], returnType := none }, accessFlags := 0, code := some k2c5 }
def k2c6 : Code := { maxStack := 7, maxLocals := 6, code := prog_9_method_7_code, exceptionTable := #[], attributes := #[] }
def k2m6 : Method := { name := "pop", desc := "()V", sig := { parameters := [], returnType := none }, accessFlags := 0, code := some k2c6 }
/-- com/example/cachewright/cachewright/placement/CandidateHeap -/
def k2 : Class := { plain "com/example/cachewright/cachewright/placement/CandidateHeap" (some 0) with
  accessFlags := 48
  interfaces := #[]
  cf := some (fileOf pool2 8 #[] #[{ accessFlags := 0, nameIndex := 5, descriptorIndex := 6, attributes := #[] }, { accessFlags := 8, nameIndex := 32, descriptorIndex := 33, attributes := #[] }, { accessFlags := 0, nameIndex := 37, descriptorIndex := 38, attributes := #[] }, { accessFlags := 0, nameIndex := 39, descriptorIndex := 40, attributes := #[] }, { accessFlags := 0, nameIndex := 41, descriptorIndex := 42, attributes := #[] }, { accessFlags := 0, nameIndex := 43, descriptorIndex := 44, attributes := #[] }, { accessFlags := 0, nameIndex := 45, descriptorIndex := 6, attributes := #[] }] 48 2 #[] #[{ accessFlags := 2, nameIndex := 11, descriptorIndex := 12, attributes := #[] }, { accessFlags := 2, nameIndex := 15, descriptorIndex := 16, attributes := #[] }, { accessFlags := 2, nameIndex := 19, descriptorIndex := 20, attributes := #[] }])
  fields := #[{ name := "gains", type := (.array .long), accessFlags := 2, slot := 0, constantValue := 0 }, { name := "ids", type := (.array .int), accessFlags := 2, slot := 1, constantValue := 0 }, { name := "size", type := .int, accessFlags := 2, slot := 2, constantValue := 0 }]
  methods := #[k2m0, k2m1, k2m2, k2m3, k2m4, k2m5, k2m6]
  instanceTypes := #[(.array .long), (.array .int), .int]
  staticTypes := #[]
  resolved := Array.replicate 48 none
  statics := none }

def pool3 : Array CpInfo := pool [(1, u "java/lang/Cloneable"), (0, .class_ 1), (0, u "java/lang/Object"), (0, .class_ 3)] 3

/-- java/lang/Cloneable -/
def k3 : Class := { plain "java/lang/Cloneable" (some 0) with
  accessFlags := 1537
  interfaces := #[]
  cf := some (fileOf pool3 2 #[] #[] 1537 4 #[] #[])
  fields := #[]
  methods := #[]
  instanceTypes := #[]
  staticTypes := #[]
  resolved := Array.replicate 8 none
  statics := none }

def pool4 : Array CpInfo := pool [(1, u "java/io/Serializable"), (0, .class_ 1), (0, u "java/lang/Object"), (0, .class_ 3)] 3

/-- java/io/Serializable -/
def k4 : Class := { plain "java/io/Serializable" (some 0) with
  accessFlags := 1537
  interfaces := #[]
  cf := some (fileOf pool4 2 #[] #[] 1537 4 #[] #[])
  fields := #[]
  methods := #[]
  instanceTypes := #[]
  staticTypes := #[]
  resolved := Array.replicate 8 none
  statics := none }

/-- the primitive byte -/
def k5 : Class := { plain "byte" none with kind := .primitive 'B', accessFlags := 0x411 }
/-- [B -/
def k6 : Class := { plain "[B" (some 0) with kind := .array 5 .byte, interfaces := #[3, 4], accessFlags := 1041 }

/-- the primitive int -/
def k7 : Class := { plain "int" none with kind := .primitive 'I', accessFlags := 0x411 }
/-- [I -/
def k8 : Class := { plain "[I" (some 0) with kind := .array 7 .int, interfaces := #[3, 4], accessFlags := 1041 }

/-- the primitive long -/
def k9 : Class := { plain "long" none with kind := .primitive 'J', accessFlags := 0x411 }
/-- [J -/
def k10 : Class := { plain "[J" (some 0) with kind := .array 9 .long, interfaces := #[3, 4], accessFlags := 1041 }

def heap : Heap := #[]
def classes : Array Class := #[k0, k1, k2, k3, k4, k5, k6, k7, k8, k9, k10]
def interned : List (Array UInt16 × Addr) := []
def slotsUsed : Nat := 0
def theMethod : MethodId := ⟨1, 5⟩
def args0 : Array Value := #[.long 5, .long 5, .long 5, .long 5, .long 5, .int 9]
def aboutOver (below : List Frame) : State where
  vm := { classes := classes, interned := interned.toArray }
  heap := heap
  slotsUsed := slotsUsed
  threads := #[{ frames := .invoking theMethod args0 :: below }]
def below0 : List Frame := [.native { method := ⟨0, 0⟩, args := #[] }]
def about1 : State := aboutOver below0
def p0 : Program := .bare "" "" ""
def e0 : Env := launch0.env 0 0 0
theorem w_frames : about1.frames = Frame.invoking theMethod args0 :: below0 := rfl
set_option maxRecDepth 65536 in
theorem w_args : argsFit about1.vm theMethod args0 = true := by decide +kernel
set_option maxRecDepth 65536 in
theorem w_heap : heapFits about1 = true := by decide +kernel
set_option maxRecDepth 65536 in
theorem w_runnable : about1.curStatus? = some .runnable := by decide +kernel
set_option maxRecDepth 65536 in
theorem w_alone : about1.alone = true := by decide +kernel
set_option maxRecDepth 65536 in
theorem w_named : about1.methodNamed? x = some theMethod := by decide +kernel
set_option maxRecDepth 65536 in
theorem w_hears : about1.hears theMethod below0 = true := by decide +kernel
set_option maxRecDepth 65536 in
theorem w_ripe : about1.ripe theMethod args0 below0 = true := by decide +kernel
theorem w_running : about1.status = .running := rfl
set_option maxRecDepth 65536 in
theorem w_room : about1.hasRoom e0.platform room_1 = true :=
  launch0.hasRoom_least _ room_1 (by decide +kernel) (by decide +kernel) (by decide +kernel) (by decide +kernel) (by decide +kernel) (by decide +kernel)
theorem allAtoms_all (ts : List Jvm.Cond) (a : Array Jvm.Value) (st : Jvm.State) : (allAtoms ts).before a st = ts.all (fun c => c.before a st) := by
  induction ts with
  | nil => rfl
  | cons c t ih =>
    show (Jvm.Cond.and c (allAtoms t)).before a st = _
    rw [Jvm.Cond.before_and, ih, List.all_cons]
def words1 : List Jvm.Cond := Jvm.Cond.code x code maxLocals ret :: tables_1
/-- a 'code' word, met by the world's own term for the bytes: nothing is compared byte by byte -/
theorem code_word {y : MethodName} {bytes : ByteArray} {mx : Nat} {rt : Option FieldType} {a : Array Value} {s : State} {m : MethodId} {meth : Method} {c : Code} (h1 : s.methodNamed? y = some m) (h2 : s.vm.method? m = some meth) (h3 : meth.code = some c) (h4 : c.code = bytes)
    (h5 : (c.maxLocals == mx && c.exceptionTable.isEmpty && decide (c.maxStack ≤ mostOperands) && decide (meth.sig.returnType = rt) && !meth.locks && decide (parseMethodDescriptor y.desc = some meth.sig)) = true) : (Jvm.Cond.code y bytes mx rt).before a s = true := by
  simp only [Bool.and_eq_true, beq_iff_eq, Bool.not_eq_true', decide_eq_true_eq] at h5
  obtain ⟨⟨⟨⟨⟨g1, g2⟩, g3⟩, g4⟩, g5⟩, g6⟩ := h5
  simp [Cond.before, Cond.holds, Cond.value, h1, h2, h3, h4, g1, g2, g3, g4, g5, g6]
def isCode : Jvm.Cond → Bool
  | .code _ _ _ _ => true
  | _ => false
theorem all_split {L : List Jvm.Cond} {P : Jvm.Cond → Bool} (h1 : L.all (fun c => isCode c || P c) = true) (h2 : ∀ c ∈ L.filter isCode, P c = true) : L.all P = true := by
  refine List.all_eq_true.mpr fun c hc => ?_
  have h := List.all_eq_true.mp h1 c hc
  rcases Bool.eq_false_or_eq_true (isCode c) with hi | hi
  · exact h2 c (List.mem_filter.mpr ⟨hc, hi⟩)
  · simpa [hi] using h
set_option maxRecDepth 65536 in
theorem w_c0 : (Jvm.Cond.code x code maxLocals ret).before args0 about1 = true := code_word (m := ⟨1, 5⟩) (meth := k1m5) (c := k1c5) (by decide +kernel) rfl rfl rfl (by decide +kernel)
set_option maxRecDepth 65536 in
theorem w_c1 : (Jvm.Cond.code ({ cls := "com/example/cachewright/cachewright/placement/CandidateHeapPopPinLaw", name := "idOf", desc := "(II)I" } : Jvm.MethodName) method_4_code (2 : Nat) (Option.some Jvm.ClassFile.FieldType.int)).before args0 about1 = true := code_word (m := ⟨1, 3⟩) (meth := k1m3) (c := k1c3) (by decide +kernel) rfl rfl rfl (by decide +kernel)
set_option maxRecDepth 65536 in
theorem w_c2 : (Jvm.Cond.code ({ cls := "com/example/cachewright/cachewright/placement/CandidateHeap", name := "<init>", desc := "()V" } : Jvm.MethodName) prog_9_method_1_code (1 : Nat) (Option.none : Option Jvm.ClassFile.FieldType)).before args0 about1 = true := code_word (m := ⟨2, 0⟩) (meth := k2m0) (c := k2c0) (by decide +kernel) rfl rfl rfl (by decide +kernel)
set_option maxRecDepth 65536 in
theorem w_c3 : (Jvm.Cond.code ({ cls := "java/lang/Object", name := "<init>", desc := "()V" } : Jvm.MethodName) object_method_1_code (1 : Nat) (Option.none : Option Jvm.ClassFile.FieldType)).before args0 about1 = true := code_word (m := ⟨0, 0⟩) (meth := k0m0) (c := k0c0) (by decide +kernel) rfl rfl rfl (by decide +kernel)
set_option maxRecDepth 65536 in
theorem w_c4 : (Jvm.Cond.code ({ cls := "com/example/cachewright/cachewright/placement/CandidateHeap", name := "push", desc := "(JI)V" } : Jvm.MethodName) prog_9_method_6_code (6 : Nat) (Option.none : Option Jvm.ClassFile.FieldType)).before args0 about1 = true := code_word (m := ⟨2, 5⟩) (meth := k2m5) (c := k2c5) (by decide +kernel) rfl rfl rfl (by decide +kernel)
set_option maxRecDepth 65536 in
theorem w_c5 : (Jvm.Cond.code ({ cls := "com/example/cachewright/cachewright/placement/CandidateHeap", name := "ahead", desc := "(JIJI)Z" } : Jvm.MethodName) prog_9_method_2_code (6 : Nat) (Option.some Jvm.ClassFile.FieldType.boolean)).before args0 about1 = true := code_word (m := ⟨2, 1⟩) (meth := k2m1) (c := k2c1) (by decide +kernel) rfl rfl rfl (by decide +kernel)
set_option maxRecDepth 65536 in
theorem w_c6 : (Jvm.Cond.code ({ cls := "com/example/cachewright/cachewright/placement/CandidateHeapPopPinLaw", name := "cs", desc := "([J[III)V" } : Jvm.MethodName) method_3_code (7 : Nat) (Option.none : Option Jvm.ClassFile.FieldType)).before args0 about1 = true := code_word (m := ⟨1, 2⟩) (meth := k1m2) (c := k1c2) (by decide +kernel) rfl rfl rfl (by decide +kernel)
set_option maxRecDepth 65536 in
theorem w_c7 : (Jvm.Cond.code ({ cls := "com/example/cachewright/cachewright/placement/CandidateHeapPopPinLaw", name := "before", desc := "(JIJI)Z" } : Jvm.MethodName) method_2_code (6 : Nat) (Option.some Jvm.ClassFile.FieldType.boolean)).before args0 about1 = true := code_word (m := ⟨1, 1⟩) (meth := k1m1) (c := k1c1) (by decide +kernel) rfl rfl rfl (by decide +kernel)
set_option maxRecDepth 65536 in
theorem w_c8 : (Jvm.Cond.code ({ cls := "com/example/cachewright/cachewright/placement/CandidateHeapPopPinLaw", name := "topIs", desc := "(Lcom/example/cachewright/cachewright/placement/CandidateHeap;[J[II)Z" } : Jvm.MethodName) method_5_code (4 : Nat) (Option.some Jvm.ClassFile.FieldType.boolean)).before args0 about1 = true := code_word (m := ⟨1, 4⟩) (meth := k1m4) (c := k1c4) (by decide +kernel) rfl rfl rfl (by decide +kernel)
set_option maxRecDepth 65536 in
theorem w_c9 : (Jvm.Cond.code ({ cls := "com/example/cachewright/cachewright/placement/CandidateHeap", name := "topGain", desc := "()J" } : Jvm.MethodName) prog_9_method_4_code (1 : Nat) (Option.some Jvm.ClassFile.FieldType.long)).before args0 about1 = true := code_word (m := ⟨2, 3⟩) (meth := k2m3) (c := k2c3) (by decide +kernel) rfl rfl rfl (by decide +kernel)
set_option maxRecDepth 65536 in
theorem w_c10 : (Jvm.Cond.code ({ cls := "com/example/cachewright/cachewright/placement/CandidateHeap", name := "topId", desc := "()I" } : Jvm.MethodName) prog_9_method_5_code (1 : Nat) (Option.some Jvm.ClassFile.FieldType.int)).before args0 about1 = true := code_word (m := ⟨2, 4⟩) (meth := k2m4) (c := k2c4) (by decide +kernel) rfl rfl rfl (by decide +kernel)
set_option maxRecDepth 65536 in
theorem w_c11 : (Jvm.Cond.code ({ cls := "com/example/cachewright/cachewright/placement/CandidateHeap", name := "pop", desc := "()V" } : Jvm.MethodName) prog_9_method_7_code (6 : Nat) (Option.none : Option Jvm.ClassFile.FieldType)).before args0 about1 = true := code_word (m := ⟨2, 6⟩) (meth := k2m6) (c := k2c6) (by decide +kernel) rfl rfl rfl (by decide +kernel)
set_option maxRecDepth 65536 in
theorem w_c12 : (Jvm.Cond.code ({ cls := "com/example/cachewright/cachewright/placement/CandidateHeap", name := "isEmpty", desc := "()Z" } : Jvm.MethodName) prog_9_method_3_code (1 : Nat) (Option.some Jvm.ClassFile.FieldType.boolean)).before args0 about1 = true := code_word (m := ⟨2, 2⟩) (meth := k2m2) (c := k2c2) (by decide +kernel) rfl rfl rfl (by decide +kernel)
def codes1 : List Jvm.Cond := [Jvm.Cond.code x code maxLocals ret, Jvm.Cond.code ({ cls := "com/example/cachewright/cachewright/placement/CandidateHeapPopPinLaw", name := "idOf", desc := "(II)I" } : Jvm.MethodName) method_4_code (2 : Nat) (Option.some Jvm.ClassFile.FieldType.int), Jvm.Cond.code ({ cls := "com/example/cachewright/cachewright/placement/CandidateHeap", name := "<init>", desc := "()V" } : Jvm.MethodName) prog_9_method_1_code (1 : Nat) (Option.none : Option Jvm.ClassFile.FieldType), Jvm.Cond.code ({ cls := "java/lang/Object", name := "<init>", desc := "()V" } : Jvm.MethodName) object_method_1_code (1 : Nat) (Option.none : Option Jvm.ClassFile.FieldType), Jvm.Cond.code ({ cls := "com/example/cachewright/cachewright/placement/CandidateHeap", name := "push", desc := "(JI)V" } : Jvm.MethodName) prog_9_method_6_code (6 : Nat) (Option.none : Option Jvm.ClassFile.FieldType), Jvm.Cond.code ({ cls := "com/example/cachewright/cachewright/placement/CandidateHeap", name := "ahead", desc := "(JIJI)Z" } : Jvm.MethodName) prog_9_method_2_code (6 : Nat) (Option.some Jvm.ClassFile.FieldType.boolean), Jvm.Cond.code ({ cls := "com/example/cachewright/cachewright/placement/CandidateHeapPopPinLaw", name := "cs", desc := "([J[III)V" } : Jvm.MethodName) method_3_code (7 : Nat) (Option.none : Option Jvm.ClassFile.FieldType), Jvm.Cond.code ({ cls := "com/example/cachewright/cachewright/placement/CandidateHeapPopPinLaw", name := "before", desc := "(JIJI)Z" } : Jvm.MethodName) method_2_code (6 : Nat) (Option.some Jvm.ClassFile.FieldType.boolean), Jvm.Cond.code ({ cls := "com/example/cachewright/cachewright/placement/CandidateHeapPopPinLaw", name := "topIs", desc := "(Lcom/example/cachewright/cachewright/placement/CandidateHeap;[J[II)Z" } : Jvm.MethodName) method_5_code (4 : Nat) (Option.some Jvm.ClassFile.FieldType.boolean), Jvm.Cond.code ({ cls := "com/example/cachewright/cachewright/placement/CandidateHeap", name := "topGain", desc := "()J" } : Jvm.MethodName) prog_9_method_4_code (1 : Nat) (Option.some Jvm.ClassFile.FieldType.long), Jvm.Cond.code ({ cls := "com/example/cachewright/cachewright/placement/CandidateHeap", name := "topId", desc := "()I" } : Jvm.MethodName) prog_9_method_5_code (1 : Nat) (Option.some Jvm.ClassFile.FieldType.int), Jvm.Cond.code ({ cls := "com/example/cachewright/cachewright/placement/CandidateHeap", name := "pop", desc := "()V" } : Jvm.MethodName) prog_9_method_7_code (6 : Nat) (Option.none : Option Jvm.ClassFile.FieldType), Jvm.Cond.code ({ cls := "com/example/cachewright/cachewright/placement/CandidateHeap", name := "isEmpty", desc := "()Z" } : Jvm.MethodName) prog_9_method_3_code (1 : Nat) (Option.some Jvm.ClassFile.FieldType.boolean)]
set_option maxRecDepth 65536 in
theorem codes_eq : words1.filter isCode = codes1 := rfl
theorem w_codes : ∀ c ∈ words1.filter isCode, c.before args0 about1 = true := by
  rw [codes_eq]
  intro c hc
  simp only [codes1, List.mem_cons, List.not_mem_nil, or_false] at hc
  rcases hc with rfl | rfl | rfl | rfl | rfl | rfl | rfl | rfl | rfl | rfl | rfl | rfl | rfl
  · exact w_c0
  · exact w_c1
  · exact w_c2
  · exact w_c3
  · exact w_c4
  · exact w_c5
  · exact w_c6
  · exact w_c7
  · exact w_c8
  · exact w_c9
  · exact w_c10
  · exact w_c11
  · exact w_c12
set_option maxRecDepth 65536 in
theorem w_t1 : (words1.take 24).all (fun c => isCode c || c.before args0 about1) = true := by decide +kernel
set_option maxRecDepth 65536 in
theorem w_t2 : ((words1.drop 24).take 24).all (fun c => isCode c || c.before args0 about1) = true := by decide +kernel
set_option maxRecDepth 65536 in
theorem w_t3 : ((words1.drop 24).drop 24).all (fun c => isCode c || c.before args0 about1) = true := by decide +kernel
theorem w_tables : (allAtoms (Jvm.Cond.code x code maxLocals ret :: tables_1)).before args0 about1 = true := by
  rw [allAtoms_all]
  show words1.all (fun c => c.before args0 about1) = true
  refine all_split ?_ w_codes
  rw [← List.take_append_drop 24 words1, List.all_append, w_t1, ← List.take_append_drop 24 (words1.drop 24), List.all_append, w_t2, w_t3]
  rfl
set_option maxRecDepth 65536 in
theorem w_case : (Jvm.Cond.and given_1 narrow_1).before args0 about1 = true := by decide +kernel
theorem w_applies : (headSpec (Jvm.Cond.code x code maxLocals ret :: tables_1) room_1).applies x e0.platform about1 = true :=
  (Spec.applies_iff w_frames).mpr ⟨w_running, w_runnable, w_alone, w_named, w_hears, w_ripe, w_room, w_tables⟩
theorem atStart : AtStart classFile x code maxLocals ret World_1 tables_1 room_1 Calls_1 rest_1 Pre_1 launch0 p0 e0 about1 theMethod args0 below0 :=
  ⟨lists_1, trivial, launch0.admits_env _ _ _, launch0.least_env, fairChoices_fair.cas, fairChoices_fair.clock, w_frames, w_args, w_heap, w_applies, trivial, trivial, w_case⟩
end start1
theorem witness_1 : WitnessClaimed_1 := ⟨start1.p0, start1.e0, start1.about1, start1.theMethod, start1.args0, start1.below0, start1.atStart⟩
end Jvm.Pilot.@@N@@
