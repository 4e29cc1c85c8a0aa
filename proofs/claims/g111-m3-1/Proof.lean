import JvmDerived
import JvmDerived.Pilot.@@N@@Statement
import JvmDerived.Pilot.@@N@@Code
set_option linter.unusedVariables false
set_option linter.unusedSimpArgs false
namespace Jvm.Pilot.@@N@@
open Jvm Jvm.ClassFile Sem Op Lib Jvm.Free Jvm.Stand Jvm.LawKit Jvm.RoadKit Bundle Jvm.Pilot.@@N@@.Jvm.D
section OwnHead
variable {p : Program} {l : Launch} {e : Env} {R : Room} {s : State} {m : MethodId} {args : Array Value} {below : List Frame} {meth : Method} {c : Code} {T : State} {locs : List Loc} {cells slots : Nat} {Z : State} {a0 : Array Value} {h : Heap} {Q : Option Value → Heap → List Loc → Prop} {ce sl : Nat} {pc pc' : Nat} {Ls : Array Slot} {st : List Value}
def own_G (p : Program) (e : Env) (below : List Frame) (s : State) (Q : Option Value → Heap → List Loc → Prop) (ce sl : Nat) (S : State) : Prop := ∃ s₂ o, Steps p.tables e below S s₂ ∧ s₂.status = .running ∧ Ended s₂ below o ∧ ∃ v L, o = .returned v ∧ Q v s₂.heap L ∧ FrameEnd s o s₂ L ce sl
theorem own_fw {S S' : State} (h : ∀ t, Steps p.tables e below S' t → Steps p.tables e below S t) (g : own_G p e below s Q ce sl S') : own_G p e below s Q ce sl S := by
  obtain ⟨s₂, o, h1, r⟩ := g; exact ⟨s₂, o, h _ h1, r⟩
theorem own_via {S S' : State} (h : own_G p e below s Q ce sl S' → own_G p e below s Q ce sl S) (g : own_G p e below s Q ce sl S') : own_G p e below s Q ce sl S := h g
theorem own_cast {S S' : State} (h : S = S') (g : own_G p e below s Q ce sl S') : own_G p e below s Q ce sl S := h ▸ g
abbrev own_M (l : Launch) (Z : State) (y : MethodName) (bytes : ByteArray) (maxL : Nat) (ret : Option FieldType) (ws : List Jvm.Cond) (rm : Room) (as' : Array Value) (h0 : Heap) (Q : Option Value → Heap → List Loc → Prop) (ce sl : Nat) : Prop := MetFree l y (head1 (Jvm.Cond.code y bytes maxL ret :: ws) rm) (fun a U => a = as' ∧ Z.Warmed39 U.vm ∧ U.heap = h0) (fun _ _ _ _ _ => True) (fun _ U o U' => ∃ v L, o = .returned v ∧ Q v U'.heap L ∧ FrameEnd U o U' L ce sl)
theorem own_body {y : MethodName} {bytes : ByteArray} {maxL : Nat} {ret : Option FieldType} {ws : List Jvm.Cond} {rm : Room} {as' : Array Value} {h0 : Heap} (hp : plainFor y = true)
    (body : ∀ (p : Program) (e : Env) (s : State) (m : MethodId) (below : List Frame) (meth : Method) (c : Code) (s₁ : State), p.tables.exec = Jvm.exec → c.code = bytes → c.maxLocals = maxL → s.vm.findClass y.cls = some m.cls → meth.name = y.name → meth.sig.returnType = ret → meth.locks = false → Z.Warmed39 s.vm → Stand p l e rm s m as' below meth c s₁ [] 0 0 → s₁.heap = h0 → own_G p e below s Q ce sl (s₁.setTop (entryFrame m as' maxL))) : own_M l Z y bytes maxL ret ws rm as' h0 Q ce sl := by
  refine MetFree.of_bodySF hp hisR ?_
  intro p e s m args below meth c s₁ Bd hml hP hK
  obtain ⟨rfl, hZ, hh⟩ := hP
  exact body p e s m below meth c s₁ Bd.exec Bd.bytes hml (findClass_of_methodNamed Bd.named) (name_of_methodNamed Bd.named Bd.method).1 Bd.returns Bd.notSynchronized hZ (Stand.of_body Bd) (by rw [← hh, Bd.state]; rfl)
theorem own_ret (X : Stand p l e R s m args below meth c T locs cells slots) (hx : p.tables.exec = Jvm.exec) {w : Value} {t : FieldType} {i : Instr} (hret : meth.sig.returnType = some t) (hlk : meth.locks = false) (hn : narrow t w = w)
    (hi : (i = .ireturn ∧ (t = .int ∨ t = .boolean ∨ t = .byte ∨ t = .char ∨ t = .short) ∧ ∃ z, w = .int z) ∨ (i = .lreturn ∧ t = .long ∧ ∃ z, w = .long z) ∨ (i = .dreturn ∧ t = .double ∧ ∃ z, w = .double z) ∨ (i = .freturn ∧ t = .float ∧ ∃ z, w = .float z) ∨ (i = .areturn ∧ t.isReference = true ∧ w.isRef = true))
    (hd : decode c.code pc = .ok (i, 1)) (hQ : Q (some w) T.heap locs) (hce : cells ≤ ce) (hsl : slots ≤ sl) : own_G p e below s Q ce sl (T.setTop (mkF m pc Ls (w :: st))) := by
  obtain ⟨fs, hr, hrun, hended, hW, hsame⟩ := X.leave (v := some w) (fun h => by rw [hret] at h; cases h) hlk
  exact ⟨_, _, retOut X hx hret hn hi hd hr, hrun, hended, _, _, rfl, hQ, ⟨_, rfl⟩, hW, hsame.mono hce hsl⟩
theorem own_retI (X : Stand p l e R s m args below meth c T locs cells slots) (hx : p.tables.exec = Jvm.exec) {z : Int32} (hret : meth.sig.returnType = some .int) (hlk : meth.locks = false) (hd : decode c.code pc = .ok (.ireturn, 1)) (hQ : Q (some (.int z)) T.heap locs) (hce : cells ≤ ce) (hsl : slots ≤ sl) : own_G p e below s Q ce sl (T.setTop (mkF m pc Ls (.int z :: st))) := own_ret X hx hret hlk rfl (Or.inl ⟨rfl, Or.inl rfl, z, rfl⟩) hd hQ hce hsl
theorem own_retZ (X : Stand p l e R s m args below meth c T locs cells slots) (hx : p.tables.exec = Jvm.exec) {z : Int32} (hret : meth.sig.returnType = some .boolean) (hlk : meth.locks = false) (hz : z = 0 ∨ z = 1) (hd : decode c.code pc = .ok (.ireturn, 1)) (hQ : Q (some (.int z)) T.heap locs) (hce : cells ≤ ce) (hsl : slots ≤ sl) : own_G p e below s Q ce sl (T.setTop (mkF m pc Ls (.int z :: st))) := own_ret X hx hret hlk (by rcases hz with rfl | rfl <;> rfl) (Or.inl ⟨rfl, Or.inr (Or.inl rfl), z, rfl⟩) hd hQ hce hsl
theorem own_retB (X : Stand p l e R s m args below meth c T locs cells slots) (hx : p.tables.exec = Jvm.exec) {z : Int32} (hret : meth.sig.returnType = some .byte) (hlk : meth.locks = false) (hz : narrow .byte (.int z) = .int z) (hd : decode c.code pc = .ok (.ireturn, 1)) (hQ : Q (some (.int z)) T.heap locs) (hce : cells ≤ ce) (hsl : slots ≤ sl) : own_G p e below s Q ce sl (T.setTop (mkF m pc Ls (.int z :: st))) := own_ret X hx hret hlk hz (Or.inl ⟨rfl, Or.inr (Or.inr (Or.inl rfl)), z, rfl⟩) hd hQ hce hsl
theorem own_retL (X : Stand p l e R s m args below meth c T locs cells slots) (hx : p.tables.exec = Jvm.exec) {z : Int64} (hret : meth.sig.returnType = some .long) (hlk : meth.locks = false) (hd : decode c.code pc = .ok (.lreturn, 1)) (hQ : Q (some (.long z)) T.heap locs) (hce : cells ≤ ce) (hsl : slots ≤ sl) : own_G p e below s Q ce sl (T.setTop (mkF m pc Ls (.long z :: st))) := own_ret X hx hret hlk rfl (Or.inr (Or.inl ⟨rfl, rfl, z, rfl⟩)) hd hQ hce hsl
theorem own_retA (X : Stand p l e R s m args below meth c T locs cells slots) (hx : p.tables.exec = Jvm.exec) {v : Value} {t : FieldType} (hret : meth.sig.returnType = some t) (hlk : meth.locks = false) (ht : t.isReference = true) (hn : narrow t v = v) (hv : v.isRef = true) (hd : decode c.code pc = .ok (.areturn, 1)) (hQ : Q (some v) T.heap locs) (hce : cells ≤ ce) (hsl : slots ≤ sl) : own_G p e below s Q ce sl (T.setTop (mkF m pc Ls (v :: st))) := own_ret X hx hret hlk hn (Or.inr (Or.inr (Or.inr (Or.inr ⟨rfl, ht, hv⟩)))) hd hQ hce hsl
theorem own_retV (X : Stand p l e R s m args below meth c T locs cells slots) (hx : p.tables.exec = Jvm.exec) (hret : meth.sig.returnType = none) (hlk : meth.locks = false) (hd : decode c.code pc = .ok (.return_, 1)) (hQ : Q none T.heap locs) (hce : cells ≤ ce) (hsl : slots ≤ sl) : own_G p e below s Q ce sl (T.setTop (mkF m pc Ls [])) := by
  obtain ⟨fs, hr, hrun, hended, hW, hsame⟩ := X.leave (v := none) (fun _ => rfl) hlk
  exact ⟨_, _, X.returnOut hx hret hd hr, hrun, hended, _, _, rfl, hQ, ⟨_, rfl⟩, hW, hsame.mono hce hsl⟩
theorem own_iloadN {i : Fin 4} {v : Int32} (X : Stand p l e R s m args below meth c T locs cells slots) (hx : p.tables.exec = Jvm.exec) (hd : decode c.code pc = .ok (.iload_n i, 1)) (hl : Ls[i.val]? = some (.val (.int v))) (hp : pc + 1 = pc') (k : own_G p e below s Q ce sl (T.setTop (mkF m pc' Ls (.int v :: st)))) : own_G p e below s Q ce sl (T.setTop (mkF m pc Ls st)) := by
  subst hp; exact own_fw (fun t q => XS.iloadN X.here hx rfl hd hl q) k
theorem own_iload {i : Nat} {v : Int32} (X : Stand p l e R s m args below meth c T locs cells slots) (hx : p.tables.exec = Jvm.exec) (hd : decode c.code pc = .ok (.iload i, 2)) (hl : Ls[i]? = some (.val (.int v))) (hp : pc + 2 = pc') (k : own_G p e below s Q ce sl (T.setTop (mkF m pc' Ls (.int v :: st)))) : own_G p e below s Q ce sl (T.setTop (mkF m pc Ls st)) := by
  subst hp; exact own_fw (fun t q => XS.iload X.here hx rfl hd hl q) k
theorem own_lloadN {i : Fin 4} {v : Int64} (X : Stand p l e R s m args below meth c T locs cells slots) (hx : p.tables.exec = Jvm.exec) (hd : decode c.code pc = .ok (.lload_n i, 1)) (hl : Ls[i.val]? = some (.val (.long v))) (hp : pc + 1 = pc') (k : own_G p e below s Q ce sl (T.setTop (mkF m pc' Ls (.long v :: st)))) : own_G p e below s Q ce sl (T.setTop (mkF m pc Ls st)) := by
  subst hp; exact own_fw (fun t q => XS.lloadN X.here hx rfl hd hl q) k
theorem own_lload {i : Nat} {v : Int64} (X : Stand p l e R s m args below meth c T locs cells slots) (hx : p.tables.exec = Jvm.exec) (hd : decode c.code pc = .ok (.lload i, 2)) (hl : Ls[i]? = some (.val (.long v))) (hp : pc + 2 = pc') (k : own_G p e below s Q ce sl (T.setTop (mkF m pc' Ls (.long v :: st)))) : own_G p e below s Q ce sl (T.setTop (mkF m pc Ls st)) := by
  subst hp; exact own_fw (fun t q => XS.lload X.here hx rfl hd hl q) k
theorem own_aloadN {i : Fin 4} {v : Value} (X : Stand p l e R s m args below meth c T locs cells slots) (hx : p.tables.exec = Jvm.exec) (hd : decode c.code pc = .ok (.aload_n i, 1)) (hl : Ls[i.val]? = some (.val v)) (hv : v.isRef = true) (hp : pc + 1 = pc') (k : own_G p e below s Q ce sl (T.setTop (mkF m pc' Ls (v :: st)))) : own_G p e below s Q ce sl (T.setTop (mkF m pc Ls st)) := by
  subst hp; exact own_fw (fun t q => XS.aloadN X.here hx rfl hd hl hv q) k
theorem own_aload {i : Nat} {v : Value} (X : Stand p l e R s m args below meth c T locs cells slots) (hx : p.tables.exec = Jvm.exec) (hd : decode c.code pc = .ok (.aload i, 2)) (hl : Ls[i]? = some (.val v)) (hv : v.isRef = true) (hp : pc + 2 = pc') (k : own_G p e below s Q ce sl (T.setTop (mkF m pc' Ls (v :: st)))) : own_G p e below s Q ce sl (T.setTop (mkF m pc Ls st)) := by
  subst hp; exact own_fw (fun t q => XS.aload X.here hx rfl hd hl hv q) k
theorem own_istoreN {i : Fin 4} {v : Int32} (X : Stand p l e R s m args below meth c T locs cells slots) (hx : p.tables.exec = Jvm.exec) (hd : decode c.code pc = .ok (.istore_n i, 1)) {l' : Array Slot} (hl : storeLocals Ls i.val (.int v) = some l') (hp : pc + 1 = pc') (k : own_G p e below s Q ce sl (T.setTop (mkF m pc' l' st))) : own_G p e below s Q ce sl (T.setTop (mkF m pc Ls (.int v :: st))) := by
  subst hp; exact own_fw (fun t q => XS.istoreN X.here hx rfl hd rfl hl q) k
theorem own_istore {i : Nat} {v : Int32} (X : Stand p l e R s m args below meth c T locs cells slots) (hx : p.tables.exec = Jvm.exec) (hd : decode c.code pc = .ok (.istore i, 2)) {l' : Array Slot} (hl : storeLocals Ls i (.int v) = some l') (hp : pc + 2 = pc') (k : own_G p e below s Q ce sl (T.setTop (mkF m pc' l' st))) : own_G p e below s Q ce sl (T.setTop (mkF m pc Ls (.int v :: st))) := by
  subst hp; exact own_fw (fun t q => XS.istore X.here hx rfl hd rfl hl q) k
theorem own_lstoreN {i : Fin 4} {v : Int64} (X : Stand p l e R s m args below meth c T locs cells slots) (hx : p.tables.exec = Jvm.exec) (hd : decode c.code pc = .ok (.lstore_n i, 1)) {l' : Array Slot} (hl : storeLocals Ls i.val (.long v) = some l') (hp : pc + 1 = pc') (k : own_G p e below s Q ce sl (T.setTop (mkF m pc' l' st))) : own_G p e below s Q ce sl (T.setTop (mkF m pc Ls (.long v :: st))) := by
  subst hp; exact own_fw (fun t q => XS.lstoreN X.here hx rfl hd rfl hl q) k
theorem own_lstore {i : Nat} {v : Int64} (X : Stand p l e R s m args below meth c T locs cells slots) (hx : p.tables.exec = Jvm.exec) (hd : decode c.code pc = .ok (.lstore i, 2)) {l' : Array Slot} (hl : storeLocals Ls i (.long v) = some l') (hp : pc + 2 = pc') (k : own_G p e below s Q ce sl (T.setTop (mkF m pc' l' st))) : own_G p e below s Q ce sl (T.setTop (mkF m pc Ls (.long v :: st))) := by
  subst hp; exact own_fw (fun t q => XS.lstore X.here hx rfl hd rfl hl q) k
theorem own_astoreN {i : Fin 4} {v : Value} (X : Stand p l e R s m args below meth c T locs cells slots) (hx : p.tables.exec = Jvm.exec) (hd : decode c.code pc = .ok (.astore_n i, 1)) (hv : v.isRef = true) {l' : Array Slot} (hl : storeLocals Ls i.val v = some l') (hp : pc + 1 = pc') (k : own_G p e below s Q ce sl (T.setTop (mkF m pc' l' st))) : own_G p e below s Q ce sl (T.setTop (mkF m pc Ls (v :: st))) := by
  subst hp; exact own_fw (fun t q => XS.astoreN X.here hx rfl hd rfl hv hl q) k
theorem own_astore {i : Nat} {v : Value} (X : Stand p l e R s m args below meth c T locs cells slots) (hx : p.tables.exec = Jvm.exec) (hd : decode c.code pc = .ok (.astore i, 2)) (hv : v.isRef = true) {l' : Array Slot} (hl : storeLocals Ls i v = some l') (hp : pc + 2 = pc') (k : own_G p e below s Q ce sl (T.setTop (mkF m pc' l' st))) : own_G p e below s Q ce sl (T.setTop (mkF m pc Ls (v :: st))) := by
  subst hp; exact own_fw (fun t q => XS.astore X.here hx rfl hd rfl hv hl q) k
theorem own_iconst {i : Int} {z : Int32} (X : Stand p l e R s m args below meth c T locs cells slots) (hx : p.tables.exec = Jvm.exec) (hd : decode c.code pc = .ok (.iconst i, 1)) (hz : Int32.ofInt i = z) (hp : pc + 1 = pc') (k : own_G p e below s Q ce sl (T.setTop (mkF m pc' Ls (.int z :: st)))) : own_G p e below s Q ce sl (T.setTop (mkF m pc Ls st)) := by
  subst hp hz; exact own_fw (fun t q => XS.iconst X.here hx rfl hd q) k
theorem own_bipush {i : Int} {z : Int32} (X : Stand p l e R s m args below meth c T locs cells slots) (hx : p.tables.exec = Jvm.exec) (hd : decode c.code pc = .ok (.bipush i, 2)) (hz : (Int8.ofInt i).toInt32 = z) (hp : pc + 2 = pc') (k : own_G p e below s Q ce sl (T.setTop (mkF m pc' Ls (.int z :: st)))) : own_G p e below s Q ce sl (T.setTop (mkF m pc Ls st)) := by
  subst hp hz; exact own_fw (fun t q => XS.bipush X.here hx rfl hd q) k
theorem own_sipush {i : Int} {z : Int32} (X : Stand p l e R s m args below meth c T locs cells slots) (hx : p.tables.exec = Jvm.exec) (hd : decode c.code pc = .ok (.sipush i, 3)) (hz : (Int16.ofInt i).toInt32 = z) (hp : pc + 3 = pc') (k : own_G p e below s Q ce sl (T.setTop (mkF m pc' Ls (.int z :: st)))) : own_G p e below s Q ce sl (T.setTop (mkF m pc Ls st)) := by
  subst hp hz; exact own_fw (fun t q => XS.sipush X.here hx rfl hd q) k
theorem own_lconst {i : Fin 2} {z : Int64} (X : Stand p l e R s m args below meth c T locs cells slots) (hx : p.tables.exec = Jvm.exec) (hd : decode c.code pc = .ok (.lconst i, 1)) (hz : Int64.ofNat i = z) (hp : pc + 1 = pc') (k : own_G p e below s Q ce sl (T.setTop (mkF m pc' Ls (.long z :: st)))) : own_G p e below s Q ce sl (T.setTop (mkF m pc Ls st)) := by
  subst hp hz; exact own_fw (fun t q => XS.lconst X.here hx rfl hd q) k
theorem own_aconstNull (X : Stand p l e R s m args below meth c T locs cells slots) (hx : p.tables.exec = Jvm.exec) (hd : decode c.code pc = .ok (.aconst_null, 1)) (hp : pc + 1 = pc') (k : own_G p e below s Q ce sl (T.setTop (mkF m pc' Ls (.null :: st)))) : own_G p e below s Q ce sl (T.setTop (mkF m pc Ls st)) := by
  subst hp; exact own_fw (fun t q => XS.aconstNull X.here hx rfl hd q) k
theorem own_ldc (X : Stand p l e R s m args below meth c T locs cells slots) (hx : p.tables.exec = Jvm.exec) (hZ : Z.Warmed39 s.vm) {own : String} {index : Nat} {v : Int32} (hown : s.vm.findClass own = some m.cls) (w1 : (Jvm.Cond.constant own index v).before a0 Z = true) (hd : decode c.code pc = .ok (.ldc index, 2)) (hp : pc + 2 = pc') (k : own_G p e below s Q ce sl (T.setTop (mkF m pc' Ls (.int v :: st)))) : own_G p e below s Q ce sl (T.setTop (mkF m pc Ls st)) := by
  subst hp; exact own_fw (X.ldcInt hx hown (mvT hZ w1) (g := mkF m pc Ls st) rfl hd) k
theorem own_ldc2 (X : Stand p l e R s m args below meth c T locs cells slots) (hx : p.tables.exec = Jvm.exec) (hZ : Z.Warmed39 s.vm) {own : String} {index : Nat} {v : Int64} (hown : s.vm.findClass own = some m.cls) (w1 : (Jvm.Cond.constantLong own index v).before a0 Z = true) (hd : decode c.code pc = .ok (.ldc2_w index, 3)) (hp : pc + 3 = pc') (k : own_G p e below s Q ce sl (T.setTop (mkF m pc' Ls (.long v :: st)))) : own_G p e below s Q ce sl (T.setTop (mkF m pc Ls st)) := by
  subst hp; exact own_fw (X.ldc2Long hx hown (mvT hZ w1) (g := mkF m pc Ls st) rfl hd) k
theorem own_iadd {x y : Int32} (X : Stand p l e R s m args below meth c T locs cells slots) (hx : p.tables.exec = Jvm.exec) (hd : decode c.code pc = .ok (.iadd, 1)) (hp : pc + 1 = pc') (k : own_G p e below s Q ce sl (T.setTop (mkF m pc' Ls (.int (x + y) :: st)))) : own_G p e below s Q ce sl (T.setTop (mkF m pc Ls (.int y :: .int x :: st))) := by
  subst hp; exact own_fw (fun t q => XS.iadd X.here hx rfl hd rfl q) k
theorem own_isub {x y : Int32} (X : Stand p l e R s m args below meth c T locs cells slots) (hx : p.tables.exec = Jvm.exec) (hd : decode c.code pc = .ok (.isub, 1)) (hp : pc + 1 = pc') (k : own_G p e below s Q ce sl (T.setTop (mkF m pc' Ls (.int (x - y) :: st)))) : own_G p e below s Q ce sl (T.setTop (mkF m pc Ls (.int y :: .int x :: st))) := by
  subst hp; exact own_fw (fun t q => XS.isub X.here hx rfl hd rfl q) k
theorem own_imul {x y : Int32} (X : Stand p l e R s m args below meth c T locs cells slots) (hx : p.tables.exec = Jvm.exec) (hd : decode c.code pc = .ok (.imul, 1)) (hp : pc + 1 = pc') (k : own_G p e below s Q ce sl (T.setTop (mkF m pc' Ls (.int (x * y) :: st)))) : own_G p e below s Q ce sl (T.setTop (mkF m pc Ls (.int y :: .int x :: st))) := by
  subst hp; exact own_fw (fun t q => XS.imul X.here hx rfl hd rfl q) k
theorem own_iand {x y : Int32} (X : Stand p l e R s m args below meth c T locs cells slots) (hx : p.tables.exec = Jvm.exec) (hd : decode c.code pc = .ok (.iand, 1)) (hp : pc + 1 = pc') (k : own_G p e below s Q ce sl (T.setTop (mkF m pc' Ls (.int (x &&& y) :: st)))) : own_G p e below s Q ce sl (T.setTop (mkF m pc Ls (.int y :: .int x :: st))) := by
  subst hp; exact own_fw (fun t q => XS.iand X.here hx rfl hd rfl q) k
theorem own_ior {x y : Int32} (X : Stand p l e R s m args below meth c T locs cells slots) (hx : p.tables.exec = Jvm.exec) (hd : decode c.code pc = .ok (.ior, 1)) (hp : pc + 1 = pc') (k : own_G p e below s Q ce sl (T.setTop (mkF m pc' Ls (.int (x ||| y) :: st)))) : own_G p e below s Q ce sl (T.setTop (mkF m pc Ls (.int y :: .int x :: st))) := by
  subst hp; exact own_fw (fun t q => XS.ior X.here hx rfl hd rfl q) k
theorem own_ixor {x y : Int32} (X : Stand p l e R s m args below meth c T locs cells slots) (hx : p.tables.exec = Jvm.exec) (hd : decode c.code pc = .ok (.ixor, 1)) (hp : pc + 1 = pc') (k : own_G p e below s Q ce sl (T.setTop (mkF m pc' Ls (.int (x ^^^ y) :: st)))) : own_G p e below s Q ce sl (T.setTop (mkF m pc Ls (.int y :: .int x :: st))) := by
  subst hp; exact own_fw (fun t q => XS.ixor X.here hx rfl hd rfl q) k
theorem own_ishl {x y : Int32} (X : Stand p l e R s m args below meth c T locs cells slots) (hx : p.tables.exec = Jvm.exec) (hd : decode c.code pc = .ok (.ishl, 1)) (hp : pc + 1 = pc') (k : own_G p e below s Q ce sl (T.setTop (mkF m pc' Ls (.int (x <<< (y &&& 31)) :: st)))) : own_G p e below s Q ce sl (T.setTop (mkF m pc Ls (.int y :: .int x :: st))) := by
  subst hp; exact own_fw (fun t q => XS.ishl X.here hx rfl hd rfl q) k
theorem own_ishr {x y : Int32} (X : Stand p l e R s m args below meth c T locs cells slots) (hx : p.tables.exec = Jvm.exec) (hd : decode c.code pc = .ok (.ishr, 1)) (hp : pc + 1 = pc') (k : own_G p e below s Q ce sl (T.setTop (mkF m pc' Ls (.int (x >>> (y &&& 31)) :: st)))) : own_G p e below s Q ce sl (T.setTop (mkF m pc Ls (.int y :: .int x :: st))) := by
  subst hp; exact own_fw (fun t q => XS.ishr X.here hx rfl hd rfl q) k
theorem own_iushr {x y : Int32} (X : Stand p l e R s m args below meth c T locs cells slots) (hx : p.tables.exec = Jvm.exec) (hd : decode c.code pc = .ok (.iushr, 1)) (hp : pc + 1 = pc') (k : own_G p e below s Q ce sl (T.setTop (mkF m pc' Ls (.int ((x.toUInt32 >>> (y &&& 31).toUInt32).toInt32) :: st)))) : own_G p e below s Q ce sl (T.setTop (mkF m pc Ls (.int y :: .int x :: st))) := by
  subst hp; exact own_fw (fun t q => XS.iushr X.here hx rfl hd rfl q) k
theorem own_ladd {x y : Int64} (X : Stand p l e R s m args below meth c T locs cells slots) (hx : p.tables.exec = Jvm.exec) (hd : decode c.code pc = .ok (.ladd, 1)) (hp : pc + 1 = pc') (k : own_G p e below s Q ce sl (T.setTop (mkF m pc' Ls (.long (x + y) :: st)))) : own_G p e below s Q ce sl (T.setTop (mkF m pc Ls (.long y :: .long x :: st))) := by
  subst hp; exact own_fw (fun t q => XS.ladd X.here hx rfl hd rfl q) k
theorem own_lsub {x y : Int64} (X : Stand p l e R s m args below meth c T locs cells slots) (hx : p.tables.exec = Jvm.exec) (hd : decode c.code pc = .ok (.lsub, 1)) (hp : pc + 1 = pc') (k : own_G p e below s Q ce sl (T.setTop (mkF m pc' Ls (.long (x - y) :: st)))) : own_G p e below s Q ce sl (T.setTop (mkF m pc Ls (.long y :: .long x :: st))) := by
  subst hp; exact own_fw (fun t q => XS.lsub X.here hx rfl hd rfl q) k
theorem own_lmul {x y : Int64} (X : Stand p l e R s m args below meth c T locs cells slots) (hx : p.tables.exec = Jvm.exec) (hd : decode c.code pc = .ok (.lmul, 1)) (hp : pc + 1 = pc') (k : own_G p e below s Q ce sl (T.setTop (mkF m pc' Ls (.long (x * y) :: st)))) : own_G p e below s Q ce sl (T.setTop (mkF m pc Ls (.long y :: .long x :: st))) := by
  subst hp; exact own_fw (fun t q => XS.lmul X.here hx rfl hd rfl q) k
theorem own_land {x y : Int64} (X : Stand p l e R s m args below meth c T locs cells slots) (hx : p.tables.exec = Jvm.exec) (hd : decode c.code pc = .ok (.land, 1)) (hp : pc + 1 = pc') (k : own_G p e below s Q ce sl (T.setTop (mkF m pc' Ls (.long (x &&& y) :: st)))) : own_G p e below s Q ce sl (T.setTop (mkF m pc Ls (.long y :: .long x :: st))) := by
  subst hp; exact own_fw (fun t q => XS.land X.here hx rfl hd rfl q) k
theorem own_lor {x y : Int64} (X : Stand p l e R s m args below meth c T locs cells slots) (hx : p.tables.exec = Jvm.exec) (hd : decode c.code pc = .ok (.lor, 1)) (hp : pc + 1 = pc') (k : own_G p e below s Q ce sl (T.setTop (mkF m pc' Ls (.long (x ||| y) :: st)))) : own_G p e below s Q ce sl (T.setTop (mkF m pc Ls (.long y :: .long x :: st))) := by
  subst hp; exact own_fw (fun t q => XS.lor X.here hx rfl hd rfl q) k
theorem own_lxor {x y : Int64} (X : Stand p l e R s m args below meth c T locs cells slots) (hx : p.tables.exec = Jvm.exec) (hd : decode c.code pc = .ok (.lxor, 1)) (hp : pc + 1 = pc') (k : own_G p e below s Q ce sl (T.setTop (mkF m pc' Ls (.long (x ^^^ y) :: st)))) : own_G p e below s Q ce sl (T.setTop (mkF m pc Ls (.long y :: .long x :: st))) := by
  subst hp; exact own_fw (fun t q => XS.lxor X.here hx rfl hd rfl q) k
theorem own_lshl {x : Int64} {y : Int32} (X : Stand p l e R s m args below meth c T locs cells slots) (hx : p.tables.exec = Jvm.exec) (hd : decode c.code pc = .ok (.lshl, 1)) (hp : pc + 1 = pc') (k : own_G p e below s Q ce sl (T.setTop (mkF m pc' Ls (.long (x <<< (y &&& 0x3f).toInt64) :: st)))) : own_G p e below s Q ce sl (T.setTop (mkF m pc Ls (.int y :: .long x :: st))) := by
  subst hp; exact own_fw (fun t q => XS.lshl X.here hx rfl hd rfl q) k
theorem own_lshr {x : Int64} {y : Int32} (X : Stand p l e R s m args below meth c T locs cells slots) (hx : p.tables.exec = Jvm.exec) (hd : decode c.code pc = .ok (.lshr, 1)) (hp : pc + 1 = pc') (k : own_G p e below s Q ce sl (T.setTop (mkF m pc' Ls (.long (x >>> (y &&& 0x3f).toInt64) :: st)))) : own_G p e below s Q ce sl (T.setTop (mkF m pc Ls (.int y :: .long x :: st))) := by
  subst hp; exact own_fw (fun t q => XS.lshr X.here hx rfl hd rfl q) k
theorem own_lushr {x : Int64} {y : Int32} (X : Stand p l e R s m args below meth c T locs cells slots) (hx : p.tables.exec = Jvm.exec) (hd : decode c.code pc = .ok (.lushr, 1)) (hp : pc + 1 = pc') (k : own_G p e below s Q ce sl (T.setTop (mkF m pc' Ls (.long ((x.toUInt64 >>> (y &&& 0x3f).toInt64.toUInt64).toInt64) :: st)))) : own_G p e below s Q ce sl (T.setTop (mkF m pc Ls (.int y :: .long x :: st))) := by
  subst hp; exact own_fw (fun t q => XS.lushr X.here hx rfl hd rfl q) k
theorem own_idiv {x y : Int32} (X : Stand p l e R s m args below meth c T locs cells slots) (hx : p.tables.exec = Jvm.exec) (hd : decode c.code pc = .ok (.idiv, 1)) (hy : y ≠ 0) (hp : pc + 1 = pc') (k : own_G p e below s Q ce sl (T.setTop (mkF m pc' Ls (.int (x / y) :: st)))) : own_G p e below s Q ce sl (T.setTop (mkF m pc Ls (.int y :: .int x :: st))) := by
  subst hp; exact own_fw (fun t q => XS.idiv X.here hx rfl hd rfl hy q) k
theorem own_ldiv {x y : Int64} (X : Stand p l e R s m args below meth c T locs cells slots) (hx : p.tables.exec = Jvm.exec) (hd : decode c.code pc = .ok (.ldiv, 1)) (hy : y ≠ 0) (hp : pc + 1 = pc') (k : own_G p e below s Q ce sl (T.setTop (mkF m pc' Ls (.long (x / y) :: st)))) : own_G p e below s Q ce sl (T.setTop (mkF m pc Ls (.long y :: .long x :: st))) := by
  subst hp; exact own_fw (fun t q => XS.ldiv X.here hx rfl hd rfl hy q) k
theorem own_irem {x y : Int32} (X : Stand p l e R s m args below meth c T locs cells slots) (hx : p.tables.exec = Jvm.exec) (hd : decode c.code pc = .ok (.irem, 1)) (hy : y ≠ 0) (hp : pc + 1 = pc') (k : own_G p e below s Q ce sl (T.setTop (mkF m pc' Ls (.int (x % y) :: st)))) : own_G p e below s Q ce sl (T.setTop (mkF m pc Ls (.int y :: .int x :: st))) := by
  subst hp; exact own_fw (fun t q => iremM X hx rfl hd rfl hy q) k
theorem own_lrem {x y : Int64} (X : Stand p l e R s m args below meth c T locs cells slots) (hx : p.tables.exec = Jvm.exec) (hd : decode c.code pc = .ok (.lrem, 1)) (hy : y ≠ 0) (hp : pc + 1 = pc') (k : own_G p e below s Q ce sl (T.setTop (mkF m pc' Ls (.long (x % y) :: st)))) : own_G p e below s Q ce sl (T.setTop (mkF m pc Ls (.long y :: .long x :: st))) := by
  subst hp; rw [← lrem_mod] at k; exact own_fw (fun t q => XS.lrem X.here hx rfl hd rfl hy q) k
theorem own_ineg {x : Int32} (X : Stand p l e R s m args below meth c T locs cells slots) (hx : p.tables.exec = Jvm.exec) (hd : decode c.code pc = .ok (.ineg, 1)) (hp : pc + 1 = pc') (k : own_G p e below s Q ce sl (T.setTop (mkF m pc' Ls (.int (-x) :: st)))) : own_G p e below s Q ce sl (T.setTop (mkF m pc Ls (.int x :: st))) := by
  subst hp; exact own_fw (fun t q => XS.ineg X.here hx rfl hd rfl q) k
theorem own_lneg {x : Int64} (X : Stand p l e R s m args below meth c T locs cells slots) (hx : p.tables.exec = Jvm.exec) (hd : decode c.code pc = .ok (.lneg, 1)) (hp : pc + 1 = pc') (k : own_G p e below s Q ce sl (T.setTop (mkF m pc' Ls (.long (-x) :: st)))) : own_G p e below s Q ce sl (T.setTop (mkF m pc Ls (.long x :: st))) := by
  subst hp; exact own_fw (fun t q => XS.lneg X.here hx rfl hd rfl q) k
theorem own_i2l {x : Int32} (X : Stand p l e R s m args below meth c T locs cells slots) (hx : p.tables.exec = Jvm.exec) (hd : decode c.code pc = .ok (.i2l, 1)) (hp : pc + 1 = pc') (k : own_G p e below s Q ce sl (T.setTop (mkF m pc' Ls (.long x.toInt64 :: st)))) : own_G p e below s Q ce sl (T.setTop (mkF m pc Ls (.int x :: st))) := by
  subst hp; exact own_fw (fun t q => XS.i2l X.here hx rfl hd rfl q) k
theorem own_l2i {x : Int64} (X : Stand p l e R s m args below meth c T locs cells slots) (hx : p.tables.exec = Jvm.exec) (hd : decode c.code pc = .ok (.l2i, 1)) (hp : pc + 1 = pc') (k : own_G p e below s Q ce sl (T.setTop (mkF m pc' Ls (.int x.toInt32 :: st)))) : own_G p e below s Q ce sl (T.setTop (mkF m pc Ls (.long x :: st))) := by
  subst hp; exact own_fw (fun t q => XS.l2i X.here hx rfl hd rfl q) k
theorem own_i2b {x : Int32} (X : Stand p l e R s m args below meth c T locs cells slots) (hx : p.tables.exec = Jvm.exec) (hd : decode c.code pc = .ok (.i2b, 1)) (hp : pc + 1 = pc') (k : own_G p e below s Q ce sl (T.setTop (mkF m pc' Ls (.int x.toInt8.toInt32 :: st)))) : own_G p e below s Q ce sl (T.setTop (mkF m pc Ls (.int x :: st))) := by
  subst hp; exact own_fw (fun t q => XS.i2b X.here hx rfl hd rfl q) k
theorem own_lcmp {x y : Int64} (X : Stand p l e R s m args below meth c T locs cells slots) (hx : p.tables.exec = Jvm.exec) (hd : decode c.code pc = .ok (.lcmp, 1)) (hp : pc + 1 = pc') (k : own_G p e below s Q ce sl (T.setTop (mkF m pc' Ls (.int (lcmpW x y) :: st)))) : own_G p e below s Q ce sl (T.setTop (mkF m pc Ls (.long y :: .long x :: st))) := by
  subst hp; exact own_fw (fun t q => XS.lcmp X.here hx rfl hd rfl q) k
theorem own_dup {x : Value} (X : Stand p l e R s m args below meth c T locs cells slots) (hx : p.tables.exec = Jvm.exec) (hd : decode c.code pc = .ok (.dup, 1)) (hc : x.category = 1) (hp : pc + 1 = pc') (k : own_G p e below s Q ce sl (T.setTop (mkF m pc' Ls (x :: x :: st)))) : own_G p e below s Q ce sl (T.setTop (mkF m pc Ls (x :: st))) := by
  subst hp; exact own_fw (fun t q => XS.dup X.here hx rfl hd rfl hc q) k
theorem own_pop {x : Value} (X : Stand p l e R s m args below meth c T locs cells slots) (hx : p.tables.exec = Jvm.exec) (hd : decode c.code pc = .ok (.pop, 1)) (hc : x.category = 1) (hp : pc + 1 = pc') (k : own_G p e below s Q ce sl (T.setTop (mkF m pc' Ls st))) : own_G p e below s Q ce sl (T.setTop (mkF m pc Ls (x :: st))) := by
  subst hp; exact own_fw (fun t q => XS.pop X.here hx rfl hd rfl hc q) k
theorem own_dupX1 {x y : Value} (X : Stand p l e R s m args below meth c T locs cells slots) (hx : p.tables.exec = Jvm.exec) (hd : decode c.code pc = .ok (.dup_x1, 1)) (hc : x.category = 1) (hc' : y.category = 1) (hp : pc + 1 = pc') (k : own_G p e below s Q ce sl (T.setTop (mkF m pc' Ls (x :: y :: x :: st)))) : own_G p e below s Q ce sl (T.setTop (mkF m pc Ls (x :: y :: st))) := by
  subst hp; exact own_fw (fun t q => XS.dupX1 X.here hx rfl hd rfl hc hc' q) k
theorem own_dup2 {x y : Value} (X : Stand p l e R s m args below meth c T locs cells slots) (hx : p.tables.exec = Jvm.exec) (hd : decode c.code pc = .ok (.dup2, 1)) (hc : x.category = 1) (hc' : y.category = 1) (hp : pc + 1 = pc') (k : own_G p e below s Q ce sl (T.setTop (mkF m pc' Ls (x :: y :: x :: y :: st)))) : own_G p e below s Q ce sl (T.setTop (mkF m pc Ls (x :: y :: st))) := by
  subst hp; exact own_fw (fun t q => XT.dup2 X.here hx rfl hd rfl hc hc' q) k
theorem own_iinc {i : Nat} {cst : Int} {x z : Int32} (X : Stand p l e R s m args below meth c T locs cells slots) (hx : p.tables.exec = Jvm.exec) (hd : decode c.code pc = .ok (.iinc i cst, 3)) (hl : Ls[i]? = some (.val (.int x))) (hz : Int32.ofInt cst = z) {l' : Array Slot} (hl' : storeLocals Ls i (.int (x + z)) = some l') (hp : pc + 3 = pc') (k : own_G p e below s Q ce sl (T.setTop (mkF m pc' l' st))) : own_G p e below s Q ce sl (T.setTop (mkF m pc Ls st)) := by
  subst hp hz; exact own_fw (fun t q => XS.iinc X.here hx rfl hd hl hl' q) k
theorem own_goto {o : Int} (X : Stand p l e R s m args below meth c T locs cells slots) (hx : p.tables.exec = Jvm.exec) (hd : decode c.code pc = .ok (.goto o, 3)) (ho : 0 ≤ (pc : Int) + o) (hp : ((pc : Int) + o).toNat = pc') (k : own_G p e below s Q ce sl (T.setTop (mkF m pc' Ls st))) : own_G p e below s Q ce sl (T.setTop (mkF m pc Ls st)) := own_fw (fun t q => XS.goto X.here hx rfl (pc0 := pc) rfl hd ho hp q) k
theorem own_icmpT {o : Int} {cd : ClassFile.Cond} {x y : Int32} (X : Stand p l e R s m args below meth c T locs cells slots) (hx : p.tables.exec = Jvm.exec) (hd : decode c.code pc = .ok (.if_icmp cd o, 3)) (hc : if_icmp.holds cd x y = true) (ho : 0 ≤ (pc : Int) + o) (hp : ((pc : Int) + o).toNat = pc') (k : own_G p e below s Q ce sl (T.setTop (mkF m pc' Ls st))) : own_G p e below s Q ce sl (T.setTop (mkF m pc Ls (.int y :: .int x :: st))) := own_fw (fun t q => XS.icmpYes X.here hx rfl (pc0 := pc) rfl hd rfl hc ho hp q) k
theorem own_icmpF {o : Int} {cd : ClassFile.Cond} {x y : Int32} (X : Stand p l e R s m args below meth c T locs cells slots) (hx : p.tables.exec = Jvm.exec) (hd : decode c.code pc = .ok (.if_icmp cd o, 3)) (hc : if_icmp.holds cd x y = false) (hp : pc + 3 = pc') (k : own_G p e below s Q ce sl (T.setTop (mkF m pc' Ls st))) : own_G p e below s Q ce sl (T.setTop (mkF m pc Ls (.int y :: .int x :: st))) := by
  subst hp; exact own_fw (fun t q => XS.icmpNo X.here hx rfl hd rfl hc q) k
theorem own_ifT {o : Int} {cd : ClassFile.Cond} {x : Int32} (X : Stand p l e R s m args below meth c T locs cells slots) (hx : p.tables.exec = Jvm.exec) (hd : decode c.code pc = .ok (.ifCond cd o, 3)) (hc : if_icmp.holds cd x 0 = true) (ho : 0 ≤ (pc : Int) + o) (hp : ((pc : Int) + o).toNat = pc') (k : own_G p e below s Q ce sl (T.setTop (mkF m pc' Ls st))) : own_G p e below s Q ce sl (T.setTop (mkF m pc Ls (.int x :: st))) := own_fw (fun t q => XS.ifYes X.here hx rfl (pc0 := pc) rfl hd rfl ((if0 cd x).trans hc) ho hp q) k
theorem own_ifF {o : Int} {cd : ClassFile.Cond} {x : Int32} (X : Stand p l e R s m args below meth c T locs cells slots) (hx : p.tables.exec = Jvm.exec) (hd : decode c.code pc = .ok (.ifCond cd o, 3)) (hc : if_icmp.holds cd x 0 = false) (hp : pc + 3 = pc') (k : own_G p e below s Q ce sl (T.setTop (mkF m pc' Ls st))) : own_G p e below s Q ce sl (T.setTop (mkF m pc Ls (.int x :: st))) := by
  subst hp; exact own_fw (fun t q => XS.ifNo X.here hx rfl hd rfl ((if0 cd x).trans hc) q) k
theorem own_ltL {x y : Int64} (h : x < y) : if_icmp.holds .lt (lcmpW x y) 0 = true ∧ if_icmp.holds .ge (lcmpW x y) 0 = false ∧ if_icmp.holds .gt (lcmpW y x) 0 = true ∧ if_icmp.holds .le (lcmpW y x) 0 = false := by
  have h1 := (lw_lt x y).mpr h
  have h2 := (lw_gt y x).mpr h
  exact ⟨(tlt h1).1, (tlt h1).2.1, (tlt h2).2.2.1, (tlt h2).2.2.2⟩
theorem own_geL {x y : Int64} (h : ¬ x < y) : if_icmp.holds .lt (lcmpW x y) 0 = false ∧ if_icmp.holds .ge (lcmpW x y) 0 = true ∧ if_icmp.holds .gt (lcmpW y x) 0 = false ∧ if_icmp.holds .le (lcmpW y x) 0 = true := by
  have h1 : ¬ lcmpW x y < 0 := fun q => h ((lw_lt x y).mp q)
  have h2 : ¬ 0 < lcmpW y x := fun q => h ((lw_gt y x).mp q)
  exact ⟨(flt h1).1, (flt h1).2.1, (flt h2).2.2.1, (flt h2).2.2.2⟩
theorem own_eqL {x y : Int64} (h : x = y) : if_icmp.holds .eq (lcmpW x y) 0 = true ∧ if_icmp.holds .ne (lcmpW x y) 0 = false := teq ((lw_eq x y).mpr h)
theorem own_neL {x y : Int64} (h : ¬ x = y) : if_icmp.holds .eq (lcmpW x y) 0 = false ∧ if_icmp.holds .ne (lcmpW x y) 0 = true := feq (fun q => h ((lw_eq x y).mp q))
theorem own_bT {P : Prop} [Decidable P] (h : P) : if_icmp.holds .eq (if P then (1 : Int32) else 0) 0 = false ∧ if_icmp.holds .ne (if P then (1 : Int32) else 0) 0 = true := by rw [if_pos h]; exact ⟨rfl, rfl⟩
theorem own_bF {P : Prop} [Decidable P] (h : ¬ P) : if_icmp.holds .eq (if P then (1 : Int32) else 0) 0 = true ∧ if_icmp.holds .ne (if P then (1 : Int32) else 0) 0 = false := by rw [if_neg h]; exact ⟨rfl, rfl⟩
theorem own_b01 {P : Prop} [Decidable P] : (if P then (1 : Int32) else 0) = 0 ∨ (if P then (1 : Int32) else 0) = 1 := by by_cases h : P <;> simp [h]
theorem own_ifnonnullT {o : Int} {b : Addr} (X : Stand p l e R s m args below meth c T locs cells slots) (hx : p.tables.exec = Jvm.exec) (hd : decode c.code pc = .ok (.ifnonnull o, 3)) (ho : 0 ≤ (pc : Int) + o) (hp : ((pc : Int) + o).toNat = pc') (k : own_G p e below s Q ce sl (T.setTop (mkF m pc' Ls st))) : own_G p e below s Q ce sl (T.setTop (mkF m pc Ls (.ref b :: st))) := own_fw (fun t q => XS.ifnonnullYes X.here hx rfl (pc0 := pc) rfl hd rfl ho hp q) k
theorem own_ifnonnullF {o : Int} (X : Stand p l e R s m args below meth c T locs cells slots) (hx : p.tables.exec = Jvm.exec) (hd : decode c.code pc = .ok (.ifnonnull o, 3)) (hp : pc + 3 = pc') (k : own_G p e below s Q ce sl (T.setTop (mkF m pc' Ls st))) : own_G p e below s Q ce sl (T.setTop (mkF m pc Ls (.null :: st))) := by
  subst hp; exact own_fw (fun t q => XS.ifnonnullNo X.here hx rfl hd rfl q) k
theorem own_ifnullT {o : Int} (X : Stand p l e R s m args below meth c T locs cells slots) (hx : p.tables.exec = Jvm.exec) (hd : decode c.code pc = .ok (.ifnull o, 3)) (ho : 0 ≤ (pc : Int) + o) (hp : ((pc : Int) + o).toNat = pc') (k : own_G p e below s Q ce sl (T.setTop (mkF m pc' Ls st))) : own_G p e below s Q ce sl (T.setTop (mkF m pc Ls (.null :: st))) := own_fw (fun t q => XS.ifnullYes X.here hx rfl (pc0 := pc) rfl hd rfl ho hp q) k
theorem own_ifnullF {o : Int} {b : Addr} (X : Stand p l e R s m args below meth c T locs cells slots) (hx : p.tables.exec = Jvm.exec) (hd : decode c.code pc = .ok (.ifnull o, 3)) (hp : pc + 3 = pc') (k : own_G p e below s Q ce sl (T.setTop (mkF m pc' Ls st))) : own_G p e below s Q ce sl (T.setTop (mkF m pc Ls (.ref b :: st))) := by
  subst hp; exact own_fw (fun t q => XS.ifnullNo X.here hx rfl hd rfl q) k
theorem own_acmpT {o : Int} {cd : ACond} {x y : Value} (X : Stand p l e R s m args below meth c T locs cells slots) (hx : p.tables.exec = Jvm.exec) (hd : decode c.code pc = .ok (.if_acmp cd o, 3)) (h1 : x.isRef = true) (h2 : y.isRef = true) (hc : XT.acmp cd x y = true) (ho : 0 ≤ (pc : Int) + o) (hp : ((pc : Int) + o).toNat = pc') (k : own_G p e below s Q ce sl (T.setTop (mkF m pc' Ls st))) : own_G p e below s Q ce sl (T.setTop (mkF m pc Ls (y :: x :: st))) := own_fw (fun t q => XT.acmpYes X.here hx rfl (pc0 := pc) rfl hd rfl h1 h2 hc ho hp q) k
theorem own_acmpF {o : Int} {cd : ACond} {x y : Value} (X : Stand p l e R s m args below meth c T locs cells slots) (hx : p.tables.exec = Jvm.exec) (hd : decode c.code pc = .ok (.if_acmp cd o, 3)) (h1 : x.isRef = true) (h2 : y.isRef = true) (hc : XT.acmp cd x y = false) (hp : pc + 3 = pc') (k : own_G p e below s Q ce sl (T.setTop (mkF m pc' Ls st))) : own_G p e below s Q ce sl (T.setTop (mkF m pc Ls (y :: x :: st))) := by
  subst hp; exact own_fw (fun t q => XT.acmpNo X.here hx rfl hd rfl h1 h2 hc q) k
theorem own_getF (X : Stand p l e R s m args below meth c T locs cells slots) (hx : p.tables.exec = Jvm.exec) (hZ : Z.Warmed39 s.vm) {own O n d : String} {index : Nat} (hown : s.vm.findClass own = some m.cls) (w1 : (Jvm.Cond.fieldLink own index O n d).before a0 Z = true) (eT : T.heap = h) {a : Addr} {v : Value} (F : Fld Z h a O n d v) (hd : decode c.code pc = .ok (.getfield index, 3)) (hp : pc + 3 = pc')
    (k : ∀ T' : State, Stand p l e R s m args below meth c T' locs cells slots → T'.heap = h → own_G p e below s Q ce sl (T'.setTop (mkF m pc' Ls (v :: st)))) : own_G p e below s Q ce sl (T.setTop (mkF m pc Ls (.ref a :: st))) := by
  subst hp
  obtain ⟨T', X', e', st'⟩ := getF X hx hZ hown (host := "") (Or.inl w1) Via.refl eT F (g := mkF m pc Ls (.ref a :: st)) rfl rfl hd
  exact own_fw st' (k T' X' e')
theorem own_putF (X : Stand p l e R s m args below meth c T locs cells slots) (hx : p.tables.exec = Jvm.exec) (hZ : Z.Warmed39 s.vm) {own O n d C : String} {index kk : Nat} {ty : FieldType} (hown : s.vm.findClass own = some m.cls) (w1 : (Jvm.Cond.fieldLink own index O n d).before a0 Z = true) (eT : T.heap = h) {a : Addr} {v old : Value} (F : Fld Z h a O n d old) (E : Exa Z h a C) (L : (Jvm.Cond.lays C O n d).before a0 Z = true ∨ ((Jvm.Cond.laysFinal C O n d).before a0 Z = true ∧ own = O ∧ meth.name = "<init>")) (wi : (Jvm.Cond.instantiable C kk).before a0 Z = true) (hty : parseFieldDescriptor d = some ty) (hn : narrow ty v = v) (hf : fits ty v = true) (hd : decode c.code pc = .ok (.putfield index, 3)) (hp : pc + 3 = pc')
    (k : ∀ (T' : State) (h' : Heap), Stand p l e R s m args below meth c T' (locs ++ [⟨a, RoadKit.slotOf Z O n d⟩]) cells slots → T'.heap = h' → Wr h h' a (RoadKit.slotOf Z O n d) v → own_G p e below s Q ce sl (T'.setTop (mkF m pc' Ls st))) : own_G p e below s Q ce sl (T.setTop (mkF m pc Ls (v :: .ref a :: st))) := by
  subst hp
  obtain ⟨T', h', X', e', W', st'⟩ := putF X hx hZ hown (host := "") (Or.inl w1) Via.refl eT F E L wi hty hn hf (g := mkF m pc Ls (v :: .ref a :: st)) rfl rfl hd
  exact own_fw st' (k T' h' X' e' W')
theorem own_new (X : Stand p l e R s m args below meth c T locs cells slots) (hx : p.tables.exec = Jvm.exec) (hZ : Z.Warmed39 s.vm) {own C : String} {index n : Nat} (hown : s.vm.findClass own = some m.cls) (w1 : (Jvm.Cond.classLink own index C).before a0 Z = true) (wi : (Jvm.Cond.instantiable C n).before a0 Z = true) (wz : (Jvm.Cond.initialized C).before a0 Z = true) (eT : T.heap = h) (hd : decode c.code pc = .ok (.new index, 3)) (hp : pc + 3 = pc') (hc : cells + 1 ≤ R.cells) (hl : slots + n ≤ R.slots)
    (k : ∀ (T' : State) (h' : Heap) (a : Addr), a = h.size → Stand p l e R s m args below meth c T' locs (cells + 1) (slots + n) → T'.heap = h' → Ext h h' → Exa Z h' a C → (∀ {O nm d : String} {ty : FieldType}, Laid Z a0 C O nm d → parseFieldDescriptor d = some ty → Fld Z h' a O nm d (defaultValue ty)) → own_G p e below s Q ce sl (T'.setTop (mkF m pc' Ls (.ref a :: st)))) : own_G p e below s Q ce sl (T.setTop (mkF m pc Ls st)) := by
  subst hp
  obtain ⟨T', h', X', e', E', A', D', -, st'⟩ := newO X hx hZ hown w1 wi wz eT (g := mkF m pc Ls st) rfl hd hc hl
  exact own_fw st' (k T' h' h.size rfl X' e' E' A' D')
theorem own_initO (X : Stand p l e R s m args below meth c T locs cells slots) (hx : p.tables.exec = Jvm.exec) (hZ : Z.Warmed39 s.vm) {own : String} {idx : Nat} (hown : s.vm.findClass own = some m.cls) (w1 : (Jvm.Cond.methodLink own idx Lib.objectInit).before a0 Z = true) (w2 : (Jvm.Cond.instanceMethod Lib.objectInit).before a0 Z = true) (w3 : (Jvm.Cond.code Lib.objectInit object_method_1_code 1 none).before a0 Z = true) (eT : T.heap = h) (hsize : Ls.size = c.maxLocals) {a : Addr} (hd : decode c.code pc = .ok (.invokespecial idx, 3)) (hf : 1 ≤ R.frames) {W : Nat} (hW : (st.map fun v => v.category).sum ≤ W) (hl : W + 12 ≤ R.locals) (hp : pc + 3 = pc')
    (k : ∀ T' : State, Stand p l e R s m args below meth c T' locs cells slots → T'.heap = h → own_G p e below s Q ce sl (T'.setTop (mkF m pc' Ls st))) : own_G p e below s Q ce sl (T.setTop (mkF m pc Ls (.ref a :: st))) := by
  subst hp
  obtain ⟨T', X', e', st'⟩ := initO X hx hZ hown w1 w2 w3 eT (g := mkF m pc Ls (.ref a :: st)) rfl hsize rfl hd hf (W := W) (by show 2 * 0 + _ ≤ _; omega) hl
  exact own_fw st' (k T' X' e')
theorem own_callS (X : Stand p l e R s m args below meth c T locs cells slots) (hx : p.tables.exec = Jvm.exec) (hZ : Z.Warmed39 s.vm) {own : String} {index : Nat} {y : MethodName} {bytes : ByteArray} {maxL : Nat} {ret : Option FieldType} (hown : s.vm.findClass own = some m.cls) (w1 : (Jvm.Cond.methodLink own index y).before a0 Z = true) (w2 : (Jvm.Cond.static y).before a0 Z = true) (w3 : (Jvm.Cond.initialized y.cls).before a0 Z = true) (w4 : (Jvm.Cond.code y bytes maxL ret).before a0 Z = true) (hy : y.cls ≠ "java/lang/invoke/MethodHandle" ∧ y.cls ≠ "java/lang/invoke/VarHandle") {rm : Room} {as' : List Value} {Q' : Option Value → Heap → List Loc → Prop} (hM : own_M l Z y bytes maxL ret [] rm as'.toArray h Q' rm.cells rm.slots) (eT : T.heap = h) {W : Nat} (hf : rm.frames + 1 ≤ R.frames) (hl : W + (maxL + 11) + rm.locals ≤ R.locals) {ps : List FieldType} {r : Option FieldType} (pd : parseMethodDescriptor y.desc = some ⟨ps, r⟩) (hlen : as'.length = ps.length) {stk rest : List Value} (hstk : stk = as'.reverse ++ rest) (hd : decode c.code pc = .ok (.invokestatic index, 3)) (hW : (rest.map fun v => v.category).sum ≤ W) (hsize : Ls.size = c.maxLocals) (hc : cells + rm.cells ≤ R.cells) (hs : slots + rm.slots ≤ R.slots) (hp : pc + 3 = pc')
    (k : ∀ (v : Option Value) (T' : State) (L : List Loc), Stand p l e R s m args below meth c T' (locs ++ L) (cells + rm.cells) (slots + rm.slots) → Q' v T'.heap L → own_G p e below s Q ce sl (T'.setTop (mkF m pc' Ls (v.toList ++ rest)))) : own_G p e below s Q ce sl (T.setTop (mkF m pc Ls stk)) := by
  subst hp hstk
  obtain ⟨v, vm1, ⟨T', L', k', n'⟩, hWm, X', ⟨Lc, hQ', l', y', z'⟩, st'⟩ := Jvm.LawKit.callS X hx (y := y) hown (mvT hZ w1) (mvT hZ w2) (mvT hZ w3) (mvT hZ w4) hy (backOf (W := W) hM hZ w4 w3 hf hl) (g := mkF m pc Ls (as'.reverse ++ rest)) rfl hsize (argsL := as') (rest := rest) (lenOf pd hlen) rfl (by show 2 * 0 + _ ≤ _; omega) hd (fun _ _ => ⟨rfl, eT, hc, hs⟩)
  dsimp only [Pt.U, Pt.locs, Pt.cells, Pt.slots] at X' l' y' z' hQ'
  subst l' y' z'
  exact own_fw st' (k v T' Lc X' hQ')
theorem own_callC (X : Stand p l e R s m args below meth c T locs cells slots) (hx : p.tables.exec = Jvm.exec) (hZ : Z.Warmed39 s.vm) {own : String} {index : Nat} {y : MethodName} {bytes : ByteArray} {maxL : Nat} (hy1 : y.name = "<init>") (hown : s.vm.findClass own = some m.cls) (w1 : (Jvm.Cond.methodLink own index y).before a0 Z = true) (w2 : (Jvm.Cond.instanceMethod y).before a0 Z = true) (w3 : (Jvm.Cond.initialized y.cls).before a0 Z = true) (w4 : (Jvm.Cond.code y bytes maxL none).before a0 Z = true) (hy : y.cls ≠ "java/lang/invoke/MethodHandle" ∧ y.cls ≠ "java/lang/invoke/VarHandle") {a : Addr} {rm : Room} {as' : List Value} {Q' : Option Value → Heap → List Loc → Prop} (hM : own_M l Z y bytes maxL none [] rm (.ref a :: as').toArray h Q' rm.cells rm.slots) (eT : T.heap = h) {W : Nat} (hf : rm.frames + 1 ≤ R.frames) (hl : W + (maxL + 11) + rm.locals ≤ R.locals) {ps : List FieldType} {r : Option FieldType} (pd : parseMethodDescriptor y.desc = some ⟨ps, r⟩) (hlen : as'.length = ps.length) {stk rest : List Value} (hstk : stk = as'.reverse ++ .ref a :: rest) (hd : decode c.code pc = .ok (.invokespecial index, 3)) (hW : (rest.map fun v => v.category).sum ≤ W) (hsize : Ls.size = c.maxLocals) (hc : cells + rm.cells ≤ R.cells) (hs : slots + rm.slots ≤ R.slots) (hp : pc + 3 = pc')
    (k : ∀ (v : Option Value) (T' : State) (L : List Loc), Stand p l e R s m args below meth c T' (locs ++ L) (cells + rm.cells) (slots + rm.slots) → Q' v T'.heap L → own_G p e below s Q ce sl (T'.setTop (mkF m pc' Ls (v.toList ++ rest)))) : own_G p e below s Q ce sl (T.setTop (mkF m pc Ls stk)) := by
  subst hp hstk
  obtain ⟨v, vm1, ⟨T', L', k', n'⟩, hWm, X', ⟨Lc, hQ', l', y', z'⟩, st'⟩ := X.specialBack hx (y := y) hy1 hown (mvT hZ w1) (mvT hZ w2) (mvT hZ w4) hy (backOf (W := W) hM hZ w4 w3 hf hl) (g := mkF m pc Ls (as'.reverse ++ .ref a :: rest)) rfl hsize (Steps.refl _) (a := a) (argsL := as') (rest := rest) (lenOf pd hlen) rfl (by show 2 * 0 + _ ≤ _; omega) hd (fun _ _ => ⟨rfl, eT, hc, hs⟩)
  dsimp only [Pt.U, Pt.locs, Pt.cells, Pt.slots] at X' l' y' z' hQ'
  subst l' y' z'
  exact own_fw (fun t q => st'.trans q) (k v T' Lc X' hQ')
theorem own_callV (X : Stand p l e R s m args below meth c T locs cells slots) (hx : p.tables.exec = Jvm.exec) (hZ : Z.Warmed39 s.vm) {own C : String} {index : Nat} {y : MethodName} {bytes : ByteArray} {maxL : Nat} {ret : Option FieldType} (hown : s.vm.findClass own = some m.cls) (w1 : (Jvm.Cond.methodLink own index y).before a0 Z = true) (w2 : (Jvm.Cond.declares y).before a0 Z = true) (w3 : (Jvm.Cond.selects C y y).before a0 Z = true) (w4 : (Jvm.Cond.instanceMethod y).before a0 Z = true) (w5 : (Jvm.Cond.initialized y.cls).before a0 Z = true) (w6 : (Jvm.Cond.code y bytes maxL ret).before a0 Z = true) (hy : y.cls ≠ "java/lang/invoke/MethodHandle" ∧ y.cls ≠ "java/lang/invoke/VarHandle") {a : Addr} (E : Exa Z h a C) {rm : Room} {as' : List Value} {Q' : Option Value → Heap → List Loc → Prop} (hM : own_M l Z y bytes maxL ret [] rm (.ref a :: as').toArray h Q' rm.cells rm.slots) (eT : T.heap = h) {W : Nat} (hf : rm.frames + 1 ≤ R.frames) (hl : W + (maxL + 11) + rm.locals ≤ R.locals) {ps : List FieldType} {r : Option FieldType} (pd : parseMethodDescriptor y.desc = some ⟨ps, r⟩) (hlen : as'.length = ps.length) {stk rest : List Value} (hstk : stk = as'.reverse ++ .ref a :: rest) (hd : decode c.code pc = .ok (.invokevirtual index, 3)) (hW : (rest.map fun v => v.category).sum ≤ W) (hsize : Ls.size = c.maxLocals) (hc : cells + rm.cells ≤ R.cells) (hs : slots + rm.slots ≤ R.slots) (hp : pc + 3 = pc')
    (k : ∀ (v : Option Value) (T' : State) (L : List Loc), Stand p l e R s m args below meth c T' (locs ++ L) (cells + rm.cells) (slots + rm.slots) → Q' v T'.heap L → own_G p e below s Q ce sl (T'.setTop (mkF m pc' Ls (v.toList ++ rest)))) : own_G p e below s Q ce sl (T.setTop (mkF m pc Ls stk)) := by
  subst hp hstk
  obtain ⟨cq, kq, qa, qb, qc⟩ := isOf hZ eT E
  obtain ⟨v, vm1, ⟨T', L', k', n'⟩, hWm, X', ⟨Lc, hQ', l', y', z'⟩, st'⟩ := X.virtualBack hx (y := y) (z := y) hown (mvT hZ w1) (mvT hZ w2) (notFace_of_selects (args := #[]) (mvT hZ w3)) (mvT hZ w3) (mvT hZ w4) hy (backOf (W := W) hM hZ w6 w5 hf hl) qa qc (g := mkF m pc Ls (as'.reverse ++ .ref a :: rest)) rfl hsize (Steps.refl _) (argsL := as') (rest := rest) (lenOf pd hlen) rfl (by show 2 * 0 + _ ≤ _; omega) hd (fun _ _ => ⟨rfl, eT, hc, hs⟩)
  dsimp only [Pt.U, Pt.locs, Pt.cells, Pt.slots] at X' l' y' z' hQ'
  subst l' y' z'
  exact own_fw (fun t q => st'.trans q) (k v T' Lc X' hQ')
end OwnHead
theorem od_prog_11_method_1_0 : decode prog_11_method_1_code 0 = .ok (.aload_n 0, 1) := by decide +kernel
theorem od_prog_11_method_1_1 : decode prog_11_method_1_code 1 = .ok (.invokespecial 1, 3) := by decide +kernel
theorem ow_7 {Z : State} {a0 : Array Value} (hw : ∀ d ∈ tables_1, d.before a0 Z = true) : (Jvm.Cond.methodLink "com/example/slot3/slot3/frame/PostChain" (1 : Nat) ({ cls := "java/lang/Object", name := "<init>", desc := "()V" } : Jvm.MethodName)).before a0 Z = true := hw _ (List.mem_of_getElem? (i := 7) rfl)
theorem ow_8 {Z : State} {a0 : Array Value} (hw : ∀ d ∈ tables_1, d.before a0 Z = true) : (Jvm.Cond.instanceMethod ({ cls := "java/lang/Object", name := "<init>", desc := "()V" } : Jvm.MethodName)).before a0 Z = true := hw _ (List.mem_of_getElem? (i := 8) rfl)
theorem ow_9 {Z : State} {a0 : Array Value} (hw : ∀ d ∈ tables_1, d.before a0 Z = true) : (Jvm.Cond.code ({ cls := "java/lang/Object", name := "<init>", desc := "()V" } : Jvm.MethodName) object_method_1_code (1 : Nat) (Option.none : Option Jvm.ClassFile.FieldType)).before a0 Z = true := hw _ (List.mem_of_getElem? (i := 9) rfl)
theorem od_prog_11_method_1_4 : decode prog_11_method_1_code 4 = .ok (.return_, 1) := by decide +kernel
theorem opn_com_example_slot3_slot3_frame_PostChain : plainName "com/example/slot3/slot3/frame/PostChain" = true := by first | (simp [plainName, overriddenIn]; done) | decide +kernel
theorem oef_rm_pci (m : MethodId) (ra : Addr) : entryFrame m #[(.ref ra)] 1 = mkF m 0 #[.val (.ref ra)] [] := by first | (simp [entryFrame, mkF, argsToLocals, Value.category]; done) | rfl
set_option maxRecDepth 65536 in
set_option maxHeartbeats 40000000 in
theorem rm_pci (l : Launch) (Z : State) (a0 : Array Value) (hw : ∀ d ∈ tables_1, d.before a0 Z = true) (ra : Addr) (h0 : Heap) (n0 : Nat) (Z0 : n0 ≤ h0.size)  :
    own_M l Z (⟨"com/example/slot3/slot3/frame/PostChain", "<init>", "()V"⟩ : MethodName) prog_11_method_1_code 1 none [] ({ frames := 1, cells := 0, slots := 0, locals := 12 } : Room) #[(.ref ra)] h0 (fun v h L => v = none ∧ Fr n0 L ∧ (h = h0)) 0 0 := by
  refine own_body (plainFor_of_name opn_com_example_slot3_slot3_frame_PostChain) ?_
  intro p e s m below meth c s1 hx hby hml hown hnm hret hlk hZ X0 e0
  rw [oef_rm_pci m ra]
  have N0 := Fr.nil n0
  refine own_aloadN X0 hx (hb hby od_prog_11_method_1_0) rfl rfl (pc' := 1) rfl ?_
  refine own_initO X0 hx hZ hown (ow_7 hw) (ow_8 hw) (ow_9 hw) e0 (by rw [hml]; rfl) (hb hby od_prog_11_method_1_1) (by decide) (W := 0) (Nat.le_of_eq rfl) (by decide) (pc' := 4) rfl ?_
  intro T1 X1 e1
  exact own_retV X1 hx hret hlk (hb hby od_prog_11_method_1_4) ⟨rfl, N0, e1⟩ (by decide) (by decide)
theorem od_prog_10_method_1_0 : decode prog_10_method_1_code 0 = .ok (.aload_n 0, 1) := by decide +kernel
theorem od_prog_10_method_1_1 : decode prog_10_method_1_code 1 = .ok (.invokespecial 1, 3) := by decide +kernel
theorem ow_16 {Z : State} {a0 : Array Value} (hw : ∀ d ∈ tables_1, d.before a0 Z = true) : (Jvm.Cond.methodLink "com/example/slot3/slot3/frame/Post" (1 : Nat) ({ cls := "java/lang/Object", name := "<init>", desc := "()V" } : Jvm.MethodName)).before a0 Z = true := hw _ (List.mem_of_getElem? (i := 16) rfl)
theorem od_prog_10_method_1_4 : decode prog_10_method_1_code 4 = .ok (.return_, 1) := by decide +kernel
theorem opn_com_example_slot3_slot3_frame_Post : plainName "com/example/slot3/slot3/frame/Post" = true := by first | (simp [plainName, overriddenIn]; done) | decide +kernel
theorem oef_rm_poi (m : MethodId) (ra : Addr) : entryFrame m #[(.ref ra)] 1 = mkF m 0 #[.val (.ref ra)] [] := by first | (simp [entryFrame, mkF, argsToLocals, Value.category]; done) | rfl
set_option maxRecDepth 65536 in
set_option maxHeartbeats 40000000 in
theorem rm_poi (l : Launch) (Z : State) (a0 : Array Value) (hw : ∀ d ∈ tables_1, d.before a0 Z = true) (ra : Addr) (h0 : Heap) (n0 : Nat) (Z0 : n0 ≤ h0.size)  :
    own_M l Z (⟨"com/example/slot3/slot3/frame/Post", "<init>", "()V"⟩ : MethodName) prog_10_method_1_code 1 none [] ({ frames := 1, cells := 0, slots := 0, locals := 12 } : Room) #[(.ref ra)] h0 (fun v h L => v = none ∧ Fr n0 L ∧ (h = h0)) 0 0 := by
  refine own_body (plainFor_of_name opn_com_example_slot3_slot3_frame_Post) ?_
  intro p e s m below meth c s1 hx hby hml hown hnm hret hlk hZ X0 e0
  rw [oef_rm_poi m ra]
  have N0 := Fr.nil n0
  refine own_aloadN X0 hx (hb hby od_prog_10_method_1_0) rfl rfl (pc' := 1) rfl ?_
  refine own_initO X0 hx hZ hown (ow_16 hw) (ow_8 hw) (ow_9 hw) e0 (by rw [hml]; rfl) (hb hby od_prog_10_method_1_1) (by decide) (W := 0) (Nat.le_of_eq rfl) (by decide) (pc' := 4) rfl ?_
  intro T1 X1 e1
  exact own_retV X1 hx hret hlk (hb hby od_prog_10_method_1_4) ⟨rfl, N0, e1⟩ (by decide) (by decide)
theorem od_prog_11_method_3_0 : decode prog_11_method_3_code 0 = .ok (.aload_n 0, 1) := by decide +kernel
theorem od_prog_11_method_3_1 : decode prog_11_method_3_code 1 = .ok (.getfield 13, 3) := by decide +kernel
theorem ow_22 {Z : State} {a0 : Array Value} (hw : ∀ d ∈ tables_1, d.before a0 Z = true) : (Jvm.Cond.fieldLink "com/example/slot3/slot3/frame/PostChain" (13 : Nat) "com/example/slot3/slot3/frame/PostChain" "last" "Lcom/example/slot3/slot3/frame/Post;").before a0 Z = true := hw _ (List.mem_of_getElem? (i := 22) rfl)
theorem od_prog_11_method_3_4 : decode prog_11_method_3_code 4 = .ok (.ifnonnull 11, 3) := by decide +kernel
theorem od_prog_11_method_3_7 : decode prog_11_method_3_code 7 = .ok (.aload_n 0, 1) := by decide +kernel
theorem od_prog_11_method_3_8 : decode prog_11_method_3_code 8 = .ok (.aload_n 1, 1) := by decide +kernel
theorem od_prog_11_method_3_9 : decode prog_11_method_3_code 9 = .ok (.putfield 7, 3) := by decide +kernel
theorem ow_24 {Z : State} {a0 : Array Value} (hw : ∀ d ∈ tables_1, d.before a0 Z = true) : (Jvm.Cond.fieldLink "com/example/slot3/slot3/frame/PostChain" (7 : Nat) "com/example/slot3/slot3/frame/PostChain" "first" "Lcom/example/slot3/slot3/frame/Post;").before a0 Z = true := hw _ (List.mem_of_getElem? (i := 24) rfl)
theorem ow_25 {Z : State} {a0 : Array Value} (hw : ∀ d ∈ tables_1, d.before a0 Z = true) : (Jvm.Cond.lays "com/example/slot3/slot3/frame/PostChain" "com/example/slot3/slot3/frame/PostChain" "first" "Lcom/example/slot3/slot3/frame/Post;").before a0 Z = true := hw _ (List.mem_of_getElem? (i := 25) rfl)
theorem ow_2 {Z : State} {a0 : Array Value} (hw : ∀ d ∈ tables_1, d.before a0 Z = true) : (Jvm.Cond.instantiable "com/example/slot3/slot3/frame/PostChain" (3 : Nat)).before a0 Z = true := hw _ (List.mem_of_getElem? (i := 2) rfl)
theorem od_prog_11_method_3_12 : decode prog_11_method_3_code 12 = .ok (.goto 11, 3) := by decide +kernel
theorem od_prog_11_method_3_23 : decode prog_11_method_3_code 23 = .ok (.aload_n 1, 1) := by decide +kernel
theorem od_prog_11_method_3_24 : decode prog_11_method_3_code 24 = .ok (.aload_n 0, 1) := by decide +kernel
theorem od_prog_11_method_3_25 : decode prog_11_method_3_code 25 = .ok (.getfield 13, 3) := by decide +kernel
theorem ow_23 {Z : State} {a0 : Array Value} (hw : ∀ d ∈ tables_1, d.before a0 Z = true) : (Jvm.Cond.lays "com/example/slot3/slot3/frame/PostChain" "com/example/slot3/slot3/frame/PostChain" "last" "Lcom/example/slot3/slot3/frame/Post;").before a0 Z = true := hw _ (List.mem_of_getElem? (i := 23) rfl)
theorem osn_0 {Z : State} {a0 : Array Value} (hw : ∀ d ∈ tables_1, d.before a0 Z = true) : RoadKit.slotOf Z "com/example/slot3/slot3/frame/PostChain" "last" "Lcom/example/slot3/slot3/frame/Post;" ≠ RoadKit.slotOf Z "com/example/slot3/slot3/frame/PostChain" "first" "Lcom/example/slot3/slot3/frame/Post;" := slot_ne (C := "com/example/slot3/slot3/frame/PostChain") (Or.inl (ow_23 hw)) (Or.inl (ow_25 hw)) (by decide) (t := (.object "com/example/slot3/slot3/frame/Post")) (t' := (.object "com/example/slot3/slot3/frame/Post")) (by decide) (by decide)
theorem od_prog_11_method_3_28 : decode prog_11_method_3_code 28 = .ok (.putfield 16, 3) := by decide +kernel
theorem ow_26 {Z : State} {a0 : Array Value} (hw : ∀ d ∈ tables_1, d.before a0 Z = true) : (Jvm.Cond.fieldLink "com/example/slot3/slot3/frame/PostChain" (16 : Nat) "com/example/slot3/slot3/frame/Post" "previous" "Lcom/example/slot3/slot3/frame/Post;").before a0 Z = true := hw _ (List.mem_of_getElem? (i := 26) rfl)
theorem ow_27 {Z : State} {a0 : Array Value} (hw : ∀ d ∈ tables_1, d.before a0 Z = true) : (Jvm.Cond.lays "com/example/slot3/slot3/frame/Post" "com/example/slot3/slot3/frame/Post" "previous" "Lcom/example/slot3/slot3/frame/Post;").before a0 Z = true := hw _ (List.mem_of_getElem? (i := 27) rfl)
theorem ow_11 {Z : State} {a0 : Array Value} (hw : ∀ d ∈ tables_1, d.before a0 Z = true) : (Jvm.Cond.instantiable "com/example/slot3/slot3/frame/Post" (20 : Nat)).before a0 Z = true := hw _ (List.mem_of_getElem? (i := 11) rfl)
theorem od_prog_11_method_3_31 : decode prog_11_method_3_code 31 = .ok (.aload_n 0, 1) := by decide +kernel
theorem od_prog_11_method_3_32 : decode prog_11_method_3_code 32 = .ok (.aload_n 1, 1) := by decide +kernel
theorem od_prog_11_method_3_33 : decode prog_11_method_3_code 33 = .ok (.putfield 13, 3) := by decide +kernel
theorem od_prog_11_method_3_36 : decode prog_11_method_3_code 36 = .ok (.aload_n 1, 1) := by decide +kernel
theorem od_prog_11_method_3_37 : decode prog_11_method_3_code 37 = .ok (.aload_n 0, 1) := by decide +kernel
theorem od_prog_11_method_3_38 : decode prog_11_method_3_code 38 = .ok (.putfield 24, 3) := by decide +kernel
theorem ow_28 {Z : State} {a0 : Array Value} (hw : ∀ d ∈ tables_1, d.before a0 Z = true) : (Jvm.Cond.fieldLink "com/example/slot3/slot3/frame/PostChain" (24 : Nat) "com/example/slot3/slot3/frame/Post" "chain" "Lcom/example/slot3/slot3/frame/PostChain;").before a0 Z = true := hw _ (List.mem_of_getElem? (i := 28) rfl)
theorem ow_29 {Z : State} {a0 : Array Value} (hw : ∀ d ∈ tables_1, d.before a0 Z = true) : (Jvm.Cond.lays "com/example/slot3/slot3/frame/Post" "com/example/slot3/slot3/frame/Post" "chain" "Lcom/example/slot3/slot3/frame/PostChain;").before a0 Z = true := hw _ (List.mem_of_getElem? (i := 29) rfl)
theorem osn_1 {Z : State} {a0 : Array Value} (hw : ∀ d ∈ tables_1, d.before a0 Z = true) : RoadKit.slotOf Z "com/example/slot3/slot3/frame/Post" "chain" "Lcom/example/slot3/slot3/frame/PostChain;" ≠ RoadKit.slotOf Z "com/example/slot3/slot3/frame/Post" "previous" "Lcom/example/slot3/slot3/frame/Post;" := slot_ne (C := "com/example/slot3/slot3/frame/Post") (Or.inl (ow_29 hw)) (Or.inl (ow_27 hw)) (by decide) (t := (.object "com/example/slot3/slot3/frame/PostChain")) (t' := (.object "com/example/slot3/slot3/frame/Post")) (by decide) (by decide)
theorem od_prog_11_method_3_41 : decode prog_11_method_3_code 41 = .ok (.aload_n 0, 1) := by decide +kernel
theorem od_prog_11_method_3_42 : decode prog_11_method_3_code 42 = .ok (.dup, 1) := by decide +kernel
theorem od_prog_11_method_3_43 : decode prog_11_method_3_code 43 = .ok (.getfield 28, 3) := by decide +kernel
theorem ow_30 {Z : State} {a0 : Array Value} (hw : ∀ d ∈ tables_1, d.before a0 Z = true) : (Jvm.Cond.fieldLink "com/example/slot3/slot3/frame/PostChain" (28 : Nat) "com/example/slot3/slot3/frame/PostChain" "count" "I").before a0 Z = true := hw _ (List.mem_of_getElem? (i := 30) rfl)
theorem ow_31 {Z : State} {a0 : Array Value} (hw : ∀ d ∈ tables_1, d.before a0 Z = true) : (Jvm.Cond.lays "com/example/slot3/slot3/frame/PostChain" "com/example/slot3/slot3/frame/PostChain" "count" "I").before a0 Z = true := hw _ (List.mem_of_getElem? (i := 31) rfl)
theorem osn_2 {Z : State} {a0 : Array Value} (hw : ∀ d ∈ tables_1, d.before a0 Z = true) : RoadKit.slotOf Z "com/example/slot3/slot3/frame/PostChain" "count" "I" ≠ RoadKit.slotOf Z "com/example/slot3/slot3/frame/PostChain" "first" "Lcom/example/slot3/slot3/frame/Post;" := slot_ne (C := "com/example/slot3/slot3/frame/PostChain") (Or.inl (ow_31 hw)) (Or.inl (ow_25 hw)) (by decide) (t := .int) (t' := (.object "com/example/slot3/slot3/frame/Post")) (by decide) (by decide)
theorem osn_3 {Z : State} {a0 : Array Value} (hw : ∀ d ∈ tables_1, d.before a0 Z = true) : RoadKit.slotOf Z "com/example/slot3/slot3/frame/PostChain" "count" "I" ≠ RoadKit.slotOf Z "com/example/slot3/slot3/frame/PostChain" "last" "Lcom/example/slot3/slot3/frame/Post;" := slot_ne (C := "com/example/slot3/slot3/frame/PostChain") (Or.inl (ow_31 hw)) (Or.inl (ow_23 hw)) (by decide) (t := .int) (t' := (.object "com/example/slot3/slot3/frame/Post")) (by decide) (by decide)
theorem od_prog_11_method_3_46 : decode prog_11_method_3_code 46 = .ok (.iconst 1, 1) := by decide +kernel
theorem od_prog_11_method_3_47 : decode prog_11_method_3_code 47 = .ok (.iadd, 1) := by decide +kernel
theorem od_prog_11_method_3_48 : decode prog_11_method_3_code 48 = .ok (.putfield 28, 3) := by decide +kernel
theorem od_prog_11_method_3_51 : decode prog_11_method_3_code 51 = .ok (.return_, 1) := by decide +kernel
theorem osn_4 {Z : State} {a0 : Array Value} (hw : ∀ d ∈ tables_1, d.before a0 Z = true) : RoadKit.slotOf Z "com/example/slot3/slot3/frame/PostChain" "first" "Lcom/example/slot3/slot3/frame/Post;" ≠ RoadKit.slotOf Z "com/example/slot3/slot3/frame/PostChain" "last" "Lcom/example/slot3/slot3/frame/Post;" := slot_ne (C := "com/example/slot3/slot3/frame/PostChain") (Or.inl (ow_25 hw)) (Or.inl (ow_23 hw)) (by decide) (t := (.object "com/example/slot3/slot3/frame/Post")) (t' := (.object "com/example/slot3/slot3/frame/Post")) (by decide) (by decide)
theorem osn_5 {Z : State} {a0 : Array Value} (hw : ∀ d ∈ tables_1, d.before a0 Z = true) : RoadKit.slotOf Z "com/example/slot3/slot3/frame/PostChain" "first" "Lcom/example/slot3/slot3/frame/Post;" ≠ RoadKit.slotOf Z "com/example/slot3/slot3/frame/PostChain" "count" "I" := slot_ne (C := "com/example/slot3/slot3/frame/PostChain") (Or.inl (ow_25 hw)) (Or.inl (ow_31 hw)) (by decide) (t := (.object "com/example/slot3/slot3/frame/Post")) (t' := .int) (by decide) (by decide)
theorem osn_6 {Z : State} {a0 : Array Value} (hw : ∀ d ∈ tables_1, d.before a0 Z = true) : RoadKit.slotOf Z "com/example/slot3/slot3/frame/PostChain" "last" "Lcom/example/slot3/slot3/frame/Post;" ≠ RoadKit.slotOf Z "com/example/slot3/slot3/frame/PostChain" "count" "I" := slot_ne (C := "com/example/slot3/slot3/frame/PostChain") (Or.inl (ow_23 hw)) (Or.inl (ow_31 hw)) (by decide) (t := (.object "com/example/slot3/slot3/frame/Post")) (t' := .int) (by decide) (by decide)
theorem ow_35 {Z : State} {a0 : Array Value} (hw : ∀ d ∈ tables_1, d.before a0 Z = true) : (Jvm.Cond.lays "com/example/slot3/slot3/frame/Post" "com/example/slot3/slot3/frame/Post" "following" "Lcom/example/slot3/slot3/frame/Post;").before a0 Z = true := hw _ (List.mem_of_getElem? (i := 35) rfl)
theorem osn_7 {Z : State} {a0 : Array Value} (hw : ∀ d ∈ tables_1, d.before a0 Z = true) : RoadKit.slotOf Z "com/example/slot3/slot3/frame/Post" "following" "Lcom/example/slot3/slot3/frame/Post;" ≠ RoadKit.slotOf Z "com/example/slot3/slot3/frame/Post" "previous" "Lcom/example/slot3/slot3/frame/Post;" := slot_ne (C := "com/example/slot3/slot3/frame/Post") (Or.inl (ow_35 hw)) (Or.inl (ow_27 hw)) (by decide) (t := (.object "com/example/slot3/slot3/frame/Post")) (t' := (.object "com/example/slot3/slot3/frame/Post")) (by decide) (by decide)
theorem osn_8 {Z : State} {a0 : Array Value} (hw : ∀ d ∈ tables_1, d.before a0 Z = true) : RoadKit.slotOf Z "com/example/slot3/slot3/frame/Post" "following" "Lcom/example/slot3/slot3/frame/Post;" ≠ RoadKit.slotOf Z "com/example/slot3/slot3/frame/Post" "chain" "Lcom/example/slot3/slot3/frame/PostChain;" := slot_ne (C := "com/example/slot3/slot3/frame/Post") (Or.inl (ow_35 hw)) (Or.inl (ow_29 hw)) (by decide) (t := (.object "com/example/slot3/slot3/frame/Post")) (t' := (.object "com/example/slot3/slot3/frame/PostChain")) (by decide) (by decide)
theorem osn_9 {Z : State} {a0 : Array Value} (hw : ∀ d ∈ tables_1, d.before a0 Z = true) : RoadKit.slotOf Z "com/example/slot3/slot3/frame/Post" "previous" "Lcom/example/slot3/slot3/frame/Post;" ≠ RoadKit.slotOf Z "com/example/slot3/slot3/frame/Post" "chain" "Lcom/example/slot3/slot3/frame/PostChain;" := slot_ne (C := "com/example/slot3/slot3/frame/Post") (Or.inl (ow_27 hw)) (Or.inl (ow_29 hw)) (by decide) (t := (.object "com/example/slot3/slot3/frame/Post")) (t' := (.object "com/example/slot3/slot3/frame/PostChain")) (by decide) (by decide)
theorem oef_rm_ap1 (m : MethodId) (rc : Addr) (rp : Addr) : entryFrame m #[(.ref rc), (.ref rp)] 2 = mkF m 0 #[.val (.ref rc), .val (.ref rp)] [] := by first | (simp [entryFrame, mkF, argsToLocals, Value.category]; done) | rfl
set_option maxRecDepth 65536 in
set_option maxHeartbeats 40000000 in
theorem rm_ap1 (l : Launch) (Z : State) (a0 : Array Value) (hw : ∀ d ∈ tables_1, d.before a0 Z = true) (rc : Addr) (rp : Addr) (u0 : Int32) (w0 : Value) (w1 : Value) (w2 : Value) (w3 : Value) (h0 : Heap) (n0 : Nat) (Z0 : n0 ≤ h0.size) (P0 : Exa Z h0 rc "com/example/slot3/slot3/frame/PostChain") (P1 : Exa Z h0 rp "com/example/slot3/slot3/frame/Post") (P2 : Fld Z h0 rc "com/example/slot3/slot3/frame/PostChain" "first" "Lcom/example/slot3/slot3/frame/Post;" (w0)) (P3 : Fld Z h0 rc "com/example/slot3/slot3/frame/PostChain" "last" "Lcom/example/slot3/slot3/frame/Post;" (.null)) (P4 : Fld Z h0 rc "com/example/slot3/slot3/frame/PostChain" "count" "I" (.int u0)) (P5 : Fld Z h0 rp "com/example/slot3/slot3/frame/Post" "following" "Lcom/example/slot3/slot3/frame/Post;" (w1)) (P6 : Fld Z h0 rp "com/example/slot3/slot3/frame/Post" "previous" "Lcom/example/slot3/slot3/frame/Post;" (w2)) (P7 : Fld Z h0 rp "com/example/slot3/slot3/frame/Post" "chain" "Lcom/example/slot3/slot3/frame/PostChain;" (w3)) (g_rc : n0 ≤ rc) (g_rp : n0 ≤ rp) (ne_rc_rp : rc ≠ rp) :
    own_M l Z (⟨"com/example/slot3/slot3/frame/PostChain", "append", "(Lcom/example/slot3/slot3/frame/Post;)V"⟩ : MethodName) prog_11_method_3_code 2 none [] ({ frames := 0, cells := 0, slots := 0, locals := 0 } : Room) #[(.ref rc), (.ref rp)] h0 (fun v h L => v = none ∧ Fr n0 L ∧ (Keep h0 h [rc, rp]) ∧ (Fld Z h rc "com/example/slot3/slot3/frame/PostChain" "first" "Lcom/example/slot3/slot3/frame/Post;" (.ref rp)) ∧ (Fld Z h rc "com/example/slot3/slot3/frame/PostChain" "last" "Lcom/example/slot3/slot3/frame/Post;" (.ref rp)) ∧ (Fld Z h rc "com/example/slot3/slot3/frame/PostChain" "count" "I" (.int (u0 + (1 : Int32)))) ∧ (Fld Z h rp "com/example/slot3/slot3/frame/Post" "following" "Lcom/example/slot3/slot3/frame/Post;" (w1)) ∧ (Fld Z h rp "com/example/slot3/slot3/frame/Post" "previous" "Lcom/example/slot3/slot3/frame/Post;" (.null)) ∧ (Fld Z h rp "com/example/slot3/slot3/frame/Post" "chain" "Lcom/example/slot3/slot3/frame/PostChain;" (.ref rc))) 0 0 := by
  refine own_body (plainFor_of_name opn_com_example_slot3_slot3_frame_PostChain) ?_
  intro p e s m below meth c s1 hx hby hml hown hnm hret hlk hZ X0 e0
  rw [oef_rm_ap1 m rc rp]
  have N0 := Fr.nil n0
  refine own_aloadN X0 hx (hb hby od_prog_11_method_3_0) rfl rfl (pc' := 1) rfl ?_
  refine own_getF X0 hx hZ hown (ow_22 hw) e0 P3 (hb hby od_prog_11_method_3_1) (pc' := 4) rfl ?_
  intro T1 X1 e1
  refine own_ifnonnullF X1 hx (hb hby od_prog_11_method_3_4) (pc' := 7) rfl ?_
  refine own_aloadN X1 hx (hb hby od_prog_11_method_3_7) rfl rfl (pc' := 8) rfl ?_
  refine own_aloadN X1 hx (hb hby od_prog_11_method_3_8) rfl rfl (pc' := 9) rfl ?_
  refine own_putF X1 hx hZ hown (ow_24 hw) e1 P2 P0 (Or.inl (ow_25 hw)) (ow_2 hw) (ty := (.object "com/example/slot3/slot3/frame/Post")) (by decide) rfl rfl (hb hby od_prog_11_method_3_9) (pc' := 12) rfl ?_
  intro T2 h2 X2 e2 W2
  have N2 := Fr.snoc X2 N0 g_rc
  refine own_goto X2 hx (hb hby od_prog_11_method_3_12) (by decide) (pc' := 23) rfl ?_
  refine own_aloadN X2 hx (hb hby od_prog_11_method_3_23) rfl rfl (pc' := 24) rfl ?_
  refine own_aloadN X2 hx (hb hby od_prog_11_method_3_24) rfl rfl (pc' := 25) rfl ?_
  have f3 : Fld Z h2 rc "com/example/slot3/slot3/frame/PostChain" "last" "Lcom/example/slot3/slot3/frame/Post;" (.null) := (P3.other W2 (Or.inr (osn_0 hw)))
  refine own_getF X2 hx hZ hown (ow_22 hw) e2 f3 (hb hby od_prog_11_method_3_25) (pc' := 28) rfl ?_
  intro T4 X4 e4
  have f5 : Fld Z h2 rp "com/example/slot3/slot3/frame/Post" "previous" "Lcom/example/slot3/slot3/frame/Post;" (w2) := (P6.other W2 (Or.inl (Ne.symm ne_rc_rp)))
  have f6 : Exa Z h2 rp "com/example/slot3/slot3/frame/Post" := (P1.wr W2)
  refine own_putF X4 hx hZ hown (ow_26 hw) e4 f5 f6 (Or.inl (ow_27 hw)) (ow_11 hw) (ty := (.object "com/example/slot3/slot3/frame/Post")) (by decide) rfl rfl (hb hby od_prog_11_method_3_28) (pc' := 31) rfl ?_
  intro T7 h7 X7 e7 W7
  have N7 := Fr.snoc X7 N2 g_rp
  refine own_aloadN X7 hx (hb hby od_prog_11_method_3_31) rfl rfl (pc' := 32) rfl ?_
  refine own_aloadN X7 hx (hb hby od_prog_11_method_3_32) rfl rfl (pc' := 33) rfl ?_
  have f8 : Fld Z h7 rc "com/example/slot3/slot3/frame/PostChain" "last" "Lcom/example/slot3/slot3/frame/Post;" (.null) := (f3.other W7 (Or.inl ne_rc_rp))
  have f9 : Exa Z h7 rc "com/example/slot3/slot3/frame/PostChain" := ((P0.wr W2).wr W7)
  refine own_putF X7 hx hZ hown (ow_22 hw) e7 f8 f9 (Or.inl (ow_23 hw)) (ow_2 hw) (ty := (.object "com/example/slot3/slot3/frame/Post")) (by decide) rfl rfl (hb hby od_prog_11_method_3_33) (pc' := 36) rfl ?_
  intro T10 h10 X10 e10 W10
  have N10 := Fr.snoc X10 N7 g_rc
  refine own_aloadN X10 hx (hb hby od_prog_11_method_3_36) rfl rfl (pc' := 37) rfl ?_
  refine own_aloadN X10 hx (hb hby od_prog_11_method_3_37) rfl rfl (pc' := 38) rfl ?_
  have f11 : Fld Z h10 rp "com/example/slot3/slot3/frame/Post" "chain" "Lcom/example/slot3/slot3/frame/PostChain;" (w3) := (((P7.other W2 (Or.inl (Ne.symm ne_rc_rp))).other W7 (Or.inr (osn_1 hw))).other W10 (Or.inl (Ne.symm ne_rc_rp)))
  have f12 : Exa Z h10 rp "com/example/slot3/slot3/frame/Post" := ((f6.wr W7).wr W10)
  refine own_putF X10 hx hZ hown (ow_28 hw) e10 f11 f12 (Or.inl (ow_29 hw)) (ow_11 hw) (ty := (.object "com/example/slot3/slot3/frame/PostChain")) (by decide) rfl rfl (hb hby od_prog_11_method_3_38) (pc' := 41) rfl ?_
  intro T13 h13 X13 e13 W13
  have N13 := Fr.snoc X13 N10 g_rp
  refine own_aloadN X13 hx (hb hby od_prog_11_method_3_41) rfl rfl (pc' := 42) rfl ?_
  refine own_dup X13 hx (hb hby od_prog_11_method_3_42) rfl (pc' := 43) rfl ?_
  have f14 : Fld Z h13 rc "com/example/slot3/slot3/frame/PostChain" "count" "I" (.int u0) := ((((P4.other W2 (Or.inr (osn_2 hw))).other W7 (Or.inl ne_rc_rp)).other W10 (Or.inr (osn_3 hw))).other W13 (Or.inl ne_rc_rp))
  refine own_getF X13 hx hZ hown (ow_30 hw) e13 f14 (hb hby od_prog_11_method_3_43) (pc' := 46) rfl ?_
  intro T15 X15 e15
  refine own_iconst X15 hx (hb hby od_prog_11_method_3_46) (z := (1 : Int32)) rfl (pc' := 47) rfl ?_
  refine own_iadd X15 hx (hb hby od_prog_11_method_3_47) (pc' := 48) rfl ?_
  have f16 : Exa Z h13 rc "com/example/slot3/slot3/frame/PostChain" := ((f9.wr W10).wr W13)
  refine own_putF X15 hx hZ hown (ow_30 hw) e15 f14 f16 (Or.inl (ow_31 hw)) (ow_2 hw) (ty := .int) (by decide) rfl rfl (hb hby od_prog_11_method_3_48) (pc' := 51) rfl ?_
  intro T17 h17 X17 e17 W17
  have N17 := Fr.snoc X17 N13 g_rc
  have k23 : Keep h0 h17 [rc, rp] := (Keep.wr (Keep.wr (Keep.wr (Keep.wr (Keep.wr (Keep.refl _ _) W2 (Or.inl (List.mem_of_getElem? (i := 0) rfl))) W7 (Or.inl (List.mem_of_getElem? (i := 1) rfl))) W10 (Or.inl (List.mem_of_getElem? (i := 0) rfl))) W13 (Or.inl (List.mem_of_getElem? (i := 1) rfl))) W17 (Or.inl (List.mem_of_getElem? (i := 0) rfl)))
  have f24 : Fld Z h17 rc "com/example/slot3/slot3/frame/PostChain" "first" "Lcom/example/slot3/slot3/frame/Post;" (.ref rp) := (((((P2.same W2).other W7 (Or.inl ne_rc_rp)).other W10 (Or.inr (osn_4 hw))).other W13 (Or.inl ne_rc_rp)).other W17 (Or.inr (osn_5 hw)))
  have f25 : Fld Z h17 rc "com/example/slot3/slot3/frame/PostChain" "last" "Lcom/example/slot3/slot3/frame/Post;" (.ref rp) := (((f8.same W10).other W13 (Or.inl ne_rc_rp)).other W17 (Or.inr (osn_6 hw)))
  have f26 : Fld Z h17 rp "com/example/slot3/slot3/frame/Post" "following" "Lcom/example/slot3/slot3/frame/Post;" (w1) := (((((P5.other W2 (Or.inl (Ne.symm ne_rc_rp))).other W7 (Or.inr (osn_7 hw))).other W10 (Or.inl (Ne.symm ne_rc_rp))).other W13 (Or.inr (osn_8 hw))).other W17 (Or.inl (Ne.symm ne_rc_rp)))
  have f27 : Fld Z h17 rp "com/example/slot3/slot3/frame/Post" "previous" "Lcom/example/slot3/slot3/frame/Post;" (.null) := ((((f5.same W7).other W10 (Or.inl (Ne.symm ne_rc_rp))).other W13 (Or.inr (osn_9 hw))).other W17 (Or.inl (Ne.symm ne_rc_rp)))
  have f28 : Fld Z h17 rp "com/example/slot3/slot3/frame/Post" "chain" "Lcom/example/slot3/slot3/frame/PostChain;" (.ref rc) := ((f11.same W13).other W17 (Or.inl (Ne.symm ne_rc_rp)))
  exact own_retV X17 hx hret hlk (hb hby od_prog_11_method_3_51) ⟨rfl, N17, (by rw [e17]; exact k23), (by rw [e17]; exact f24), (by rw [e17]; exact f25), (by rw [e17]; exact (f14.same W17)), (by rw [e17]; exact f26), (by rw [e17]; exact f27), (by rw [e17]; exact f28)⟩ (by decide) (by decide)
theorem od_prog_11_method_3_15 : decode prog_11_method_3_code 15 = .ok (.aload_n 0, 1) := by decide +kernel
theorem od_prog_11_method_3_16 : decode prog_11_method_3_code 16 = .ok (.getfield 13, 3) := by decide +kernel
theorem od_prog_11_method_3_19 : decode prog_11_method_3_code 19 = .ok (.aload_n 1, 1) := by decide +kernel
theorem od_prog_11_method_3_20 : decode prog_11_method_3_code 20 = .ok (.putfield 21, 3) := by decide +kernel
theorem ow_44 {Z : State} {a0 : Array Value} (hw : ∀ d ∈ tables_1, d.before a0 Z = true) : (Jvm.Cond.fieldLink "com/example/slot3/slot3/frame/PostChain" (21 : Nat) "com/example/slot3/slot3/frame/Post" "following" "Lcom/example/slot3/slot3/frame/Post;").before a0 Z = true := hw _ (List.mem_of_getElem? (i := 44) rfl)
theorem osn_10 {Z : State} {a0 : Array Value} (hw : ∀ d ∈ tables_1, d.before a0 Z = true) : RoadKit.slotOf Z "com/example/slot3/slot3/frame/Post" "previous" "Lcom/example/slot3/slot3/frame/Post;" ≠ RoadKit.slotOf Z "com/example/slot3/slot3/frame/Post" "following" "Lcom/example/slot3/slot3/frame/Post;" := slot_ne (C := "com/example/slot3/slot3/frame/Post") (Or.inl (ow_27 hw)) (Or.inl (ow_35 hw)) (by decide) (t := (.object "com/example/slot3/slot3/frame/Post")) (t' := (.object "com/example/slot3/slot3/frame/Post")) (by decide) (by decide)
theorem osn_11 {Z : State} {a0 : Array Value} (hw : ∀ d ∈ tables_1, d.before a0 Z = true) : RoadKit.slotOf Z "com/example/slot3/slot3/frame/Post" "chain" "Lcom/example/slot3/slot3/frame/PostChain;" ≠ RoadKit.slotOf Z "com/example/slot3/slot3/frame/Post" "following" "Lcom/example/slot3/slot3/frame/Post;" := slot_ne (C := "com/example/slot3/slot3/frame/Post") (Or.inl (ow_29 hw)) (Or.inl (ow_35 hw)) (by decide) (t := (.object "com/example/slot3/slot3/frame/PostChain")) (t' := (.object "com/example/slot3/slot3/frame/Post")) (by decide) (by decide)
theorem oef_rm_ap2 (m : MethodId) (rc : Addr) (rp : Addr) : entryFrame m #[(.ref rc), (.ref rp)] 2 = mkF m 0 #[.val (.ref rc), .val (.ref rp)] [] := by first | (simp [entryFrame, mkF, argsToLocals, Value.category]; done) | rfl
set_option maxRecDepth 65536 in
set_option maxHeartbeats 40000000 in
theorem rm_ap2 (l : Launch) (Z : State) (a0 : Array Value) (hw : ∀ d ∈ tables_1, d.before a0 Z = true) (rc : Addr) (rp : Addr) (rq : Addr) (u0 : Int32) (w0 : Value) (w1 : Value) (w2 : Value) (w3 : Value) (w4 : Value) (w5 : Value) (w6 : Value) (h0 : Heap) (n0 : Nat) (Z0 : n0 ≤ h0.size) (P0 : Exa Z h0 rc "com/example/slot3/slot3/frame/PostChain") (P1 : Exa Z h0 rp "com/example/slot3/slot3/frame/Post") (P2 : Fld Z h0 rc "com/example/slot3/slot3/frame/PostChain" "first" "Lcom/example/slot3/slot3/frame/Post;" (w0)) (P3 : Fld Z h0 rc "com/example/slot3/slot3/frame/PostChain" "last" "Lcom/example/slot3/slot3/frame/Post;" (.ref rq)) (P4 : Fld Z h0 rc "com/example/slot3/slot3/frame/PostChain" "count" "I" (.int u0)) (P5 : Exa Z h0 rq "com/example/slot3/slot3/frame/Post") (P6 : Fld Z h0 rp "com/example/slot3/slot3/frame/Post" "following" "Lcom/example/slot3/slot3/frame/Post;" (w1)) (P7 : Fld Z h0 rp "com/example/slot3/slot3/frame/Post" "previous" "Lcom/example/slot3/slot3/frame/Post;" (w2)) (P8 : Fld Z h0 rp "com/example/slot3/slot3/frame/Post" "chain" "Lcom/example/slot3/slot3/frame/PostChain;" (w3)) (P9 : Fld Z h0 rq "com/example/slot3/slot3/frame/Post" "following" "Lcom/example/slot3/slot3/frame/Post;" (w4)) (P10 : Fld Z h0 rq "com/example/slot3/slot3/frame/Post" "previous" "Lcom/example/slot3/slot3/frame/Post;" (w5)) (P11 : Fld Z h0 rq "com/example/slot3/slot3/frame/Post" "chain" "Lcom/example/slot3/slot3/frame/PostChain;" (w6)) (g_rc : n0 ≤ rc) (g_rp : n0 ≤ rp) (g_rq : n0 ≤ rq) (ne_rc_rp : rc ≠ rp) (ne_rc_rq : rc ≠ rq) (ne_rp_rq : rp ≠ rq) :
    own_M l Z (⟨"com/example/slot3/slot3/frame/PostChain", "append", "(Lcom/example/slot3/slot3/frame/Post;)V"⟩ : MethodName) prog_11_method_3_code 2 none [] ({ frames := 0, cells := 0, slots := 0, locals := 0 } : Room) #[(.ref rc), (.ref rp)] h0 (fun v h L => v = none ∧ Fr n0 L ∧ (Keep h0 h [rc, rp, rq]) ∧ (Fld Z h rc "com/example/slot3/slot3/frame/PostChain" "first" "Lcom/example/slot3/slot3/frame/Post;" (w0)) ∧ (Fld Z h rc "com/example/slot3/slot3/frame/PostChain" "last" "Lcom/example/slot3/slot3/frame/Post;" (.ref rp)) ∧ (Fld Z h rc "com/example/slot3/slot3/frame/PostChain" "count" "I" (.int (u0 + (1 : Int32)))) ∧ (Fld Z h rp "com/example/slot3/slot3/frame/Post" "following" "Lcom/example/slot3/slot3/frame/Post;" (w1)) ∧ (Fld Z h rp "com/example/slot3/slot3/frame/Post" "previous" "Lcom/example/slot3/slot3/frame/Post;" (.ref rq)) ∧ (Fld Z h rp "com/example/slot3/slot3/frame/Post" "chain" "Lcom/example/slot3/slot3/frame/PostChain;" (.ref rc)) ∧ (Fld Z h rq "com/example/slot3/slot3/frame/Post" "following" "Lcom/example/slot3/slot3/frame/Post;" (.ref rp)) ∧ (Fld Z h rq "com/example/slot3/slot3/frame/Post" "previous" "Lcom/example/slot3/slot3/frame/Post;" (w5)) ∧ (Fld Z h rq "com/example/slot3/slot3/frame/Post" "chain" "Lcom/example/slot3/slot3/frame/PostChain;" (w6))) 0 0 := by
  refine own_body (plainFor_of_name opn_com_example_slot3_slot3_frame_PostChain) ?_
  intro p e s m below meth c s1 hx hby hml hown hnm hret hlk hZ X0 e0
  rw [oef_rm_ap2 m rc rp]
  have N0 := Fr.nil n0
  refine own_aloadN X0 hx (hb hby od_prog_11_method_3_0) rfl rfl (pc' := 1) rfl ?_
  refine own_getF X0 hx hZ hown (ow_22 hw) e0 P3 (hb hby od_prog_11_method_3_1) (pc' := 4) rfl ?_
  intro T1 X1 e1
  refine own_ifnonnullT X1 hx (hb hby od_prog_11_method_3_4) (by decide) (pc' := 15) rfl ?_
  refine own_aloadN X1 hx (hb hby od_prog_11_method_3_15) rfl rfl (pc' := 16) rfl ?_
  refine own_getF X1 hx hZ hown (ow_22 hw) e1 P3 (hb hby od_prog_11_method_3_16) (pc' := 19) rfl ?_
  intro T2 X2 e2
  refine own_aloadN X2 hx (hb hby od_prog_11_method_3_19) rfl rfl (pc' := 20) rfl ?_
  refine own_putF X2 hx hZ hown (ow_44 hw) e2 P9 P5 (Or.inl (ow_35 hw)) (ow_11 hw) (ty := (.object "com/example/slot3/slot3/frame/Post")) (by decide) rfl rfl (hb hby od_prog_11_method_3_20) (pc' := 23) rfl ?_
  intro T3 h3 X3 e3 W3
  have N3 := Fr.snoc X3 N0 g_rq
  refine own_aloadN X3 hx (hb hby od_prog_11_method_3_23) rfl rfl (pc' := 24) rfl ?_
  refine own_aloadN X3 hx (hb hby od_prog_11_method_3_24) rfl rfl (pc' := 25) rfl ?_
  have f4 : Fld Z h3 rc "com/example/slot3/slot3/frame/PostChain" "last" "Lcom/example/slot3/slot3/frame/Post;" (.ref rq) := (P3.other W3 (Or.inl ne_rc_rq))
  refine own_getF X3 hx hZ hown (ow_22 hw) e3 f4 (hb hby od_prog_11_method_3_25) (pc' := 28) rfl ?_
  intro T5 X5 e5
  have f6 : Fld Z h3 rp "com/example/slot3/slot3/frame/Post" "previous" "Lcom/example/slot3/slot3/frame/Post;" (w2) := (P7.other W3 (Or.inl ne_rp_rq))
  have f7 : Exa Z h3 rp "com/example/slot3/slot3/frame/Post" := (P1.wr W3)
  refine own_putF X5 hx hZ hown (ow_26 hw) e5 f6 f7 (Or.inl (ow_27 hw)) (ow_11 hw) (ty := (.object "com/example/slot3/slot3/frame/Post")) (by decide) rfl rfl (hb hby od_prog_11_method_3_28) (pc' := 31) rfl ?_
  intro T8 h8 X8 e8 W8
  have N8 := Fr.snoc X8 N3 g_rp
  refine own_aloadN X8 hx (hb hby od_prog_11_method_3_31) rfl rfl (pc' := 32) rfl ?_
  refine own_aloadN X8 hx (hb hby od_prog_11_method_3_32) rfl rfl (pc' := 33) rfl ?_
  have f9 : Fld Z h8 rc "com/example/slot3/slot3/frame/PostChain" "last" "Lcom/example/slot3/slot3/frame/Post;" (.ref rq) := (f4.other W8 (Or.inl ne_rc_rp))
  have f10 : Exa Z h8 rc "com/example/slot3/slot3/frame/PostChain" := ((P0.wr W3).wr W8)
  refine own_putF X8 hx hZ hown (ow_22 hw) e8 f9 f10 (Or.inl (ow_23 hw)) (ow_2 hw) (ty := (.object "com/example/slot3/slot3/frame/Post")) (by decide) rfl rfl (hb hby od_prog_11_method_3_33) (pc' := 36) rfl ?_
  intro T11 h11 X11 e11 W11
  have N11 := Fr.snoc X11 N8 g_rc
  refine own_aloadN X11 hx (hb hby od_prog_11_method_3_36) rfl rfl (pc' := 37) rfl ?_
  refine own_aloadN X11 hx (hb hby od_prog_11_method_3_37) rfl rfl (pc' := 38) rfl ?_
  have f12 : Fld Z h11 rp "com/example/slot3/slot3/frame/Post" "chain" "Lcom/example/slot3/slot3/frame/PostChain;" (w3) := (((P8.other W3 (Or.inl ne_rp_rq)).other W8 (Or.inr (osn_1 hw))).other W11 (Or.inl (Ne.symm ne_rc_rp)))
  have f13 : Exa Z h11 rp "com/example/slot3/slot3/frame/Post" := ((f7.wr W8).wr W11)
  refine own_putF X11 hx hZ hown (ow_28 hw) e11 f12 f13 (Or.inl (ow_29 hw)) (ow_11 hw) (ty := (.object "com/example/slot3/slot3/frame/PostChain")) (by decide) rfl rfl (hb hby od_prog_11_method_3_38) (pc' := 41) rfl ?_
  intro T14 h14 X14 e14 W14
  have N14 := Fr.snoc X14 N11 g_rp
  refine own_aloadN X14 hx (hb hby od_prog_11_method_3_41) rfl rfl (pc' := 42) rfl ?_
  refine own_dup X14 hx (hb hby od_prog_11_method_3_42) rfl (pc' := 43) rfl ?_
  have f15 : Fld Z h14 rc "com/example/slot3/slot3/frame/PostChain" "count" "I" (.int u0) := ((((P4.other W3 (Or.inl ne_rc_rq)).other W8 (Or.inl ne_rc_rp)).other W11 (Or.inr (osn_3 hw))).other W14 (Or.inl ne_rc_rp))
  refine own_getF X14 hx hZ hown (ow_30 hw) e14 f15 (hb hby od_prog_11_method_3_43) (pc' := 46) rfl ?_
  intro T16 X16 e16
  refine own_iconst X16 hx (hb hby od_prog_11_method_3_46) (z := (1 : Int32)) rfl (pc' := 47) rfl ?_
  refine own_iadd X16 hx (hb hby od_prog_11_method_3_47) (pc' := 48) rfl ?_
  have f17 : Exa Z h14 rc "com/example/slot3/slot3/frame/PostChain" := ((f10.wr W11).wr W14)
  refine own_putF X16 hx hZ hown (ow_30 hw) e16 f15 f17 (Or.inl (ow_31 hw)) (ow_2 hw) (ty := .int) (by decide) rfl rfl (hb hby od_prog_11_method_3_48) (pc' := 51) rfl ?_
  intro T18 h18 X18 e18 W18
  have N18 := Fr.snoc X18 N14 g_rc
  have k24 : Keep h0 h18 [rc, rp, rq] := (Keep.wr (Keep.wr (Keep.wr (Keep.wr (Keep.wr (Keep.refl _ _) W3 (Or.inl (List.mem_of_getElem? (i := 2) rfl))) W8 (Or.inl (List.mem_of_getElem? (i := 1) rfl))) W11 (Or.inl (List.mem_of_getElem? (i := 0) rfl))) W14 (Or.inl (List.mem_of_getElem? (i := 1) rfl))) W18 (Or.inl (List.mem_of_getElem? (i := 0) rfl)))
  have f25 : Fld Z h18 rc "com/example/slot3/slot3/frame/PostChain" "first" "Lcom/example/slot3/slot3/frame/Post;" (w0) := (((((P2.other W3 (Or.inl ne_rc_rq)).other W8 (Or.inl ne_rc_rp)).other W11 (Or.inr (osn_4 hw))).other W14 (Or.inl ne_rc_rp)).other W18 (Or.inr (osn_5 hw)))
  have f26 : Fld Z h18 rc "com/example/slot3/slot3/frame/PostChain" "last" "Lcom/example/slot3/slot3/frame/Post;" (.ref rp) := (((f9.same W11).other W14 (Or.inl ne_rc_rp)).other W18 (Or.inr (osn_6 hw)))
  have f27 : Fld Z h18 rp "com/example/slot3/slot3/frame/Post" "following" "Lcom/example/slot3/slot3/frame/Post;" (w1) := (((((P6.other W3 (Or.inl ne_rp_rq)).other W8 (Or.inr (osn_7 hw))).other W11 (Or.inl (Ne.symm ne_rc_rp))).other W14 (Or.inr (osn_8 hw))).other W18 (Or.inl (Ne.symm ne_rc_rp)))
  have f28 : Fld Z h18 rp "com/example/slot3/slot3/frame/Post" "previous" "Lcom/example/slot3/slot3/frame/Post;" (.ref rq) := ((((f6.same W8).other W11 (Or.inl (Ne.symm ne_rc_rp))).other W14 (Or.inr (osn_9 hw))).other W18 (Or.inl (Ne.symm ne_rc_rp)))
  have f29 : Fld Z h18 rp "com/example/slot3/slot3/frame/Post" "chain" "Lcom/example/slot3/slot3/frame/PostChain;" (.ref rc) := ((f12.same W14).other W18 (Or.inl (Ne.symm ne_rc_rp)))
  have f30 : Fld Z h18 rq "com/example/slot3/slot3/frame/Post" "following" "Lcom/example/slot3/slot3/frame/Post;" (.ref rp) := (((((P9.same W3).other W8 (Or.inl (Ne.symm ne_rp_rq))).other W11 (Or.inl (Ne.symm ne_rc_rq))).other W14 (Or.inl (Ne.symm ne_rp_rq))).other W18 (Or.inl (Ne.symm ne_rc_rq)))
  have f31 : Fld Z h18 rq "com/example/slot3/slot3/frame/Post" "previous" "Lcom/example/slot3/slot3/frame/Post;" (w5) := (((((P10.other W3 (Or.inr (osn_10 hw))).other W8 (Or.inl (Ne.symm ne_rp_rq))).other W11 (Or.inl (Ne.symm ne_rc_rq))).other W14 (Or.inl (Ne.symm ne_rp_rq))).other W18 (Or.inl (Ne.symm ne_rc_rq)))
  have f32 : Fld Z h18 rq "com/example/slot3/slot3/frame/Post" "chain" "Lcom/example/slot3/slot3/frame/PostChain;" (w6) := (((((P11.other W3 (Or.inr (osn_11 hw))).other W8 (Or.inl (Ne.symm ne_rp_rq))).other W11 (Or.inl (Ne.symm ne_rc_rq))).other W14 (Or.inl (Ne.symm ne_rp_rq))).other W18 (Or.inl (Ne.symm ne_rc_rq)))
  exact own_retV X18 hx hret hlk (hb hby od_prog_11_method_3_51) ⟨rfl, N18, (by rw [e18]; exact k24), (by rw [e18]; exact f25), (by rw [e18]; exact f26), (by rw [e18]; exact (f15.same W18)), (by rw [e18]; exact f27), (by rw [e18]; exact f28), (by rw [e18]; exact f29), (by rw [e18]; exact f30), (by rw [e18]; exact f31), (by rw [e18]; exact f32)⟩ (by decide) (by decide)
theorem od_prog_11_method_2_0 : decode prog_11_method_2_code 0 = .ok (.aload_n 0, 1) := by decide +kernel
theorem od_prog_11_method_2_1 : decode prog_11_method_2_code 1 = .ok (.getfield 7, 3) := by decide +kernel
theorem od_prog_11_method_2_4 : decode prog_11_method_2_code 4 = .ok (.ifnonnull 11, 3) := by decide +kernel
theorem od_prog_11_method_2_7 : decode prog_11_method_2_code 7 = .ok (.aload_n 0, 1) := by decide +kernel
theorem od_prog_11_method_2_8 : decode prog_11_method_2_code 8 = .ok (.aload_n 1, 1) := by decide +kernel
theorem od_prog_11_method_2_9 : decode prog_11_method_2_code 9 = .ok (.putfield 13, 3) := by decide +kernel
theorem od_prog_11_method_2_12 : decode prog_11_method_2_code 12 = .ok (.goto 11, 3) := by decide +kernel
theorem od_prog_11_method_2_23 : decode prog_11_method_2_code 23 = .ok (.aload_n 1, 1) := by decide +kernel
theorem od_prog_11_method_2_24 : decode prog_11_method_2_code 24 = .ok (.aload_n 0, 1) := by decide +kernel
theorem od_prog_11_method_2_25 : decode prog_11_method_2_code 25 = .ok (.getfield 7, 3) := by decide +kernel
theorem od_prog_11_method_2_28 : decode prog_11_method_2_code 28 = .ok (.putfield 21, 3) := by decide +kernel
theorem od_prog_11_method_2_31 : decode prog_11_method_2_code 31 = .ok (.aload_n 1, 1) := by decide +kernel
theorem od_prog_11_method_2_32 : decode prog_11_method_2_code 32 = .ok (.aconst_null, 1) := by decide +kernel
theorem od_prog_11_method_2_33 : decode prog_11_method_2_code 33 = .ok (.putfield 16, 3) := by decide +kernel
theorem od_prog_11_method_2_36 : decode prog_11_method_2_code 36 = .ok (.aload_n 0, 1) := by decide +kernel
theorem od_prog_11_method_2_37 : decode prog_11_method_2_code 37 = .ok (.aload_n 1, 1) := by decide +kernel
theorem od_prog_11_method_2_38 : decode prog_11_method_2_code 38 = .ok (.putfield 7, 3) := by decide +kernel
theorem od_prog_11_method_2_41 : decode prog_11_method_2_code 41 = .ok (.aload_n 1, 1) := by decide +kernel
theorem od_prog_11_method_2_42 : decode prog_11_method_2_code 42 = .ok (.aload_n 0, 1) := by decide +kernel
theorem od_prog_11_method_2_43 : decode prog_11_method_2_code 43 = .ok (.putfield 24, 3) := by decide +kernel
theorem od_prog_11_method_2_46 : decode prog_11_method_2_code 46 = .ok (.aload_n 0, 1) := by decide +kernel
theorem od_prog_11_method_2_47 : decode prog_11_method_2_code 47 = .ok (.dup, 1) := by decide +kernel
theorem od_prog_11_method_2_48 : decode prog_11_method_2_code 48 = .ok (.getfield 28, 3) := by decide +kernel
theorem od_prog_11_method_2_51 : decode prog_11_method_2_code 51 = .ok (.iconst 1, 1) := by decide +kernel
theorem od_prog_11_method_2_52 : decode prog_11_method_2_code 52 = .ok (.iadd, 1) := by decide +kernel
theorem od_prog_11_method_2_53 : decode prog_11_method_2_code 53 = .ok (.putfield 28, 3) := by decide +kernel
theorem od_prog_11_method_2_56 : decode prog_11_method_2_code 56 = .ok (.return_, 1) := by decide +kernel
theorem oef_rm_pu1 (m : MethodId) (rc : Addr) (rp : Addr) : entryFrame m #[(.ref rc), (.ref rp)] 2 = mkF m 0 #[.val (.ref rc), .val (.ref rp)] [] := by first | (simp [entryFrame, mkF, argsToLocals, Value.category]; done) | rfl
set_option maxRecDepth 65536 in
set_option maxHeartbeats 40000000 in
theorem rm_pu1 (l : Launch) (Z : State) (a0 : Array Value) (hw : ∀ d ∈ tables_1, d.before a0 Z = true) (rc : Addr) (rp : Addr) (u0 : Int32) (w0 : Value) (w1 : Value) (w2 : Value) (w3 : Value) (h0 : Heap) (n0 : Nat) (Z0 : n0 ≤ h0.size) (P0 : Exa Z h0 rc "com/example/slot3/slot3/frame/PostChain") (P1 : Exa Z h0 rp "com/example/slot3/slot3/frame/Post") (P2 : Fld Z h0 rc "com/example/slot3/slot3/frame/PostChain" "first" "Lcom/example/slot3/slot3/frame/Post;" (.null)) (P3 : Fld Z h0 rc "com/example/slot3/slot3/frame/PostChain" "last" "Lcom/example/slot3/slot3/frame/Post;" (w0)) (P4 : Fld Z h0 rc "com/example/slot3/slot3/frame/PostChain" "count" "I" (.int u0)) (P5 : Fld Z h0 rp "com/example/slot3/slot3/frame/Post" "following" "Lcom/example/slot3/slot3/frame/Post;" (w1)) (P6 : Fld Z h0 rp "com/example/slot3/slot3/frame/Post" "previous" "Lcom/example/slot3/slot3/frame/Post;" (w2)) (P7 : Fld Z h0 rp "com/example/slot3/slot3/frame/Post" "chain" "Lcom/example/slot3/slot3/frame/PostChain;" (w3)) (g_rc : n0 ≤ rc) (g_rp : n0 ≤ rp) (ne_rc_rp : rc ≠ rp) :
    own_M l Z (⟨"com/example/slot3/slot3/frame/PostChain", "push", "(Lcom/example/slot3/slot3/frame/Post;)V"⟩ : MethodName) prog_11_method_2_code 2 none [] ({ frames := 0, cells := 0, slots := 0, locals := 0 } : Room) #[(.ref rc), (.ref rp)] h0 (fun v h L => v = none ∧ Fr n0 L ∧ (Keep h0 h [rc, rp]) ∧ (Fld Z h rc "com/example/slot3/slot3/frame/PostChain" "first" "Lcom/example/slot3/slot3/frame/Post;" (.ref rp)) ∧ (Fld Z h rc "com/example/slot3/slot3/frame/PostChain" "last" "Lcom/example/slot3/slot3/frame/Post;" (.ref rp)) ∧ (Fld Z h rc "com/example/slot3/slot3/frame/PostChain" "count" "I" (.int (u0 + (1 : Int32)))) ∧ (Fld Z h rp "com/example/slot3/slot3/frame/Post" "following" "Lcom/example/slot3/slot3/frame/Post;" (.null)) ∧ (Fld Z h rp "com/example/slot3/slot3/frame/Post" "previous" "Lcom/example/slot3/slot3/frame/Post;" (.null)) ∧ (Fld Z h rp "com/example/slot3/slot3/frame/Post" "chain" "Lcom/example/slot3/slot3/frame/PostChain;" (.ref rc))) 0 0 := by
  refine own_body (plainFor_of_name opn_com_example_slot3_slot3_frame_PostChain) ?_
  intro p e s m below meth c s1 hx hby hml hown hnm hret hlk hZ X0 e0
  rw [oef_rm_pu1 m rc rp]
  have N0 := Fr.nil n0
  refine own_aloadN X0 hx (hb hby od_prog_11_method_2_0) rfl rfl (pc' := 1) rfl ?_
  refine own_getF X0 hx hZ hown (ow_24 hw) e0 P2 (hb hby od_prog_11_method_2_1) (pc' := 4) rfl ?_
  intro T1 X1 e1
  refine own_ifnonnullF X1 hx (hb hby od_prog_11_method_2_4) (pc' := 7) rfl ?_
  refine own_aloadN X1 hx (hb hby od_prog_11_method_2_7) rfl rfl (pc' := 8) rfl ?_
  refine own_aloadN X1 hx (hb hby od_prog_11_method_2_8) rfl rfl (pc' := 9) rfl ?_
  refine own_putF X1 hx hZ hown (ow_22 hw) e1 P3 P0 (Or.inl (ow_23 hw)) (ow_2 hw) (ty := (.object "com/example/slot3/slot3/frame/Post")) (by decide) rfl rfl (hb hby od_prog_11_method_2_9) (pc' := 12) rfl ?_
  intro T2 h2 X2 e2 W2
  have N2 := Fr.snoc X2 N0 g_rc
  refine own_goto X2 hx (hb hby od_prog_11_method_2_12) (by decide) (pc' := 23) rfl ?_
  refine own_aloadN X2 hx (hb hby od_prog_11_method_2_23) rfl rfl (pc' := 24) rfl ?_
  refine own_aloadN X2 hx (hb hby od_prog_11_method_2_24) rfl rfl (pc' := 25) rfl ?_
  have f3 : Fld Z h2 rc "com/example/slot3/slot3/frame/PostChain" "first" "Lcom/example/slot3/slot3/frame/Post;" (.null) := (P2.other W2 (Or.inr (osn_4 hw)))
  refine own_getF X2 hx hZ hown (ow_24 hw) e2 f3 (hb hby od_prog_11_method_2_25) (pc' := 28) rfl ?_
  intro T4 X4 e4
  have f5 : Fld Z h2 rp "com/example/slot3/slot3/frame/Post" "following" "Lcom/example/slot3/slot3/frame/Post;" (w1) := (P5.other W2 (Or.inl (Ne.symm ne_rc_rp)))
  have f6 : Exa Z h2 rp "com/example/slot3/slot3/frame/Post" := (P1.wr W2)
  refine own_putF X4 hx hZ hown (ow_44 hw) e4 f5 f6 (Or.inl (ow_35 hw)) (ow_11 hw) (ty := (.object "com/example/slot3/slot3/frame/Post")) (by decide) rfl rfl (hb hby od_prog_11_method_2_28) (pc' := 31) rfl ?_
  intro T7 h7 X7 e7 W7
  have N7 := Fr.snoc X7 N2 g_rp
  refine own_aloadN X7 hx (hb hby od_prog_11_method_2_31) rfl rfl (pc' := 32) rfl ?_
  refine own_aconstNull X7 hx (hb hby od_prog_11_method_2_32) (pc' := 33) rfl ?_
  have f8 : Fld Z h7 rp "com/example/slot3/slot3/frame/Post" "previous" "Lcom/example/slot3/slot3/frame/Post;" (w2) := ((P6.other W2 (Or.inl (Ne.symm ne_rc_rp))).other W7 (Or.inr (osn_10 hw)))
  have f9 : Exa Z h7 rp "com/example/slot3/slot3/frame/Post" := (f6.wr W7)
  refine own_putF X7 hx hZ hown (ow_26 hw) e7 f8 f9 (Or.inl (ow_27 hw)) (ow_11 hw) (ty := (.object "com/example/slot3/slot3/frame/Post")) (by decide) rfl rfl (hb hby od_prog_11_method_2_33) (pc' := 36) rfl ?_
  intro T10 h10 X10 e10 W10
  have N10 := Fr.snoc X10 N7 g_rp
  refine own_aloadN X10 hx (hb hby od_prog_11_method_2_36) rfl rfl (pc' := 37) rfl ?_
  refine own_aloadN X10 hx (hb hby od_prog_11_method_2_37) rfl rfl (pc' := 38) rfl ?_
  have f11 : Fld Z h10 rc "com/example/slot3/slot3/frame/PostChain" "first" "Lcom/example/slot3/slot3/frame/Post;" (.null) := ((f3.other W7 (Or.inl ne_rc_rp)).other W10 (Or.inl ne_rc_rp))
  have f12 : Exa Z h10 rc "com/example/slot3/slot3/frame/PostChain" := (((P0.wr W2).wr W7).wr W10)
  refine own_putF X10 hx hZ hown (ow_24 hw) e10 f11 f12 (Or.inl (ow_25 hw)) (ow_2 hw) (ty := (.object "com/example/slot3/slot3/frame/Post")) (by decide) rfl rfl (hb hby od_prog_11_method_2_38) (pc' := 41) rfl ?_
  intro T13 h13 X13 e13 W13
  have N13 := Fr.snoc X13 N10 g_rc
  refine own_aloadN X13 hx (hb hby od_prog_11_method_2_41) rfl rfl (pc' := 42) rfl ?_
  refine own_aloadN X13 hx (hb hby od_prog_11_method_2_42) rfl rfl (pc' := 43) rfl ?_
  have f14 : Fld Z h13 rp "com/example/slot3/slot3/frame/Post" "chain" "Lcom/example/slot3/slot3/frame/PostChain;" (w3) := ((((P7.other W2 (Or.inl (Ne.symm ne_rc_rp))).other W7 (Or.inr (osn_11 hw))).other W10 (Or.inr (osn_1 hw))).other W13 (Or.inl (Ne.symm ne_rc_rp)))
  have f15 : Exa Z h13 rp "com/example/slot3/slot3/frame/Post" := ((f9.wr W10).wr W13)
  refine own_putF X13 hx hZ hown (ow_28 hw) e13 f14 f15 (Or.inl (ow_29 hw)) (ow_11 hw) (ty := (.object "com/example/slot3/slot3/frame/PostChain")) (by decide) rfl rfl (hb hby od_prog_11_method_2_43) (pc' := 46) rfl ?_
  intro T16 h16 X16 e16 W16
  have N16 := Fr.snoc X16 N13 g_rp
  refine own_aloadN X16 hx (hb hby od_prog_11_method_2_46) rfl rfl (pc' := 47) rfl ?_
  refine own_dup X16 hx (hb hby od_prog_11_method_2_47) rfl (pc' := 48) rfl ?_
  have f17 : Fld Z h16 rc "com/example/slot3/slot3/frame/PostChain" "count" "I" (.int u0) := (((((P4.other W2 (Or.inr (osn_3 hw))).other W7 (Or.inl ne_rc_rp)).other W10 (Or.inl ne_rc_rp)).other W13 (Or.inr (osn_2 hw))).other W16 (Or.inl ne_rc_rp))
  refine own_getF X16 hx hZ hown (ow_30 hw) e16 f17 (hb hby od_prog_11_method_2_48) (pc' := 51) rfl ?_
  intro T18 X18 e18
  refine own_iconst X18 hx (hb hby od_prog_11_method_2_51) (z := (1 : Int32)) rfl (pc' := 52) rfl ?_
  refine own_iadd X18 hx (hb hby od_prog_11_method_2_52) (pc' := 53) rfl ?_
  have f19 : Exa Z h16 rc "com/example/slot3/slot3/frame/PostChain" := ((f12.wr W13).wr W16)
  refine own_putF X18 hx hZ hown (ow_30 hw) e18 f17 f19 (Or.inl (ow_31 hw)) (ow_2 hw) (ty := .int) (by decide) rfl rfl (hb hby od_prog_11_method_2_53) (pc' := 56) rfl ?_
  intro T20 h20 X20 e20 W20
  have N20 := Fr.snoc X20 N16 g_rc
  have k27 : Keep h0 h20 [rc, rp] := (Keep.wr (Keep.wr (Keep.wr (Keep.wr (Keep.wr (Keep.wr (Keep.refl _ _) W2 (Or.inl (List.mem_of_getElem? (i := 0) rfl))) W7 (Or.inl (List.mem_of_getElem? (i := 1) rfl))) W10 (Or.inl (List.mem_of_getElem? (i := 1) rfl))) W13 (Or.inl (List.mem_of_getElem? (i := 0) rfl))) W16 (Or.inl (List.mem_of_getElem? (i := 1) rfl))) W20 (Or.inl (List.mem_of_getElem? (i := 0) rfl)))
  have f28 : Fld Z h20 rc "com/example/slot3/slot3/frame/PostChain" "first" "Lcom/example/slot3/slot3/frame/Post;" (.ref rp) := (((f11.same W13).other W16 (Or.inl ne_rc_rp)).other W20 (Or.inr (osn_5 hw)))
  have f29 : Fld Z h20 rc "com/example/slot3/slot3/frame/PostChain" "last" "Lcom/example/slot3/slot3/frame/Post;" (.ref rp) := ((((((P3.same W2).other W7 (Or.inl ne_rc_rp)).other W10 (Or.inl ne_rc_rp)).other W13 (Or.inr (osn_0 hw))).other W16 (Or.inl ne_rc_rp)).other W20 (Or.inr (osn_6 hw)))
  have f30 : Fld Z h20 rp "com/example/slot3/slot3/frame/Post" "following" "Lcom/example/slot3/slot3/frame/Post;" (.null) := (((((f5.same W7).other W10 (Or.inr (osn_7 hw))).other W13 (Or.inl (Ne.symm ne_rc_rp))).other W16 (Or.inr (osn_8 hw))).other W20 (Or.inl (Ne.symm ne_rc_rp)))
  have f31 : Fld Z h20 rp "com/example/slot3/slot3/frame/Post" "previous" "Lcom/example/slot3/slot3/frame/Post;" (.null) := ((((f8.same W10).other W13 (Or.inl (Ne.symm ne_rc_rp))).other W16 (Or.inr (osn_9 hw))).other W20 (Or.inl (Ne.symm ne_rc_rp)))
  have f32 : Fld Z h20 rp "com/example/slot3/slot3/frame/Post" "chain" "Lcom/example/slot3/slot3/frame/PostChain;" (.ref rc) := ((f14.same W16).other W20 (Or.inl (Ne.symm ne_rc_rp)))
  exact own_retV X20 hx hret hlk (hb hby od_prog_11_method_2_56) ⟨rfl, N20, (by rw [e20]; exact k27), (by rw [e20]; exact f28), (by rw [e20]; exact f29), (by rw [e20]; exact (f17.same W20)), (by rw [e20]; exact f30), (by rw [e20]; exact f31), (by rw [e20]; exact f32)⟩ (by decide) (by decide)
theorem od_prog_11_method_2_15 : decode prog_11_method_2_code 15 = .ok (.aload_n 0, 1) := by decide +kernel
theorem od_prog_11_method_2_16 : decode prog_11_method_2_code 16 = .ok (.getfield 7, 3) := by decide +kernel
theorem od_prog_11_method_2_19 : decode prog_11_method_2_code 19 = .ok (.aload_n 1, 1) := by decide +kernel
theorem od_prog_11_method_2_20 : decode prog_11_method_2_code 20 = .ok (.putfield 16, 3) := by decide +kernel
theorem oef_rm_pu2 (m : MethodId) (rc : Addr) (rp : Addr) : entryFrame m #[(.ref rc), (.ref rp)] 2 = mkF m 0 #[.val (.ref rc), .val (.ref rp)] [] := by first | (simp [entryFrame, mkF, argsToLocals, Value.category]; done) | rfl
set_option maxRecDepth 65536 in
set_option maxHeartbeats 40000000 in
theorem rm_pu2 (l : Launch) (Z : State) (a0 : Array Value) (hw : ∀ d ∈ tables_1, d.before a0 Z = true) (rc : Addr) (rp : Addr) (rq : Addr) (u0 : Int32) (w0 : Value) (w1 : Value) (w2 : Value) (w3 : Value) (w4 : Value) (w5 : Value) (w6 : Value) (h0 : Heap) (n0 : Nat) (Z0 : n0 ≤ h0.size) (P0 : Exa Z h0 rc "com/example/slot3/slot3/frame/PostChain") (P1 : Exa Z h0 rp "com/example/slot3/slot3/frame/Post") (P2 : Fld Z h0 rc "com/example/slot3/slot3/frame/PostChain" "first" "Lcom/example/slot3/slot3/frame/Post;" (.ref rq)) (P3 : Fld Z h0 rc "com/example/slot3/slot3/frame/PostChain" "last" "Lcom/example/slot3/slot3/frame/Post;" (w0)) (P4 : Fld Z h0 rc "com/example/slot3/slot3/frame/PostChain" "count" "I" (.int u0)) (P5 : Exa Z h0 rq "com/example/slot3/slot3/frame/Post") (P6 : Fld Z h0 rp "com/example/slot3/slot3/frame/Post" "following" "Lcom/example/slot3/slot3/frame/Post;" (w1)) (P7 : Fld Z h0 rp "com/example/slot3/slot3/frame/Post" "previous" "Lcom/example/slot3/slot3/frame/Post;" (w2)) (P8 : Fld Z h0 rp "com/example/slot3/slot3/frame/Post" "chain" "Lcom/example/slot3/slot3/frame/PostChain;" (w3)) (P9 : Fld Z h0 rq "com/example/slot3/slot3/frame/Post" "following" "Lcom/example/slot3/slot3/frame/Post;" (w4)) (P10 : Fld Z h0 rq "com/example/slot3/slot3/frame/Post" "previous" "Lcom/example/slot3/slot3/frame/Post;" (w5)) (P11 : Fld Z h0 rq "com/example/slot3/slot3/frame/Post" "chain" "Lcom/example/slot3/slot3/frame/PostChain;" (w6)) (g_rc : n0 ≤ rc) (g_rp : n0 ≤ rp) (g_rq : n0 ≤ rq) (ne_rc_rp : rc ≠ rp) (ne_rc_rq : rc ≠ rq) (ne_rp_rq : rp ≠ rq) :
    own_M l Z (⟨"com/example/slot3/slot3/frame/PostChain", "push", "(Lcom/example/slot3/slot3/frame/Post;)V"⟩ : MethodName) prog_11_method_2_code 2 none [] ({ frames := 0, cells := 0, slots := 0, locals := 0 } : Room) #[(.ref rc), (.ref rp)] h0 (fun v h L => v = none ∧ Fr n0 L ∧ (Keep h0 h [rc, rp, rq]) ∧ (Fld Z h rc "com/example/slot3/slot3/frame/PostChain" "first" "Lcom/example/slot3/slot3/frame/Post;" (.ref rp)) ∧ (Fld Z h rc "com/example/slot3/slot3/frame/PostChain" "last" "Lcom/example/slot3/slot3/frame/Post;" (w0)) ∧ (Fld Z h rc "com/example/slot3/slot3/frame/PostChain" "count" "I" (.int (u0 + (1 : Int32)))) ∧ (Fld Z h rp "com/example/slot3/slot3/frame/Post" "following" "Lcom/example/slot3/slot3/frame/Post;" (.ref rq)) ∧ (Fld Z h rp "com/example/slot3/slot3/frame/Post" "previous" "Lcom/example/slot3/slot3/frame/Post;" (.null)) ∧ (Fld Z h rp "com/example/slot3/slot3/frame/Post" "chain" "Lcom/example/slot3/slot3/frame/PostChain;" (.ref rc)) ∧ (Fld Z h rq "com/example/slot3/slot3/frame/Post" "following" "Lcom/example/slot3/slot3/frame/Post;" (w4)) ∧ (Fld Z h rq "com/example/slot3/slot3/frame/Post" "previous" "Lcom/example/slot3/slot3/frame/Post;" (.ref rp)) ∧ (Fld Z h rq "com/example/slot3/slot3/frame/Post" "chain" "Lcom/example/slot3/slot3/frame/PostChain;" (w6))) 0 0 := by
  refine own_body (plainFor_of_name opn_com_example_slot3_slot3_frame_PostChain) ?_
  intro p e s m below meth c s1 hx hby hml hown hnm hret hlk hZ X0 e0
  rw [oef_rm_pu2 m rc rp]
  have N0 := Fr.nil n0
  refine own_aloadN X0 hx (hb hby od_prog_11_method_2_0) rfl rfl (pc' := 1) rfl ?_
  refine own_getF X0 hx hZ hown (ow_24 hw) e0 P2 (hb hby od_prog_11_method_2_1) (pc' := 4) rfl ?_
  intro T1 X1 e1
  refine own_ifnonnullT X1 hx (hb hby od_prog_11_method_2_4) (by decide) (pc' := 15) rfl ?_
  refine own_aloadN X1 hx (hb hby od_prog_11_method_2_15) rfl rfl (pc' := 16) rfl ?_
  refine own_getF X1 hx hZ hown (ow_24 hw) e1 P2 (hb hby od_prog_11_method_2_16) (pc' := 19) rfl ?_
  intro T2 X2 e2
  refine own_aloadN X2 hx (hb hby od_prog_11_method_2_19) rfl rfl (pc' := 20) rfl ?_
  refine own_putF X2 hx hZ hown (ow_26 hw) e2 P10 P5 (Or.inl (ow_27 hw)) (ow_11 hw) (ty := (.object "com/example/slot3/slot3/frame/Post")) (by decide) rfl rfl (hb hby od_prog_11_method_2_20) (pc' := 23) rfl ?_
  intro T3 h3 X3 e3 W3
  have N3 := Fr.snoc X3 N0 g_rq
  refine own_aloadN X3 hx (hb hby od_prog_11_method_2_23) rfl rfl (pc' := 24) rfl ?_
  refine own_aloadN X3 hx (hb hby od_prog_11_method_2_24) rfl rfl (pc' := 25) rfl ?_
  have f4 : Fld Z h3 rc "com/example/slot3/slot3/frame/PostChain" "first" "Lcom/example/slot3/slot3/frame/Post;" (.ref rq) := (P2.other W3 (Or.inl ne_rc_rq))
  refine own_getF X3 hx hZ hown (ow_24 hw) e3 f4 (hb hby od_prog_11_method_2_25) (pc' := 28) rfl ?_
  intro T5 X5 e5
  have f6 : Fld Z h3 rp "com/example/slot3/slot3/frame/Post" "following" "Lcom/example/slot3/slot3/frame/Post;" (w1) := (P6.other W3 (Or.inl ne_rp_rq))
  have f7 : Exa Z h3 rp "com/example/slot3/slot3/frame/Post" := (P1.wr W3)
  refine own_putF X5 hx hZ hown (ow_44 hw) e5 f6 f7 (Or.inl (ow_35 hw)) (ow_11 hw) (ty := (.object "com/example/slot3/slot3/frame/Post")) (by decide) rfl rfl (hb hby od_prog_11_method_2_28) (pc' := 31) rfl ?_
  intro T8 h8 X8 e8 W8
  have N8 := Fr.snoc X8 N3 g_rp
  refine own_aloadN X8 hx (hb hby od_prog_11_method_2_31) rfl rfl (pc' := 32) rfl ?_
  refine own_aconstNull X8 hx (hb hby od_prog_11_method_2_32) (pc' := 33) rfl ?_
  have f9 : Fld Z h8 rp "com/example/slot3/slot3/frame/Post" "previous" "Lcom/example/slot3/slot3/frame/Post;" (w2) := ((P7.other W3 (Or.inl ne_rp_rq)).other W8 (Or.inr (osn_10 hw)))
  have f10 : Exa Z h8 rp "com/example/slot3/slot3/frame/Post" := (f7.wr W8)
  refine own_putF X8 hx hZ hown (ow_26 hw) e8 f9 f10 (Or.inl (ow_27 hw)) (ow_11 hw) (ty := (.object "com/example/slot3/slot3/frame/Post")) (by decide) rfl rfl (hb hby od_prog_11_method_2_33) (pc' := 36) rfl ?_
  intro T11 h11 X11 e11 W11
  have N11 := Fr.snoc X11 N8 g_rp
  refine own_aloadN X11 hx (hb hby od_prog_11_method_2_36) rfl rfl (pc' := 37) rfl ?_
  refine own_aloadN X11 hx (hb hby od_prog_11_method_2_37) rfl rfl (pc' := 38) rfl ?_
  have f12 : Fld Z h11 rc "com/example/slot3/slot3/frame/PostChain" "first" "Lcom/example/slot3/slot3/frame/Post;" (.ref rq) := ((f4.other W8 (Or.inl ne_rc_rp)).other W11 (Or.inl ne_rc_rp))
  have f13 : Exa Z h11 rc "com/example/slot3/slot3/frame/PostChain" := (((P0.wr W3).wr W8).wr W11)
  refine own_putF X11 hx hZ hown (ow_24 hw) e11 f12 f13 (Or.inl (ow_25 hw)) (ow_2 hw) (ty := (.object "com/example/slot3/slot3/frame/Post")) (by decide) rfl rfl (hb hby od_prog_11_method_2_38) (pc' := 41) rfl ?_
  intro T14 h14 X14 e14 W14
  have N14 := Fr.snoc X14 N11 g_rc
  refine own_aloadN X14 hx (hb hby od_prog_11_method_2_41) rfl rfl (pc' := 42) rfl ?_
  refine own_aloadN X14 hx (hb hby od_prog_11_method_2_42) rfl rfl (pc' := 43) rfl ?_
  have f15 : Fld Z h14 rp "com/example/slot3/slot3/frame/Post" "chain" "Lcom/example/slot3/slot3/frame/PostChain;" (w3) := ((((P8.other W3 (Or.inl ne_rp_rq)).other W8 (Or.inr (osn_11 hw))).other W11 (Or.inr (osn_1 hw))).other W14 (Or.inl (Ne.symm ne_rc_rp)))
  have f16 : Exa Z h14 rp "com/example/slot3/slot3/frame/Post" := ((f10.wr W11).wr W14)
  refine own_putF X14 hx hZ hown (ow_28 hw) e14 f15 f16 (Or.inl (ow_29 hw)) (ow_11 hw) (ty := (.object "com/example/slot3/slot3/frame/PostChain")) (by decide) rfl rfl (hb hby od_prog_11_method_2_43) (pc' := 46) rfl ?_
  intro T17 h17 X17 e17 W17
  have N17 := Fr.snoc X17 N14 g_rp
  refine own_aloadN X17 hx (hb hby od_prog_11_method_2_46) rfl rfl (pc' := 47) rfl ?_
  refine own_dup X17 hx (hb hby od_prog_11_method_2_47) rfl (pc' := 48) rfl ?_
  have f18 : Fld Z h17 rc "com/example/slot3/slot3/frame/PostChain" "count" "I" (.int u0) := (((((P4.other W3 (Or.inl ne_rc_rq)).other W8 (Or.inl ne_rc_rp)).other W11 (Or.inl ne_rc_rp)).other W14 (Or.inr (osn_2 hw))).other W17 (Or.inl ne_rc_rp))
  refine own_getF X17 hx hZ hown (ow_30 hw) e17 f18 (hb hby od_prog_11_method_2_48) (pc' := 51) rfl ?_
  intro T19 X19 e19
  refine own_iconst X19 hx (hb hby od_prog_11_method_2_51) (z := (1 : Int32)) rfl (pc' := 52) rfl ?_
  refine own_iadd X19 hx (hb hby od_prog_11_method_2_52) (pc' := 53) rfl ?_
  have f20 : Exa Z h17 rc "com/example/slot3/slot3/frame/PostChain" := ((f13.wr W14).wr W17)
  refine own_putF X19 hx hZ hown (ow_30 hw) e19 f18 f20 (Or.inl (ow_31 hw)) (ow_2 hw) (ty := .int) (by decide) rfl rfl (hb hby od_prog_11_method_2_53) (pc' := 56) rfl ?_
  intro T21 h21 X21 e21 W21
  have N21 := Fr.snoc X21 N17 g_rc
  have k28 : Keep h0 h21 [rc, rp, rq] := (Keep.wr (Keep.wr (Keep.wr (Keep.wr (Keep.wr (Keep.wr (Keep.refl _ _) W3 (Or.inl (List.mem_of_getElem? (i := 2) rfl))) W8 (Or.inl (List.mem_of_getElem? (i := 1) rfl))) W11 (Or.inl (List.mem_of_getElem? (i := 1) rfl))) W14 (Or.inl (List.mem_of_getElem? (i := 0) rfl))) W17 (Or.inl (List.mem_of_getElem? (i := 1) rfl))) W21 (Or.inl (List.mem_of_getElem? (i := 0) rfl)))
  have f29 : Fld Z h21 rc "com/example/slot3/slot3/frame/PostChain" "first" "Lcom/example/slot3/slot3/frame/Post;" (.ref rp) := (((f12.same W14).other W17 (Or.inl ne_rc_rp)).other W21 (Or.inr (osn_5 hw)))
  have f30 : Fld Z h21 rc "com/example/slot3/slot3/frame/PostChain" "last" "Lcom/example/slot3/slot3/frame/Post;" (w0) := ((((((P3.other W3 (Or.inl ne_rc_rq)).other W8 (Or.inl ne_rc_rp)).other W11 (Or.inl ne_rc_rp)).other W14 (Or.inr (osn_0 hw))).other W17 (Or.inl ne_rc_rp)).other W21 (Or.inr (osn_6 hw)))
  have f31 : Fld Z h21 rp "com/example/slot3/slot3/frame/Post" "following" "Lcom/example/slot3/slot3/frame/Post;" (.ref rq) := (((((f6.same W8).other W11 (Or.inr (osn_7 hw))).other W14 (Or.inl (Ne.symm ne_rc_rp))).other W17 (Or.inr (osn_8 hw))).other W21 (Or.inl (Ne.symm ne_rc_rp)))
  have f32 : Fld Z h21 rp "com/example/slot3/slot3/frame/Post" "previous" "Lcom/example/slot3/slot3/frame/Post;" (.null) := ((((f9.same W11).other W14 (Or.inl (Ne.symm ne_rc_rp))).other W17 (Or.inr (osn_9 hw))).other W21 (Or.inl (Ne.symm ne_rc_rp)))
  have f33 : Fld Z h21 rp "com/example/slot3/slot3/frame/Post" "chain" "Lcom/example/slot3/slot3/frame/PostChain;" (.ref rc) := ((f15.same W17).other W21 (Or.inl (Ne.symm ne_rc_rp)))
  have f34 : Fld Z h21 rq "com/example/slot3/slot3/frame/Post" "following" "Lcom/example/slot3/slot3/frame/Post;" (w4) := ((((((P9.other W3 (Or.inr (osn_7 hw))).other W8 (Or.inl (Ne.symm ne_rp_rq))).other W11 (Or.inl (Ne.symm ne_rp_rq))).other W14 (Or.inl (Ne.symm ne_rc_rq))).other W17 (Or.inl (Ne.symm ne_rp_rq))).other W21 (Or.inl (Ne.symm ne_rc_rq)))
  have f35 : Fld Z h21 rq "com/example/slot3/slot3/frame/Post" "previous" "Lcom/example/slot3/slot3/frame/Post;" (.ref rp) := ((((((P10.same W3).other W8 (Or.inl (Ne.symm ne_rp_rq))).other W11 (Or.inl (Ne.symm ne_rp_rq))).other W14 (Or.inl (Ne.symm ne_rc_rq))).other W17 (Or.inl (Ne.symm ne_rp_rq))).other W21 (Or.inl (Ne.symm ne_rc_rq)))
  have f36 : Fld Z h21 rq "com/example/slot3/slot3/frame/Post" "chain" "Lcom/example/slot3/slot3/frame/PostChain;" (w6) := ((((((P11.other W3 (Or.inr (osn_1 hw))).other W8 (Or.inl (Ne.symm ne_rp_rq))).other W11 (Or.inl (Ne.symm ne_rp_rq))).other W14 (Or.inl (Ne.symm ne_rc_rq))).other W17 (Or.inl (Ne.symm ne_rp_rq))).other W21 (Or.inl (Ne.symm ne_rc_rq)))
  exact own_retV X21 hx hret hlk (hb hby od_prog_11_method_2_56) ⟨rfl, N21, (by rw [e21]; exact k28), (by rw [e21]; exact f29), (by rw [e21]; exact f30), (by rw [e21]; exact (f18.same W21)), (by rw [e21]; exact f31), (by rw [e21]; exact f32), (by rw [e21]; exact f33), (by rw [e21]; exact f34), (by rw [e21]; exact f35), (by rw [e21]; exact f36)⟩ (by decide) (by decide)
theorem od_prog_11_method_5_0 : decode prog_11_method_5_code 0 = .ok (.aload_n 1, 1) := by decide +kernel
theorem od_prog_11_method_5_1 : decode prog_11_method_5_code 1 = .ok (.getfield 21, 3) := by decide +kernel
theorem od_prog_11_method_5_4 : decode prog_11_method_5_code 4 = .ok (.astore_n 2, 1) := by decide +kernel
theorem od_prog_11_method_5_5 : decode prog_11_method_5_code 5 = .ok (.aload_n 1, 1) := by decide +kernel
theorem od_prog_11_method_5_6 : decode prog_11_method_5_code 6 = .ok (.getfield 16, 3) := by decide +kernel
theorem od_prog_11_method_5_9 : decode prog_11_method_5_code 9 = .ok (.astore_n 3, 1) := by decide +kernel
theorem od_prog_11_method_5_10 : decode prog_11_method_5_code 10 = .ok (.aload_n 3, 1) := by decide +kernel
theorem od_prog_11_method_5_11 : decode prog_11_method_5_code 11 = .ok (.ifnonnull 11, 3) := by decide +kernel
theorem od_prog_11_method_5_14 : decode prog_11_method_5_code 14 = .ok (.aload_n 0, 1) := by decide +kernel
theorem od_prog_11_method_5_15 : decode prog_11_method_5_code 15 = .ok (.aload_n 2, 1) := by decide +kernel
theorem od_prog_11_method_5_16 : decode prog_11_method_5_code 16 = .ok (.putfield 7, 3) := by decide +kernel
theorem od_prog_11_method_5_19 : decode prog_11_method_5_code 19 = .ok (.goto 8, 3) := by decide +kernel
theorem od_prog_11_method_5_27 : decode prog_11_method_5_code 27 = .ok (.aload_n 2, 1) := by decide +kernel
theorem od_prog_11_method_5_28 : decode prog_11_method_5_code 28 = .ok (.ifnonnull 11, 3) := by decide +kernel
theorem od_prog_11_method_5_31 : decode prog_11_method_5_code 31 = .ok (.aload_n 0, 1) := by decide +kernel
theorem od_prog_11_method_5_32 : decode prog_11_method_5_code 32 = .ok (.aload_n 3, 1) := by decide +kernel
theorem od_prog_11_method_5_33 : decode prog_11_method_5_code 33 = .ok (.putfield 13, 3) := by decide +kernel
theorem od_prog_11_method_5_36 : decode prog_11_method_5_code 36 = .ok (.goto 8, 3) := by decide +kernel
theorem od_prog_11_method_5_44 : decode prog_11_method_5_code 44 = .ok (.aload_n 1, 1) := by decide +kernel
theorem od_prog_11_method_5_45 : decode prog_11_method_5_code 45 = .ok (.aconst_null, 1) := by decide +kernel
theorem od_prog_11_method_5_46 : decode prog_11_method_5_code 46 = .ok (.putfield 21, 3) := by decide +kernel
theorem od_prog_11_method_5_49 : decode prog_11_method_5_code 49 = .ok (.aload_n 1, 1) := by decide +kernel
theorem od_prog_11_method_5_50 : decode prog_11_method_5_code 50 = .ok (.aconst_null, 1) := by decide +kernel
theorem od_prog_11_method_5_51 : decode prog_11_method_5_code 51 = .ok (.putfield 16, 3) := by decide +kernel
theorem od_prog_11_method_5_54 : decode prog_11_method_5_code 54 = .ok (.aload_n 1, 1) := by decide +kernel
theorem od_prog_11_method_5_55 : decode prog_11_method_5_code 55 = .ok (.aconst_null, 1) := by decide +kernel
theorem od_prog_11_method_5_56 : decode prog_11_method_5_code 56 = .ok (.putfield 24, 3) := by decide +kernel
theorem od_prog_11_method_5_59 : decode prog_11_method_5_code 59 = .ok (.aload_n 0, 1) := by decide +kernel
theorem od_prog_11_method_5_60 : decode prog_11_method_5_code 60 = .ok (.dup, 1) := by decide +kernel
theorem od_prog_11_method_5_61 : decode prog_11_method_5_code 61 = .ok (.getfield 28, 3) := by decide +kernel
theorem od_prog_11_method_5_64 : decode prog_11_method_5_code 64 = .ok (.iconst 1, 1) := by decide +kernel
theorem od_prog_11_method_5_65 : decode prog_11_method_5_code 65 = .ok (.isub, 1) := by decide +kernel
theorem od_prog_11_method_5_66 : decode prog_11_method_5_code 66 = .ok (.putfield 28, 3) := by decide +kernel
theorem od_prog_11_method_5_69 : decode prog_11_method_5_code 69 = .ok (.return_, 1) := by decide +kernel
theorem oef_rm_ulnn (m : MethodId) (rc : Addr) (rx : Addr) : entryFrame m #[(.ref rc), (.ref rx)] 4 = mkF m 0 #[.val (.ref rc), .val (.ref rx), .unset, .unset] [] := by first | (simp [entryFrame, mkF, argsToLocals, Value.category]; done) | rfl
set_option maxRecDepth 65536 in
set_option maxHeartbeats 40000000 in
theorem rm_ulnn (l : Launch) (Z : State) (a0 : Array Value) (hw : ∀ d ∈ tables_1, d.before a0 Z = true) (rc : Addr) (rx : Addr) (u0 : Int32) (w0 : Value) (w1 : Value) (w2 : Value) (h0 : Heap) (n0 : Nat) (Z0 : n0 ≤ h0.size) (P0 : Exa Z h0 rc "com/example/slot3/slot3/frame/PostChain") (P1 : Exa Z h0 rx "com/example/slot3/slot3/frame/Post") (P2 : Fld Z h0 rc "com/example/slot3/slot3/frame/PostChain" "first" "Lcom/example/slot3/slot3/frame/Post;" (w0)) (P3 : Fld Z h0 rc "com/example/slot3/slot3/frame/PostChain" "last" "Lcom/example/slot3/slot3/frame/Post;" (w1)) (P4 : Fld Z h0 rc "com/example/slot3/slot3/frame/PostChain" "count" "I" (.int u0)) (P5 : Fld Z h0 rx "com/example/slot3/slot3/frame/Post" "following" "Lcom/example/slot3/slot3/frame/Post;" (.null)) (P6 : Fld Z h0 rx "com/example/slot3/slot3/frame/Post" "previous" "Lcom/example/slot3/slot3/frame/Post;" (.null)) (P7 : Fld Z h0 rx "com/example/slot3/slot3/frame/Post" "chain" "Lcom/example/slot3/slot3/frame/PostChain;" (w2)) (g_rc : n0 ≤ rc) (g_rx : n0 ≤ rx) (ne_rc_rx : rc ≠ rx) :
    own_M l Z (⟨"com/example/slot3/slot3/frame/PostChain", "unlink", "(Lcom/example/slot3/slot3/frame/Post;)V"⟩ : MethodName) prog_11_method_5_code 4 none [] ({ frames := 0, cells := 0, slots := 0, locals := 0 } : Room) #[(.ref rc), (.ref rx)] h0 (fun v h L => v = none ∧ Fr n0 L ∧ (Keep h0 h [rc, rx]) ∧ (Fld Z h rc "com/example/slot3/slot3/frame/PostChain" "first" "Lcom/example/slot3/slot3/frame/Post;" (.null)) ∧ (Fld Z h rc "com/example/slot3/slot3/frame/PostChain" "last" "Lcom/example/slot3/slot3/frame/Post;" (.null)) ∧ (Fld Z h rc "com/example/slot3/slot3/frame/PostChain" "count" "I" (.int (u0 - (1 : Int32)))) ∧ (Fld Z h rx "com/example/slot3/slot3/frame/Post" "following" "Lcom/example/slot3/slot3/frame/Post;" (.null)) ∧ (Fld Z h rx "com/example/slot3/slot3/frame/Post" "previous" "Lcom/example/slot3/slot3/frame/Post;" (.null)) ∧ (Fld Z h rx "com/example/slot3/slot3/frame/Post" "chain" "Lcom/example/slot3/slot3/frame/PostChain;" (.null))) 0 0 := by
  refine own_body (plainFor_of_name opn_com_example_slot3_slot3_frame_PostChain) ?_
  intro p e s m below meth c s1 hx hby hml hown hnm hret hlk hZ X0 e0
  rw [oef_rm_ulnn m rc rx]
  have N0 := Fr.nil n0
  refine own_aloadN X0 hx (hb hby od_prog_11_method_5_0) rfl rfl (pc' := 1) rfl ?_
  refine own_getF X0 hx hZ hown (ow_44 hw) e0 P5 (hb hby od_prog_11_method_5_1) (pc' := 4) rfl ?_
  intro T1 X1 e1
  refine own_astoreN X1 hx (hb hby od_prog_11_method_5_4) rfl (l' := #[.val (.ref rc), .val (.ref rx), .val (.null), .unset]) rfl (pc' := 5) rfl ?_
  refine own_aloadN X1 hx (hb hby od_prog_11_method_5_5) rfl rfl (pc' := 6) rfl ?_
  refine own_getF X1 hx hZ hown (ow_26 hw) e1 P6 (hb hby od_prog_11_method_5_6) (pc' := 9) rfl ?_
  intro T2 X2 e2
  refine own_astoreN X2 hx (hb hby od_prog_11_method_5_9) rfl (l' := #[.val (.ref rc), .val (.ref rx), .val (.null), .val (.null)]) rfl (pc' := 10) rfl ?_
  refine own_aloadN X2 hx (hb hby od_prog_11_method_5_10) rfl rfl (pc' := 11) rfl ?_
  refine own_ifnonnullF X2 hx (hb hby od_prog_11_method_5_11) (pc' := 14) rfl ?_
  refine own_aloadN X2 hx (hb hby od_prog_11_method_5_14) rfl rfl (pc' := 15) rfl ?_
  refine own_aloadN X2 hx (hb hby od_prog_11_method_5_15) rfl rfl (pc' := 16) rfl ?_
  refine own_putF X2 hx hZ hown (ow_24 hw) e2 P2 P0 (Or.inl (ow_25 hw)) (ow_2 hw) (ty := (.object "com/example/slot3/slot3/frame/Post")) (by decide) rfl rfl (hb hby od_prog_11_method_5_16) (pc' := 19) rfl ?_
  intro T3 h3 X3 e3 W3
  have N3 := Fr.snoc X3 N0 g_rc
  refine own_goto X3 hx (hb hby od_prog_11_method_5_19) (by decide) (pc' := 27) rfl ?_
  refine own_aloadN X3 hx (hb hby od_prog_11_method_5_27) rfl rfl (pc' := 28) rfl ?_
  refine own_ifnonnullF X3 hx (hb hby od_prog_11_method_5_28) (pc' := 31) rfl ?_
  refine own_aloadN X3 hx (hb hby od_prog_11_method_5_31) rfl rfl (pc' := 32) rfl ?_
  refine own_aloadN X3 hx (hb hby od_prog_11_method_5_32) rfl rfl (pc' := 33) rfl ?_
  have f4 : Fld Z h3 rc "com/example/slot3/slot3/frame/PostChain" "last" "Lcom/example/slot3/slot3/frame/Post;" (w1) := (P3.other W3 (Or.inr (osn_0 hw)))
  have f5 : Exa Z h3 rc "com/example/slot3/slot3/frame/PostChain" := (P0.wr W3)
  refine own_putF X3 hx hZ hown (ow_22 hw) e3 f4 f5 (Or.inl (ow_23 hw)) (ow_2 hw) (ty := (.object "com/example/slot3/slot3/frame/Post")) (by decide) rfl rfl (hb hby od_prog_11_method_5_33) (pc' := 36) rfl ?_
  intro T6 h6 X6 e6 W6
  have N6 := Fr.snoc X6 N3 g_rc
  refine own_goto X6 hx (hb hby od_prog_11_method_5_36) (by decide) (pc' := 44) rfl ?_
  refine own_aloadN X6 hx (hb hby od_prog_11_method_5_44) rfl rfl (pc' := 45) rfl ?_
  refine own_aconstNull X6 hx (hb hby od_prog_11_method_5_45) (pc' := 46) rfl ?_
  have f7 : Fld Z h6 rx "com/example/slot3/slot3/frame/Post" "following" "Lcom/example/slot3/slot3/frame/Post;" (.null) := ((P5.other W3 (Or.inl (Ne.symm ne_rc_rx))).other W6 (Or.inl (Ne.symm ne_rc_rx)))
  have f8 : Exa Z h6 rx "com/example/slot3/slot3/frame/Post" := ((P1.wr W3).wr W6)
  refine own_putF X6 hx hZ hown (ow_44 hw) e6 f7 f8 (Or.inl (ow_35 hw)) (ow_11 hw) (ty := (.object "com/example/slot3/slot3/frame/Post")) (by decide) rfl rfl (hb hby od_prog_11_method_5_46) (pc' := 49) rfl ?_
  intro T9 h9 X9 e9 W9
  have N9 := Fr.snoc X9 N6 g_rx
  refine own_aloadN X9 hx (hb hby od_prog_11_method_5_49) rfl rfl (pc' := 50) rfl ?_
  refine own_aconstNull X9 hx (hb hby od_prog_11_method_5_50) (pc' := 51) rfl ?_
  have f10 : Fld Z h9 rx "com/example/slot3/slot3/frame/Post" "previous" "Lcom/example/slot3/slot3/frame/Post;" (.null) := (((P6.other W3 (Or.inl (Ne.symm ne_rc_rx))).other W6 (Or.inl (Ne.symm ne_rc_rx))).other W9 (Or.inr (osn_10 hw)))
  have f11 : Exa Z h9 rx "com/example/slot3/slot3/frame/Post" := (f8.wr W9)
  refine own_putF X9 hx hZ hown (ow_26 hw) e9 f10 f11 (Or.inl (ow_27 hw)) (ow_11 hw) (ty := (.object "com/example/slot3/slot3/frame/Post")) (by decide) rfl rfl (hb hby od_prog_11_method_5_51) (pc' := 54) rfl ?_
  intro T12 h12 X12 e12 W12
  have N12 := Fr.snoc X12 N9 g_rx
  refine own_aloadN X12 hx (hb hby od_prog_11_method_5_54) rfl rfl (pc' := 55) rfl ?_
  refine own_aconstNull X12 hx (hb hby od_prog_11_method_5_55) (pc' := 56) rfl ?_
  have f13 : Fld Z h12 rx "com/example/slot3/slot3/frame/Post" "chain" "Lcom/example/slot3/slot3/frame/PostChain;" (w2) := ((((P7.other W3 (Or.inl (Ne.symm ne_rc_rx))).other W6 (Or.inl (Ne.symm ne_rc_rx))).other W9 (Or.inr (osn_11 hw))).other W12 (Or.inr (osn_1 hw)))
  have f14 : Exa Z h12 rx "com/example/slot3/slot3/frame/Post" := (f11.wr W12)
  refine own_putF X12 hx hZ hown (ow_28 hw) e12 f13 f14 (Or.inl (ow_29 hw)) (ow_11 hw) (ty := (.object "com/example/slot3/slot3/frame/PostChain")) (by decide) rfl rfl (hb hby od_prog_11_method_5_56) (pc' := 59) rfl ?_
  intro T15 h15 X15 e15 W15
  have N15 := Fr.snoc X15 N12 g_rx
  refine own_aloadN X15 hx (hb hby od_prog_11_method_5_59) rfl rfl (pc' := 60) rfl ?_
  refine own_dup X15 hx (hb hby od_prog_11_method_5_60) rfl (pc' := 61) rfl ?_
  have f16 : Fld Z h15 rc "com/example/slot3/slot3/frame/PostChain" "count" "I" (.int u0) := (((((P4.other W3 (Or.inr (osn_2 hw))).other W6 (Or.inr (osn_3 hw))).other W9 (Or.inl ne_rc_rx)).other W12 (Or.inl ne_rc_rx)).other W15 (Or.inl ne_rc_rx))
  refine own_getF X15 hx hZ hown (ow_30 hw) e15 f16 (hb hby od_prog_11_method_5_61) (pc' := 64) rfl ?_
  intro T17 X17 e17
  refine own_iconst X17 hx (hb hby od_prog_11_method_5_64) (z := (1 : Int32)) rfl (pc' := 65) rfl ?_
  refine own_isub X17 hx (hb hby od_prog_11_method_5_65) (pc' := 66) rfl ?_
  have f18 : Exa Z h15 rc "com/example/slot3/slot3/frame/PostChain" := ((((f5.wr W6).wr W9).wr W12).wr W15)
  refine own_putF X17 hx hZ hown (ow_30 hw) e17 f16 f18 (Or.inl (ow_31 hw)) (ow_2 hw) (ty := .int) (by decide) rfl rfl (hb hby od_prog_11_method_5_66) (pc' := 69) rfl ?_
  intro T19 h19 X19 e19 W19
  have N19 := Fr.snoc X19 N15 g_rc
  have k26 : Keep h0 h19 [rc, rx] := (Keep.wr (Keep.wr (Keep.wr (Keep.wr (Keep.wr (Keep.wr (Keep.refl _ _) W3 (Or.inl (List.mem_of_getElem? (i := 0) rfl))) W6 (Or.inl (List.mem_of_getElem? (i := 0) rfl))) W9 (Or.inl (List.mem_of_getElem? (i := 1) rfl))) W12 (Or.inl (List.mem_of_getElem? (i := 1) rfl))) W15 (Or.inl (List.mem_of_getElem? (i := 1) rfl))) W19 (Or.inl (List.mem_of_getElem? (i := 0) rfl)))
  have f27 : Fld Z h19 rc "com/example/slot3/slot3/frame/PostChain" "first" "Lcom/example/slot3/slot3/frame/Post;" (.null) := ((((((P2.same W3).other W6 (Or.inr (osn_4 hw))).other W9 (Or.inl ne_rc_rx)).other W12 (Or.inl ne_rc_rx)).other W15 (Or.inl ne_rc_rx)).other W19 (Or.inr (osn_5 hw)))
  have f28 : Fld Z h19 rc "com/example/slot3/slot3/frame/PostChain" "last" "Lcom/example/slot3/slot3/frame/Post;" (.null) := (((((f4.same W6).other W9 (Or.inl ne_rc_rx)).other W12 (Or.inl ne_rc_rx)).other W15 (Or.inl ne_rc_rx)).other W19 (Or.inr (osn_6 hw)))
  have f29 : Fld Z h19 rx "com/example/slot3/slot3/frame/Post" "following" "Lcom/example/slot3/slot3/frame/Post;" (.null) := ((((f7.same W9).other W12 (Or.inr (osn_7 hw))).other W15 (Or.inr (osn_8 hw))).other W19 (Or.inl (Ne.symm ne_rc_rx)))
  have f30 : Fld Z h19 rx "com/example/slot3/slot3/frame/Post" "previous" "Lcom/example/slot3/slot3/frame/Post;" (.null) := (((f10.same W12).other W15 (Or.inr (osn_9 hw))).other W19 (Or.inl (Ne.symm ne_rc_rx)))
  have f31 : Fld Z h19 rx "com/example/slot3/slot3/frame/Post" "chain" "Lcom/example/slot3/slot3/frame/PostChain;" (.null) := ((f13.same W15).other W19 (Or.inl (Ne.symm ne_rc_rx)))
  exact own_retV X19 hx hret hlk (hb hby od_prog_11_method_5_69) ⟨rfl, N19, (by rw [e19]; exact k26), (by rw [e19]; exact f27), (by rw [e19]; exact f28), (by rw [e19]; exact (f16.same W19)), (by rw [e19]; exact f29), (by rw [e19]; exact f30), (by rw [e19]; exact f31)⟩ (by decide) (by decide)
theorem od_prog_11_method_5_39 : decode prog_11_method_5_code 39 = .ok (.aload_n 2, 1) := by decide +kernel
theorem od_prog_11_method_5_40 : decode prog_11_method_5_code 40 = .ok (.aload_n 3, 1) := by decide +kernel
theorem od_prog_11_method_5_41 : decode prog_11_method_5_code 41 = .ok (.putfield 16, 3) := by decide +kernel
theorem oef_rm_ulnr (m : MethodId) (rc : Addr) (rx : Addr) : entryFrame m #[(.ref rc), (.ref rx)] 4 = mkF m 0 #[.val (.ref rc), .val (.ref rx), .unset, .unset] [] := by first | (simp [entryFrame, mkF, argsToLocals, Value.category]; done) | rfl
set_option maxRecDepth 65536 in
set_option maxHeartbeats 40000000 in
theorem rm_ulnr (l : Launch) (Z : State) (a0 : Array Value) (hw : ∀ d ∈ tables_1, d.before a0 Z = true) (rc : Addr) (rx : Addr) (rr : Addr) (u0 : Int32) (w0 : Value) (w1 : Value) (w2 : Value) (w6 : Value) (w7 : Value) (w8 : Value) (h0 : Heap) (n0 : Nat) (Z0 : n0 ≤ h0.size) (P0 : Exa Z h0 rc "com/example/slot3/slot3/frame/PostChain") (P1 : Exa Z h0 rx "com/example/slot3/slot3/frame/Post") (P2 : Fld Z h0 rc "com/example/slot3/slot3/frame/PostChain" "first" "Lcom/example/slot3/slot3/frame/Post;" (w0)) (P3 : Fld Z h0 rc "com/example/slot3/slot3/frame/PostChain" "last" "Lcom/example/slot3/slot3/frame/Post;" (w1)) (P4 : Fld Z h0 rc "com/example/slot3/slot3/frame/PostChain" "count" "I" (.int u0)) (P5 : Fld Z h0 rx "com/example/slot3/slot3/frame/Post" "following" "Lcom/example/slot3/slot3/frame/Post;" (.ref rr)) (P6 : Fld Z h0 rx "com/example/slot3/slot3/frame/Post" "previous" "Lcom/example/slot3/slot3/frame/Post;" (.null)) (P7 : Fld Z h0 rx "com/example/slot3/slot3/frame/Post" "chain" "Lcom/example/slot3/slot3/frame/PostChain;" (w2)) (P8 : Exa Z h0 rr "com/example/slot3/slot3/frame/Post") (P9 : Fld Z h0 rr "com/example/slot3/slot3/frame/Post" "following" "Lcom/example/slot3/slot3/frame/Post;" (w6)) (P10 : Fld Z h0 rr "com/example/slot3/slot3/frame/Post" "previous" "Lcom/example/slot3/slot3/frame/Post;" (w7)) (P11 : Fld Z h0 rr "com/example/slot3/slot3/frame/Post" "chain" "Lcom/example/slot3/slot3/frame/PostChain;" (w8)) (g_rc : n0 ≤ rc) (g_rx : n0 ≤ rx) (g_rr : n0 ≤ rr) (ne_rc_rx : rc ≠ rx) (ne_rc_rr : rc ≠ rr) (ne_rx_rr : rx ≠ rr) :
    own_M l Z (⟨"com/example/slot3/slot3/frame/PostChain", "unlink", "(Lcom/example/slot3/slot3/frame/Post;)V"⟩ : MethodName) prog_11_method_5_code 4 none [] ({ frames := 0, cells := 0, slots := 0, locals := 0 } : Room) #[(.ref rc), (.ref rx)] h0 (fun v h L => v = none ∧ Fr n0 L ∧ (Keep h0 h [rc, rx, rr]) ∧ (Fld Z h rc "com/example/slot3/slot3/frame/PostChain" "first" "Lcom/example/slot3/slot3/frame/Post;" (.ref rr)) ∧ (Fld Z h rc "com/example/slot3/slot3/frame/PostChain" "last" "Lcom/example/slot3/slot3/frame/Post;" (w1)) ∧ (Fld Z h rc "com/example/slot3/slot3/frame/PostChain" "count" "I" (.int (u0 - (1 : Int32)))) ∧ (Fld Z h rx "com/example/slot3/slot3/frame/Post" "following" "Lcom/example/slot3/slot3/frame/Post;" (.null)) ∧ (Fld Z h rx "com/example/slot3/slot3/frame/Post" "previous" "Lcom/example/slot3/slot3/frame/Post;" (.null)) ∧ (Fld Z h rx "com/example/slot3/slot3/frame/Post" "chain" "Lcom/example/slot3/slot3/frame/PostChain;" (.null)) ∧ (Fld Z h rr "com/example/slot3/slot3/frame/Post" "following" "Lcom/example/slot3/slot3/frame/Post;" (w6)) ∧ (Fld Z h rr "com/example/slot3/slot3/frame/Post" "previous" "Lcom/example/slot3/slot3/frame/Post;" (.null)) ∧ (Fld Z h rr "com/example/slot3/slot3/frame/Post" "chain" "Lcom/example/slot3/slot3/frame/PostChain;" (w8))) 0 0 := by
  refine own_body (plainFor_of_name opn_com_example_slot3_slot3_frame_PostChain) ?_
  intro p e s m below meth c s1 hx hby hml hown hnm hret hlk hZ X0 e0
  rw [oef_rm_ulnr m rc rx]
  have N0 := Fr.nil n0
  refine own_aloadN X0 hx (hb hby od_prog_11_method_5_0) rfl rfl (pc' := 1) rfl ?_
  refine own_getF X0 hx hZ hown (ow_44 hw) e0 P5 (hb hby od_prog_11_method_5_1) (pc' := 4) rfl ?_
  intro T1 X1 e1
  refine own_astoreN X1 hx (hb hby od_prog_11_method_5_4) rfl (l' := #[.val (.ref rc), .val (.ref rx), .val (.ref rr), .unset]) rfl (pc' := 5) rfl ?_
  refine own_aloadN X1 hx (hb hby od_prog_11_method_5_5) rfl rfl (pc' := 6) rfl ?_
  refine own_getF X1 hx hZ hown (ow_26 hw) e1 P6 (hb hby od_prog_11_method_5_6) (pc' := 9) rfl ?_
  intro T2 X2 e2
  refine own_astoreN X2 hx (hb hby od_prog_11_method_5_9) rfl (l' := #[.val (.ref rc), .val (.ref rx), .val (.ref rr), .val (.null)]) rfl (pc' := 10) rfl ?_
  refine own_aloadN X2 hx (hb hby od_prog_11_method_5_10) rfl rfl (pc' := 11) rfl ?_
  refine own_ifnonnullF X2 hx (hb hby od_prog_11_method_5_11) (pc' := 14) rfl ?_
  refine own_aloadN X2 hx (hb hby od_prog_11_method_5_14) rfl rfl (pc' := 15) rfl ?_
  refine own_aloadN X2 hx (hb hby od_prog_11_method_5_15) rfl rfl (pc' := 16) rfl ?_
  refine own_putF X2 hx hZ hown (ow_24 hw) e2 P2 P0 (Or.inl (ow_25 hw)) (ow_2 hw) (ty := (.object "com/example/slot3/slot3/frame/Post")) (by decide) rfl rfl (hb hby od_prog_11_method_5_16) (pc' := 19) rfl ?_
  intro T3 h3 X3 e3 W3
  have N3 := Fr.snoc X3 N0 g_rc
  refine own_goto X3 hx (hb hby od_prog_11_method_5_19) (by decide) (pc' := 27) rfl ?_
  refine own_aloadN X3 hx (hb hby od_prog_11_method_5_27) rfl rfl (pc' := 28) rfl ?_
  refine own_ifnonnullT X3 hx (hb hby od_prog_11_method_5_28) (by decide) (pc' := 39) rfl ?_
  refine own_aloadN X3 hx (hb hby od_prog_11_method_5_39) rfl rfl (pc' := 40) rfl ?_
  refine own_aloadN X3 hx (hb hby od_prog_11_method_5_40) rfl rfl (pc' := 41) rfl ?_
  have f4 : Fld Z h3 rr "com/example/slot3/slot3/frame/Post" "previous" "Lcom/example/slot3/slot3/frame/Post;" (w7) := (P10.other W3 (Or.inl (Ne.symm ne_rc_rr)))
  have f5 : Exa Z h3 rr "com/example/slot3/slot3/frame/Post" := (P8.wr W3)
  refine own_putF X3 hx hZ hown (ow_26 hw) e3 f4 f5 (Or.inl (ow_27 hw)) (ow_11 hw) (ty := (.object "com/example/slot3/slot3/frame/Post")) (by decide) rfl rfl (hb hby od_prog_11_method_5_41) (pc' := 44) rfl ?_
  intro T6 h6 X6 e6 W6
  have N6 := Fr.snoc X6 N3 g_rr
  refine own_aloadN X6 hx (hb hby od_prog_11_method_5_44) rfl rfl (pc' := 45) rfl ?_
  refine own_aconstNull X6 hx (hb hby od_prog_11_method_5_45) (pc' := 46) rfl ?_
  have f7 : Fld Z h6 rx "com/example/slot3/slot3/frame/Post" "following" "Lcom/example/slot3/slot3/frame/Post;" (.ref rr) := ((P5.other W3 (Or.inl (Ne.symm ne_rc_rx))).other W6 (Or.inl ne_rx_rr))
  have f8 : Exa Z h6 rx "com/example/slot3/slot3/frame/Post" := ((P1.wr W3).wr W6)
  refine own_putF X6 hx hZ hown (ow_44 hw) e6 f7 f8 (Or.inl (ow_35 hw)) (ow_11 hw) (ty := (.object "com/example/slot3/slot3/frame/Post")) (by decide) rfl rfl (hb hby od_prog_11_method_5_46) (pc' := 49) rfl ?_
  intro T9 h9 X9 e9 W9
  have N9 := Fr.snoc X9 N6 g_rx
  refine own_aloadN X9 hx (hb hby od_prog_11_method_5_49) rfl rfl (pc' := 50) rfl ?_
  refine own_aconstNull X9 hx (hb hby od_prog_11_method_5_50) (pc' := 51) rfl ?_
  have f10 : Fld Z h9 rx "com/example/slot3/slot3/frame/Post" "previous" "Lcom/example/slot3/slot3/frame/Post;" (.null) := (((P6.other W3 (Or.inl (Ne.symm ne_rc_rx))).other W6 (Or.inl ne_rx_rr)).other W9 (Or.inr (osn_10 hw)))
  have f11 : Exa Z h9 rx "com/example/slot3/slot3/frame/Post" := (f8.wr W9)
  refine own_putF X9 hx hZ hown (ow_26 hw) e9 f10 f11 (Or.inl (ow_27 hw)) (ow_11 hw) (ty := (.object "com/example/slot3/slot3/frame/Post")) (by decide) rfl rfl (hb hby od_prog_11_method_5_51) (pc' := 54) rfl ?_
  intro T12 h12 X12 e12 W12
  have N12 := Fr.snoc X12 N9 g_rx
  refine own_aloadN X12 hx (hb hby od_prog_11_method_5_54) rfl rfl (pc' := 55) rfl ?_
  refine own_aconstNull X12 hx (hb hby od_prog_11_method_5_55) (pc' := 56) rfl ?_
  have f13 : Fld Z h12 rx "com/example/slot3/slot3/frame/Post" "chain" "Lcom/example/slot3/slot3/frame/PostChain;" (w2) := ((((P7.other W3 (Or.inl (Ne.symm ne_rc_rx))).other W6 (Or.inl ne_rx_rr)).other W9 (Or.inr (osn_11 hw))).other W12 (Or.inr (osn_1 hw)))
  have f14 : Exa Z h12 rx "com/example/slot3/slot3/frame/Post" := (f11.wr W12)
  refine own_putF X12 hx hZ hown (ow_28 hw) e12 f13 f14 (Or.inl (ow_29 hw)) (ow_11 hw) (ty := (.object "com/example/slot3/slot3/frame/PostChain")) (by decide) rfl rfl (hb hby od_prog_11_method_5_56) (pc' := 59) rfl ?_
  intro T15 h15 X15 e15 W15
  have N15 := Fr.snoc X15 N12 g_rx
  refine own_aloadN X15 hx (hb hby od_prog_11_method_5_59) rfl rfl (pc' := 60) rfl ?_
  refine own_dup X15 hx (hb hby od_prog_11_method_5_60) rfl (pc' := 61) rfl ?_
  have f16 : Fld Z h15 rc "com/example/slot3/slot3/frame/PostChain" "count" "I" (.int u0) := (((((P4.other W3 (Or.inr (osn_2 hw))).other W6 (Or.inl ne_rc_rr)).other W9 (Or.inl ne_rc_rx)).other W12 (Or.inl ne_rc_rx)).other W15 (Or.inl ne_rc_rx))
  refine own_getF X15 hx hZ hown (ow_30 hw) e15 f16 (hb hby od_prog_11_method_5_61) (pc' := 64) rfl ?_
  intro T17 X17 e17
  refine own_iconst X17 hx (hb hby od_prog_11_method_5_64) (z := (1 : Int32)) rfl (pc' := 65) rfl ?_
  refine own_isub X17 hx (hb hby od_prog_11_method_5_65) (pc' := 66) rfl ?_
  have f18 : Exa Z h15 rc "com/example/slot3/slot3/frame/PostChain" := (((((P0.wr W3).wr W6).wr W9).wr W12).wr W15)
  refine own_putF X17 hx hZ hown (ow_30 hw) e17 f16 f18 (Or.inl (ow_31 hw)) (ow_2 hw) (ty := .int) (by decide) rfl rfl (hb hby od_prog_11_method_5_66) (pc' := 69) rfl ?_
  intro T19 h19 X19 e19 W19
  have N19 := Fr.snoc X19 N15 g_rc
  have k26 : Keep h0 h19 [rc, rx, rr] := (Keep.wr (Keep.wr (Keep.wr (Keep.wr (Keep.wr (Keep.wr (Keep.refl _ _) W3 (Or.inl (List.mem_of_getElem? (i := 0) rfl))) W6 (Or.inl (List.mem_of_getElem? (i := 2) rfl))) W9 (Or.inl (List.mem_of_getElem? (i := 1) rfl))) W12 (Or.inl (List.mem_of_getElem? (i := 1) rfl))) W15 (Or.inl (List.mem_of_getElem? (i := 1) rfl))) W19 (Or.inl (List.mem_of_getElem? (i := 0) rfl)))
  have f27 : Fld Z h19 rc "com/example/slot3/slot3/frame/PostChain" "first" "Lcom/example/slot3/slot3/frame/Post;" (.ref rr) := ((((((P2.same W3).other W6 (Or.inl ne_rc_rr)).other W9 (Or.inl ne_rc_rx)).other W12 (Or.inl ne_rc_rx)).other W15 (Or.inl ne_rc_rx)).other W19 (Or.inr (osn_5 hw)))
  have f28 : Fld Z h19 rc "com/example/slot3/slot3/frame/PostChain" "last" "Lcom/example/slot3/slot3/frame/Post;" (w1) := ((((((P3.other W3 (Or.inr (osn_0 hw))).other W6 (Or.inl ne_rc_rr)).other W9 (Or.inl ne_rc_rx)).other W12 (Or.inl ne_rc_rx)).other W15 (Or.inl ne_rc_rx)).other W19 (Or.inr (osn_6 hw)))
  have f29 : Fld Z h19 rx "com/example/slot3/slot3/frame/Post" "following" "Lcom/example/slot3/slot3/frame/Post;" (.null) := ((((f7.same W9).other W12 (Or.inr (osn_7 hw))).other W15 (Or.inr (osn_8 hw))).other W19 (Or.inl (Ne.symm ne_rc_rx)))
  have f30 : Fld Z h19 rx "com/example/slot3/slot3/frame/Post" "previous" "Lcom/example/slot3/slot3/frame/Post;" (.null) := (((f10.same W12).other W15 (Or.inr (osn_9 hw))).other W19 (Or.inl (Ne.symm ne_rc_rx)))
  have f31 : Fld Z h19 rx "com/example/slot3/slot3/frame/Post" "chain" "Lcom/example/slot3/slot3/frame/PostChain;" (.null) := ((f13.same W15).other W19 (Or.inl (Ne.symm ne_rc_rx)))
  have f32 : Fld Z h19 rr "com/example/slot3/slot3/frame/Post" "following" "Lcom/example/slot3/slot3/frame/Post;" (w6) := ((((((P9.other W3 (Or.inl (Ne.symm ne_rc_rr))).other W6 (Or.inr (osn_7 hw))).other W9 (Or.inl (Ne.symm ne_rx_rr))).other W12 (Or.inl (Ne.symm ne_rx_rr))).other W15 (Or.inl (Ne.symm ne_rx_rr))).other W19 (Or.inl (Ne.symm ne_rc_rr)))
  have f33 : Fld Z h19 rr "com/example/slot3/slot3/frame/Post" "previous" "Lcom/example/slot3/slot3/frame/Post;" (.null) := (((((f4.same W6).other W9 (Or.inl (Ne.symm ne_rx_rr))).other W12 (Or.inl (Ne.symm ne_rx_rr))).other W15 (Or.inl (Ne.symm ne_rx_rr))).other W19 (Or.inl (Ne.symm ne_rc_rr)))
  have f34 : Fld Z h19 rr "com/example/slot3/slot3/frame/Post" "chain" "Lcom/example/slot3/slot3/frame/PostChain;" (w8) := ((((((P11.other W3 (Or.inl (Ne.symm ne_rc_rr))).other W6 (Or.inr (osn_1 hw))).other W9 (Or.inl (Ne.symm ne_rx_rr))).other W12 (Or.inl (Ne.symm ne_rx_rr))).other W15 (Or.inl (Ne.symm ne_rx_rr))).other W19 (Or.inl (Ne.symm ne_rc_rr)))
  exact own_retV X19 hx hret hlk (hb hby od_prog_11_method_5_69) ⟨rfl, N19, (by rw [e19]; exact k26), (by rw [e19]; exact f27), (by rw [e19]; exact f28), (by rw [e19]; exact (f16.same W19)), (by rw [e19]; exact f29), (by rw [e19]; exact f30), (by rw [e19]; exact f31), (by rw [e19]; exact f32), (by rw [e19]; exact f33), (by rw [e19]; exact f34)⟩ (by decide) (by decide)
theorem od_prog_11_method_4_0 : decode prog_11_method_4_code 0 = .ok (.aload_n 0, 1) := by decide +kernel
theorem od_prog_11_method_4_1 : decode prog_11_method_4_code 1 = .ok (.getfield 7, 3) := by decide +kernel
theorem od_prog_11_method_4_4 : decode prog_11_method_4_code 4 = .ok (.astore_n 1, 1) := by decide +kernel
theorem od_prog_11_method_4_5 : decode prog_11_method_4_code 5 = .ok (.aload_n 1, 1) := by decide +kernel
theorem od_prog_11_method_4_6 : decode prog_11_method_4_code 6 = .ok (.ifnull 8, 3) := by decide +kernel
theorem od_prog_11_method_4_9 : decode prog_11_method_4_code 9 = .ok (.aload_n 0, 1) := by decide +kernel
theorem od_prog_11_method_4_10 : decode prog_11_method_4_code 10 = .ok (.aload_n 1, 1) := by decide +kernel
theorem od_prog_11_method_4_11 : decode prog_11_method_4_code 11 = .ok (.invokevirtual 32, 3) := by decide +kernel
theorem ow_50 {Z : State} {a0 : Array Value} (hw : ∀ d ∈ tables_1, d.before a0 Z = true) : (Jvm.Cond.methodLink "com/example/slot3/slot3/frame/PostChain" (32 : Nat) ({ cls := "com/example/slot3/slot3/frame/PostChain", name := "unlink", desc := "(Lcom/example/slot3/slot3/frame/Post;)V" } : Jvm.MethodName)).before a0 Z = true := hw _ (List.mem_of_getElem? (i := 50) rfl)
theorem ow_53 {Z : State} {a0 : Array Value} (hw : ∀ d ∈ tables_1, d.before a0 Z = true) : (Jvm.Cond.selects "com/example/slot3/slot3/frame/PostChain" ({ cls := "com/example/slot3/slot3/frame/PostChain", name := "unlink", desc := "(Lcom/example/slot3/slot3/frame/Post;)V" } : Jvm.MethodName) ({ cls := "com/example/slot3/slot3/frame/PostChain", name := "unlink", desc := "(Lcom/example/slot3/slot3/frame/Post;)V" } : Jvm.MethodName)).before a0 Z = true := hw _ (List.mem_of_getElem? (i := 53) rfl)
theorem opd__Lcom_example_slot3_slot3_frame_Post__V : parseMethodDescriptor "(Lcom/example/slot3/slot3/frame/Post;)V" = some ⟨[(.object "com/example/slot3/slot3/frame/Post")], none⟩ := by decide +kernel
theorem ow_51 {Z : State} {a0 : Array Value} (hw : ∀ d ∈ tables_1, d.before a0 Z = true) : (Jvm.Cond.declares ({ cls := "com/example/slot3/slot3/frame/PostChain", name := "unlink", desc := "(Lcom/example/slot3/slot3/frame/Post;)V" } : Jvm.MethodName)).before a0 Z = true := hw _ (List.mem_of_getElem? (i := 51) rfl)
theorem ow_52 {Z : State} {a0 : Array Value} (hw : ∀ d ∈ tables_1, d.before a0 Z = true) : (Jvm.Cond.instanceMethod ({ cls := "com/example/slot3/slot3/frame/PostChain", name := "unlink", desc := "(Lcom/example/slot3/slot3/frame/Post;)V" } : Jvm.MethodName)).before a0 Z = true := hw _ (List.mem_of_getElem? (i := 52) rfl)
theorem ow_3 {Z : State} {a0 : Array Value} (hw : ∀ d ∈ tables_1, d.before a0 Z = true) : (Jvm.Cond.initialized "com/example/slot3/slot3/frame/PostChain").before a0 Z = true := hw _ (List.mem_of_getElem? (i := 3) rfl)
theorem ow_54 {Z : State} {a0 : Array Value} (hw : ∀ d ∈ tables_1, d.before a0 Z = true) : (Jvm.Cond.code ({ cls := "com/example/slot3/slot3/frame/PostChain", name := "unlink", desc := "(Lcom/example/slot3/slot3/frame/Post;)V" } : Jvm.MethodName) prog_11_method_5_code (4 : Nat) (Option.none : Option Jvm.ClassFile.FieldType)).before a0 Z = true := hw _ (List.mem_of_getElem? (i := 54) rfl)
theorem od_prog_11_method_4_14 : decode prog_11_method_4_code 14 = .ok (.aload_n 1, 1) := by decide +kernel
theorem od_prog_11_method_4_15 : decode prog_11_method_4_code 15 = .ok (.areturn, 1) := by decide +kernel
theorem oef_rm_tfn (m : MethodId) (rc : Addr) : entryFrame m #[(.ref rc)] 2 = mkF m 0 #[.val (.ref rc), .unset] [] := by first | (simp [entryFrame, mkF, argsToLocals, Value.category]; done) | rfl
set_option maxRecDepth 65536 in
set_option maxHeartbeats 40000000 in
theorem rm_tfn (l : Launch) (Z : State) (a0 : Array Value) (hw : ∀ d ∈ tables_1, d.before a0 Z = true) (rc : Addr) (rx : Addr) (u0 : Int32) (w1 : Value) (w2 : Value) (h0 : Heap) (n0 : Nat) (Z0 : n0 ≤ h0.size) (P0 : Exa Z h0 rc "com/example/slot3/slot3/frame/PostChain") (P1 : Fld Z h0 rc "com/example/slot3/slot3/frame/PostChain" "first" "Lcom/example/slot3/slot3/frame/Post;" (.ref rx)) (P2 : Fld Z h0 rc "com/example/slot3/slot3/frame/PostChain" "last" "Lcom/example/slot3/slot3/frame/Post;" (w1)) (P3 : Fld Z h0 rc "com/example/slot3/slot3/frame/PostChain" "count" "I" (.int u0)) (P4 : Exa Z h0 rx "com/example/slot3/slot3/frame/Post") (P5 : Fld Z h0 rx "com/example/slot3/slot3/frame/Post" "following" "Lcom/example/slot3/slot3/frame/Post;" (.null)) (P6 : Fld Z h0 rx "com/example/slot3/slot3/frame/Post" "previous" "Lcom/example/slot3/slot3/frame/Post;" (.null)) (P7 : Fld Z h0 rx "com/example/slot3/slot3/frame/Post" "chain" "Lcom/example/slot3/slot3/frame/PostChain;" (w2)) (g_rc : n0 ≤ rc) (g_rx : n0 ≤ rx) (ne_rc_rx : rc ≠ rx) :
    own_M l Z (⟨"com/example/slot3/slot3/frame/PostChain", "takeFirst", "()Lcom/example/slot3/slot3/frame/Post;"⟩ : MethodName) prog_11_method_4_code 2 (some (.object "com/example/slot3/slot3/frame/Post")) [] ({ frames := 1, cells := 0, slots := 0, locals := 15 } : Room) #[(.ref rc)] h0 (fun v h L => v = some (.ref rx) ∧ Fr n0 L ∧ (Keep h0 h [rc, rx]) ∧ (Fld Z h rc "com/example/slot3/slot3/frame/PostChain" "first" "Lcom/example/slot3/slot3/frame/Post;" (.null)) ∧ (Fld Z h rc "com/example/slot3/slot3/frame/PostChain" "last" "Lcom/example/slot3/slot3/frame/Post;" (.null)) ∧ (Fld Z h rc "com/example/slot3/slot3/frame/PostChain" "count" "I" (.int (u0 - (1 : Int32)))) ∧ (Fld Z h rx "com/example/slot3/slot3/frame/Post" "following" "Lcom/example/slot3/slot3/frame/Post;" (.null)) ∧ (Fld Z h rx "com/example/slot3/slot3/frame/Post" "previous" "Lcom/example/slot3/slot3/frame/Post;" (.null)) ∧ (Fld Z h rx "com/example/slot3/slot3/frame/Post" "chain" "Lcom/example/slot3/slot3/frame/PostChain;" (.null))) 0 0 := by
  refine own_body (plainFor_of_name opn_com_example_slot3_slot3_frame_PostChain) ?_
  intro p e s m below meth c s1 hx hby hml hown hnm hret hlk hZ X0 e0
  rw [oef_rm_tfn m rc]
  have N0 := Fr.nil n0
  refine own_aloadN X0 hx (hb hby od_prog_11_method_4_0) rfl rfl (pc' := 1) rfl ?_
  refine own_getF X0 hx hZ hown (ow_24 hw) e0 P1 (hb hby od_prog_11_method_4_1) (pc' := 4) rfl ?_
  intro T1 X1 e1
  refine own_astoreN X1 hx (hb hby od_prog_11_method_4_4) rfl (l' := #[.val (.ref rc), .val (.ref rx)]) rfl (pc' := 5) rfl ?_
  refine own_aloadN X1 hx (hb hby od_prog_11_method_4_5) rfl rfl (pc' := 6) rfl ?_
  refine own_ifnullF X1 hx (hb hby od_prog_11_method_4_6) (pc' := 9) rfl ?_
  refine own_aloadN X1 hx (hb hby od_prog_11_method_4_9) rfl rfl (pc' := 10) rfl ?_
  refine own_aloadN X1 hx (hb hby od_prog_11_method_4_10) rfl rfl (pc' := 11) rfl ?_
  refine own_callV X1 hx hZ hown (ow_50 hw) (ow_51 hw) (ow_53 hw) (ow_52 hw) (ow_3 hw) (ow_54 hw) (by decide) P0 (rm_ulnn l Z a0 hw rc rx u0 (.ref rx) w1 w2 h0 n0 Z0 P0 P4 P1 P2 P3 P5 P6 P7 g_rc g_rx ne_rc_rx) e1 (W := 0) (by decide) (by decide) opd__Lcom_example_slot3_slot3_frame_Post__V rfl (rest := []) rfl (hb hby od_prog_11_method_4_11) (Nat.le_of_eq rfl) (by rw [hml]; rfl) (by decide) (by decide) (pc' := 14) rfl ?_
  intro v2 T2 L2 X2 q2
  obtain ⟨rfl, Nq2, K2, p2_0, p2_1, p2_2, p2_3, p2_4, p2_5⟩ := q2
  have N2 := Fr.app N0 Nq2
  show own_G p e below s _ _ _ (T2.setTop (mkF m 14 #[.val (.ref rc), .val (.ref rx)] []))
  refine own_aloadN X2 hx (hb hby od_prog_11_method_4_14) rfl rfl (pc' := 15) rfl ?_
  have k4 : Keep h0 T2.heap [rc, rx] := (Keep.trans (Keep.refl _ _) K2 (allS (Or.inl (List.mem_of_getElem? (i := 0) rfl)) (allS (Or.inl (List.mem_of_getElem? (i := 1) rfl)) all0)))
  exact own_retA X2 hx hret hlk rfl rfl rfl (hb hby od_prog_11_method_4_15) ⟨rfl, N2, k4, p2_0, p2_1, p2_2, p2_3, p2_4, p2_5⟩ (by decide) (by decide)
theorem oef_rm_tfr (m : MethodId) (rc : Addr) : entryFrame m #[(.ref rc)] 2 = mkF m 0 #[.val (.ref rc), .unset] [] := by first | (simp [entryFrame, mkF, argsToLocals, Value.category]; done) | rfl
set_option maxRecDepth 65536 in
set_option maxHeartbeats 40000000 in
theorem rm_tfr (l : Launch) (Z : State) (a0 : Array Value) (hw : ∀ d ∈ tables_1, d.before a0 Z = true) (rc : Addr) (rx : Addr) (rr : Addr) (u0 : Int32) (w1 : Value) (w2 : Value) (w6 : Value) (w7 : Value) (w8 : Value) (h0 : Heap) (n0 : Nat) (Z0 : n0 ≤ h0.size) (P0 : Exa Z h0 rc "com/example/slot3/slot3/frame/PostChain") (P1 : Fld Z h0 rc "com/example/slot3/slot3/frame/PostChain" "first" "Lcom/example/slot3/slot3/frame/Post;" (.ref rx)) (P2 : Fld Z h0 rc "com/example/slot3/slot3/frame/PostChain" "last" "Lcom/example/slot3/slot3/frame/Post;" (w1)) (P3 : Fld Z h0 rc "com/example/slot3/slot3/frame/PostChain" "count" "I" (.int u0)) (P4 : Exa Z h0 rx "com/example/slot3/slot3/frame/Post") (P5 : Fld Z h0 rx "com/example/slot3/slot3/frame/Post" "following" "Lcom/example/slot3/slot3/frame/Post;" (.ref rr)) (P6 : Fld Z h0 rx "com/example/slot3/slot3/frame/Post" "previous" "Lcom/example/slot3/slot3/frame/Post;" (.null)) (P7 : Fld Z h0 rx "com/example/slot3/slot3/frame/Post" "chain" "Lcom/example/slot3/slot3/frame/PostChain;" (w2)) (P8 : Exa Z h0 rr "com/example/slot3/slot3/frame/Post") (P9 : Fld Z h0 rr "com/example/slot3/slot3/frame/Post" "following" "Lcom/example/slot3/slot3/frame/Post;" (w6)) (P10 : Fld Z h0 rr "com/example/slot3/slot3/frame/Post" "previous" "Lcom/example/slot3/slot3/frame/Post;" (w7)) (P11 : Fld Z h0 rr "com/example/slot3/slot3/frame/Post" "chain" "Lcom/example/slot3/slot3/frame/PostChain;" (w8)) (g_rc : n0 ≤ rc) (g_rx : n0 ≤ rx) (g_rr : n0 ≤ rr) (ne_rc_rx : rc ≠ rx) (ne_rc_rr : rc ≠ rr) (ne_rx_rr : rx ≠ rr) :
    own_M l Z (⟨"com/example/slot3/slot3/frame/PostChain", "takeFirst", "()Lcom/example/slot3/slot3/frame/Post;"⟩ : MethodName) prog_11_method_4_code 2 (some (.object "com/example/slot3/slot3/frame/Post")) [] ({ frames := 1, cells := 0, slots := 0, locals := 15 } : Room) #[(.ref rc)] h0 (fun v h L => v = some (.ref rx) ∧ Fr n0 L ∧ (Keep h0 h [rc, rx, rr]) ∧ (Fld Z h rc "com/example/slot3/slot3/frame/PostChain" "first" "Lcom/example/slot3/slot3/frame/Post;" (.ref rr)) ∧ (Fld Z h rc "com/example/slot3/slot3/frame/PostChain" "last" "Lcom/example/slot3/slot3/frame/Post;" (w1)) ∧ (Fld Z h rc "com/example/slot3/slot3/frame/PostChain" "count" "I" (.int (u0 - (1 : Int32)))) ∧ (Fld Z h rx "com/example/slot3/slot3/frame/Post" "following" "Lcom/example/slot3/slot3/frame/Post;" (.null)) ∧ (Fld Z h rx "com/example/slot3/slot3/frame/Post" "previous" "Lcom/example/slot3/slot3/frame/Post;" (.null)) ∧ (Fld Z h rx "com/example/slot3/slot3/frame/Post" "chain" "Lcom/example/slot3/slot3/frame/PostChain;" (.null)) ∧ (Fld Z h rr "com/example/slot3/slot3/frame/Post" "following" "Lcom/example/slot3/slot3/frame/Post;" (w6)) ∧ (Fld Z h rr "com/example/slot3/slot3/frame/Post" "previous" "Lcom/example/slot3/slot3/frame/Post;" (.null)) ∧ (Fld Z h rr "com/example/slot3/slot3/frame/Post" "chain" "Lcom/example/slot3/slot3/frame/PostChain;" (w8))) 0 0 := by
  refine own_body (plainFor_of_name opn_com_example_slot3_slot3_frame_PostChain) ?_
  intro p e s m below meth c s1 hx hby hml hown hnm hret hlk hZ X0 e0
  rw [oef_rm_tfr m rc]
  have N0 := Fr.nil n0
  refine own_aloadN X0 hx (hb hby od_prog_11_method_4_0) rfl rfl (pc' := 1) rfl ?_
  refine own_getF X0 hx hZ hown (ow_24 hw) e0 P1 (hb hby od_prog_11_method_4_1) (pc' := 4) rfl ?_
  intro T1 X1 e1
  refine own_astoreN X1 hx (hb hby od_prog_11_method_4_4) rfl (l' := #[.val (.ref rc), .val (.ref rx)]) rfl (pc' := 5) rfl ?_
  refine own_aloadN X1 hx (hb hby od_prog_11_method_4_5) rfl rfl (pc' := 6) rfl ?_
  refine own_ifnullF X1 hx (hb hby od_prog_11_method_4_6) (pc' := 9) rfl ?_
  refine own_aloadN X1 hx (hb hby od_prog_11_method_4_9) rfl rfl (pc' := 10) rfl ?_
  refine own_aloadN X1 hx (hb hby od_prog_11_method_4_10) rfl rfl (pc' := 11) rfl ?_
  refine own_callV X1 hx hZ hown (ow_50 hw) (ow_51 hw) (ow_53 hw) (ow_52 hw) (ow_3 hw) (ow_54 hw) (by decide) P0 (rm_ulnr l Z a0 hw rc rx rr u0 (.ref rx) w1 w2 w6 w7 w8 h0 n0 Z0 P0 P4 P1 P2 P3 P5 P6 P7 P8 P9 P10 P11 g_rc g_rx g_rr ne_rc_rx ne_rc_rr ne_rx_rr) e1 (W := 0) (by decide) (by decide) opd__Lcom_example_slot3_slot3_frame_Post__V rfl (rest := []) rfl (hb hby od_prog_11_method_4_11) (Nat.le_of_eq rfl) (by rw [hml]; rfl) (by decide) (by decide) (pc' := 14) rfl ?_
  intro v2 T2 L2 X2 q2
  obtain ⟨rfl, Nq2, K2, p2_0, p2_1, p2_2, p2_3, p2_4, p2_5, p2_6, p2_7, p2_8⟩ := q2
  have N2 := Fr.app N0 Nq2
  show own_G p e below s _ _ _ (T2.setTop (mkF m 14 #[.val (.ref rc), .val (.ref rx)] []))
  refine own_aloadN X2 hx (hb hby od_prog_11_method_4_14) rfl rfl (pc' := 15) rfl ?_
  have k4 : Keep h0 T2.heap [rc, rx, rr] := (Keep.trans (Keep.refl _ _) K2 (allS (Or.inl (List.mem_of_getElem? (i := 0) rfl)) (allS (Or.inl (List.mem_of_getElem? (i := 1) rfl)) (allS (Or.inl (List.mem_of_getElem? (i := 2) rfl)) all0))))
  exact own_retA X2 hx hret hlk rfl rfl rfl (hb hby od_prog_11_method_4_15) ⟨rfl, N2, k4, p2_0, p2_1, p2_2, p2_3, p2_4, p2_5, p2_6, p2_7, p2_8⟩ (by decide) (by decide)
theorem own_w3 (a : Int32) : ((a &&& (2147483647 : Int32)) % (3 : Int32)) = (0 : Int32) ∨ ((a &&& (2147483647 : Int32)) % (3 : Int32)) = (1 : Int32) ∨ ((a &&& (2147483647 : Int32)) % (3 : Int32)) = (2 : Int32) := by
  have h := c_mask a 2147483647 31 (by decide) (by decide)
  have h1 := (c_irem (a &&& (2147483647 : Int32)) 3 3 rfl).1 (by omega)
  simp only [← Int32.toInt_inj, Int32.reduceToInt]
  omega
theorem ow_0 {Z : State} {a0 : Array Value} (hw : ∀ d ∈ tables_1, d.before a0 Z = true) : (Jvm.Cond.constant "com/example/slot3/slot3/frame/PostChainAppendPinLaw" (7 : Nat) (2147483647 : Int32)).before a0 Z = true := hw _ (List.mem_of_getElem? (i := 0) rfl)
theorem ow_1 {Z : State} {a0 : Array Value} (hw : ∀ d ∈ tables_1, d.before a0 Z = true) : (Jvm.Cond.classLink "com/example/slot3/slot3/frame/PostChainAppendPinLaw" (8 : Nat) "com/example/slot3/slot3/frame/PostChain").before a0 Z = true := hw _ (List.mem_of_getElem? (i := 1) rfl)
theorem ow_4 {Z : State} {a0 : Array Value} (hw : ∀ d ∈ tables_1, d.before a0 Z = true) : (Jvm.Cond.methodLink "com/example/slot3/slot3/frame/PostChainAppendPinLaw" (10 : Nat) ({ cls := "com/example/slot3/slot3/frame/PostChain", name := "<init>", desc := "()V" } : Jvm.MethodName)).before a0 Z = true := hw _ (List.mem_of_getElem? (i := 4) rfl)
theorem opd___V : parseMethodDescriptor "()V" = some ⟨[], none⟩ := by decide +kernel
theorem ow_5 {Z : State} {a0 : Array Value} (hw : ∀ d ∈ tables_1, d.before a0 Z = true) : (Jvm.Cond.instanceMethod ({ cls := "com/example/slot3/slot3/frame/PostChain", name := "<init>", desc := "()V" } : Jvm.MethodName)).before a0 Z = true := hw _ (List.mem_of_getElem? (i := 5) rfl)
theorem ow_6 {Z : State} {a0 : Array Value} (hw : ∀ d ∈ tables_1, d.before a0 Z = true) : (Jvm.Cond.code ({ cls := "com/example/slot3/slot3/frame/PostChain", name := "<init>", desc := "()V" } : Jvm.MethodName) prog_11_method_1_code (1 : Nat) (Option.none : Option Jvm.ClassFile.FieldType)).before a0 Z = true := hw _ (List.mem_of_getElem? (i := 6) rfl)
theorem ow_10 {Z : State} {a0 : Array Value} (hw : ∀ d ∈ tables_1, d.before a0 Z = true) : (Jvm.Cond.classLink "com/example/slot3/slot3/frame/PostChainAppendPinLaw" (11 : Nat) "com/example/slot3/slot3/frame/Post").before a0 Z = true := hw _ (List.mem_of_getElem? (i := 10) rfl)
theorem ow_12 {Z : State} {a0 : Array Value} (hw : ∀ d ∈ tables_1, d.before a0 Z = true) : (Jvm.Cond.initialized "com/example/slot3/slot3/frame/Post").before a0 Z = true := hw _ (List.mem_of_getElem? (i := 12) rfl)
theorem ow_13 {Z : State} {a0 : Array Value} (hw : ∀ d ∈ tables_1, d.before a0 Z = true) : (Jvm.Cond.methodLink "com/example/slot3/slot3/frame/PostChainAppendPinLaw" (13 : Nat) ({ cls := "com/example/slot3/slot3/frame/Post", name := "<init>", desc := "()V" } : Jvm.MethodName)).before a0 Z = true := hw _ (List.mem_of_getElem? (i := 13) rfl)
theorem ow_14 {Z : State} {a0 : Array Value} (hw : ∀ d ∈ tables_1, d.before a0 Z = true) : (Jvm.Cond.instanceMethod ({ cls := "com/example/slot3/slot3/frame/Post", name := "<init>", desc := "()V" } : Jvm.MethodName)).before a0 Z = true := hw _ (List.mem_of_getElem? (i := 14) rfl)
theorem ow_15 {Z : State} {a0 : Array Value} (hw : ∀ d ∈ tables_1, d.before a0 Z = true) : (Jvm.Cond.code ({ cls := "com/example/slot3/slot3/frame/Post", name := "<init>", desc := "()V" } : Jvm.MethodName) prog_10_method_1_code (1 : Nat) (Option.none : Option Jvm.ClassFile.FieldType)).before a0 Z = true := hw _ (List.mem_of_getElem? (i := 15) rfl)
theorem ow_17 {Z : State} {a0 : Array Value} (hw : ∀ d ∈ tables_1, d.before a0 Z = true) : (Jvm.Cond.methodLink "com/example/slot3/slot3/frame/PostChainAppendPinLaw" (18 : Nat) ({ cls := "com/example/slot3/slot3/frame/PostChain", name := "append", desc := "(Lcom/example/slot3/slot3/frame/Post;)V" } : Jvm.MethodName)).before a0 Z = true := hw _ (List.mem_of_getElem? (i := 17) rfl)
theorem ow_20 {Z : State} {a0 : Array Value} (hw : ∀ d ∈ tables_1, d.before a0 Z = true) : (Jvm.Cond.selects "com/example/slot3/slot3/frame/PostChain" ({ cls := "com/example/slot3/slot3/frame/PostChain", name := "append", desc := "(Lcom/example/slot3/slot3/frame/Post;)V" } : Jvm.MethodName) ({ cls := "com/example/slot3/slot3/frame/PostChain", name := "append", desc := "(Lcom/example/slot3/slot3/frame/Post;)V" } : Jvm.MethodName)).before a0 Z = true := hw _ (List.mem_of_getElem? (i := 20) rfl)
theorem ow_18 {Z : State} {a0 : Array Value} (hw : ∀ d ∈ tables_1, d.before a0 Z = true) : (Jvm.Cond.declares ({ cls := "com/example/slot3/slot3/frame/PostChain", name := "append", desc := "(Lcom/example/slot3/slot3/frame/Post;)V" } : Jvm.MethodName)).before a0 Z = true := hw _ (List.mem_of_getElem? (i := 18) rfl)
theorem ow_19 {Z : State} {a0 : Array Value} (hw : ∀ d ∈ tables_1, d.before a0 Z = true) : (Jvm.Cond.instanceMethod ({ cls := "com/example/slot3/slot3/frame/PostChain", name := "append", desc := "(Lcom/example/slot3/slot3/frame/Post;)V" } : Jvm.MethodName)).before a0 Z = true := hw _ (List.mem_of_getElem? (i := 19) rfl)
theorem ow_21 {Z : State} {a0 : Array Value} (hw : ∀ d ∈ tables_1, d.before a0 Z = true) : (Jvm.Cond.code ({ cls := "com/example/slot3/slot3/frame/PostChain", name := "append", desc := "(Lcom/example/slot3/slot3/frame/Post;)V" } : Jvm.MethodName) prog_11_method_3_code (2 : Nat) (Option.none : Option Jvm.ClassFile.FieldType)).before a0 Z = true := hw _ (List.mem_of_getElem? (i := 21) rfl)
theorem ow_32 {Z : State} {a0 : Array Value} (hw : ∀ d ∈ tables_1, d.before a0 Z = true) : (Jvm.Cond.fieldLink "com/example/slot3/slot3/frame/PostChainAppendPinLaw" (25 : Nat) "com/example/slot3/slot3/frame/PostChain" "last" "Lcom/example/slot3/slot3/frame/Post;").before a0 Z = true := hw _ (List.mem_of_getElem? (i := 32) rfl)
theorem ow_33 {Z : State} {a0 : Array Value} (hw : ∀ d ∈ tables_1, d.before a0 Z = true) : (Jvm.Cond.fieldLink "com/example/slot3/slot3/frame/PostChainAppendPinLaw" (29 : Nat) "com/example/slot3/slot3/frame/Post" "chain" "Lcom/example/slot3/slot3/frame/PostChain;").before a0 Z = true := hw _ (List.mem_of_getElem? (i := 33) rfl)
theorem ow_34 {Z : State} {a0 : Array Value} (hw : ∀ d ∈ tables_1, d.before a0 Z = true) : (Jvm.Cond.fieldLink "com/example/slot3/slot3/frame/PostChainAppendPinLaw" (33 : Nat) "com/example/slot3/slot3/frame/Post" "following" "Lcom/example/slot3/slot3/frame/Post;").before a0 Z = true := hw _ (List.mem_of_getElem? (i := 34) rfl)
theorem ow_36 {Z : State} {a0 : Array Value} (hw : ∀ d ∈ tables_1, d.before a0 Z = true) : (Jvm.Cond.fieldLink "com/example/slot3/slot3/frame/PostChainAppendPinLaw" (36 : Nat) "com/example/slot3/slot3/frame/Post" "previous" "Lcom/example/slot3/slot3/frame/Post;").before a0 Z = true := hw _ (List.mem_of_getElem? (i := 36) rfl)
theorem ow_37 {Z : State} {a0 : Array Value} (hw : ∀ d ∈ tables_1, d.before a0 Z = true) : (Jvm.Cond.fieldLink "com/example/slot3/slot3/frame/PostChainAppendPinLaw" (39 : Nat) "com/example/slot3/slot3/frame/PostChain" "count" "I").before a0 Z = true := hw _ (List.mem_of_getElem? (i := 37) rfl)
theorem ow_38 {Z : State} {a0 : Array Value} (hw : ∀ d ∈ tables_1, d.before a0 Z = true) : (Jvm.Cond.fieldLink "com/example/slot3/slot3/frame/PostChainAppendPinLaw" (43 : Nat) "com/example/slot3/slot3/frame/PostChain" "first" "Lcom/example/slot3/slot3/frame/Post;").before a0 Z = true := hw _ (List.mem_of_getElem? (i := 38) rfl)
theorem ow_45 {Z : State} {a0 : Array Value} (hw : ∀ d ∈ tables_1, d.before a0 Z = true) : (Jvm.Cond.methodLink "com/example/slot3/slot3/frame/PostChainAppendPinLaw" (21 : Nat) ({ cls := "com/example/slot3/slot3/frame/PostChain", name := "takeFirst", desc := "()Lcom/example/slot3/slot3/frame/Post;" } : Jvm.MethodName)).before a0 Z = true := hw _ (List.mem_of_getElem? (i := 45) rfl)
theorem ow_48 {Z : State} {a0 : Array Value} (hw : ∀ d ∈ tables_1, d.before a0 Z = true) : (Jvm.Cond.selects "com/example/slot3/slot3/frame/PostChain" ({ cls := "com/example/slot3/slot3/frame/PostChain", name := "takeFirst", desc := "()Lcom/example/slot3/slot3/frame/Post;" } : Jvm.MethodName) ({ cls := "com/example/slot3/slot3/frame/PostChain", name := "takeFirst", desc := "()Lcom/example/slot3/slot3/frame/Post;" } : Jvm.MethodName)).before a0 Z = true := hw _ (List.mem_of_getElem? (i := 48) rfl)
theorem opd___Lcom_example_slot3_slot3_frame_Post_ : parseMethodDescriptor "()Lcom/example/slot3/slot3/frame/Post;" = some ⟨[], some (.object "com/example/slot3/slot3/frame/Post")⟩ := by decide +kernel
theorem ow_46 {Z : State} {a0 : Array Value} (hw : ∀ d ∈ tables_1, d.before a0 Z = true) : (Jvm.Cond.declares ({ cls := "com/example/slot3/slot3/frame/PostChain", name := "takeFirst", desc := "()Lcom/example/slot3/slot3/frame/Post;" } : Jvm.MethodName)).before a0 Z = true := hw _ (List.mem_of_getElem? (i := 46) rfl)
theorem ow_47 {Z : State} {a0 : Array Value} (hw : ∀ d ∈ tables_1, d.before a0 Z = true) : (Jvm.Cond.instanceMethod ({ cls := "com/example/slot3/slot3/frame/PostChain", name := "takeFirst", desc := "()Lcom/example/slot3/slot3/frame/Post;" } : Jvm.MethodName)).before a0 Z = true := hw _ (List.mem_of_getElem? (i := 47) rfl)
theorem ow_49 {Z : State} {a0 : Array Value} (hw : ∀ d ∈ tables_1, d.before a0 Z = true) : (Jvm.Cond.code ({ cls := "com/example/slot3/slot3/frame/PostChain", name := "takeFirst", desc := "()Lcom/example/slot3/slot3/frame/Post;" } : Jvm.MethodName) prog_11_method_4_code (2 : Nat) (Option.some (Jvm.ClassFile.FieldType.object "com/example/slot3/slot3/frame/Post"))).before a0 Z = true := hw _ (List.mem_of_getElem? (i := 49) rfl)
theorem ow_39 {Z : State} {a0 : Array Value} (hw : ∀ d ∈ tables_1, d.before a0 Z = true) : (Jvm.Cond.methodLink "com/example/slot3/slot3/frame/PostChainAppendPinLaw" (14 : Nat) ({ cls := "com/example/slot3/slot3/frame/PostChain", name := "push", desc := "(Lcom/example/slot3/slot3/frame/Post;)V" } : Jvm.MethodName)).before a0 Z = true := hw _ (List.mem_of_getElem? (i := 39) rfl)
theorem ow_42 {Z : State} {a0 : Array Value} (hw : ∀ d ∈ tables_1, d.before a0 Z = true) : (Jvm.Cond.selects "com/example/slot3/slot3/frame/PostChain" ({ cls := "com/example/slot3/slot3/frame/PostChain", name := "push", desc := "(Lcom/example/slot3/slot3/frame/Post;)V" } : Jvm.MethodName) ({ cls := "com/example/slot3/slot3/frame/PostChain", name := "push", desc := "(Lcom/example/slot3/slot3/frame/Post;)V" } : Jvm.MethodName)).before a0 Z = true := hw _ (List.mem_of_getElem? (i := 42) rfl)
theorem ow_40 {Z : State} {a0 : Array Value} (hw : ∀ d ∈ tables_1, d.before a0 Z = true) : (Jvm.Cond.declares ({ cls := "com/example/slot3/slot3/frame/PostChain", name := "push", desc := "(Lcom/example/slot3/slot3/frame/Post;)V" } : Jvm.MethodName)).before a0 Z = true := hw _ (List.mem_of_getElem? (i := 40) rfl)
theorem ow_41 {Z : State} {a0 : Array Value} (hw : ∀ d ∈ tables_1, d.before a0 Z = true) : (Jvm.Cond.instanceMethod ({ cls := "com/example/slot3/slot3/frame/PostChain", name := "push", desc := "(Lcom/example/slot3/slot3/frame/Post;)V" } : Jvm.MethodName)).before a0 Z = true := hw _ (List.mem_of_getElem? (i := 41) rfl)
theorem ow_43 {Z : State} {a0 : Array Value} (hw : ∀ d ∈ tables_1, d.before a0 Z = true) : (Jvm.Cond.code ({ cls := "com/example/slot3/slot3/frame/PostChain", name := "push", desc := "(Lcom/example/slot3/slot3/frame/Post;)V" } : Jvm.MethodName) prog_11_method_2_code (2 : Nat) (Option.none : Option Jvm.ClassFile.FieldType)).before a0 Z = true := hw _ (List.mem_of_getElem? (i := 43) rfl)
theorem opn_com_example_slot3_slot3_frame_PostChainAppendPinLaw : plainName "com/example/slot3/slot3/frame/PostChainAppendPinLaw" = true := by first | (simp [plainName, overriddenIn]; done) | decide +kernel
theorem oef_law (m : MethodId) (u0 : Int32) (u1 : Int32) : entryFrame m #[(.int u0), (.int u1)] maxLocals = mkF m 0 #[.val (.int u0), .val (.int u1), .unset, .unset, .unset, .unset, .unset, .unset, .unset, .unset, .unset, .unset, .unset, .unset, .unset] [] := by first | (simp [entryFrame, mkF, argsToLocals, Value.category, maxLocals]; done) | rfl
set_option maxRecDepth 65536 in
set_option maxHeartbeats 40000000 in
theorem own_law (l : Launch) (Z : State) (a0 : Array Value) (hw : ∀ d ∈ tables_1, d.before a0 Z = true) (u0 : Int32) (u1 : Int32) (h0 : Heap) (n0 : Nat) (Z0 : n0 ≤ h0.size) :
    own_M l Z x code maxLocals ret tables_1 room_1 #[(.int u0), (.int u1)] h0 (fun v h L => v = some (.int 1) ∧ Fr n0 L) 4 63 := by
  refine own_body (plainFor_of_name opn_com_example_slot3_slot3_frame_PostChainAppendPinLaw) ?_
  intro p e s m below meth c s1 hx hby hml' hown hnm hret hlk hZ X0 e0
  have hml : c.maxLocals = 15 := hml'
  rw [oef_law m u0 u1]
  have N0 := Fr.nil n0
  refine own_iloadN X0 hx (hb hby at_0) rfl (pc' := 1) rfl ?_
  refine own_ldc X0 hx hZ hown (ow_0 hw) (hb hby at_1) (pc' := 3) rfl ?_
  refine own_iand X0 hx (hb hby at_3) (pc' := 4) rfl ?_
  refine own_iconst X0 hx (hb hby at_4) (z := (3 : Int32)) rfl (pc' := 5) rfl ?_
  refine own_irem X0 hx (hb hby at_5) (by decide) (pc' := 6) rfl ?_
  refine own_istoreN X0 hx (hb hby at_6) (l' := #[.val (.int u0), .val (.int u1), .val (.int ((u0 &&& (2147483647 : Int32)) % (3 : Int32))), .unset, .unset, .unset, .unset, .unset, .unset, .unset, .unset, .unset, .unset, .unset, .unset]) rfl (pc' := 7) rfl ?_
  rcases own_w3 u0 with c1 | c2 | c3
  · rw [c1]
    refine own_iloadN X0 hx (hb hby at_7) rfl (pc' := 8) rfl ?_
    refine own_iconst X0 hx (hb hby at_8) (z := (1 : Int32)) rfl (pc' := 9) rfl ?_
    refine own_iand X0 hx (hb hby at_9) (pc' := 10) rfl ?_
    refine own_via (S' := s1.setTop (mkF m 18 #[.val (.int u0), .val (.int u1), .val (.int (0 : Int32)), .unset, .unset, .unset, .unset, .unset, .unset, .unset, .unset, .unset, .unset, .unset, .unset] [(.int (if (u1 &&& (1 : Int32)) = (0 : Int32) then (0 : Int32) else (1 : Int32)))])) (fun kk => ?_) ?_
    · by_cases c4 : (u1 &&& (1 : Int32)) = (0 : Int32)
      · refine own_ifT X0 hx (hb hby at_10) (teq c4).1 (by decide) (pc' := 17) rfl ?_
        refine own_iconst X0 hx (hb hby at_17) (z := (0 : Int32)) rfl (pc' := 18) rfl ?_
        exact own_cast (by simp only [if_pos c4]) kk
      · refine own_ifF X0 hx (hb hby at_10) (feq c4).1 (pc' := 13) rfl ?_
        refine own_iconst X0 hx (hb hby at_13) (z := (1 : Int32)) rfl (pc' := 14) rfl ?_
        refine own_goto X0 hx (hb hby at_14) (by decide) (pc' := 18) rfl ?_
        exact own_cast (by simp only [if_neg c4]) kk
    refine own_istoreN X0 hx (hb hby at_18) (l' := #[.val (.int u0), .val (.int u1), .val (.int (0 : Int32)), .val (.int (if (u1 &&& (1 : Int32)) = (0 : Int32) then (0 : Int32) else (1 : Int32))), .unset, .unset, .unset, .unset, .unset, .unset, .unset, .unset, .unset, .unset, .unset]) rfl (pc' := 19) rfl ?_
    refine own_iloadN X0 hx (hb hby at_19) rfl (pc' := 20) rfl ?_
    refine own_iconst X0 hx (hb hby at_20) (z := (2 : Int32)) rfl (pc' := 21) rfl ?_
    refine own_iand X0 hx (hb hby at_21) (pc' := 22) rfl ?_
    refine own_via (S' := s1.setTop (mkF m 30 #[.val (.int u0), .val (.int u1), .val (.int (0 : Int32)), .val (.int (if (u1 &&& (1 : Int32)) = (0 : Int32) then (0 : Int32) else (1 : Int32))), .unset, .unset, .unset, .unset, .unset, .unset, .unset, .unset, .unset, .unset, .unset] [(.int (if (u1 &&& (2 : Int32)) = (0 : Int32) then (0 : Int32) else (1 : Int32)))])) (fun kk => ?_) ?_
    · by_cases c5 : (u1 &&& (2 : Int32)) = (0 : Int32)
      · refine own_ifT X0 hx (hb hby at_22) (teq c5).1 (by decide) (pc' := 29) rfl ?_
        refine own_iconst X0 hx (hb hby at_29) (z := (0 : Int32)) rfl (pc' := 30) rfl ?_
        exact own_cast (by simp only [if_pos c5]) kk
      · refine own_ifF X0 hx (hb hby at_22) (feq c5).1 (pc' := 25) rfl ?_
        refine own_iconst X0 hx (hb hby at_25) (z := (1 : Int32)) rfl (pc' := 26) rfl ?_
        refine own_goto X0 hx (hb hby at_26) (by decide) (pc' := 30) rfl ?_
        exact own_cast (by simp only [if_neg c5]) kk
    refine own_istore X0 hx (hb hby at_30) (l' := #[.val (.int u0), .val (.int u1), .val (.int (0 : Int32)), .val (.int (if (u1 &&& (1 : Int32)) = (0 : Int32) then (0 : Int32) else (1 : Int32))), .val (.int (if (u1 &&& (2 : Int32)) = (0 : Int32) then (0 : Int32) else (1 : Int32))), .unset, .unset, .unset, .unset, .unset, .unset, .unset, .unset, .unset, .unset]) rfl (pc' := 32) rfl ?_
    refine own_iloadN X0 hx (hb hby at_32) rfl (pc' := 33) rfl ?_
    refine own_iconst X0 hx (hb hby at_33) (z := (4 : Int32)) rfl (pc' := 34) rfl ?_
    refine own_iand X0 hx (hb hby at_34) (pc' := 35) rfl ?_
    refine own_via (S' := s1.setTop (mkF m 43 #[.val (.int u0), .val (.int u1), .val (.int (0 : Int32)), .val (.int (if (u1 &&& (1 : Int32)) = (0 : Int32) then (0 : Int32) else (1 : Int32))), .val (.int (if (u1 &&& (2 : Int32)) = (0 : Int32) then (0 : Int32) else (1 : Int32))), .unset, .unset, .unset, .unset, .unset, .unset, .unset, .unset, .unset, .unset] [(.int (if (u1 &&& (4 : Int32)) = (0 : Int32) then (0 : Int32) else (1 : Int32)))])) (fun kk => ?_) ?_
    · by_cases c6 : (u1 &&& (4 : Int32)) = (0 : Int32)
      · refine own_ifT X0 hx (hb hby at_35) (teq c6).1 (by decide) (pc' := 42) rfl ?_
        refine own_iconst X0 hx (hb hby at_42) (z := (0 : Int32)) rfl (pc' := 43) rfl ?_
        exact own_cast (by simp only [if_pos c6]) kk
      · refine own_ifF X0 hx (hb hby at_35) (feq c6).1 (pc' := 38) rfl ?_
        refine own_iconst X0 hx (hb hby at_38) (z := (1 : Int32)) rfl (pc' := 39) rfl ?_
        refine own_goto X0 hx (hb hby at_39) (by decide) (pc' := 43) rfl ?_
        exact own_cast (by simp only [if_neg c6]) kk
    refine own_istore X0 hx (hb hby at_43) (l' := #[.val (.int u0), .val (.int u1), .val (.int (0 : Int32)), .val (.int (if (u1 &&& (1 : Int32)) = (0 : Int32) then (0 : Int32) else (1 : Int32))), .val (.int (if (u1 &&& (2 : Int32)) = (0 : Int32) then (0 : Int32) else (1 : Int32))), .val (.int (if (u1 &&& (4 : Int32)) = (0 : Int32) then (0 : Int32) else (1 : Int32))), .unset, .unset, .unset, .unset, .unset, .unset, .unset, .unset, .unset]) rfl (pc' := 45) rfl ?_
    refine own_new X0 hx hZ hown (ow_1 hw) (ow_2 hw) (ow_3 hw) e0 (hb hby at_45) (pc' := 48) rfl (by decide) (by decide) ?_
    intro T7 h7 a7 g7 X7 e7 E7 A7 D7
    have ge_a7 : n0 ≤ a7 := by rw [g7]; exact Z0
    have F7_last : Fld Z h7 a7 "com/example/slot3/slot3/frame/PostChain" "last" "Lcom/example/slot3/slot3/frame/Post;" (.null) := D7 (Or.inl (ow_23 hw)) (ty := (.object "com/example/slot3/slot3/frame/Post")) (by decide)
    have F7_first : Fld Z h7 a7 "com/example/slot3/slot3/frame/PostChain" "first" "Lcom/example/slot3/slot3/frame/Post;" (.null) := D7 (Or.inl (ow_25 hw)) (ty := (.object "com/example/slot3/slot3/frame/Post")) (by decide)
    have F7_count : Fld Z h7 a7 "com/example/slot3/slot3/frame/PostChain" "count" "I" (.int (0 : Int32)) := D7 (Or.inl (ow_31 hw)) (ty := .int) (by decide)
    refine own_dup X7 hx (hb hby at_48) rfl (pc' := 49) rfl ?_
    have z9 : n0 ≤ h7.size := (Nat.le_trans Z0 E7.1)
    refine own_callC X7 hx hZ rfl hown (ow_4 hw) (ow_5 hw) (ow_3 hw) (ow_6 hw) (by decide) (rm_pci l Z a0 hw a7 h7 n0 z9) e7 (W := 1) (by decide) (by decide) opd___V rfl (rest := [(.ref a7)]) rfl (hb hby at_49) (Nat.le_of_eq rfl) (by rw [hml]; rfl) (by decide) (by decide) (pc' := 52) rfl ?_
    intro v8 T8 L8 X8 q8
    obtain ⟨rfl, Nq8, eh8⟩ := q8
    have N8 := Fr.app N0 Nq8
    show own_G p e below s _ _ _ (T8.setTop (mkF m 52 #[.val (.int u0), .val (.int u1), .val (.int (0 : Int32)), .val (.int (if (u1 &&& (1 : Int32)) = (0 : Int32) then (0 : Int32) else (1 : Int32))), .val (.int (if (u1 &&& (2 : Int32)) = (0 : Int32) then (0 : Int32) else (1 : Int32))), .val (.int (if (u1 &&& (4 : Int32)) = (0 : Int32) then (0 : Int32) else (1 : Int32))), .unset, .unset, .unset, .unset, .unset, .unset, .unset, .unset, .unset] [(.ref a7)]))
    refine own_astore X8 hx (hb hby at_52) rfl (l' := #[.val (.int u0), .val (.int u1), .val (.int (0 : Int32)), .val (.int (if (u1 &&& (1 : Int32)) = (0 : Int32) then (0 : Int32) else (1 : Int32))), .val (.int (if (u1 &&& (2 : Int32)) = (0 : Int32) then (0 : Int32) else (1 : Int32))), .val (.int (if (u1 &&& (4 : Int32)) = (0 : Int32) then (0 : Int32) else (1 : Int32))), .val (.ref a7), .unset, .unset, .unset, .unset, .unset, .unset, .unset, .unset]) rfl (pc' := 54) rfl ?_
    refine own_new X8 hx hZ hown (ow_10 hw) (ow_11 hw) (ow_12 hw) eh8 (hb hby at_54) (pc' := 57) rfl (by decide) (by decide) ?_
    intro T10 h10 a10 g10 X10 e10 E10 A10 D10
    have lt_a7_a10 : a7 < a10 := by rw [g10]; exact A7.lt
    have ge_a10 : n0 ≤ a10 := by rw [g10]; exact z9
    have F10_previous : Fld Z h10 a10 "com/example/slot3/slot3/frame/Post" "previous" "Lcom/example/slot3/slot3/frame/Post;" (.null) := D10 (Or.inl (ow_27 hw)) (ty := (.object "com/example/slot3/slot3/frame/Post")) (by decide)
    have F10_chain : Fld Z h10 a10 "com/example/slot3/slot3/frame/Post" "chain" "Lcom/example/slot3/slot3/frame/PostChain;" (.null) := D10 (Or.inl (ow_29 hw)) (ty := (.object "com/example/slot3/slot3/frame/PostChain")) (by decide)
    have F10_following : Fld Z h10 a10 "com/example/slot3/slot3/frame/Post" "following" "Lcom/example/slot3/slot3/frame/Post;" (.null) := D10 (Or.inl (ow_35 hw)) (ty := (.object "com/example/slot3/slot3/frame/Post")) (by decide)
    refine own_dup X10 hx (hb hby at_57) rfl (pc' := 58) rfl ?_
    have z12 : n0 ≤ h10.size := (Nat.le_trans z9 E10.1)
    refine own_callC X10 hx hZ rfl hown (ow_13 hw) (ow_14 hw) (ow_12 hw) (ow_15 hw) (by decide) (rm_poi l Z a0 hw a10 h10 n0 z12) e10 (W := 1) (by decide) (by decide) opd___V rfl (rest := [(.ref a10)]) rfl (hb hby at_58) (Nat.le_of_eq rfl) (by rw [hml]; rfl) (by decide) (by decide) (pc' := 61) rfl ?_
    intro v11 T11 L11 X11 q11
    obtain ⟨rfl, Nq11, eh11⟩ := q11
    have N11 := Fr.app N8 Nq11
    show own_G p e below s _ _ _ (T11.setTop (mkF m 61 #[.val (.int u0), .val (.int u1), .val (.int (0 : Int32)), .val (.int (if (u1 &&& (1 : Int32)) = (0 : Int32) then (0 : Int32) else (1 : Int32))), .val (.int (if (u1 &&& (2 : Int32)) = (0 : Int32) then (0 : Int32) else (1 : Int32))), .val (.int (if (u1 &&& (4 : Int32)) = (0 : Int32) then (0 : Int32) else (1 : Int32))), .val (.ref a7), .unset, .unset, .unset, .unset, .unset, .unset, .unset, .unset] [(.ref a10)]))
    refine own_astore X11 hx (hb hby at_61) rfl (l' := #[.val (.int u0), .val (.int u1), .val (.int (0 : Int32)), .val (.int (if (u1 &&& (1 : Int32)) = (0 : Int32) then (0 : Int32) else (1 : Int32))), .val (.int (if (u1 &&& (2 : Int32)) = (0 : Int32) then (0 : Int32) else (1 : Int32))), .val (.int (if (u1 &&& (4 : Int32)) = (0 : Int32) then (0 : Int32) else (1 : Int32))), .val (.ref a7), .val (.ref a10), .unset, .unset, .unset, .unset, .unset, .unset, .unset]) rfl (pc' := 63) rfl ?_
    have f14 : Exa Z h10 a7 "com/example/slot3/slot3/frame/PostChain" := (A7.ext E10)
    refine own_new X11 hx hZ hown (ow_10 hw) (ow_11 hw) (ow_12 hw) eh11 (hb hby at_63) (pc' := 66) rfl (by decide) (by decide) ?_
    intro T13 h13 a13 g13 X13 e13 E13 A13 D13
    have lt_a10_a13 : a10 < a13 := by rw [g13]; exact A10.lt
    have lt_a7_a13 : a7 < a13 := by rw [g13]; exact f14.lt
    have ge_a13 : n0 ≤ a13 := by rw [g13]; exact z12
    have F13_previous : Fld Z h13 a13 "com/example/slot3/slot3/frame/Post" "previous" "Lcom/example/slot3/slot3/frame/Post;" (.null) := D13 (Or.inl (ow_27 hw)) (ty := (.object "com/example/slot3/slot3/frame/Post")) (by decide)
    have F13_chain : Fld Z h13 a13 "com/example/slot3/slot3/frame/Post" "chain" "Lcom/example/slot3/slot3/frame/PostChain;" (.null) := D13 (Or.inl (ow_29 hw)) (ty := (.object "com/example/slot3/slot3/frame/PostChain")) (by decide)
    have F13_following : Fld Z h13 a13 "com/example/slot3/slot3/frame/Post" "following" "Lcom/example/slot3/slot3/frame/Post;" (.null) := D13 (Or.inl (ow_35 hw)) (ty := (.object "com/example/slot3/slot3/frame/Post")) (by decide)
    refine own_dup X13 hx (hb hby at_66) rfl (pc' := 67) rfl ?_
    have z16 : n0 ≤ h13.size := (Nat.le_trans z12 E13.1)
    refine own_callC X13 hx hZ rfl hown (ow_13 hw) (ow_14 hw) (ow_12 hw) (ow_15 hw) (by decide) (rm_poi l Z a0 hw a13 h13 n0 z16) e13 (W := 1) (by decide) (by decide) opd___V rfl (rest := [(.ref a13)]) rfl (hb hby at_67) (Nat.le_of_eq rfl) (by rw [hml]; rfl) (by decide) (by decide) (pc' := 70) rfl ?_
    intro v15 T15 L15 X15 q15
    obtain ⟨rfl, Nq15, eh15⟩ := q15
    have N15 := Fr.app N11 Nq15
    show own_G p e below s _ _ _ (T15.setTop (mkF m 70 #[.val (.int u0), .val (.int u1), .val (.int (0 : Int32)), .val (.int (if (u1 &&& (1 : Int32)) = (0 : Int32) then (0 : Int32) else (1 : Int32))), .val (.int (if (u1 &&& (2 : Int32)) = (0 : Int32) then (0 : Int32) else (1 : Int32))), .val (.int (if (u1 &&& (4 : Int32)) = (0 : Int32) then (0 : Int32) else (1 : Int32))), .val (.ref a7), .val (.ref a10), .unset, .unset, .unset, .unset, .unset, .unset, .unset] [(.ref a13)]))
    refine own_astore X15 hx (hb hby at_70) rfl (l' := #[.val (.int u0), .val (.int u1), .val (.int (0 : Int32)), .val (.int (if (u1 &&& (1 : Int32)) = (0 : Int32) then (0 : Int32) else (1 : Int32))), .val (.int (if (u1 &&& (2 : Int32)) = (0 : Int32) then (0 : Int32) else (1 : Int32))), .val (.int (if (u1 &&& (4 : Int32)) = (0 : Int32) then (0 : Int32) else (1 : Int32))), .val (.ref a7), .val (.ref a10), .val (.ref a13), .unset, .unset, .unset, .unset, .unset, .unset]) rfl (pc' := 72) rfl ?_
    have f18 : Exa Z h13 a10 "com/example/slot3/slot3/frame/Post" := (A10.ext E13)
    have f19 : Exa Z h13 a7 "com/example/slot3/slot3/frame/PostChain" := (f14.ext E13)
    refine own_new X15 hx hZ hown (ow_10 hw) (ow_11 hw) (ow_12 hw) eh15 (hb hby at_72) (pc' := 75) rfl (by decide) (by decide) ?_
    intro T17 h17 a17 g17 X17 e17 E17 A17 D17
    have lt_a10_a17 : a10 < a17 := by rw [g17]; exact f18.lt
    have lt_a13_a17 : a13 < a17 := by rw [g17]; exact A13.lt
    have lt_a7_a17 : a7 < a17 := by rw [g17]; exact f19.lt
    have ge_a17 : n0 ≤ a17 := by rw [g17]; exact z16
    have F17_previous : Fld Z h17 a17 "com/example/slot3/slot3/frame/Post" "previous" "Lcom/example/slot3/slot3/frame/Post;" (.null) := D17 (Or.inl (ow_27 hw)) (ty := (.object "com/example/slot3/slot3/frame/Post")) (by decide)
    have F17_chain : Fld Z h17 a17 "com/example/slot3/slot3/frame/Post" "chain" "Lcom/example/slot3/slot3/frame/PostChain;" (.null) := D17 (Or.inl (ow_29 hw)) (ty := (.object "com/example/slot3/slot3/frame/PostChain")) (by decide)
    have F17_following : Fld Z h17 a17 "com/example/slot3/slot3/frame/Post" "following" "Lcom/example/slot3/slot3/frame/Post;" (.null) := D17 (Or.inl (ow_35 hw)) (ty := (.object "com/example/slot3/slot3/frame/Post")) (by decide)
    refine own_dup X17 hx (hb hby at_75) rfl (pc' := 76) rfl ?_
    have z21 : n0 ≤ h17.size := (Nat.le_trans z16 E17.1)
    refine own_callC X17 hx hZ rfl hown (ow_13 hw) (ow_14 hw) (ow_12 hw) (ow_15 hw) (by decide) (rm_poi l Z a0 hw a17 h17 n0 z21) e17 (W := 1) (by decide) (by decide) opd___V rfl (rest := [(.ref a17)]) rfl (hb hby at_76) (Nat.le_of_eq rfl) (by rw [hml]; rfl) (by decide) (by decide) (pc' := 79) rfl ?_
    intro v20 T20 L20 X20 q20
    obtain ⟨rfl, Nq20, eh20⟩ := q20
    have N20 := Fr.app N15 Nq20
    show own_G p e below s _ _ _ (T20.setTop (mkF m 79 #[.val (.int u0), .val (.int u1), .val (.int (0 : Int32)), .val (.int (if (u1 &&& (1 : Int32)) = (0 : Int32) then (0 : Int32) else (1 : Int32))), .val (.int (if (u1 &&& (2 : Int32)) = (0 : Int32) then (0 : Int32) else (1 : Int32))), .val (.int (if (u1 &&& (4 : Int32)) = (0 : Int32) then (0 : Int32) else (1 : Int32))), .val (.ref a7), .val (.ref a10), .val (.ref a13), .unset, .unset, .unset, .unset, .unset, .unset] [(.ref a17)]))
    refine own_astore X20 hx (hb hby at_79) rfl (l' := #[.val (.int u0), .val (.int u1), .val (.int (0 : Int32)), .val (.int (if (u1 &&& (1 : Int32)) = (0 : Int32) then (0 : Int32) else (1 : Int32))), .val (.int (if (u1 &&& (2 : Int32)) = (0 : Int32) then (0 : Int32) else (1 : Int32))), .val (.int (if (u1 &&& (4 : Int32)) = (0 : Int32) then (0 : Int32) else (1 : Int32))), .val (.ref a7), .val (.ref a10), .val (.ref a13), .val (.ref a17), .unset, .unset, .unset, .unset, .unset]) rfl (pc' := 81) rfl ?_
    refine own_iloadN X20 hx (hb hby at_81) rfl (pc' := 82) rfl ?_
    refine own_iconst X20 hx (hb hby at_82) (z := (1 : Int32)) rfl (pc' := 83) rfl ?_
    refine own_icmpT X20 hx (hb hby at_83) (by decide) (by decide) (pc' := 107) rfl ?_
    refine own_iloadN X20 hx (hb hby at_107) rfl (pc' := 108) rfl ?_
    refine own_iconst X20 hx (hb hby at_108) (z := (2 : Int32)) rfl (pc' := 109) rfl ?_
    refine own_icmpT X20 hx (hb hby at_109) (by decide) (by decide) (pc' := 134) rfl ?_
    refine own_iload X20 hx (hb hby at_134) rfl (pc' := 136) rfl ?_
    by_cases c22 : (u1 &&& (4 : Int32)) = (0 : Int32)
    · refine own_cast (S' := T20.setTop (mkF m 136 #[.val (.int u0), .val (.int u1), .val (.int (0 : Int32)), .val (.int (if (u1 &&& (1 : Int32)) = (0 : Int32) then (0 : Int32) else (1 : Int32))), .val (.int (if (u1 &&& (2 : Int32)) = (0 : Int32) then (0 : Int32) else (1 : Int32))), .val (.int (0 : Int32)), .val (.ref a7), .val (.ref a10), .val (.ref a13), .val (.ref a17), .unset, .unset, .unset, .unset, .unset] [(.int (0 : Int32))])) (by first | (simp only [if_pos c22]; done) | (rw [if_pos c22]; done) | (simp; done)) ?_
      refine own_ifT X20 hx (hb hby at_136) (by decide) (by decide) (pc' := 150) rfl ?_
      refine own_iloadN X20 hx (hb hby at_150) rfl (pc' := 151) rfl ?_
      refine own_ifF X20 hx (hb hby at_151) (by decide) (pc' := 154) rfl ?_
      refine own_iconst X20 hx (hb hby at_154) (z := (0 : Int32)) rfl (pc' := 155) rfl ?_
      refine own_istore X20 hx (hb hby at_155) (l' := #[.val (.int u0), .val (.int u1), .val (.int (0 : Int32)), .val (.int (if (u1 &&& (1 : Int32)) = (0 : Int32) then (0 : Int32) else (1 : Int32))), .val (.int (if (u1 &&& (2 : Int32)) = (0 : Int32) then (0 : Int32) else (1 : Int32))), .val (.int (0 : Int32)), .val (.ref a7), .val (.ref a10), .val (.ref a13), .val (.ref a17), .val (.int (0 : Int32)), .unset, .unset, .unset, .unset]) rfl (pc' := 157) rfl ?_
      refine own_aconstNull X20 hx (hb hby at_157) (pc' := 158) rfl ?_
      refine own_astore X20 hx (hb hby at_158) rfl (l' := #[.val (.int u0), .val (.int u1), .val (.int (0 : Int32)), .val (.int (if (u1 &&& (1 : Int32)) = (0 : Int32) then (0 : Int32) else (1 : Int32))), .val (.int (if (u1 &&& (2 : Int32)) = (0 : Int32) then (0 : Int32) else (1 : Int32))), .val (.int (0 : Int32)), .val (.ref a7), .val (.ref a10), .val (.ref a13), .val (.ref a17), .val (.int (0 : Int32)), .val (.null), .unset, .unset, .unset]) rfl (pc' := 160) rfl ?_
      refine own_aconstNull X20 hx (hb hby at_160) (pc' := 161) rfl ?_
      refine own_astore X20 hx (hb hby at_161) rfl (l' := #[.val (.int u0), .val (.int u1), .val (.int (0 : Int32)), .val (.int (if (u1 &&& (1 : Int32)) = (0 : Int32) then (0 : Int32) else (1 : Int32))), .val (.int (if (u1 &&& (2 : Int32)) = (0 : Int32) then (0 : Int32) else (1 : Int32))), .val (.int (0 : Int32)), .val (.ref a7), .val (.ref a10), .val (.ref a13), .val (.ref a17), .val (.int (0 : Int32)), .val (.null), .val (.null), .unset, .unset]) rfl (pc' := 163) rfl ?_
      refine own_goto X20 hx (hb hby at_163) (by decide) (pc' := 260) rfl ?_
      refine own_aload X20 hx (hb hby at_260) rfl rfl (pc' := 262) rfl ?_
      refine own_aload X20 hx (hb hby at_262) rfl rfl (pc' := 264) rfl ?_
      have f24 : Exa Z h17 a7 "com/example/slot3/slot3/frame/PostChain" := (f19.ext E17)
      have f25 : Fld Z h17 a7 "com/example/slot3/slot3/frame/PostChain" "first" "Lcom/example/slot3/slot3/frame/Post;" (.null) := (((F7_first.ext E10).ext E13).ext E17)
      have f26 : Fld Z h17 a7 "com/example/slot3/slot3/frame/PostChain" "last" "Lcom/example/slot3/slot3/frame/Post;" (.null) := (((F7_last.ext E10).ext E13).ext E17)
      have f27 : Fld Z h17 a7 "com/example/slot3/slot3/frame/PostChain" "count" "I" (.int (0 : Int32)) := (((F7_count.ext E10).ext E13).ext E17)
      refine own_callV X20 hx hZ hown (ow_17 hw) (ow_18 hw) (ow_20 hw) (ow_19 hw) (ow_3 hw) (ow_21 hw) (by decide) f24 (rm_ap1 l Z a0 hw a7 a17 (0 : Int32) .null .null .null .null h17 n0 z21 f24 A17 f25 f26 f27 F17_following F17_previous F17_chain ge_a7 ge_a17 (Nat.ne_of_lt lt_a7_a17)) eh20 (W := 0) (by decide) (by decide) opd__Lcom_example_slot3_slot3_frame_Post__V rfl (rest := []) rfl (hb hby at_264) (Nat.le_of_eq rfl) (by rw [hml]; rfl) (by decide) (by decide) (pc' := 267) rfl ?_
      intro v23 T23 L23 X23 q23
      obtain ⟨rfl, Nq23, K23, p23_0, p23_1, p23_2, p23_3, p23_4, p23_5⟩ := q23
      have N23 := Fr.app N20 Nq23
      show own_G p e below s _ _ _ (T23.setTop (mkF m 267 #[.val (.int u0), .val (.int u1), .val (.int (0 : Int32)), .val (.int (if (u1 &&& (1 : Int32)) = (0 : Int32) then (0 : Int32) else (1 : Int32))), .val (.int (if (u1 &&& (2 : Int32)) = (0 : Int32) then (0 : Int32) else (1 : Int32))), .val (.int (0 : Int32)), .val (.ref a7), .val (.ref a10), .val (.ref a13), .val (.ref a17), .val (.int (0 : Int32)), .val (.null), .val (.null), .unset, .unset] []))
      refine own_aload X23 hx (hb hby at_267) rfl rfl (pc' := 269) rfl ?_
      refine own_getF X23 hx hZ hown (ow_32 hw) rfl p23_1 (hb hby at_269) (pc' := 272) rfl ?_
      intro T28 X28 e28
      refine own_aload X28 hx (hb hby at_272) rfl rfl (pc' := 274) rfl ?_
      refine own_acmpF X28 hx (hb hby at_274) rfl rfl (by simp [XT.acmp]) (pc' := 277) rfl ?_
      refine own_aload X28 hx (hb hby at_277) rfl rfl (pc' := 279) rfl ?_
      refine own_getF X28 hx hZ hown (ow_33 hw) e28 p23_5 (hb hby at_279) (pc' := 282) rfl ?_
      intro T29 X29 e29
      refine own_aload X29 hx (hb hby at_282) rfl rfl (pc' := 284) rfl ?_
      refine own_acmpF X29 hx (hb hby at_284) rfl rfl (by simp [XT.acmp]) (pc' := 287) rfl ?_
      refine own_aload X29 hx (hb hby at_287) rfl rfl (pc' := 289) rfl ?_
      refine own_getF X29 hx hZ hown (ow_34 hw) e29 p23_3 (hb hby at_289) (pc' := 292) rfl ?_
      intro T30 X30 e30
      refine own_ifnonnullF X30 hx (hb hby at_292) (pc' := 295) rfl ?_
      refine own_aload X30 hx (hb hby at_295) rfl rfl (pc' := 297) rfl ?_
      refine own_getF X30 hx hZ hown (ow_36 hw) e30 p23_4 (hb hby at_297) (pc' := 300) rfl ?_
      intro T31 X31 e31
      refine own_aload X31 hx (hb hby at_300) rfl rfl (pc' := 302) rfl ?_
      refine own_acmpF X31 hx (hb hby at_302) rfl rfl (by simp [XT.acmp]) (pc' := 305) rfl ?_
      refine own_aload X31 hx (hb hby at_305) rfl rfl (pc' := 307) rfl ?_
      refine own_getF X31 hx hZ hown (ow_37 hw) e31 p23_2 (hb hby at_307) (pc' := 310) rfl ?_
      intro T32 X32 e32
      refine own_iload X32 hx (hb hby at_310) rfl (pc' := 312) rfl ?_
      refine own_iconst X32 hx (hb hby at_312) (z := (1 : Int32)) rfl (pc' := 313) rfl ?_
      refine own_iadd X32 hx (hb hby at_313) (pc' := 314) rfl ?_
      refine own_icmpF X32 hx (hb hby at_314) (by decide) (pc' := 317) rfl ?_
      refine own_iconst X32 hx (hb hby at_317) (z := (1 : Int32)) rfl (pc' := 318) rfl ?_
      refine own_goto X32 hx (hb hby at_318) (by decide) (pc' := 322) rfl ?_
      refine own_istore X32 hx (hb hby at_322) (l' := #[.val (.int u0), .val (.int u1), .val (.int (0 : Int32)), .val (.int (if (u1 &&& (1 : Int32)) = (0 : Int32) then (0 : Int32) else (1 : Int32))), .val (.int (if (u1 &&& (2 : Int32)) = (0 : Int32) then (0 : Int32) else (1 : Int32))), .val (.int (0 : Int32)), .val (.ref a7), .val (.ref a10), .val (.ref a13), .val (.ref a17), .val (.int (0 : Int32)), .val (.null), .val (.null), .val (.int (1 : Int32)), .unset]) rfl (pc' := 324) rfl ?_
      refine own_aload X32 hx (hb hby at_324) rfl rfl (pc' := 326) rfl ?_
      refine own_ifnonnullF X32 hx (hb hby at_326) (pc' := 329) rfl ?_
      refine own_iload X32 hx (hb hby at_329) rfl (pc' := 331) rfl ?_
      refine own_ifF X32 hx (hb hby at_331) (by decide) (pc' := 334) rfl ?_
      refine own_aload X32 hx (hb hby at_334) rfl rfl (pc' := 336) rfl ?_
      refine own_getF X32 hx hZ hown (ow_38 hw) e32 p23_0 (hb hby at_336) (pc' := 339) rfl ?_
      intro T33 X33 e33
      refine own_aload X33 hx (hb hby at_339) rfl rfl (pc' := 341) rfl ?_
      refine own_acmpF X33 hx (hb hby at_341) rfl rfl (by simp [XT.acmp]) (pc' := 344) rfl ?_
      refine own_iconst X33 hx (hb hby at_344) (z := (1 : Int32)) rfl (pc' := 345) rfl ?_
      refine own_goto X33 hx (hb hby at_345) (by decide) (pc' := 349) rfl ?_
      refine own_istore X33 hx (hb hby at_349) (l' := #[.val (.int u0), .val (.int u1), .val (.int (0 : Int32)), .val (.int (if (u1 &&& (1 : Int32)) = (0 : Int32) then (0 : Int32) else (1 : Int32))), .val (.int (if (u1 &&& (2 : Int32)) = (0 : Int32) then (0 : Int32) else (1 : Int32))), .val (.int (0 : Int32)), .val (.ref a7), .val (.ref a10), .val (.ref a13), .val (.ref a17), .val (.int (0 : Int32)), .val (.null), .val (.null), .val (.int (1 : Int32)), .unset]) rfl (pc' := 351) rfl ?_
      refine own_goto X33 hx (hb hby at_351) (by decide) (pc' := 404) rfl ?_
      refine own_iload X33 hx (hb hby at_404) rfl (pc' := 406) rfl ?_
      refine own_iconst X33 hx (hb hby at_406) (z := (2 : Int32)) rfl (pc' := 407) rfl ?_
      refine own_icmpT X33 hx (hb hby at_407) (by decide) (by decide) (pc' := 442) rfl ?_
      refine own_iload X33 hx (hb hby at_442) rfl (pc' := 444) rfl ?_
      exact own_retZ X33 hx hret hlk (Or.inr rfl) (hb hby at_444) ⟨rfl, N23⟩ (by decide) (by decide)
    · refine own_cast (S' := T20.setTop (mkF m 136 #[.val (.int u0), .val (.int u1), .val (.int (0 : Int32)), .val (.int (if (u1 &&& (1 : Int32)) = (0 : Int32) then (0 : Int32) else (1 : Int32))), .val (.int (if (u1 &&& (2 : Int32)) = (0 : Int32) then (0 : Int32) else (1 : Int32))), .val (.int (1 : Int32)), .val (.ref a7), .val (.ref a10), .val (.ref a13), .val (.ref a17), .unset, .unset, .unset, .unset, .unset] [(.int (1 : Int32))])) (by first | (simp only [if_neg c22]; done) | (rw [if_neg c22]; done) | (simp; done)) ?_
      refine own_ifF X20 hx (hb hby at_136) (by decide) (pc' := 139) rfl ?_
      refine own_iloadN X20 hx (hb hby at_139) rfl (pc' := 140) rfl ?_
      refine own_iconst X20 hx (hb hby at_140) (z := (1 : Int32)) rfl (pc' := 141) rfl ?_
      refine own_icmpT X20 hx (hb hby at_141) (by decide) (by decide) (pc' := 150) rfl ?_
      refine own_iloadN X20 hx (hb hby at_150) rfl (pc' := 151) rfl ?_
      refine own_ifF X20 hx (hb hby at_151) (by decide) (pc' := 154) rfl ?_
      refine own_iconst X20 hx (hb hby at_154) (z := (0 : Int32)) rfl (pc' := 155) rfl ?_
      refine own_istore X20 hx (hb hby at_155) (l' := #[.val (.int u0), .val (.int u1), .val (.int (0 : Int32)), .val (.int (if (u1 &&& (1 : Int32)) = (0 : Int32) then (0 : Int32) else (1 : Int32))), .val (.int (if (u1 &&& (2 : Int32)) = (0 : Int32) then (0 : Int32) else (1 : Int32))), .val (.int (1 : Int32)), .val (.ref a7), .val (.ref a10), .val (.ref a13), .val (.ref a17), .val (.int (0 : Int32)), .unset, .unset, .unset, .unset]) rfl (pc' := 157) rfl ?_
      refine own_aconstNull X20 hx (hb hby at_157) (pc' := 158) rfl ?_
      refine own_astore X20 hx (hb hby at_158) rfl (l' := #[.val (.int u0), .val (.int u1), .val (.int (0 : Int32)), .val (.int (if (u1 &&& (1 : Int32)) = (0 : Int32) then (0 : Int32) else (1 : Int32))), .val (.int (if (u1 &&& (2 : Int32)) = (0 : Int32) then (0 : Int32) else (1 : Int32))), .val (.int (1 : Int32)), .val (.ref a7), .val (.ref a10), .val (.ref a13), .val (.ref a17), .val (.int (0 : Int32)), .val (.null), .unset, .unset, .unset]) rfl (pc' := 160) rfl ?_
      refine own_aconstNull X20 hx (hb hby at_160) (pc' := 161) rfl ?_
      refine own_astore X20 hx (hb hby at_161) rfl (l' := #[.val (.int u0), .val (.int u1), .val (.int (0 : Int32)), .val (.int (if (u1 &&& (1 : Int32)) = (0 : Int32) then (0 : Int32) else (1 : Int32))), .val (.int (if (u1 &&& (2 : Int32)) = (0 : Int32) then (0 : Int32) else (1 : Int32))), .val (.int (1 : Int32)), .val (.ref a7), .val (.ref a10), .val (.ref a13), .val (.ref a17), .val (.int (0 : Int32)), .val (.null), .val (.null), .unset, .unset]) rfl (pc' := 163) rfl ?_
      refine own_goto X20 hx (hb hby at_163) (by decide) (pc' := 260) rfl ?_
      refine own_aload X20 hx (hb hby at_260) rfl rfl (pc' := 262) rfl ?_
      refine own_aload X20 hx (hb hby at_262) rfl rfl (pc' := 264) rfl ?_
      have f35 : Exa Z h17 a7 "com/example/slot3/slot3/frame/PostChain" := (f19.ext E17)
      have f36 : Fld Z h17 a7 "com/example/slot3/slot3/frame/PostChain" "first" "Lcom/example/slot3/slot3/frame/Post;" (.null) := (((F7_first.ext E10).ext E13).ext E17)
      have f37 : Fld Z h17 a7 "com/example/slot3/slot3/frame/PostChain" "last" "Lcom/example/slot3/slot3/frame/Post;" (.null) := (((F7_last.ext E10).ext E13).ext E17)
      have f38 : Fld Z h17 a7 "com/example/slot3/slot3/frame/PostChain" "count" "I" (.int (0 : Int32)) := (((F7_count.ext E10).ext E13).ext E17)
      refine own_callV X20 hx hZ hown (ow_17 hw) (ow_18 hw) (ow_20 hw) (ow_19 hw) (ow_3 hw) (ow_21 hw) (by decide) f35 (rm_ap1 l Z a0 hw a7 a17 (0 : Int32) .null .null .null .null h17 n0 z21 f35 A17 f36 f37 f38 F17_following F17_previous F17_chain ge_a7 ge_a17 (Nat.ne_of_lt lt_a7_a17)) eh20 (W := 0) (by decide) (by decide) opd__Lcom_example_slot3_slot3_frame_Post__V rfl (rest := []) rfl (hb hby at_264) (Nat.le_of_eq rfl) (by rw [hml]; rfl) (by decide) (by decide) (pc' := 267) rfl ?_
      intro v34 T34 L34 X34 q34
      obtain ⟨rfl, Nq34, K34, p34_0, p34_1, p34_2, p34_3, p34_4, p34_5⟩ := q34
      have N34 := Fr.app N20 Nq34
      show own_G p e below s _ _ _ (T34.setTop (mkF m 267 #[.val (.int u0), .val (.int u1), .val (.int (0 : Int32)), .val (.int (if (u1 &&& (1 : Int32)) = (0 : Int32) then (0 : Int32) else (1 : Int32))), .val (.int (if (u1 &&& (2 : Int32)) = (0 : Int32) then (0 : Int32) else (1 : Int32))), .val (.int (1 : Int32)), .val (.ref a7), .val (.ref a10), .val (.ref a13), .val (.ref a17), .val (.int (0 : Int32)), .val (.null), .val (.null), .unset, .unset] []))
      refine own_aload X34 hx (hb hby at_267) rfl rfl (pc' := 269) rfl ?_
      refine own_getF X34 hx hZ hown (ow_32 hw) rfl p34_1 (hb hby at_269) (pc' := 272) rfl ?_
      intro T39 X39 e39
      refine own_aload X39 hx (hb hby at_272) rfl rfl (pc' := 274) rfl ?_
      refine own_acmpF X39 hx (hb hby at_274) rfl rfl (by simp [XT.acmp]) (pc' := 277) rfl ?_
      refine own_aload X39 hx (hb hby at_277) rfl rfl (pc' := 279) rfl ?_
      refine own_getF X39 hx hZ hown (ow_33 hw) e39 p34_5 (hb hby at_279) (pc' := 282) rfl ?_
      intro T40 X40 e40
      refine own_aload X40 hx (hb hby at_282) rfl rfl (pc' := 284) rfl ?_
      refine own_acmpF X40 hx (hb hby at_284) rfl rfl (by simp [XT.acmp]) (pc' := 287) rfl ?_
      refine own_aload X40 hx (hb hby at_287) rfl rfl (pc' := 289) rfl ?_
      refine own_getF X40 hx hZ hown (ow_34 hw) e40 p34_3 (hb hby at_289) (pc' := 292) rfl ?_
      intro T41 X41 e41
      refine own_ifnonnullF X41 hx (hb hby at_292) (pc' := 295) rfl ?_
      refine own_aload X41 hx (hb hby at_295) rfl rfl (pc' := 297) rfl ?_
      refine own_getF X41 hx hZ hown (ow_36 hw) e41 p34_4 (hb hby at_297) (pc' := 300) rfl ?_
      intro T42 X42 e42
      refine own_aload X42 hx (hb hby at_300) rfl rfl (pc' := 302) rfl ?_
      refine own_acmpF X42 hx (hb hby at_302) rfl rfl (by simp [XT.acmp]) (pc' := 305) rfl ?_
      refine own_aload X42 hx (hb hby at_305) rfl rfl (pc' := 307) rfl ?_
      refine own_getF X42 hx hZ hown (ow_37 hw) e42 p34_2 (hb hby at_307) (pc' := 310) rfl ?_
      intro T43 X43 e43
      refine own_iload X43 hx (hb hby at_310) rfl (pc' := 312) rfl ?_
      refine own_iconst X43 hx (hb hby at_312) (z := (1 : Int32)) rfl (pc' := 313) rfl ?_
      refine own_iadd X43 hx (hb hby at_313) (pc' := 314) rfl ?_
      refine own_icmpF X43 hx (hb hby at_314) (by decide) (pc' := 317) rfl ?_
      refine own_iconst X43 hx (hb hby at_317) (z := (1 : Int32)) rfl (pc' := 318) rfl ?_
      refine own_goto X43 hx (hb hby at_318) (by decide) (pc' := 322) rfl ?_
      refine own_istore X43 hx (hb hby at_322) (l' := #[.val (.int u0), .val (.int u1), .val (.int (0 : Int32)), .val (.int (if (u1 &&& (1 : Int32)) = (0 : Int32) then (0 : Int32) else (1 : Int32))), .val (.int (if (u1 &&& (2 : Int32)) = (0 : Int32) then (0 : Int32) else (1 : Int32))), .val (.int (1 : Int32)), .val (.ref a7), .val (.ref a10), .val (.ref a13), .val (.ref a17), .val (.int (0 : Int32)), .val (.null), .val (.null), .val (.int (1 : Int32)), .unset]) rfl (pc' := 324) rfl ?_
      refine own_aload X43 hx (hb hby at_324) rfl rfl (pc' := 326) rfl ?_
      refine own_ifnonnullF X43 hx (hb hby at_326) (pc' := 329) rfl ?_
      refine own_iload X43 hx (hb hby at_329) rfl (pc' := 331) rfl ?_
      refine own_ifF X43 hx (hb hby at_331) (by decide) (pc' := 334) rfl ?_
      refine own_aload X43 hx (hb hby at_334) rfl rfl (pc' := 336) rfl ?_
      refine own_getF X43 hx hZ hown (ow_38 hw) e43 p34_0 (hb hby at_336) (pc' := 339) rfl ?_
      intro T44 X44 e44
      refine own_aload X44 hx (hb hby at_339) rfl rfl (pc' := 341) rfl ?_
      refine own_acmpF X44 hx (hb hby at_341) rfl rfl (by simp [XT.acmp]) (pc' := 344) rfl ?_
      refine own_iconst X44 hx (hb hby at_344) (z := (1 : Int32)) rfl (pc' := 345) rfl ?_
      refine own_goto X44 hx (hb hby at_345) (by decide) (pc' := 349) rfl ?_
      refine own_istore X44 hx (hb hby at_349) (l' := #[.val (.int u0), .val (.int u1), .val (.int (0 : Int32)), .val (.int (if (u1 &&& (1 : Int32)) = (0 : Int32) then (0 : Int32) else (1 : Int32))), .val (.int (if (u1 &&& (2 : Int32)) = (0 : Int32) then (0 : Int32) else (1 : Int32))), .val (.int (1 : Int32)), .val (.ref a7), .val (.ref a10), .val (.ref a13), .val (.ref a17), .val (.int (0 : Int32)), .val (.null), .val (.null), .val (.int (1 : Int32)), .unset]) rfl (pc' := 351) rfl ?_
      refine own_goto X44 hx (hb hby at_351) (by decide) (pc' := 404) rfl ?_
      refine own_iload X44 hx (hb hby at_404) rfl (pc' := 406) rfl ?_
      refine own_iconst X44 hx (hb hby at_406) (z := (2 : Int32)) rfl (pc' := 407) rfl ?_
      refine own_icmpT X44 hx (hb hby at_407) (by decide) (by decide) (pc' := 442) rfl ?_
      refine own_iload X44 hx (hb hby at_442) rfl (pc' := 444) rfl ?_
      exact own_retZ X44 hx hret hlk (Or.inr rfl) (hb hby at_444) ⟨rfl, N34⟩ (by decide) (by decide)
  · rw [c2]
    refine own_iloadN X0 hx (hb hby at_7) rfl (pc' := 8) rfl ?_
    refine own_iconst X0 hx (hb hby at_8) (z := (1 : Int32)) rfl (pc' := 9) rfl ?_
    refine own_iand X0 hx (hb hby at_9) (pc' := 10) rfl ?_
    refine own_via (S' := s1.setTop (mkF m 18 #[.val (.int u0), .val (.int u1), .val (.int (1 : Int32)), .unset, .unset, .unset, .unset, .unset, .unset, .unset, .unset, .unset, .unset, .unset, .unset] [(.int (if (u1 &&& (1 : Int32)) = (0 : Int32) then (0 : Int32) else (1 : Int32)))])) (fun kk => ?_) ?_
    · by_cases c45 : (u1 &&& (1 : Int32)) = (0 : Int32)
      · refine own_ifT X0 hx (hb hby at_10) (teq c45).1 (by decide) (pc' := 17) rfl ?_
        refine own_iconst X0 hx (hb hby at_17) (z := (0 : Int32)) rfl (pc' := 18) rfl ?_
        exact own_cast (by simp only [if_pos c45]) kk
      · refine own_ifF X0 hx (hb hby at_10) (feq c45).1 (pc' := 13) rfl ?_
        refine own_iconst X0 hx (hb hby at_13) (z := (1 : Int32)) rfl (pc' := 14) rfl ?_
        refine own_goto X0 hx (hb hby at_14) (by decide) (pc' := 18) rfl ?_
        exact own_cast (by simp only [if_neg c45]) kk
    refine own_istoreN X0 hx (hb hby at_18) (l' := #[.val (.int u0), .val (.int u1), .val (.int (1 : Int32)), .val (.int (if (u1 &&& (1 : Int32)) = (0 : Int32) then (0 : Int32) else (1 : Int32))), .unset, .unset, .unset, .unset, .unset, .unset, .unset, .unset, .unset, .unset, .unset]) rfl (pc' := 19) rfl ?_
    refine own_iloadN X0 hx (hb hby at_19) rfl (pc' := 20) rfl ?_
    refine own_iconst X0 hx (hb hby at_20) (z := (2 : Int32)) rfl (pc' := 21) rfl ?_
    refine own_iand X0 hx (hb hby at_21) (pc' := 22) rfl ?_
    refine own_via (S' := s1.setTop (mkF m 30 #[.val (.int u0), .val (.int u1), .val (.int (1 : Int32)), .val (.int (if (u1 &&& (1 : Int32)) = (0 : Int32) then (0 : Int32) else (1 : Int32))), .unset, .unset, .unset, .unset, .unset, .unset, .unset, .unset, .unset, .unset, .unset] [(.int (if (u1 &&& (2 : Int32)) = (0 : Int32) then (0 : Int32) else (1 : Int32)))])) (fun kk => ?_) ?_
    · by_cases c46 : (u1 &&& (2 : Int32)) = (0 : Int32)
      · refine own_ifT X0 hx (hb hby at_22) (teq c46).1 (by decide) (pc' := 29) rfl ?_
        refine own_iconst X0 hx (hb hby at_29) (z := (0 : Int32)) rfl (pc' := 30) rfl ?_
        exact own_cast (by simp only [if_pos c46]) kk
      · refine own_ifF X0 hx (hb hby at_22) (feq c46).1 (pc' := 25) rfl ?_
        refine own_iconst X0 hx (hb hby at_25) (z := (1 : Int32)) rfl (pc' := 26) rfl ?_
        refine own_goto X0 hx (hb hby at_26) (by decide) (pc' := 30) rfl ?_
        exact own_cast (by simp only [if_neg c46]) kk
    refine own_istore X0 hx (hb hby at_30) (l' := #[.val (.int u0), .val (.int u1), .val (.int (1 : Int32)), .val (.int (if (u1 &&& (1 : Int32)) = (0 : Int32) then (0 : Int32) else (1 : Int32))), .val (.int (if (u1 &&& (2 : Int32)) = (0 : Int32) then (0 : Int32) else (1 : Int32))), .unset, .unset, .unset, .unset, .unset, .unset, .unset, .unset, .unset, .unset]) rfl (pc' := 32) rfl ?_
    refine own_iloadN X0 hx (hb hby at_32) rfl (pc' := 33) rfl ?_
    refine own_iconst X0 hx (hb hby at_33) (z := (4 : Int32)) rfl (pc' := 34) rfl ?_
    refine own_iand X0 hx (hb hby at_34) (pc' := 35) rfl ?_
    refine own_via (S' := s1.setTop (mkF m 43 #[.val (.int u0), .val (.int u1), .val (.int (1 : Int32)), .val (.int (if (u1 &&& (1 : Int32)) = (0 : Int32) then (0 : Int32) else (1 : Int32))), .val (.int (if (u1 &&& (2 : Int32)) = (0 : Int32) then (0 : Int32) else (1 : Int32))), .unset, .unset, .unset, .unset, .unset, .unset, .unset, .unset, .unset, .unset] [(.int (if (u1 &&& (4 : Int32)) = (0 : Int32) then (0 : Int32) else (1 : Int32)))])) (fun kk => ?_) ?_
    · by_cases c47 : (u1 &&& (4 : Int32)) = (0 : Int32)
      · refine own_ifT X0 hx (hb hby at_35) (teq c47).1 (by decide) (pc' := 42) rfl ?_
        refine own_iconst X0 hx (hb hby at_42) (z := (0 : Int32)) rfl (pc' := 43) rfl ?_
        exact own_cast (by simp only [if_pos c47]) kk
      · refine own_ifF X0 hx (hb hby at_35) (feq c47).1 (pc' := 38) rfl ?_
        refine own_iconst X0 hx (hb hby at_38) (z := (1 : Int32)) rfl (pc' := 39) rfl ?_
        refine own_goto X0 hx (hb hby at_39) (by decide) (pc' := 43) rfl ?_
        exact own_cast (by simp only [if_neg c47]) kk
    refine own_istore X0 hx (hb hby at_43) (l' := #[.val (.int u0), .val (.int u1), .val (.int (1 : Int32)), .val (.int (if (u1 &&& (1 : Int32)) = (0 : Int32) then (0 : Int32) else (1 : Int32))), .val (.int (if (u1 &&& (2 : Int32)) = (0 : Int32) then (0 : Int32) else (1 : Int32))), .val (.int (if (u1 &&& (4 : Int32)) = (0 : Int32) then (0 : Int32) else (1 : Int32))), .unset, .unset, .unset, .unset, .unset, .unset, .unset, .unset, .unset]) rfl (pc' := 45) rfl ?_
    refine own_new X0 hx hZ hown (ow_1 hw) (ow_2 hw) (ow_3 hw) e0 (hb hby at_45) (pc' := 48) rfl (by decide) (by decide) ?_
    intro T48 h48 a48 g48 X48 e48 E48 A48 D48
    have ge_a48 : n0 ≤ a48 := by rw [g48]; exact Z0
    have F48_last : Fld Z h48 a48 "com/example/slot3/slot3/frame/PostChain" "last" "Lcom/example/slot3/slot3/frame/Post;" (.null) := D48 (Or.inl (ow_23 hw)) (ty := (.object "com/example/slot3/slot3/frame/Post")) (by decide)
    have F48_first : Fld Z h48 a48 "com/example/slot3/slot3/frame/PostChain" "first" "Lcom/example/slot3/slot3/frame/Post;" (.null) := D48 (Or.inl (ow_25 hw)) (ty := (.object "com/example/slot3/slot3/frame/Post")) (by decide)
    have F48_count : Fld Z h48 a48 "com/example/slot3/slot3/frame/PostChain" "count" "I" (.int (0 : Int32)) := D48 (Or.inl (ow_31 hw)) (ty := .int) (by decide)
    refine own_dup X48 hx (hb hby at_48) rfl (pc' := 49) rfl ?_
    have z50 : n0 ≤ h48.size := (Nat.le_trans Z0 E48.1)
    refine own_callC X48 hx hZ rfl hown (ow_4 hw) (ow_5 hw) (ow_3 hw) (ow_6 hw) (by decide) (rm_pci l Z a0 hw a48 h48 n0 z50) e48 (W := 1) (by decide) (by decide) opd___V rfl (rest := [(.ref a48)]) rfl (hb hby at_49) (Nat.le_of_eq rfl) (by rw [hml]; rfl) (by decide) (by decide) (pc' := 52) rfl ?_
    intro v49 T49 L49 X49 q49
    obtain ⟨rfl, Nq49, eh49⟩ := q49
    have N49 := Fr.app N0 Nq49
    show own_G p e below s _ _ _ (T49.setTop (mkF m 52 #[.val (.int u0), .val (.int u1), .val (.int (1 : Int32)), .val (.int (if (u1 &&& (1 : Int32)) = (0 : Int32) then (0 : Int32) else (1 : Int32))), .val (.int (if (u1 &&& (2 : Int32)) = (0 : Int32) then (0 : Int32) else (1 : Int32))), .val (.int (if (u1 &&& (4 : Int32)) = (0 : Int32) then (0 : Int32) else (1 : Int32))), .unset, .unset, .unset, .unset, .unset, .unset, .unset, .unset, .unset] [(.ref a48)]))
    refine own_astore X49 hx (hb hby at_52) rfl (l' := #[.val (.int u0), .val (.int u1), .val (.int (1 : Int32)), .val (.int (if (u1 &&& (1 : Int32)) = (0 : Int32) then (0 : Int32) else (1 : Int32))), .val (.int (if (u1 &&& (2 : Int32)) = (0 : Int32) then (0 : Int32) else (1 : Int32))), .val (.int (if (u1 &&& (4 : Int32)) = (0 : Int32) then (0 : Int32) else (1 : Int32))), .val (.ref a48), .unset, .unset, .unset, .unset, .unset, .unset, .unset, .unset]) rfl (pc' := 54) rfl ?_
    refine own_new X49 hx hZ hown (ow_10 hw) (ow_11 hw) (ow_12 hw) eh49 (hb hby at_54) (pc' := 57) rfl (by decide) (by decide) ?_
    intro T51 h51 a51 g51 X51 e51 E51 A51 D51
    have lt_a48_a51 : a48 < a51 := by rw [g51]; exact A48.lt
    have ge_a51 : n0 ≤ a51 := by rw [g51]; exact z50
    have F51_previous : Fld Z h51 a51 "com/example/slot3/slot3/frame/Post" "previous" "Lcom/example/slot3/slot3/frame/Post;" (.null) := D51 (Or.inl (ow_27 hw)) (ty := (.object "com/example/slot3/slot3/frame/Post")) (by decide)
    have F51_chain : Fld Z h51 a51 "com/example/slot3/slot3/frame/Post" "chain" "Lcom/example/slot3/slot3/frame/PostChain;" (.null) := D51 (Or.inl (ow_29 hw)) (ty := (.object "com/example/slot3/slot3/frame/PostChain")) (by decide)
    have F51_following : Fld Z h51 a51 "com/example/slot3/slot3/frame/Post" "following" "Lcom/example/slot3/slot3/frame/Post;" (.null) := D51 (Or.inl (ow_35 hw)) (ty := (.object "com/example/slot3/slot3/frame/Post")) (by decide)
    refine own_dup X51 hx (hb hby at_57) rfl (pc' := 58) rfl ?_
    have z53 : n0 ≤ h51.size := (Nat.le_trans z50 E51.1)
    refine own_callC X51 hx hZ rfl hown (ow_13 hw) (ow_14 hw) (ow_12 hw) (ow_15 hw) (by decide) (rm_poi l Z a0 hw a51 h51 n0 z53) e51 (W := 1) (by decide) (by decide) opd___V rfl (rest := [(.ref a51)]) rfl (hb hby at_58) (Nat.le_of_eq rfl) (by rw [hml]; rfl) (by decide) (by decide) (pc' := 61) rfl ?_
    intro v52 T52 L52 X52 q52
    obtain ⟨rfl, Nq52, eh52⟩ := q52
    have N52 := Fr.app N49 Nq52
    show own_G p e below s _ _ _ (T52.setTop (mkF m 61 #[.val (.int u0), .val (.int u1), .val (.int (1 : Int32)), .val (.int (if (u1 &&& (1 : Int32)) = (0 : Int32) then (0 : Int32) else (1 : Int32))), .val (.int (if (u1 &&& (2 : Int32)) = (0 : Int32) then (0 : Int32) else (1 : Int32))), .val (.int (if (u1 &&& (4 : Int32)) = (0 : Int32) then (0 : Int32) else (1 : Int32))), .val (.ref a48), .unset, .unset, .unset, .unset, .unset, .unset, .unset, .unset] [(.ref a51)]))
    refine own_astore X52 hx (hb hby at_61) rfl (l' := #[.val (.int u0), .val (.int u1), .val (.int (1 : Int32)), .val (.int (if (u1 &&& (1 : Int32)) = (0 : Int32) then (0 : Int32) else (1 : Int32))), .val (.int (if (u1 &&& (2 : Int32)) = (0 : Int32) then (0 : Int32) else (1 : Int32))), .val (.int (if (u1 &&& (4 : Int32)) = (0 : Int32) then (0 : Int32) else (1 : Int32))), .val (.ref a48), .val (.ref a51), .unset, .unset, .unset, .unset, .unset, .unset, .unset]) rfl (pc' := 63) rfl ?_
    have f55 : Exa Z h51 a48 "com/example/slot3/slot3/frame/PostChain" := (A48.ext E51)
    refine own_new X52 hx hZ hown (ow_10 hw) (ow_11 hw) (ow_12 hw) eh52 (hb hby at_63) (pc' := 66) rfl (by decide) (by decide) ?_
    intro T54 h54 a54 g54 X54 e54 E54 A54 D54
    have lt_a48_a54 : a48 < a54 := by rw [g54]; exact f55.lt
    have lt_a51_a54 : a51 < a54 := by rw [g54]; exact A51.lt
    have ge_a54 : n0 ≤ a54 := by rw [g54]; exact z53
    have F54_previous : Fld Z h54 a54 "com/example/slot3/slot3/frame/Post" "previous" "Lcom/example/slot3/slot3/frame/Post;" (.null) := D54 (Or.inl (ow_27 hw)) (ty := (.object "com/example/slot3/slot3/frame/Post")) (by decide)
    have F54_chain : Fld Z h54 a54 "com/example/slot3/slot3/frame/Post" "chain" "Lcom/example/slot3/slot3/frame/PostChain;" (.null) := D54 (Or.inl (ow_29 hw)) (ty := (.object "com/example/slot3/slot3/frame/PostChain")) (by decide)
    have F54_following : Fld Z h54 a54 "com/example/slot3/slot3/frame/Post" "following" "Lcom/example/slot3/slot3/frame/Post;" (.null) := D54 (Or.inl (ow_35 hw)) (ty := (.object "com/example/slot3/slot3/frame/Post")) (by decide)
    refine own_dup X54 hx (hb hby at_66) rfl (pc' := 67) rfl ?_
    have z57 : n0 ≤ h54.size := (Nat.le_trans z53 E54.1)
    refine own_callC X54 hx hZ rfl hown (ow_13 hw) (ow_14 hw) (ow_12 hw) (ow_15 hw) (by decide) (rm_poi l Z a0 hw a54 h54 n0 z57) e54 (W := 1) (by decide) (by decide) opd___V rfl (rest := [(.ref a54)]) rfl (hb hby at_67) (Nat.le_of_eq rfl) (by rw [hml]; rfl) (by decide) (by decide) (pc' := 70) rfl ?_
    intro v56 T56 L56 X56 q56
    obtain ⟨rfl, Nq56, eh56⟩ := q56
    have N56 := Fr.app N52 Nq56
    show own_G p e below s _ _ _ (T56.setTop (mkF m 70 #[.val (.int u0), .val (.int u1), .val (.int (1 : Int32)), .val (.int (if (u1 &&& (1 : Int32)) = (0 : Int32) then (0 : Int32) else (1 : Int32))), .val (.int (if (u1 &&& (2 : Int32)) = (0 : Int32) then (0 : Int32) else (1 : Int32))), .val (.int (if (u1 &&& (4 : Int32)) = (0 : Int32) then (0 : Int32) else (1 : Int32))), .val (.ref a48), .val (.ref a51), .unset, .unset, .unset, .unset, .unset, .unset, .unset] [(.ref a54)]))
    refine own_astore X56 hx (hb hby at_70) rfl (l' := #[.val (.int u0), .val (.int u1), .val (.int (1 : Int32)), .val (.int (if (u1 &&& (1 : Int32)) = (0 : Int32) then (0 : Int32) else (1 : Int32))), .val (.int (if (u1 &&& (2 : Int32)) = (0 : Int32) then (0 : Int32) else (1 : Int32))), .val (.int (if (u1 &&& (4 : Int32)) = (0 : Int32) then (0 : Int32) else (1 : Int32))), .val (.ref a48), .val (.ref a51), .val (.ref a54), .unset, .unset, .unset, .unset, .unset, .unset]) rfl (pc' := 72) rfl ?_
    have f59 : Exa Z h54 a48 "com/example/slot3/slot3/frame/PostChain" := (f55.ext E54)
    have f60 : Exa Z h54 a51 "com/example/slot3/slot3/frame/Post" := (A51.ext E54)
    refine own_new X56 hx hZ hown (ow_10 hw) (ow_11 hw) (ow_12 hw) eh56 (hb hby at_72) (pc' := 75) rfl (by decide) (by decide) ?_
    intro T58 h58 a58 g58 X58 e58 E58 A58 D58
    have lt_a48_a58 : a48 < a58 := by rw [g58]; exact f59.lt
    have lt_a51_a58 : a51 < a58 := by rw [g58]; exact f60.lt
    have lt_a54_a58 : a54 < a58 := by rw [g58]; exact A54.lt
    have ge_a58 : n0 ≤ a58 := by rw [g58]; exact z57
    have F58_previous : Fld Z h58 a58 "com/example/slot3/slot3/frame/Post" "previous" "Lcom/example/slot3/slot3/frame/Post;" (.null) := D58 (Or.inl (ow_27 hw)) (ty := (.object "com/example/slot3/slot3/frame/Post")) (by decide)
    have F58_chain : Fld Z h58 a58 "com/example/slot3/slot3/frame/Post" "chain" "Lcom/example/slot3/slot3/frame/PostChain;" (.null) := D58 (Or.inl (ow_29 hw)) (ty := (.object "com/example/slot3/slot3/frame/PostChain")) (by decide)
    have F58_following : Fld Z h58 a58 "com/example/slot3/slot3/frame/Post" "following" "Lcom/example/slot3/slot3/frame/Post;" (.null) := D58 (Or.inl (ow_35 hw)) (ty := (.object "com/example/slot3/slot3/frame/Post")) (by decide)
    refine own_dup X58 hx (hb hby at_75) rfl (pc' := 76) rfl ?_
    have z62 : n0 ≤ h58.size := (Nat.le_trans z57 E58.1)
    refine own_callC X58 hx hZ rfl hown (ow_13 hw) (ow_14 hw) (ow_12 hw) (ow_15 hw) (by decide) (rm_poi l Z a0 hw a58 h58 n0 z62) e58 (W := 1) (by decide) (by decide) opd___V rfl (rest := [(.ref a58)]) rfl (hb hby at_76) (Nat.le_of_eq rfl) (by rw [hml]; rfl) (by decide) (by decide) (pc' := 79) rfl ?_
    intro v61 T61 L61 X61 q61
    obtain ⟨rfl, Nq61, eh61⟩ := q61
    have N61 := Fr.app N56 Nq61
    show own_G p e below s _ _ _ (T61.setTop (mkF m 79 #[.val (.int u0), .val (.int u1), .val (.int (1 : Int32)), .val (.int (if (u1 &&& (1 : Int32)) = (0 : Int32) then (0 : Int32) else (1 : Int32))), .val (.int (if (u1 &&& (2 : Int32)) = (0 : Int32) then (0 : Int32) else (1 : Int32))), .val (.int (if (u1 &&& (4 : Int32)) = (0 : Int32) then (0 : Int32) else (1 : Int32))), .val (.ref a48), .val (.ref a51), .val (.ref a54), .unset, .unset, .unset, .unset, .unset, .unset] [(.ref a58)]))
    refine own_astore X61 hx (hb hby at_79) rfl (l' := #[.val (.int u0), .val (.int u1), .val (.int (1 : Int32)), .val (.int (if (u1 &&& (1 : Int32)) = (0 : Int32) then (0 : Int32) else (1 : Int32))), .val (.int (if (u1 &&& (2 : Int32)) = (0 : Int32) then (0 : Int32) else (1 : Int32))), .val (.int (if (u1 &&& (4 : Int32)) = (0 : Int32) then (0 : Int32) else (1 : Int32))), .val (.ref a48), .val (.ref a51), .val (.ref a54), .val (.ref a58), .unset, .unset, .unset, .unset, .unset]) rfl (pc' := 81) rfl ?_
    refine own_iloadN X61 hx (hb hby at_81) rfl (pc' := 82) rfl ?_
    refine own_iconst X61 hx (hb hby at_82) (z := (1 : Int32)) rfl (pc' := 83) rfl ?_
    refine own_icmpF X61 hx (hb hby at_83) (by decide) (pc' := 86) rfl ?_
    refine own_iloadN X61 hx (hb hby at_86) rfl (pc' := 87) rfl ?_
    by_cases c63 : (u1 &&& (1 : Int32)) = (0 : Int32)
    · refine own_cast (S' := T61.setTop (mkF m 87 #[.val (.int u0), .val (.int u1), .val (.int (1 : Int32)), .val (.int (0 : Int32)), .val (.int (if (u1 &&& (2 : Int32)) = (0 : Int32) then (0 : Int32) else (1 : Int32))), .val (.int (if (u1 &&& (4 : Int32)) = (0 : Int32) then (0 : Int32) else (1 : Int32))), .val (.ref a48), .val (.ref a51), .val (.ref a54), .val (.ref a58), .unset, .unset, .unset, .unset, .unset] [(.int (0 : Int32))])) (by first | (simp only [if_pos c63]; done) | (rw [if_pos c63]; done) | (simp; done)) ?_
      refine own_ifT X61 hx (hb hby at_87) (by decide) (by decide) (pc' := 100) rfl ?_
      refine own_aload X61 hx (hb hby at_100) rfl rfl (pc' := 102) rfl ?_
      refine own_aload X61 hx (hb hby at_102) rfl rfl (pc' := 104) rfl ?_
      have f65 : Exa Z h58 a48 "com/example/slot3/slot3/frame/PostChain" := (f59.ext E58)
      have f66 : Exa Z h58 a51 "com/example/slot3/slot3/frame/Post" := (f60.ext E58)
      have f67 : Fld Z h58 a48 "com/example/slot3/slot3/frame/PostChain" "first" "Lcom/example/slot3/slot3/frame/Post;" (.null) := (((F48_first.ext E51).ext E54).ext E58)
      have f68 : Fld Z h58 a48 "com/example/slot3/slot3/frame/PostChain" "last" "Lcom/example/slot3/slot3/frame/Post;" (.null) := (((F48_last.ext E51).ext E54).ext E58)
      have f69 : Fld Z h58 a48 "com/example/slot3/slot3/frame/PostChain" "count" "I" (.int (0 : Int32)) := (((F48_count.ext E51).ext E54).ext E58)
      have f70 : Fld Z h58 a51 "com/example/slot3/slot3/frame/Post" "following" "Lcom/example/slot3/slot3/frame/Post;" (.null) := ((F51_following.ext E54).ext E58)
      have f71 : Fld Z h58 a51 "com/example/slot3/slot3/frame/Post" "previous" "Lcom/example/slot3/slot3/frame/Post;" (.null) := ((F51_previous.ext E54).ext E58)
      have f72 : Fld Z h58 a51 "com/example/slot3/slot3/frame/Post" "chain" "Lcom/example/slot3/slot3/frame/PostChain;" (.null) := ((F51_chain.ext E54).ext E58)
      refine own_callV X61 hx hZ hown (ow_17 hw) (ow_18 hw) (ow_20 hw) (ow_19 hw) (ow_3 hw) (ow_21 hw) (by decide) f65 (rm_ap1 l Z a0 hw a48 a51 (0 : Int32) .null .null .null .null h58 n0 z62 f65 f66 f67 f68 f69 f70 f71 f72 ge_a48 ge_a51 (Nat.ne_of_lt lt_a48_a51)) eh61 (W := 0) (by decide) (by decide) opd__Lcom_example_slot3_slot3_frame_Post__V rfl (rest := []) rfl (hb hby at_104) (Nat.le_of_eq rfl) (by rw [hml]; rfl) (by decide) (by decide) (pc' := 107) rfl ?_
      intro v64 T64 L64 X64 q64
      obtain ⟨rfl, Nq64, K64, p64_0, p64_1, p64_2, p64_3, p64_4, p64_5⟩ := q64
      have N64 := Fr.app N61 Nq64
      show own_G p e below s _ _ _ (T64.setTop (mkF m 107 #[.val (.int u0), .val (.int u1), .val (.int (1 : Int32)), .val (.int (0 : Int32)), .val (.int (if (u1 &&& (2 : Int32)) = (0 : Int32) then (0 : Int32) else (1 : Int32))), .val (.int (if (u1 &&& (4 : Int32)) = (0 : Int32) then (0 : Int32) else (1 : Int32))), .val (.ref a48), .val (.ref a51), .val (.ref a54), .val (.ref a58), .unset, .unset, .unset, .unset, .unset] []))
      refine own_iloadN X64 hx (hb hby at_107) rfl (pc' := 108) rfl ?_
      refine own_iconst X64 hx (hb hby at_108) (z := (2 : Int32)) rfl (pc' := 109) rfl ?_
      refine own_icmpT X64 hx (hb hby at_109) (by decide) (by decide) (pc' := 134) rfl ?_
      refine own_iload X64 hx (hb hby at_134) rfl (pc' := 136) rfl ?_
      by_cases c73 : (u1 &&& (4 : Int32)) = (0 : Int32)
      · refine own_cast (S' := T64.setTop (mkF m 136 #[.val (.int u0), .val (.int u1), .val (.int (1 : Int32)), .val (.int (0 : Int32)), .val (.int (if (u1 &&& (2 : Int32)) = (0 : Int32) then (0 : Int32) else (1 : Int32))), .val (.int (0 : Int32)), .val (.ref a48), .val (.ref a51), .val (.ref a54), .val (.ref a58), .unset, .unset, .unset, .unset, .unset] [(.int (0 : Int32))])) (by first | (simp only [if_pos c73]; done) | (rw [if_pos c73]; done) | (simp; done)) ?_
        refine own_ifT X64 hx (hb hby at_136) (by decide) (by decide) (pc' := 150) rfl ?_
        refine own_iloadN X64 hx (hb hby at_150) rfl (pc' := 151) rfl ?_
        refine own_ifT X64 hx (hb hby at_151) (by decide) (by decide) (pc' := 166) rfl ?_
        refine own_iloadN X64 hx (hb hby at_166) rfl (pc' := 167) rfl ?_
        refine own_iconst X64 hx (hb hby at_167) (z := (1 : Int32)) rfl (pc' := 168) rfl ?_
        refine own_icmpF X64 hx (hb hby at_168) (by decide) (pc' := 171) rfl ?_
        refine own_iload X64 hx (hb hby at_171) rfl (pc' := 173) rfl ?_
        refine own_ifT X64 hx (hb hby at_173) (by decide) (by decide) (pc' := 188) rfl ?_
        refine own_iconst X64 hx (hb hby at_188) (z := (1 : Int32)) rfl (pc' := 189) rfl ?_
        refine own_istore X64 hx (hb hby at_189) (l' := #[.val (.int u0), .val (.int u1), .val (.int (1 : Int32)), .val (.int (0 : Int32)), .val (.int (if (u1 &&& (2 : Int32)) = (0 : Int32) then (0 : Int32) else (1 : Int32))), .val (.int (0 : Int32)), .val (.ref a48), .val (.ref a51), .val (.ref a54), .val (.ref a58), .val (.int (1 : Int32)), .unset, .unset, .unset, .unset]) rfl (pc' := 191) rfl ?_
        refine own_aload X64 hx (hb hby at_191) rfl rfl (pc' := 193) rfl ?_
        refine own_astore X64 hx (hb hby at_193) rfl (l' := #[.val (.int u0), .val (.int u1), .val (.int (1 : Int32)), .val (.int (0 : Int32)), .val (.int (if (u1 &&& (2 : Int32)) = (0 : Int32) then (0 : Int32) else (1 : Int32))), .val (.int (0 : Int32)), .val (.ref a48), .val (.ref a51), .val (.ref a54), .val (.ref a58), .val (.int (1 : Int32)), .val (.ref a51), .unset, .unset, .unset]) rfl (pc' := 195) rfl ?_
        refine own_aload X64 hx (hb hby at_195) rfl rfl (pc' := 197) rfl ?_
        refine own_astore X64 hx (hb hby at_197) rfl (l' := #[.val (.int u0), .val (.int u1), .val (.int (1 : Int32)), .val (.int (0 : Int32)), .val (.int (if (u1 &&& (2 : Int32)) = (0 : Int32) then (0 : Int32) else (1 : Int32))), .val (.int (0 : Int32)), .val (.ref a48), .val (.ref a51), .val (.ref a54), .val (.ref a58), .val (.int (1 : Int32)), .val (.ref a51), .val (.ref a51), .unset, .unset]) rfl (pc' := 199) rfl ?_
        refine own_goto X64 hx (hb hby at_199) (by decide) (pc' := 260) rfl ?_
        refine own_aload X64 hx (hb hby at_260) rfl rfl (pc' := 262) rfl ?_
        refine own_aload X64 hx (hb hby at_262) rfl rfl (pc' := 264) rfl ?_
        have f75 : Exa Z T64.heap a48 "com/example/slot3/slot3/frame/PostChain" := (f65.keep K64)
        have f76 : Exa Z T64.heap a58 "com/example/slot3/slot3/frame/Post" := (A58.keep K64)
        have f77 : Exa Z T64.heap a51 "com/example/slot3/slot3/frame/Post" := (f66.keep K64)
        have f78 : Fld Z T64.heap a58 "com/example/slot3/slot3/frame/Post" "following" "Lcom/example/slot3/slot3/frame/Post;" (.null) := (F58_following.keep K64 (ninS (Nat.ne_of_gt lt_a48_a58) (ninS (Nat.ne_of_gt lt_a51_a58) nin0)))
        have f79 : Fld Z T64.heap a58 "com/example/slot3/slot3/frame/Post" "previous" "Lcom/example/slot3/slot3/frame/Post;" (.null) := (F58_previous.keep K64 (ninS (Nat.ne_of_gt lt_a48_a58) (ninS (Nat.ne_of_gt lt_a51_a58) nin0)))
        have f80 : Fld Z T64.heap a58 "com/example/slot3/slot3/frame/Post" "chain" "Lcom/example/slot3/slot3/frame/PostChain;" (.null) := (F58_chain.keep K64 (ninS (Nat.ne_of_gt lt_a48_a58) (ninS (Nat.ne_of_gt lt_a51_a58) nin0)))
        have z81 : n0 ≤ T64.heap.size := (Nat.le_trans z62 K64.1)
        refine own_callV X64 hx hZ hown (ow_17 hw) (ow_18 hw) (ow_20 hw) (ow_19 hw) (ow_3 hw) (ow_21 hw) (by decide) f75 (rm_ap2 l Z a0 hw a48 a58 a51 ((0 : Int32) + (1 : Int32)) (.ref a51) .null .null .null .null .null (.ref a48) T64.heap n0 z81 f75 f76 p64_0 p64_1 p64_2 f77 f78 f79 f80 p64_3 p64_4 p64_5 ge_a48 ge_a58 ge_a51 (Nat.ne_of_lt lt_a48_a58) (Nat.ne_of_lt lt_a48_a51) (Nat.ne_of_gt lt_a51_a58)) rfl (W := 0) (by decide) (by decide) opd__Lcom_example_slot3_slot3_frame_Post__V rfl (rest := []) rfl (hb hby at_264) (Nat.le_of_eq rfl) (by rw [hml]; rfl) (by decide) (by decide) (pc' := 267) rfl ?_
        intro v74 T74 L74 X74 q74
        obtain ⟨rfl, Nq74, K74, p74_0, p74_1, p74_2, p74_3, p74_4, p74_5, p74_6, p74_7, p74_8⟩ := q74
        have N74 := Fr.app N64 Nq74
        show own_G p e below s _ _ _ (T74.setTop (mkF m 267 #[.val (.int u0), .val (.int u1), .val (.int (1 : Int32)), .val (.int (0 : Int32)), .val (.int (if (u1 &&& (2 : Int32)) = (0 : Int32) then (0 : Int32) else (1 : Int32))), .val (.int (0 : Int32)), .val (.ref a48), .val (.ref a51), .val (.ref a54), .val (.ref a58), .val (.int (1 : Int32)), .val (.ref a51), .val (.ref a51), .unset, .unset] []))
        refine own_aload X74 hx (hb hby at_267) rfl rfl (pc' := 269) rfl ?_
        refine own_getF X74 hx hZ hown (ow_32 hw) rfl p74_1 (hb hby at_269) (pc' := 272) rfl ?_
        intro T82 X82 e82
        refine own_aload X82 hx (hb hby at_272) rfl rfl (pc' := 274) rfl ?_
        refine own_acmpF X82 hx (hb hby at_274) rfl rfl (by simp [XT.acmp]) (pc' := 277) rfl ?_
        refine own_aload X82 hx (hb hby at_277) rfl rfl (pc' := 279) rfl ?_
        refine own_getF X82 hx hZ hown (ow_33 hw) e82 p74_5 (hb hby at_279) (pc' := 282) rfl ?_
        intro T83 X83 e83
        refine own_aload X83 hx (hb hby at_282) rfl rfl (pc' := 284) rfl ?_
        refine own_acmpF X83 hx (hb hby at_284) rfl rfl (by simp [XT.acmp]) (pc' := 287) rfl ?_
        refine own_aload X83 hx (hb hby at_287) rfl rfl (pc' := 289) rfl ?_
        refine own_getF X83 hx hZ hown (ow_34 hw) e83 p74_3 (hb hby at_289) (pc' := 292) rfl ?_
        intro T84 X84 e84
        refine own_ifnonnullF X84 hx (hb hby at_292) (pc' := 295) rfl ?_
        refine own_aload X84 hx (hb hby at_295) rfl rfl (pc' := 297) rfl ?_
        refine own_getF X84 hx hZ hown (ow_36 hw) e84 p74_4 (hb hby at_297) (pc' := 300) rfl ?_
        intro T85 X85 e85
        refine own_aload X85 hx (hb hby at_300) rfl rfl (pc' := 302) rfl ?_
        refine own_acmpF X85 hx (hb hby at_302) rfl rfl (by simp [XT.acmp]) (pc' := 305) rfl ?_
        refine own_aload X85 hx (hb hby at_305) rfl rfl (pc' := 307) rfl ?_
        refine own_getF X85 hx hZ hown (ow_37 hw) e85 p74_2 (hb hby at_307) (pc' := 310) rfl ?_
        intro T86 X86 e86
        refine own_iload X86 hx (hb hby at_310) rfl (pc' := 312) rfl ?_
        refine own_iconst X86 hx (hb hby at_312) (z := (1 : Int32)) rfl (pc' := 313) rfl ?_
        refine own_iadd X86 hx (hb hby at_313) (pc' := 314) rfl ?_
        refine own_icmpF X86 hx (hb hby at_314) (by decide) (pc' := 317) rfl ?_
        refine own_iconst X86 hx (hb hby at_317) (z := (1 : Int32)) rfl (pc' := 318) rfl ?_
        refine own_goto X86 hx (hb hby at_318) (by decide) (pc' := 322) rfl ?_
        refine own_istore X86 hx (hb hby at_322) (l' := #[.val (.int u0), .val (.int u1), .val (.int (1 : Int32)), .val (.int (0 : Int32)), .val (.int (if (u1 &&& (2 : Int32)) = (0 : Int32) then (0 : Int32) else (1 : Int32))), .val (.int (0 : Int32)), .val (.ref a48), .val (.ref a51), .val (.ref a54), .val (.ref a58), .val (.int (1 : Int32)), .val (.ref a51), .val (.ref a51), .val (.int (1 : Int32)), .unset]) rfl (pc' := 324) rfl ?_
        refine own_aload X86 hx (hb hby at_324) rfl rfl (pc' := 326) rfl ?_
        refine own_ifnonnullT X86 hx (hb hby at_326) (by decide) (pc' := 354) rfl ?_
        refine own_iload X86 hx (hb hby at_354) rfl (pc' := 356) rfl ?_
        refine own_ifF X86 hx (hb hby at_356) (by decide) (pc' := 359) rfl ?_
        refine own_aload X86 hx (hb hby at_359) rfl rfl (pc' := 361) rfl ?_
        refine own_getF X86 hx hZ hown (ow_38 hw) e86 p74_0 (hb hby at_361) (pc' := 364) rfl ?_
        intro T87 X87 e87
        refine own_aload X87 hx (hb hby at_364) rfl rfl (pc' := 366) rfl ?_
        refine own_acmpF X87 hx (hb hby at_366) rfl rfl (by simp [XT.acmp]) (pc' := 369) rfl ?_
        refine own_aload X87 hx (hb hby at_369) rfl rfl (pc' := 371) rfl ?_
        refine own_getF X87 hx hZ hown (ow_34 hw) e87 p74_6 (hb hby at_371) (pc' := 374) rfl ?_
        intro T88 X88 e88
        refine own_aload X88 hx (hb hby at_374) rfl rfl (pc' := 376) rfl ?_
        refine own_acmpF X88 hx (hb hby at_376) rfl rfl (by simp [XT.acmp]) (pc' := 379) rfl ?_
        refine own_aload X88 hx (hb hby at_379) rfl rfl (pc' := 381) rfl ?_
        refine own_getF X88 hx hZ hown (ow_36 hw) e88 p74_7 (hb hby at_381) (pc' := 384) rfl ?_
        intro T89 X89 e89
        refine own_ifnonnullF X89 hx (hb hby at_384) (pc' := 387) rfl ?_
        refine own_aload X89 hx (hb hby at_387) rfl rfl (pc' := 389) rfl ?_
        refine own_getF X89 hx hZ hown (ow_33 hw) e89 p74_8 (hb hby at_389) (pc' := 392) rfl ?_
        intro T90 X90 e90
        refine own_aload X90 hx (hb hby at_392) rfl rfl (pc' := 394) rfl ?_
        refine own_acmpF X90 hx (hb hby at_394) rfl rfl (by simp [XT.acmp]) (pc' := 397) rfl ?_
        refine own_iconst X90 hx (hb hby at_397) (z := (1 : Int32)) rfl (pc' := 398) rfl ?_
        refine own_goto X90 hx (hb hby at_398) (by decide) (pc' := 402) rfl ?_
        refine own_istore X90 hx (hb hby at_402) (l' := #[.val (.int u0), .val (.int u1), .val (.int (1 : Int32)), .val (.int (0 : Int32)), .val (.int (if (u1 &&& (2 : Int32)) = (0 : Int32) then (0 : Int32) else (1 : Int32))), .val (.int (0 : Int32)), .val (.ref a48), .val (.ref a51), .val (.ref a54), .val (.ref a58), .val (.int (1 : Int32)), .val (.ref a51), .val (.ref a51), .val (.int (1 : Int32)), .unset]) rfl (pc' := 404) rfl ?_
        refine own_iload X90 hx (hb hby at_404) rfl (pc' := 406) rfl ?_
        refine own_iconst X90 hx (hb hby at_406) (z := (2 : Int32)) rfl (pc' := 407) rfl ?_
        refine own_icmpT X90 hx (hb hby at_407) (by decide) (by decide) (pc' := 442) rfl ?_
        refine own_iload X90 hx (hb hby at_442) rfl (pc' := 444) rfl ?_
        exact own_retZ X90 hx hret hlk (Or.inr rfl) (hb hby at_444) ⟨rfl, N74⟩ (by decide) (by decide)
      · refine own_cast (S' := T64.setTop (mkF m 136 #[.val (.int u0), .val (.int u1), .val (.int (1 : Int32)), .val (.int (0 : Int32)), .val (.int (if (u1 &&& (2 : Int32)) = (0 : Int32) then (0 : Int32) else (1 : Int32))), .val (.int (1 : Int32)), .val (.ref a48), .val (.ref a51), .val (.ref a54), .val (.ref a58), .unset, .unset, .unset, .unset, .unset] [(.int (1 : Int32))])) (by first | (simp only [if_neg c73]; done) | (rw [if_neg c73]; done) | (simp; done)) ?_
        refine own_ifF X64 hx (hb hby at_136) (by decide) (pc' := 139) rfl ?_
        refine own_iloadN X64 hx (hb hby at_139) rfl (pc' := 140) rfl ?_
        refine own_iconst X64 hx (hb hby at_140) (z := (1 : Int32)) rfl (pc' := 141) rfl ?_
        refine own_icmpF X64 hx (hb hby at_141) (by decide) (pc' := 144) rfl ?_
        refine own_aload X64 hx (hb hby at_144) rfl rfl (pc' := 146) rfl ?_
        have f92 : Exa Z T64.heap a48 "com/example/slot3/slot3/frame/PostChain" := (f65.keep K64)
        have f93 : Exa Z T64.heap a51 "com/example/slot3/slot3/frame/Post" := (f66.keep K64)
        have z94 : n0 ≤ T64.heap.size := (Nat.le_trans z62 K64.1)
        refine own_callV X64 hx hZ hown (ow_45 hw) (ow_46 hw) (ow_48 hw) (ow_47 hw) (ow_3 hw) (ow_49 hw) (by decide) f92 (rm_tfn l Z a0 hw a48 a51 ((0 : Int32) + (1 : Int32)) (.ref a51) (.ref a48) T64.heap n0 z94 f92 p64_0 p64_1 p64_2 f93 p64_3 p64_4 p64_5 ge_a48 ge_a51 (Nat.ne_of_lt lt_a48_a51)) rfl (W := 0) (by decide) (by decide) opd___Lcom_example_slot3_slot3_frame_Post_ rfl (rest := []) rfl (hb hby at_146) (Nat.le_of_eq rfl) (by rw [hml]; rfl) (by decide) (by decide) (pc' := 149) rfl ?_
        intro v91 T91 L91 X91 q91
        obtain ⟨rfl, Nq91, K91, p91_0, p91_1, p91_2, p91_3, p91_4, p91_5⟩ := q91
        have N91 := Fr.app N64 Nq91
        show own_G p e below s _ _ _ (T91.setTop (mkF m 149 #[.val (.int u0), .val (.int u1), .val (.int (1 : Int32)), .val (.int (0 : Int32)), .val (.int (if (u1 &&& (2 : Int32)) = (0 : Int32) then (0 : Int32) else (1 : Int32))), .val (.int (1 : Int32)), .val (.ref a48), .val (.ref a51), .val (.ref a54), .val (.ref a58), .unset, .unset, .unset, .unset, .unset] [(.ref a51)]))
        refine own_pop X91 hx (hb hby at_149) rfl (pc' := 150) rfl ?_
        refine own_iloadN X91 hx (hb hby at_150) rfl (pc' := 151) rfl ?_
        refine own_ifT X91 hx (hb hby at_151) (by decide) (by decide) (pc' := 166) rfl ?_
        refine own_iloadN X91 hx (hb hby at_166) rfl (pc' := 167) rfl ?_
        refine own_iconst X91 hx (hb hby at_167) (z := (1 : Int32)) rfl (pc' := 168) rfl ?_
        refine own_icmpF X91 hx (hb hby at_168) (by decide) (pc' := 171) rfl ?_
        refine own_iload X91 hx (hb hby at_171) rfl (pc' := 173) rfl ?_
        refine own_ifF X91 hx (hb hby at_173) (by decide) (pc' := 176) rfl ?_
        refine own_iconst X91 hx (hb hby at_176) (z := (0 : Int32)) rfl (pc' := 177) rfl ?_
        refine own_istore X91 hx (hb hby at_177) (l' := #[.val (.int u0), .val (.int u1), .val (.int (1 : Int32)), .val (.int (0 : Int32)), .val (.int (if (u1 &&& (2 : Int32)) = (0 : Int32) then (0 : Int32) else (1 : Int32))), .val (.int (1 : Int32)), .val (.ref a48), .val (.ref a51), .val (.ref a54), .val (.ref a58), .val (.int (0 : Int32)), .unset, .unset, .unset, .unset]) rfl (pc' := 179) rfl ?_
        refine own_aconstNull X91 hx (hb hby at_179) (pc' := 180) rfl ?_
        refine own_astore X91 hx (hb hby at_180) rfl (l' := #[.val (.int u0), .val (.int u1), .val (.int (1 : Int32)), .val (.int (0 : Int32)), .val (.int (if (u1 &&& (2 : Int32)) = (0 : Int32) then (0 : Int32) else (1 : Int32))), .val (.int (1 : Int32)), .val (.ref a48), .val (.ref a51), .val (.ref a54), .val (.ref a58), .val (.int (0 : Int32)), .val (.null), .unset, .unset, .unset]) rfl (pc' := 182) rfl ?_
        refine own_aconstNull X91 hx (hb hby at_182) (pc' := 183) rfl ?_
        refine own_astore X91 hx (hb hby at_183) rfl (l' := #[.val (.int u0), .val (.int u1), .val (.int (1 : Int32)), .val (.int (0 : Int32)), .val (.int (if (u1 &&& (2 : Int32)) = (0 : Int32) then (0 : Int32) else (1 : Int32))), .val (.int (1 : Int32)), .val (.ref a48), .val (.ref a51), .val (.ref a54), .val (.ref a58), .val (.int (0 : Int32)), .val (.null), .val (.null), .unset, .unset]) rfl (pc' := 185) rfl ?_
        refine own_goto X91 hx (hb hby at_185) (by decide) (pc' := 260) rfl ?_
        refine own_aload X91 hx (hb hby at_260) rfl rfl (pc' := 262) rfl ?_
        refine own_aload X91 hx (hb hby at_262) rfl rfl (pc' := 264) rfl ?_
        have f96 : Exa Z T91.heap a48 "com/example/slot3/slot3/frame/PostChain" := (f92.keep K91)
        have f97 : Exa Z T91.heap a58 "com/example/slot3/slot3/frame/Post" := ((A58.keep K64).keep K91)
        have f98 : Fld Z T91.heap a58 "com/example/slot3/slot3/frame/Post" "following" "Lcom/example/slot3/slot3/frame/Post;" (.null) := ((F58_following.keep K64 (ninS (Nat.ne_of_gt lt_a48_a58) (ninS (Nat.ne_of_gt lt_a51_a58) nin0))).keep K91 (ninS (Nat.ne_of_gt lt_a48_a58) (ninS (Nat.ne_of_gt lt_a51_a58) nin0)))
        have f99 : Fld Z T91.heap a58 "com/example/slot3/slot3/frame/Post" "previous" "Lcom/example/slot3/slot3/frame/Post;" (.null) := ((F58_previous.keep K64 (ninS (Nat.ne_of_gt lt_a48_a58) (ninS (Nat.ne_of_gt lt_a51_a58) nin0))).keep K91 (ninS (Nat.ne_of_gt lt_a48_a58) (ninS (Nat.ne_of_gt lt_a51_a58) nin0)))
        have f100 : Fld Z T91.heap a58 "com/example/slot3/slot3/frame/Post" "chain" "Lcom/example/slot3/slot3/frame/PostChain;" (.null) := ((F58_chain.keep K64 (ninS (Nat.ne_of_gt lt_a48_a58) (ninS (Nat.ne_of_gt lt_a51_a58) nin0))).keep K91 (ninS (Nat.ne_of_gt lt_a48_a58) (ninS (Nat.ne_of_gt lt_a51_a58) nin0)))
        have z101 : n0 ≤ T91.heap.size := (Nat.le_trans z94 K91.1)
        refine own_callV X91 hx hZ hown (ow_17 hw) (ow_18 hw) (ow_20 hw) (ow_19 hw) (ow_3 hw) (ow_21 hw) (by decide) f96 (rm_ap1 l Z a0 hw a48 a58 (((0 : Int32) + (1 : Int32)) - (1 : Int32)) .null .null .null .null T91.heap n0 z101 f96 f97 p91_0 p91_1 p91_2 f98 f99 f100 ge_a48 ge_a58 (Nat.ne_of_lt lt_a48_a58)) rfl (W := 0) (by decide) (by decide) opd__Lcom_example_slot3_slot3_frame_Post__V rfl (rest := []) rfl (hb hby at_264) (Nat.le_of_eq rfl) (by rw [hml]; rfl) (by decide) (by decide) (pc' := 267) rfl ?_
        intro v95 T95 L95 X95 q95
        obtain ⟨rfl, Nq95, K95, p95_0, p95_1, p95_2, p95_3, p95_4, p95_5⟩ := q95
        have N95 := Fr.app N91 Nq95
        show own_G p e below s _ _ _ (T95.setTop (mkF m 267 #[.val (.int u0), .val (.int u1), .val (.int (1 : Int32)), .val (.int (0 : Int32)), .val (.int (if (u1 &&& (2 : Int32)) = (0 : Int32) then (0 : Int32) else (1 : Int32))), .val (.int (1 : Int32)), .val (.ref a48), .val (.ref a51), .val (.ref a54), .val (.ref a58), .val (.int (0 : Int32)), .val (.null), .val (.null), .unset, .unset] []))
        refine own_aload X95 hx (hb hby at_267) rfl rfl (pc' := 269) rfl ?_
        refine own_getF X95 hx hZ hown (ow_32 hw) rfl p95_1 (hb hby at_269) (pc' := 272) rfl ?_
        intro T102 X102 e102
        refine own_aload X102 hx (hb hby at_272) rfl rfl (pc' := 274) rfl ?_
        refine own_acmpF X102 hx (hb hby at_274) rfl rfl (by simp [XT.acmp]) (pc' := 277) rfl ?_
        refine own_aload X102 hx (hb hby at_277) rfl rfl (pc' := 279) rfl ?_
        refine own_getF X102 hx hZ hown (ow_33 hw) e102 p95_5 (hb hby at_279) (pc' := 282) rfl ?_
        intro T103 X103 e103
        refine own_aload X103 hx (hb hby at_282) rfl rfl (pc' := 284) rfl ?_
        refine own_acmpF X103 hx (hb hby at_284) rfl rfl (by simp [XT.acmp]) (pc' := 287) rfl ?_
        refine own_aload X103 hx (hb hby at_287) rfl rfl (pc' := 289) rfl ?_
        refine own_getF X103 hx hZ hown (ow_34 hw) e103 p95_3 (hb hby at_289) (pc' := 292) rfl ?_
        intro T104 X104 e104
        refine own_ifnonnullF X104 hx (hb hby at_292) (pc' := 295) rfl ?_
        refine own_aload X104 hx (hb hby at_295) rfl rfl (pc' := 297) rfl ?_
        refine own_getF X104 hx hZ hown (ow_36 hw) e104 p95_4 (hb hby at_297) (pc' := 300) rfl ?_
        intro T105 X105 e105
        refine own_aload X105 hx (hb hby at_300) rfl rfl (pc' := 302) rfl ?_
        refine own_acmpF X105 hx (hb hby at_302) rfl rfl (by simp [XT.acmp]) (pc' := 305) rfl ?_
        refine own_aload X105 hx (hb hby at_305) rfl rfl (pc' := 307) rfl ?_
        refine own_getF X105 hx hZ hown (ow_37 hw) e105 p95_2 (hb hby at_307) (pc' := 310) rfl ?_
        intro T106 X106 e106
        refine own_iload X106 hx (hb hby at_310) rfl (pc' := 312) rfl ?_
        refine own_iconst X106 hx (hb hby at_312) (z := (1 : Int32)) rfl (pc' := 313) rfl ?_
        refine own_iadd X106 hx (hb hby at_313) (pc' := 314) rfl ?_
        refine own_icmpF X106 hx (hb hby at_314) (by decide) (pc' := 317) rfl ?_
        refine own_iconst X106 hx (hb hby at_317) (z := (1 : Int32)) rfl (pc' := 318) rfl ?_
        refine own_goto X106 hx (hb hby at_318) (by decide) (pc' := 322) rfl ?_
        refine own_istore X106 hx (hb hby at_322) (l' := #[.val (.int u0), .val (.int u1), .val (.int (1 : Int32)), .val (.int (0 : Int32)), .val (.int (if (u1 &&& (2 : Int32)) = (0 : Int32) then (0 : Int32) else (1 : Int32))), .val (.int (1 : Int32)), .val (.ref a48), .val (.ref a51), .val (.ref a54), .val (.ref a58), .val (.int (0 : Int32)), .val (.null), .val (.null), .val (.int (1 : Int32)), .unset]) rfl (pc' := 324) rfl ?_
        refine own_aload X106 hx (hb hby at_324) rfl rfl (pc' := 326) rfl ?_
        refine own_ifnonnullF X106 hx (hb hby at_326) (pc' := 329) rfl ?_
        refine own_iload X106 hx (hb hby at_329) rfl (pc' := 331) rfl ?_
        refine own_ifF X106 hx (hb hby at_331) (by decide) (pc' := 334) rfl ?_
        refine own_aload X106 hx (hb hby at_334) rfl rfl (pc' := 336) rfl ?_
        refine own_getF X106 hx hZ hown (ow_38 hw) e106 p95_0 (hb hby at_336) (pc' := 339) rfl ?_
        intro T107 X107 e107
        refine own_aload X107 hx (hb hby at_339) rfl rfl (pc' := 341) rfl ?_
        refine own_acmpF X107 hx (hb hby at_341) rfl rfl (by simp [XT.acmp]) (pc' := 344) rfl ?_
        refine own_iconst X107 hx (hb hby at_344) (z := (1 : Int32)) rfl (pc' := 345) rfl ?_
        refine own_goto X107 hx (hb hby at_345) (by decide) (pc' := 349) rfl ?_
        refine own_istore X107 hx (hb hby at_349) (l' := #[.val (.int u0), .val (.int u1), .val (.int (1 : Int32)), .val (.int (0 : Int32)), .val (.int (if (u1 &&& (2 : Int32)) = (0 : Int32) then (0 : Int32) else (1 : Int32))), .val (.int (1 : Int32)), .val (.ref a48), .val (.ref a51), .val (.ref a54), .val (.ref a58), .val (.int (0 : Int32)), .val (.null), .val (.null), .val (.int (1 : Int32)), .unset]) rfl (pc' := 351) rfl ?_
        refine own_goto X107 hx (hb hby at_351) (by decide) (pc' := 404) rfl ?_
        refine own_iload X107 hx (hb hby at_404) rfl (pc' := 406) rfl ?_
        refine own_iconst X107 hx (hb hby at_406) (z := (2 : Int32)) rfl (pc' := 407) rfl ?_
        refine own_icmpT X107 hx (hb hby at_407) (by decide) (by decide) (pc' := 442) rfl ?_
        refine own_iload X107 hx (hb hby at_442) rfl (pc' := 444) rfl ?_
        exact own_retZ X107 hx hret hlk (Or.inr rfl) (hb hby at_444) ⟨rfl, N95⟩ (by decide) (by decide)
    · refine own_cast (S' := T61.setTop (mkF m 87 #[.val (.int u0), .val (.int u1), .val (.int (1 : Int32)), .val (.int (1 : Int32)), .val (.int (if (u1 &&& (2 : Int32)) = (0 : Int32) then (0 : Int32) else (1 : Int32))), .val (.int (if (u1 &&& (4 : Int32)) = (0 : Int32) then (0 : Int32) else (1 : Int32))), .val (.ref a48), .val (.ref a51), .val (.ref a54), .val (.ref a58), .unset, .unset, .unset, .unset, .unset] [(.int (1 : Int32))])) (by first | (simp only [if_neg c63]; done) | (rw [if_neg c63]; done) | (simp; done)) ?_
      refine own_ifF X61 hx (hb hby at_87) (by decide) (pc' := 90) rfl ?_
      refine own_aload X61 hx (hb hby at_90) rfl rfl (pc' := 92) rfl ?_
      refine own_aload X61 hx (hb hby at_92) rfl rfl (pc' := 94) rfl ?_
      have f109 : Exa Z h58 a48 "com/example/slot3/slot3/frame/PostChain" := (f59.ext E58)
      have f110 : Exa Z h58 a51 "com/example/slot3/slot3/frame/Post" := (f60.ext E58)
      have f111 : Fld Z h58 a48 "com/example/slot3/slot3/frame/PostChain" "first" "Lcom/example/slot3/slot3/frame/Post;" (.null) := (((F48_first.ext E51).ext E54).ext E58)
      have f112 : Fld Z h58 a48 "com/example/slot3/slot3/frame/PostChain" "last" "Lcom/example/slot3/slot3/frame/Post;" (.null) := (((F48_last.ext E51).ext E54).ext E58)
      have f113 : Fld Z h58 a48 "com/example/slot3/slot3/frame/PostChain" "count" "I" (.int (0 : Int32)) := (((F48_count.ext E51).ext E54).ext E58)
      have f114 : Fld Z h58 a51 "com/example/slot3/slot3/frame/Post" "following" "Lcom/example/slot3/slot3/frame/Post;" (.null) := ((F51_following.ext E54).ext E58)
      have f115 : Fld Z h58 a51 "com/example/slot3/slot3/frame/Post" "previous" "Lcom/example/slot3/slot3/frame/Post;" (.null) := ((F51_previous.ext E54).ext E58)
      have f116 : Fld Z h58 a51 "com/example/slot3/slot3/frame/Post" "chain" "Lcom/example/slot3/slot3/frame/PostChain;" (.null) := ((F51_chain.ext E54).ext E58)
      refine own_callV X61 hx hZ hown (ow_39 hw) (ow_40 hw) (ow_42 hw) (ow_41 hw) (ow_3 hw) (ow_43 hw) (by decide) f109 (rm_pu1 l Z a0 hw a48 a51 (0 : Int32) .null .null .null .null h58 n0 z62 f109 f110 f111 f112 f113 f114 f115 f116 ge_a48 ge_a51 (Nat.ne_of_lt lt_a48_a51)) eh61 (W := 0) (by decide) (by decide) opd__Lcom_example_slot3_slot3_frame_Post__V rfl (rest := []) rfl (hb hby at_94) (Nat.le_of_eq rfl) (by rw [hml]; rfl) (by decide) (by decide) (pc' := 97) rfl ?_
      intro v108 T108 L108 X108 q108
      obtain ⟨rfl, Nq108, K108, p108_0, p108_1, p108_2, p108_3, p108_4, p108_5⟩ := q108
      have N108 := Fr.app N61 Nq108
      show own_G p e below s _ _ _ (T108.setTop (mkF m 97 #[.val (.int u0), .val (.int u1), .val (.int (1 : Int32)), .val (.int (1 : Int32)), .val (.int (if (u1 &&& (2 : Int32)) = (0 : Int32) then (0 : Int32) else (1 : Int32))), .val (.int (if (u1 &&& (4 : Int32)) = (0 : Int32) then (0 : Int32) else (1 : Int32))), .val (.ref a48), .val (.ref a51), .val (.ref a54), .val (.ref a58), .unset, .unset, .unset, .unset, .unset] []))
      refine own_goto X108 hx (hb hby at_97) (by decide) (pc' := 107) rfl ?_
      refine own_iloadN X108 hx (hb hby at_107) rfl (pc' := 108) rfl ?_
      refine own_iconst X108 hx (hb hby at_108) (z := (2 : Int32)) rfl (pc' := 109) rfl ?_
      refine own_icmpT X108 hx (hb hby at_109) (by decide) (by decide) (pc' := 134) rfl ?_
      refine own_iload X108 hx (hb hby at_134) rfl (pc' := 136) rfl ?_
      by_cases c117 : (u1 &&& (4 : Int32)) = (0 : Int32)
      · refine own_cast (S' := T108.setTop (mkF m 136 #[.val (.int u0), .val (.int u1), .val (.int (1 : Int32)), .val (.int (1 : Int32)), .val (.int (if (u1 &&& (2 : Int32)) = (0 : Int32) then (0 : Int32) else (1 : Int32))), .val (.int (0 : Int32)), .val (.ref a48), .val (.ref a51), .val (.ref a54), .val (.ref a58), .unset, .unset, .unset, .unset, .unset] [(.int (0 : Int32))])) (by first | (simp only [if_pos c117]; done) | (rw [if_pos c117]; done) | (simp; done)) ?_
        refine own_ifT X108 hx (hb hby at_136) (by decide) (by decide) (pc' := 150) rfl ?_
        refine own_iloadN X108 hx (hb hby at_150) rfl (pc' := 151) rfl ?_
        refine own_ifT X108 hx (hb hby at_151) (by decide) (by decide) (pc' := 166) rfl ?_
        refine own_iloadN X108 hx (hb hby at_166) rfl (pc' := 167) rfl ?_
        refine own_iconst X108 hx (hb hby at_167) (z := (1 : Int32)) rfl (pc' := 168) rfl ?_
        refine own_icmpF X108 hx (hb hby at_168) (by decide) (pc' := 171) rfl ?_
        refine own_iload X108 hx (hb hby at_171) rfl (pc' := 173) rfl ?_
        refine own_ifT X108 hx (hb hby at_173) (by decide) (by decide) (pc' := 188) rfl ?_
        refine own_iconst X108 hx (hb hby at_188) (z := (1 : Int32)) rfl (pc' := 189) rfl ?_
        refine own_istore X108 hx (hb hby at_189) (l' := #[.val (.int u0), .val (.int u1), .val (.int (1 : Int32)), .val (.int (1 : Int32)), .val (.int (if (u1 &&& (2 : Int32)) = (0 : Int32) then (0 : Int32) else (1 : Int32))), .val (.int (0 : Int32)), .val (.ref a48), .val (.ref a51), .val (.ref a54), .val (.ref a58), .val (.int (1 : Int32)), .unset, .unset, .unset, .unset]) rfl (pc' := 191) rfl ?_
        refine own_aload X108 hx (hb hby at_191) rfl rfl (pc' := 193) rfl ?_
        refine own_astore X108 hx (hb hby at_193) rfl (l' := #[.val (.int u0), .val (.int u1), .val (.int (1 : Int32)), .val (.int (1 : Int32)), .val (.int (if (u1 &&& (2 : Int32)) = (0 : Int32) then (0 : Int32) else (1 : Int32))), .val (.int (0 : Int32)), .val (.ref a48), .val (.ref a51), .val (.ref a54), .val (.ref a58), .val (.int (1 : Int32)), .val (.ref a51), .unset, .unset, .unset]) rfl (pc' := 195) rfl ?_
        refine own_aload X108 hx (hb hby at_195) rfl rfl (pc' := 197) rfl ?_
        refine own_astore X108 hx (hb hby at_197) rfl (l' := #[.val (.int u0), .val (.int u1), .val (.int (1 : Int32)), .val (.int (1 : Int32)), .val (.int (if (u1 &&& (2 : Int32)) = (0 : Int32) then (0 : Int32) else (1 : Int32))), .val (.int (0 : Int32)), .val (.ref a48), .val (.ref a51), .val (.ref a54), .val (.ref a58), .val (.int (1 : Int32)), .val (.ref a51), .val (.ref a51), .unset, .unset]) rfl (pc' := 199) rfl ?_
        refine own_goto X108 hx (hb hby at_199) (by decide) (pc' := 260) rfl ?_
        refine own_aload X108 hx (hb hby at_260) rfl rfl (pc' := 262) rfl ?_
        refine own_aload X108 hx (hb hby at_262) rfl rfl (pc' := 264) rfl ?_
        have f119 : Exa Z T108.heap a48 "com/example/slot3/slot3/frame/PostChain" := (f109.keep K108)
        have f120 : Exa Z T108.heap a58 "com/example/slot3/slot3/frame/Post" := (A58.keep K108)
        have f121 : Exa Z T108.heap a51 "com/example/slot3/slot3/frame/Post" := (f110.keep K108)
        have f122 : Fld Z T108.heap a58 "com/example/slot3/slot3/frame/Post" "following" "Lcom/example/slot3/slot3/frame/Post;" (.null) := (F58_following.keep K108 (ninS (Nat.ne_of_gt lt_a48_a58) (ninS (Nat.ne_of_gt lt_a51_a58) nin0)))
        have f123 : Fld Z T108.heap a58 "com/example/slot3/slot3/frame/Post" "previous" "Lcom/example/slot3/slot3/frame/Post;" (.null) := (F58_previous.keep K108 (ninS (Nat.ne_of_gt lt_a48_a58) (ninS (Nat.ne_of_gt lt_a51_a58) nin0)))
        have f124 : Fld Z T108.heap a58 "com/example/slot3/slot3/frame/Post" "chain" "Lcom/example/slot3/slot3/frame/PostChain;" (.null) := (F58_chain.keep K108 (ninS (Nat.ne_of_gt lt_a48_a58) (ninS (Nat.ne_of_gt lt_a51_a58) nin0)))
        have z125 : n0 ≤ T108.heap.size := (Nat.le_trans z62 K108.1)
        refine own_callV X108 hx hZ hown (ow_17 hw) (ow_18 hw) (ow_20 hw) (ow_19 hw) (ow_3 hw) (ow_21 hw) (by decide) f119 (rm_ap2 l Z a0 hw a48 a58 a51 ((0 : Int32) + (1 : Int32)) (.ref a51) .null .null .null .null .null (.ref a48) T108.heap n0 z125 f119 f120 p108_0 p108_1 p108_2 f121 f122 f123 f124 p108_3 p108_4 p108_5 ge_a48 ge_a58 ge_a51 (Nat.ne_of_lt lt_a48_a58) (Nat.ne_of_lt lt_a48_a51) (Nat.ne_of_gt lt_a51_a58)) rfl (W := 0) (by decide) (by decide) opd__Lcom_example_slot3_slot3_frame_Post__V rfl (rest := []) rfl (hb hby at_264) (Nat.le_of_eq rfl) (by rw [hml]; rfl) (by decide) (by decide) (pc' := 267) rfl ?_
        intro v118 T118 L118 X118 q118
        obtain ⟨rfl, Nq118, K118, p118_0, p118_1, p118_2, p118_3, p118_4, p118_5, p118_6, p118_7, p118_8⟩ := q118
        have N118 := Fr.app N108 Nq118
        show own_G p e below s _ _ _ (T118.setTop (mkF m 267 #[.val (.int u0), .val (.int u1), .val (.int (1 : Int32)), .val (.int (1 : Int32)), .val (.int (if (u1 &&& (2 : Int32)) = (0 : Int32) then (0 : Int32) else (1 : Int32))), .val (.int (0 : Int32)), .val (.ref a48), .val (.ref a51), .val (.ref a54), .val (.ref a58), .val (.int (1 : Int32)), .val (.ref a51), .val (.ref a51), .unset, .unset] []))
        refine own_aload X118 hx (hb hby at_267) rfl rfl (pc' := 269) rfl ?_
        refine own_getF X118 hx hZ hown (ow_32 hw) rfl p118_1 (hb hby at_269) (pc' := 272) rfl ?_
        intro T126 X126 e126
        refine own_aload X126 hx (hb hby at_272) rfl rfl (pc' := 274) rfl ?_
        refine own_acmpF X126 hx (hb hby at_274) rfl rfl (by simp [XT.acmp]) (pc' := 277) rfl ?_
        refine own_aload X126 hx (hb hby at_277) rfl rfl (pc' := 279) rfl ?_
        refine own_getF X126 hx hZ hown (ow_33 hw) e126 p118_5 (hb hby at_279) (pc' := 282) rfl ?_
        intro T127 X127 e127
        refine own_aload X127 hx (hb hby at_282) rfl rfl (pc' := 284) rfl ?_
        refine own_acmpF X127 hx (hb hby at_284) rfl rfl (by simp [XT.acmp]) (pc' := 287) rfl ?_
        refine own_aload X127 hx (hb hby at_287) rfl rfl (pc' := 289) rfl ?_
        refine own_getF X127 hx hZ hown (ow_34 hw) e127 p118_3 (hb hby at_289) (pc' := 292) rfl ?_
        intro T128 X128 e128
        refine own_ifnonnullF X128 hx (hb hby at_292) (pc' := 295) rfl ?_
        refine own_aload X128 hx (hb hby at_295) rfl rfl (pc' := 297) rfl ?_
        refine own_getF X128 hx hZ hown (ow_36 hw) e128 p118_4 (hb hby at_297) (pc' := 300) rfl ?_
        intro T129 X129 e129
        refine own_aload X129 hx (hb hby at_300) rfl rfl (pc' := 302) rfl ?_
        refine own_acmpF X129 hx (hb hby at_302) rfl rfl (by simp [XT.acmp]) (pc' := 305) rfl ?_
        refine own_aload X129 hx (hb hby at_305) rfl rfl (pc' := 307) rfl ?_
        refine own_getF X129 hx hZ hown (ow_37 hw) e129 p118_2 (hb hby at_307) (pc' := 310) rfl ?_
        intro T130 X130 e130
        refine own_iload X130 hx (hb hby at_310) rfl (pc' := 312) rfl ?_
        refine own_iconst X130 hx (hb hby at_312) (z := (1 : Int32)) rfl (pc' := 313) rfl ?_
        refine own_iadd X130 hx (hb hby at_313) (pc' := 314) rfl ?_
        refine own_icmpF X130 hx (hb hby at_314) (by decide) (pc' := 317) rfl ?_
        refine own_iconst X130 hx (hb hby at_317) (z := (1 : Int32)) rfl (pc' := 318) rfl ?_
        refine own_goto X130 hx (hb hby at_318) (by decide) (pc' := 322) rfl ?_
        refine own_istore X130 hx (hb hby at_322) (l' := #[.val (.int u0), .val (.int u1), .val (.int (1 : Int32)), .val (.int (1 : Int32)), .val (.int (if (u1 &&& (2 : Int32)) = (0 : Int32) then (0 : Int32) else (1 : Int32))), .val (.int (0 : Int32)), .val (.ref a48), .val (.ref a51), .val (.ref a54), .val (.ref a58), .val (.int (1 : Int32)), .val (.ref a51), .val (.ref a51), .val (.int (1 : Int32)), .unset]) rfl (pc' := 324) rfl ?_
        refine own_aload X130 hx (hb hby at_324) rfl rfl (pc' := 326) rfl ?_
        refine own_ifnonnullT X130 hx (hb hby at_326) (by decide) (pc' := 354) rfl ?_
        refine own_iload X130 hx (hb hby at_354) rfl (pc' := 356) rfl ?_
        refine own_ifF X130 hx (hb hby at_356) (by decide) (pc' := 359) rfl ?_
        refine own_aload X130 hx (hb hby at_359) rfl rfl (pc' := 361) rfl ?_
        refine own_getF X130 hx hZ hown (ow_38 hw) e130 p118_0 (hb hby at_361) (pc' := 364) rfl ?_
        intro T131 X131 e131
        refine own_aload X131 hx (hb hby at_364) rfl rfl (pc' := 366) rfl ?_
        refine own_acmpF X131 hx (hb hby at_366) rfl rfl (by simp [XT.acmp]) (pc' := 369) rfl ?_
        refine own_aload X131 hx (hb hby at_369) rfl rfl (pc' := 371) rfl ?_
        refine own_getF X131 hx hZ hown (ow_34 hw) e131 p118_6 (hb hby at_371) (pc' := 374) rfl ?_
        intro T132 X132 e132
        refine own_aload X132 hx (hb hby at_374) rfl rfl (pc' := 376) rfl ?_
        refine own_acmpF X132 hx (hb hby at_376) rfl rfl (by simp [XT.acmp]) (pc' := 379) rfl ?_
        refine own_aload X132 hx (hb hby at_379) rfl rfl (pc' := 381) rfl ?_
        refine own_getF X132 hx hZ hown (ow_36 hw) e132 p118_7 (hb hby at_381) (pc' := 384) rfl ?_
        intro T133 X133 e133
        refine own_ifnonnullF X133 hx (hb hby at_384) (pc' := 387) rfl ?_
        refine own_aload X133 hx (hb hby at_387) rfl rfl (pc' := 389) rfl ?_
        refine own_getF X133 hx hZ hown (ow_33 hw) e133 p118_8 (hb hby at_389) (pc' := 392) rfl ?_
        intro T134 X134 e134
        refine own_aload X134 hx (hb hby at_392) rfl rfl (pc' := 394) rfl ?_
        refine own_acmpF X134 hx (hb hby at_394) rfl rfl (by simp [XT.acmp]) (pc' := 397) rfl ?_
        refine own_iconst X134 hx (hb hby at_397) (z := (1 : Int32)) rfl (pc' := 398) rfl ?_
        refine own_goto X134 hx (hb hby at_398) (by decide) (pc' := 402) rfl ?_
        refine own_istore X134 hx (hb hby at_402) (l' := #[.val (.int u0), .val (.int u1), .val (.int (1 : Int32)), .val (.int (1 : Int32)), .val (.int (if (u1 &&& (2 : Int32)) = (0 : Int32) then (0 : Int32) else (1 : Int32))), .val (.int (0 : Int32)), .val (.ref a48), .val (.ref a51), .val (.ref a54), .val (.ref a58), .val (.int (1 : Int32)), .val (.ref a51), .val (.ref a51), .val (.int (1 : Int32)), .unset]) rfl (pc' := 404) rfl ?_
        refine own_iload X134 hx (hb hby at_404) rfl (pc' := 406) rfl ?_
        refine own_iconst X134 hx (hb hby at_406) (z := (2 : Int32)) rfl (pc' := 407) rfl ?_
        refine own_icmpT X134 hx (hb hby at_407) (by decide) (by decide) (pc' := 442) rfl ?_
        refine own_iload X134 hx (hb hby at_442) rfl (pc' := 444) rfl ?_
        exact own_retZ X134 hx hret hlk (Or.inr rfl) (hb hby at_444) ⟨rfl, N118⟩ (by decide) (by decide)
      · refine own_cast (S' := T108.setTop (mkF m 136 #[.val (.int u0), .val (.int u1), .val (.int (1 : Int32)), .val (.int (1 : Int32)), .val (.int (if (u1 &&& (2 : Int32)) = (0 : Int32) then (0 : Int32) else (1 : Int32))), .val (.int (1 : Int32)), .val (.ref a48), .val (.ref a51), .val (.ref a54), .val (.ref a58), .unset, .unset, .unset, .unset, .unset] [(.int (1 : Int32))])) (by first | (simp only [if_neg c117]; done) | (rw [if_neg c117]; done) | (simp; done)) ?_
        refine own_ifF X108 hx (hb hby at_136) (by decide) (pc' := 139) rfl ?_
        refine own_iloadN X108 hx (hb hby at_139) rfl (pc' := 140) rfl ?_
        refine own_iconst X108 hx (hb hby at_140) (z := (1 : Int32)) rfl (pc' := 141) rfl ?_
        refine own_icmpF X108 hx (hb hby at_141) (by decide) (pc' := 144) rfl ?_
        refine own_aload X108 hx (hb hby at_144) rfl rfl (pc' := 146) rfl ?_
        have f136 : Exa Z T108.heap a48 "com/example/slot3/slot3/frame/PostChain" := (f109.keep K108)
        have f137 : Exa Z T108.heap a51 "com/example/slot3/slot3/frame/Post" := (f110.keep K108)
        have z138 : n0 ≤ T108.heap.size := (Nat.le_trans z62 K108.1)
        refine own_callV X108 hx hZ hown (ow_45 hw) (ow_46 hw) (ow_48 hw) (ow_47 hw) (ow_3 hw) (ow_49 hw) (by decide) f136 (rm_tfn l Z a0 hw a48 a51 ((0 : Int32) + (1 : Int32)) (.ref a51) (.ref a48) T108.heap n0 z138 f136 p108_0 p108_1 p108_2 f137 p108_3 p108_4 p108_5 ge_a48 ge_a51 (Nat.ne_of_lt lt_a48_a51)) rfl (W := 0) (by decide) (by decide) opd___Lcom_example_slot3_slot3_frame_Post_ rfl (rest := []) rfl (hb hby at_146) (Nat.le_of_eq rfl) (by rw [hml]; rfl) (by decide) (by decide) (pc' := 149) rfl ?_
        intro v135 T135 L135 X135 q135
        obtain ⟨rfl, Nq135, K135, p135_0, p135_1, p135_2, p135_3, p135_4, p135_5⟩ := q135
        have N135 := Fr.app N108 Nq135
        show own_G p e below s _ _ _ (T135.setTop (mkF m 149 #[.val (.int u0), .val (.int u1), .val (.int (1 : Int32)), .val (.int (1 : Int32)), .val (.int (if (u1 &&& (2 : Int32)) = (0 : Int32) then (0 : Int32) else (1 : Int32))), .val (.int (1 : Int32)), .val (.ref a48), .val (.ref a51), .val (.ref a54), .val (.ref a58), .unset, .unset, .unset, .unset, .unset] [(.ref a51)]))
        refine own_pop X135 hx (hb hby at_149) rfl (pc' := 150) rfl ?_
        refine own_iloadN X135 hx (hb hby at_150) rfl (pc' := 151) rfl ?_
        refine own_ifT X135 hx (hb hby at_151) (by decide) (by decide) (pc' := 166) rfl ?_
        refine own_iloadN X135 hx (hb hby at_166) rfl (pc' := 167) rfl ?_
        refine own_iconst X135 hx (hb hby at_167) (z := (1 : Int32)) rfl (pc' := 168) rfl ?_
        refine own_icmpF X135 hx (hb hby at_168) (by decide) (pc' := 171) rfl ?_
        refine own_iload X135 hx (hb hby at_171) rfl (pc' := 173) rfl ?_
        refine own_ifF X135 hx (hb hby at_173) (by decide) (pc' := 176) rfl ?_
        refine own_iconst X135 hx (hb hby at_176) (z := (0 : Int32)) rfl (pc' := 177) rfl ?_
        refine own_istore X135 hx (hb hby at_177) (l' := #[.val (.int u0), .val (.int u1), .val (.int (1 : Int32)), .val (.int (1 : Int32)), .val (.int (if (u1 &&& (2 : Int32)) = (0 : Int32) then (0 : Int32) else (1 : Int32))), .val (.int (1 : Int32)), .val (.ref a48), .val (.ref a51), .val (.ref a54), .val (.ref a58), .val (.int (0 : Int32)), .unset, .unset, .unset, .unset]) rfl (pc' := 179) rfl ?_
        refine own_aconstNull X135 hx (hb hby at_179) (pc' := 180) rfl ?_
        refine own_astore X135 hx (hb hby at_180) rfl (l' := #[.val (.int u0), .val (.int u1), .val (.int (1 : Int32)), .val (.int (1 : Int32)), .val (.int (if (u1 &&& (2 : Int32)) = (0 : Int32) then (0 : Int32) else (1 : Int32))), .val (.int (1 : Int32)), .val (.ref a48), .val (.ref a51), .val (.ref a54), .val (.ref a58), .val (.int (0 : Int32)), .val (.null), .unset, .unset, .unset]) rfl (pc' := 182) rfl ?_
        refine own_aconstNull X135 hx (hb hby at_182) (pc' := 183) rfl ?_
        refine own_astore X135 hx (hb hby at_183) rfl (l' := #[.val (.int u0), .val (.int u1), .val (.int (1 : Int32)), .val (.int (1 : Int32)), .val (.int (if (u1 &&& (2 : Int32)) = (0 : Int32) then (0 : Int32) else (1 : Int32))), .val (.int (1 : Int32)), .val (.ref a48), .val (.ref a51), .val (.ref a54), .val (.ref a58), .val (.int (0 : Int32)), .val (.null), .val (.null), .unset, .unset]) rfl (pc' := 185) rfl ?_
        refine own_goto X135 hx (hb hby at_185) (by decide) (pc' := 260) rfl ?_
        refine own_aload X135 hx (hb hby at_260) rfl rfl (pc' := 262) rfl ?_
        refine own_aload X135 hx (hb hby at_262) rfl rfl (pc' := 264) rfl ?_
        have f140 : Exa Z T135.heap a48 "com/example/slot3/slot3/frame/PostChain" := (f136.keep K135)
        have f141 : Exa Z T135.heap a58 "com/example/slot3/slot3/frame/Post" := ((A58.keep K108).keep K135)
        have f142 : Fld Z T135.heap a58 "com/example/slot3/slot3/frame/Post" "following" "Lcom/example/slot3/slot3/frame/Post;" (.null) := ((F58_following.keep K108 (ninS (Nat.ne_of_gt lt_a48_a58) (ninS (Nat.ne_of_gt lt_a51_a58) nin0))).keep K135 (ninS (Nat.ne_of_gt lt_a48_a58) (ninS (Nat.ne_of_gt lt_a51_a58) nin0)))
        have f143 : Fld Z T135.heap a58 "com/example/slot3/slot3/frame/Post" "previous" "Lcom/example/slot3/slot3/frame/Post;" (.null) := ((F58_previous.keep K108 (ninS (Nat.ne_of_gt lt_a48_a58) (ninS (Nat.ne_of_gt lt_a51_a58) nin0))).keep K135 (ninS (Nat.ne_of_gt lt_a48_a58) (ninS (Nat.ne_of_gt lt_a51_a58) nin0)))
        have f144 : Fld Z T135.heap a58 "com/example/slot3/slot3/frame/Post" "chain" "Lcom/example/slot3/slot3/frame/PostChain;" (.null) := ((F58_chain.keep K108 (ninS (Nat.ne_of_gt lt_a48_a58) (ninS (Nat.ne_of_gt lt_a51_a58) nin0))).keep K135 (ninS (Nat.ne_of_gt lt_a48_a58) (ninS (Nat.ne_of_gt lt_a51_a58) nin0)))
        have z145 : n0 ≤ T135.heap.size := (Nat.le_trans z138 K135.1)
        refine own_callV X135 hx hZ hown (ow_17 hw) (ow_18 hw) (ow_20 hw) (ow_19 hw) (ow_3 hw) (ow_21 hw) (by decide) f140 (rm_ap1 l Z a0 hw a48 a58 (((0 : Int32) + (1 : Int32)) - (1 : Int32)) .null .null .null .null T135.heap n0 z145 f140 f141 p135_0 p135_1 p135_2 f142 f143 f144 ge_a48 ge_a58 (Nat.ne_of_lt lt_a48_a58)) rfl (W := 0) (by decide) (by decide) opd__Lcom_example_slot3_slot3_frame_Post__V rfl (rest := []) rfl (hb hby at_264) (Nat.le_of_eq rfl) (by rw [hml]; rfl) (by decide) (by decide) (pc' := 267) rfl ?_
        intro v139 T139 L139 X139 q139
        obtain ⟨rfl, Nq139, K139, p139_0, p139_1, p139_2, p139_3, p139_4, p139_5⟩ := q139
        have N139 := Fr.app N135 Nq139
        show own_G p e below s _ _ _ (T139.setTop (mkF m 267 #[.val (.int u0), .val (.int u1), .val (.int (1 : Int32)), .val (.int (1 : Int32)), .val (.int (if (u1 &&& (2 : Int32)) = (0 : Int32) then (0 : Int32) else (1 : Int32))), .val (.int (1 : Int32)), .val (.ref a48), .val (.ref a51), .val (.ref a54), .val (.ref a58), .val (.int (0 : Int32)), .val (.null), .val (.null), .unset, .unset] []))
        refine own_aload X139 hx (hb hby at_267) rfl rfl (pc' := 269) rfl ?_
        refine own_getF X139 hx hZ hown (ow_32 hw) rfl p139_1 (hb hby at_269) (pc' := 272) rfl ?_
        intro T146 X146 e146
        refine own_aload X146 hx (hb hby at_272) rfl rfl (pc' := 274) rfl ?_
        refine own_acmpF X146 hx (hb hby at_274) rfl rfl (by simp [XT.acmp]) (pc' := 277) rfl ?_
        refine own_aload X146 hx (hb hby at_277) rfl rfl (pc' := 279) rfl ?_
        refine own_getF X146 hx hZ hown (ow_33 hw) e146 p139_5 (hb hby at_279) (pc' := 282) rfl ?_
        intro T147 X147 e147
        refine own_aload X147 hx (hb hby at_282) rfl rfl (pc' := 284) rfl ?_
        refine own_acmpF X147 hx (hb hby at_284) rfl rfl (by simp [XT.acmp]) (pc' := 287) rfl ?_
        refine own_aload X147 hx (hb hby at_287) rfl rfl (pc' := 289) rfl ?_
        refine own_getF X147 hx hZ hown (ow_34 hw) e147 p139_3 (hb hby at_289) (pc' := 292) rfl ?_
        intro T148 X148 e148
        refine own_ifnonnullF X148 hx (hb hby at_292) (pc' := 295) rfl ?_
        refine own_aload X148 hx (hb hby at_295) rfl rfl (pc' := 297) rfl ?_
        refine own_getF X148 hx hZ hown (ow_36 hw) e148 p139_4 (hb hby at_297) (pc' := 300) rfl ?_
        intro T149 X149 e149
        refine own_aload X149 hx (hb hby at_300) rfl rfl (pc' := 302) rfl ?_
        refine own_acmpF X149 hx (hb hby at_302) rfl rfl (by simp [XT.acmp]) (pc' := 305) rfl ?_
        refine own_aload X149 hx (hb hby at_305) rfl rfl (pc' := 307) rfl ?_
        refine own_getF X149 hx hZ hown (ow_37 hw) e149 p139_2 (hb hby at_307) (pc' := 310) rfl ?_
        intro T150 X150 e150
        refine own_iload X150 hx (hb hby at_310) rfl (pc' := 312) rfl ?_
        refine own_iconst X150 hx (hb hby at_312) (z := (1 : Int32)) rfl (pc' := 313) rfl ?_
        refine own_iadd X150 hx (hb hby at_313) (pc' := 314) rfl ?_
        refine own_icmpF X150 hx (hb hby at_314) (by decide) (pc' := 317) rfl ?_
        refine own_iconst X150 hx (hb hby at_317) (z := (1 : Int32)) rfl (pc' := 318) rfl ?_
        refine own_goto X150 hx (hb hby at_318) (by decide) (pc' := 322) rfl ?_
        refine own_istore X150 hx (hb hby at_322) (l' := #[.val (.int u0), .val (.int u1), .val (.int (1 : Int32)), .val (.int (1 : Int32)), .val (.int (if (u1 &&& (2 : Int32)) = (0 : Int32) then (0 : Int32) else (1 : Int32))), .val (.int (1 : Int32)), .val (.ref a48), .val (.ref a51), .val (.ref a54), .val (.ref a58), .val (.int (0 : Int32)), .val (.null), .val (.null), .val (.int (1 : Int32)), .unset]) rfl (pc' := 324) rfl ?_
        refine own_aload X150 hx (hb hby at_324) rfl rfl (pc' := 326) rfl ?_
        refine own_ifnonnullF X150 hx (hb hby at_326) (pc' := 329) rfl ?_
        refine own_iload X150 hx (hb hby at_329) rfl (pc' := 331) rfl ?_
        refine own_ifF X150 hx (hb hby at_331) (by decide) (pc' := 334) rfl ?_
        refine own_aload X150 hx (hb hby at_334) rfl rfl (pc' := 336) rfl ?_
        refine own_getF X150 hx hZ hown (ow_38 hw) e150 p139_0 (hb hby at_336) (pc' := 339) rfl ?_
        intro T151 X151 e151
        refine own_aload X151 hx (hb hby at_339) rfl rfl (pc' := 341) rfl ?_
        refine own_acmpF X151 hx (hb hby at_341) rfl rfl (by simp [XT.acmp]) (pc' := 344) rfl ?_
        refine own_iconst X151 hx (hb hby at_344) (z := (1 : Int32)) rfl (pc' := 345) rfl ?_
        refine own_goto X151 hx (hb hby at_345) (by decide) (pc' := 349) rfl ?_
        refine own_istore X151 hx (hb hby at_349) (l' := #[.val (.int u0), .val (.int u1), .val (.int (1 : Int32)), .val (.int (1 : Int32)), .val (.int (if (u1 &&& (2 : Int32)) = (0 : Int32) then (0 : Int32) else (1 : Int32))), .val (.int (1 : Int32)), .val (.ref a48), .val (.ref a51), .val (.ref a54), .val (.ref a58), .val (.int (0 : Int32)), .val (.null), .val (.null), .val (.int (1 : Int32)), .unset]) rfl (pc' := 351) rfl ?_
        refine own_goto X151 hx (hb hby at_351) (by decide) (pc' := 404) rfl ?_
        refine own_iload X151 hx (hb hby at_404) rfl (pc' := 406) rfl ?_
        refine own_iconst X151 hx (hb hby at_406) (z := (2 : Int32)) rfl (pc' := 407) rfl ?_
        refine own_icmpT X151 hx (hb hby at_407) (by decide) (by decide) (pc' := 442) rfl ?_
        refine own_iload X151 hx (hb hby at_442) rfl (pc' := 444) rfl ?_
        exact own_retZ X151 hx hret hlk (Or.inr rfl) (hb hby at_444) ⟨rfl, N139⟩ (by decide) (by decide)
  · rw [c3]
    refine own_iloadN X0 hx (hb hby at_7) rfl (pc' := 8) rfl ?_
    refine own_iconst X0 hx (hb hby at_8) (z := (1 : Int32)) rfl (pc' := 9) rfl ?_
    refine own_iand X0 hx (hb hby at_9) (pc' := 10) rfl ?_
    refine own_via (S' := s1.setTop (mkF m 18 #[.val (.int u0), .val (.int u1), .val (.int (2 : Int32)), .unset, .unset, .unset, .unset, .unset, .unset, .unset, .unset, .unset, .unset, .unset, .unset] [(.int (if (u1 &&& (1 : Int32)) = (0 : Int32) then (0 : Int32) else (1 : Int32)))])) (fun kk => ?_) ?_
    · by_cases c152 : (u1 &&& (1 : Int32)) = (0 : Int32)
      · refine own_ifT X0 hx (hb hby at_10) (teq c152).1 (by decide) (pc' := 17) rfl ?_
        refine own_iconst X0 hx (hb hby at_17) (z := (0 : Int32)) rfl (pc' := 18) rfl ?_
        exact own_cast (by simp only [if_pos c152]) kk
      · refine own_ifF X0 hx (hb hby at_10) (feq c152).1 (pc' := 13) rfl ?_
        refine own_iconst X0 hx (hb hby at_13) (z := (1 : Int32)) rfl (pc' := 14) rfl ?_
        refine own_goto X0 hx (hb hby at_14) (by decide) (pc' := 18) rfl ?_
        exact own_cast (by simp only [if_neg c152]) kk
    refine own_istoreN X0 hx (hb hby at_18) (l' := #[.val (.int u0), .val (.int u1), .val (.int (2 : Int32)), .val (.int (if (u1 &&& (1 : Int32)) = (0 : Int32) then (0 : Int32) else (1 : Int32))), .unset, .unset, .unset, .unset, .unset, .unset, .unset, .unset, .unset, .unset, .unset]) rfl (pc' := 19) rfl ?_
    refine own_iloadN X0 hx (hb hby at_19) rfl (pc' := 20) rfl ?_
    refine own_iconst X0 hx (hb hby at_20) (z := (2 : Int32)) rfl (pc' := 21) rfl ?_
    refine own_iand X0 hx (hb hby at_21) (pc' := 22) rfl ?_
    refine own_via (S' := s1.setTop (mkF m 30 #[.val (.int u0), .val (.int u1), .val (.int (2 : Int32)), .val (.int (if (u1 &&& (1 : Int32)) = (0 : Int32) then (0 : Int32) else (1 : Int32))), .unset, .unset, .unset, .unset, .unset, .unset, .unset, .unset, .unset, .unset, .unset] [(.int (if (u1 &&& (2 : Int32)) = (0 : Int32) then (0 : Int32) else (1 : Int32)))])) (fun kk => ?_) ?_
    · by_cases c153 : (u1 &&& (2 : Int32)) = (0 : Int32)
      · refine own_ifT X0 hx (hb hby at_22) (teq c153).1 (by decide) (pc' := 29) rfl ?_
        refine own_iconst X0 hx (hb hby at_29) (z := (0 : Int32)) rfl (pc' := 30) rfl ?_
        exact own_cast (by simp only [if_pos c153]) kk
      · refine own_ifF X0 hx (hb hby at_22) (feq c153).1 (pc' := 25) rfl ?_
        refine own_iconst X0 hx (hb hby at_25) (z := (1 : Int32)) rfl (pc' := 26) rfl ?_
        refine own_goto X0 hx (hb hby at_26) (by decide) (pc' := 30) rfl ?_
        exact own_cast (by simp only [if_neg c153]) kk
    refine own_istore X0 hx (hb hby at_30) (l' := #[.val (.int u0), .val (.int u1), .val (.int (2 : Int32)), .val (.int (if (u1 &&& (1 : Int32)) = (0 : Int32) then (0 : Int32) else (1 : Int32))), .val (.int (if (u1 &&& (2 : Int32)) = (0 : Int32) then (0 : Int32) else (1 : Int32))), .unset, .unset, .unset, .unset, .unset, .unset, .unset, .unset, .unset, .unset]) rfl (pc' := 32) rfl ?_
    refine own_iloadN X0 hx (hb hby at_32) rfl (pc' := 33) rfl ?_
    refine own_iconst X0 hx (hb hby at_33) (z := (4 : Int32)) rfl (pc' := 34) rfl ?_
    refine own_iand X0 hx (hb hby at_34) (pc' := 35) rfl ?_
    refine own_via (S' := s1.setTop (mkF m 43 #[.val (.int u0), .val (.int u1), .val (.int (2 : Int32)), .val (.int (if (u1 &&& (1 : Int32)) = (0 : Int32) then (0 : Int32) else (1 : Int32))), .val (.int (if (u1 &&& (2 : Int32)) = (0 : Int32) then (0 : Int32) else (1 : Int32))), .unset, .unset, .unset, .unset, .unset, .unset, .unset, .unset, .unset, .unset] [(.int (if (u1 &&& (4 : Int32)) = (0 : Int32) then (0 : Int32) else (1 : Int32)))])) (fun kk => ?_) ?_
    · by_cases c154 : (u1 &&& (4 : Int32)) = (0 : Int32)
      · refine own_ifT X0 hx (hb hby at_35) (teq c154).1 (by decide) (pc' := 42) rfl ?_
        refine own_iconst X0 hx (hb hby at_42) (z := (0 : Int32)) rfl (pc' := 43) rfl ?_
        exact own_cast (by simp only [if_pos c154]) kk
      · refine own_ifF X0 hx (hb hby at_35) (feq c154).1 (pc' := 38) rfl ?_
        refine own_iconst X0 hx (hb hby at_38) (z := (1 : Int32)) rfl (pc' := 39) rfl ?_
        refine own_goto X0 hx (hb hby at_39) (by decide) (pc' := 43) rfl ?_
        exact own_cast (by simp only [if_neg c154]) kk
    refine own_istore X0 hx (hb hby at_43) (l' := #[.val (.int u0), .val (.int u1), .val (.int (2 : Int32)), .val (.int (if (u1 &&& (1 : Int32)) = (0 : Int32) then (0 : Int32) else (1 : Int32))), .val (.int (if (u1 &&& (2 : Int32)) = (0 : Int32) then (0 : Int32) else (1 : Int32))), .val (.int (if (u1 &&& (4 : Int32)) = (0 : Int32) then (0 : Int32) else (1 : Int32))), .unset, .unset, .unset, .unset, .unset, .unset, .unset, .unset, .unset]) rfl (pc' := 45) rfl ?_
    refine own_new X0 hx hZ hown (ow_1 hw) (ow_2 hw) (ow_3 hw) e0 (hb hby at_45) (pc' := 48) rfl (by decide) (by decide) ?_
    intro T155 h155 a155 g155 X155 e155 E155 A155 D155
    have ge_a155 : n0 ≤ a155 := by rw [g155]; exact Z0
    have F155_last : Fld Z h155 a155 "com/example/slot3/slot3/frame/PostChain" "last" "Lcom/example/slot3/slot3/frame/Post;" (.null) := D155 (Or.inl (ow_23 hw)) (ty := (.object "com/example/slot3/slot3/frame/Post")) (by decide)
    have F155_first : Fld Z h155 a155 "com/example/slot3/slot3/frame/PostChain" "first" "Lcom/example/slot3/slot3/frame/Post;" (.null) := D155 (Or.inl (ow_25 hw)) (ty := (.object "com/example/slot3/slot3/frame/Post")) (by decide)
    have F155_count : Fld Z h155 a155 "com/example/slot3/slot3/frame/PostChain" "count" "I" (.int (0 : Int32)) := D155 (Or.inl (ow_31 hw)) (ty := .int) (by decide)
    refine own_dup X155 hx (hb hby at_48) rfl (pc' := 49) rfl ?_
    have z157 : n0 ≤ h155.size := (Nat.le_trans Z0 E155.1)
    refine own_callC X155 hx hZ rfl hown (ow_4 hw) (ow_5 hw) (ow_3 hw) (ow_6 hw) (by decide) (rm_pci l Z a0 hw a155 h155 n0 z157) e155 (W := 1) (by decide) (by decide) opd___V rfl (rest := [(.ref a155)]) rfl (hb hby at_49) (Nat.le_of_eq rfl) (by rw [hml]; rfl) (by decide) (by decide) (pc' := 52) rfl ?_
    intro v156 T156 L156 X156 q156
    obtain ⟨rfl, Nq156, eh156⟩ := q156
    have N156 := Fr.app N0 Nq156
    show own_G p e below s _ _ _ (T156.setTop (mkF m 52 #[.val (.int u0), .val (.int u1), .val (.int (2 : Int32)), .val (.int (if (u1 &&& (1 : Int32)) = (0 : Int32) then (0 : Int32) else (1 : Int32))), .val (.int (if (u1 &&& (2 : Int32)) = (0 : Int32) then (0 : Int32) else (1 : Int32))), .val (.int (if (u1 &&& (4 : Int32)) = (0 : Int32) then (0 : Int32) else (1 : Int32))), .unset, .unset, .unset, .unset, .unset, .unset, .unset, .unset, .unset] [(.ref a155)]))
    refine own_astore X156 hx (hb hby at_52) rfl (l' := #[.val (.int u0), .val (.int u1), .val (.int (2 : Int32)), .val (.int (if (u1 &&& (1 : Int32)) = (0 : Int32) then (0 : Int32) else (1 : Int32))), .val (.int (if (u1 &&& (2 : Int32)) = (0 : Int32) then (0 : Int32) else (1 : Int32))), .val (.int (if (u1 &&& (4 : Int32)) = (0 : Int32) then (0 : Int32) else (1 : Int32))), .val (.ref a155), .unset, .unset, .unset, .unset, .unset, .unset, .unset, .unset]) rfl (pc' := 54) rfl ?_
    refine own_new X156 hx hZ hown (ow_10 hw) (ow_11 hw) (ow_12 hw) eh156 (hb hby at_54) (pc' := 57) rfl (by decide) (by decide) ?_
    intro T158 h158 a158 g158 X158 e158 E158 A158 D158
    have lt_a155_a158 : a155 < a158 := by rw [g158]; exact A155.lt
    have ge_a158 : n0 ≤ a158 := by rw [g158]; exact z157
    have F158_previous : Fld Z h158 a158 "com/example/slot3/slot3/frame/Post" "previous" "Lcom/example/slot3/slot3/frame/Post;" (.null) := D158 (Or.inl (ow_27 hw)) (ty := (.object "com/example/slot3/slot3/frame/Post")) (by decide)
    have F158_chain : Fld Z h158 a158 "com/example/slot3/slot3/frame/Post" "chain" "Lcom/example/slot3/slot3/frame/PostChain;" (.null) := D158 (Or.inl (ow_29 hw)) (ty := (.object "com/example/slot3/slot3/frame/PostChain")) (by decide)
    have F158_following : Fld Z h158 a158 "com/example/slot3/slot3/frame/Post" "following" "Lcom/example/slot3/slot3/frame/Post;" (.null) := D158 (Or.inl (ow_35 hw)) (ty := (.object "com/example/slot3/slot3/frame/Post")) (by decide)
    refine own_dup X158 hx (hb hby at_57) rfl (pc' := 58) rfl ?_
    have z160 : n0 ≤ h158.size := (Nat.le_trans z157 E158.1)
    refine own_callC X158 hx hZ rfl hown (ow_13 hw) (ow_14 hw) (ow_12 hw) (ow_15 hw) (by decide) (rm_poi l Z a0 hw a158 h158 n0 z160) e158 (W := 1) (by decide) (by decide) opd___V rfl (rest := [(.ref a158)]) rfl (hb hby at_58) (Nat.le_of_eq rfl) (by rw [hml]; rfl) (by decide) (by decide) (pc' := 61) rfl ?_
    intro v159 T159 L159 X159 q159
    obtain ⟨rfl, Nq159, eh159⟩ := q159
    have N159 := Fr.app N156 Nq159
    show own_G p e below s _ _ _ (T159.setTop (mkF m 61 #[.val (.int u0), .val (.int u1), .val (.int (2 : Int32)), .val (.int (if (u1 &&& (1 : Int32)) = (0 : Int32) then (0 : Int32) else (1 : Int32))), .val (.int (if (u1 &&& (2 : Int32)) = (0 : Int32) then (0 : Int32) else (1 : Int32))), .val (.int (if (u1 &&& (4 : Int32)) = (0 : Int32) then (0 : Int32) else (1 : Int32))), .val (.ref a155), .unset, .unset, .unset, .unset, .unset, .unset, .unset, .unset] [(.ref a158)]))
    refine own_astore X159 hx (hb hby at_61) rfl (l' := #[.val (.int u0), .val (.int u1), .val (.int (2 : Int32)), .val (.int (if (u1 &&& (1 : Int32)) = (0 : Int32) then (0 : Int32) else (1 : Int32))), .val (.int (if (u1 &&& (2 : Int32)) = (0 : Int32) then (0 : Int32) else (1 : Int32))), .val (.int (if (u1 &&& (4 : Int32)) = (0 : Int32) then (0 : Int32) else (1 : Int32))), .val (.ref a155), .val (.ref a158), .unset, .unset, .unset, .unset, .unset, .unset, .unset]) rfl (pc' := 63) rfl ?_
    have f162 : Exa Z h158 a155 "com/example/slot3/slot3/frame/PostChain" := (A155.ext E158)
    refine own_new X159 hx hZ hown (ow_10 hw) (ow_11 hw) (ow_12 hw) eh159 (hb hby at_63) (pc' := 66) rfl (by decide) (by decide) ?_
    intro T161 h161 a161 g161 X161 e161 E161 A161 D161
    have lt_a155_a161 : a155 < a161 := by rw [g161]; exact f162.lt
    have lt_a158_a161 : a158 < a161 := by rw [g161]; exact A158.lt
    have ge_a161 : n0 ≤ a161 := by rw [g161]; exact z160
    have F161_previous : Fld Z h161 a161 "com/example/slot3/slot3/frame/Post" "previous" "Lcom/example/slot3/slot3/frame/Post;" (.null) := D161 (Or.inl (ow_27 hw)) (ty := (.object "com/example/slot3/slot3/frame/Post")) (by decide)
    have F161_chain : Fld Z h161 a161 "com/example/slot3/slot3/frame/Post" "chain" "Lcom/example/slot3/slot3/frame/PostChain;" (.null) := D161 (Or.inl (ow_29 hw)) (ty := (.object "com/example/slot3/slot3/frame/PostChain")) (by decide)
    have F161_following : Fld Z h161 a161 "com/example/slot3/slot3/frame/Post" "following" "Lcom/example/slot3/slot3/frame/Post;" (.null) := D161 (Or.inl (ow_35 hw)) (ty := (.object "com/example/slot3/slot3/frame/Post")) (by decide)
    refine own_dup X161 hx (hb hby at_66) rfl (pc' := 67) rfl ?_
    have z164 : n0 ≤ h161.size := (Nat.le_trans z160 E161.1)
    refine own_callC X161 hx hZ rfl hown (ow_13 hw) (ow_14 hw) (ow_12 hw) (ow_15 hw) (by decide) (rm_poi l Z a0 hw a161 h161 n0 z164) e161 (W := 1) (by decide) (by decide) opd___V rfl (rest := [(.ref a161)]) rfl (hb hby at_67) (Nat.le_of_eq rfl) (by rw [hml]; rfl) (by decide) (by decide) (pc' := 70) rfl ?_
    intro v163 T163 L163 X163 q163
    obtain ⟨rfl, Nq163, eh163⟩ := q163
    have N163 := Fr.app N159 Nq163
    show own_G p e below s _ _ _ (T163.setTop (mkF m 70 #[.val (.int u0), .val (.int u1), .val (.int (2 : Int32)), .val (.int (if (u1 &&& (1 : Int32)) = (0 : Int32) then (0 : Int32) else (1 : Int32))), .val (.int (if (u1 &&& (2 : Int32)) = (0 : Int32) then (0 : Int32) else (1 : Int32))), .val (.int (if (u1 &&& (4 : Int32)) = (0 : Int32) then (0 : Int32) else (1 : Int32))), .val (.ref a155), .val (.ref a158), .unset, .unset, .unset, .unset, .unset, .unset, .unset] [(.ref a161)]))
    refine own_astore X163 hx (hb hby at_70) rfl (l' := #[.val (.int u0), .val (.int u1), .val (.int (2 : Int32)), .val (.int (if (u1 &&& (1 : Int32)) = (0 : Int32) then (0 : Int32) else (1 : Int32))), .val (.int (if (u1 &&& (2 : Int32)) = (0 : Int32) then (0 : Int32) else (1 : Int32))), .val (.int (if (u1 &&& (4 : Int32)) = (0 : Int32) then (0 : Int32) else (1 : Int32))), .val (.ref a155), .val (.ref a158), .val (.ref a161), .unset, .unset, .unset, .unset, .unset, .unset]) rfl (pc' := 72) rfl ?_
    have f166 : Exa Z h161 a155 "com/example/slot3/slot3/frame/PostChain" := (f162.ext E161)
    have f167 : Exa Z h161 a158 "com/example/slot3/slot3/frame/Post" := (A158.ext E161)
    refine own_new X163 hx hZ hown (ow_10 hw) (ow_11 hw) (ow_12 hw) eh163 (hb hby at_72) (pc' := 75) rfl (by decide) (by decide) ?_
    intro T165 h165 a165 g165 X165 e165 E165 A165 D165
    have lt_a155_a165 : a155 < a165 := by rw [g165]; exact f166.lt
    have lt_a158_a165 : a158 < a165 := by rw [g165]; exact f167.lt
    have lt_a161_a165 : a161 < a165 := by rw [g165]; exact A161.lt
    have ge_a165 : n0 ≤ a165 := by rw [g165]; exact z164
    have F165_previous : Fld Z h165 a165 "com/example/slot3/slot3/frame/Post" "previous" "Lcom/example/slot3/slot3/frame/Post;" (.null) := D165 (Or.inl (ow_27 hw)) (ty := (.object "com/example/slot3/slot3/frame/Post")) (by decide)
    have F165_chain : Fld Z h165 a165 "com/example/slot3/slot3/frame/Post" "chain" "Lcom/example/slot3/slot3/frame/PostChain;" (.null) := D165 (Or.inl (ow_29 hw)) (ty := (.object "com/example/slot3/slot3/frame/PostChain")) (by decide)
    have F165_following : Fld Z h165 a165 "com/example/slot3/slot3/frame/Post" "following" "Lcom/example/slot3/slot3/frame/Post;" (.null) := D165 (Or.inl (ow_35 hw)) (ty := (.object "com/example/slot3/slot3/frame/Post")) (by decide)
    refine own_dup X165 hx (hb hby at_75) rfl (pc' := 76) rfl ?_
    have z169 : n0 ≤ h165.size := (Nat.le_trans z164 E165.1)
    refine own_callC X165 hx hZ rfl hown (ow_13 hw) (ow_14 hw) (ow_12 hw) (ow_15 hw) (by decide) (rm_poi l Z a0 hw a165 h165 n0 z169) e165 (W := 1) (by decide) (by decide) opd___V rfl (rest := [(.ref a165)]) rfl (hb hby at_76) (Nat.le_of_eq rfl) (by rw [hml]; rfl) (by decide) (by decide) (pc' := 79) rfl ?_
    intro v168 T168 L168 X168 q168
    obtain ⟨rfl, Nq168, eh168⟩ := q168
    have N168 := Fr.app N163 Nq168
    show own_G p e below s _ _ _ (T168.setTop (mkF m 79 #[.val (.int u0), .val (.int u1), .val (.int (2 : Int32)), .val (.int (if (u1 &&& (1 : Int32)) = (0 : Int32) then (0 : Int32) else (1 : Int32))), .val (.int (if (u1 &&& (2 : Int32)) = (0 : Int32) then (0 : Int32) else (1 : Int32))), .val (.int (if (u1 &&& (4 : Int32)) = (0 : Int32) then (0 : Int32) else (1 : Int32))), .val (.ref a155), .val (.ref a158), .val (.ref a161), .unset, .unset, .unset, .unset, .unset, .unset] [(.ref a165)]))
    refine own_astore X168 hx (hb hby at_79) rfl (l' := #[.val (.int u0), .val (.int u1), .val (.int (2 : Int32)), .val (.int (if (u1 &&& (1 : Int32)) = (0 : Int32) then (0 : Int32) else (1 : Int32))), .val (.int (if (u1 &&& (2 : Int32)) = (0 : Int32) then (0 : Int32) else (1 : Int32))), .val (.int (if (u1 &&& (4 : Int32)) = (0 : Int32) then (0 : Int32) else (1 : Int32))), .val (.ref a155), .val (.ref a158), .val (.ref a161), .val (.ref a165), .unset, .unset, .unset, .unset, .unset]) rfl (pc' := 81) rfl ?_
    refine own_iloadN X168 hx (hb hby at_81) rfl (pc' := 82) rfl ?_
    refine own_iconst X168 hx (hb hby at_82) (z := (1 : Int32)) rfl (pc' := 83) rfl ?_
    refine own_icmpF X168 hx (hb hby at_83) (by decide) (pc' := 86) rfl ?_
    refine own_iloadN X168 hx (hb hby at_86) rfl (pc' := 87) rfl ?_
    by_cases c170 : (u1 &&& (1 : Int32)) = (0 : Int32)
    · refine own_cast (S' := T168.setTop (mkF m 87 #[.val (.int u0), .val (.int u1), .val (.int (2 : Int32)), .val (.int (0 : Int32)), .val (.int (if (u1 &&& (2 : Int32)) = (0 : Int32) then (0 : Int32) else (1 : Int32))), .val (.int (if (u1 &&& (4 : Int32)) = (0 : Int32) then (0 : Int32) else (1 : Int32))), .val (.ref a155), .val (.ref a158), .val (.ref a161), .val (.ref a165), .unset, .unset, .unset, .unset, .unset] [(.int (0 : Int32))])) (by first | (simp only [if_pos c170]; done) | (rw [if_pos c170]; done) | (simp; done)) ?_
      refine own_ifT X168 hx (hb hby at_87) (by decide) (by decide) (pc' := 100) rfl ?_
      refine own_aload X168 hx (hb hby at_100) rfl rfl (pc' := 102) rfl ?_
      refine own_aload X168 hx (hb hby at_102) rfl rfl (pc' := 104) rfl ?_
      have f172 : Exa Z h165 a155 "com/example/slot3/slot3/frame/PostChain" := (f166.ext E165)
      have f173 : Exa Z h165 a158 "com/example/slot3/slot3/frame/Post" := (f167.ext E165)
      have f174 : Fld Z h165 a155 "com/example/slot3/slot3/frame/PostChain" "first" "Lcom/example/slot3/slot3/frame/Post;" (.null) := (((F155_first.ext E158).ext E161).ext E165)
      have f175 : Fld Z h165 a155 "com/example/slot3/slot3/frame/PostChain" "last" "Lcom/example/slot3/slot3/frame/Post;" (.null) := (((F155_last.ext E158).ext E161).ext E165)
      have f176 : Fld Z h165 a155 "com/example/slot3/slot3/frame/PostChain" "count" "I" (.int (0 : Int32)) := (((F155_count.ext E158).ext E161).ext E165)
      have f177 : Fld Z h165 a158 "com/example/slot3/slot3/frame/Post" "following" "Lcom/example/slot3/slot3/frame/Post;" (.null) := ((F158_following.ext E161).ext E165)
      have f178 : Fld Z h165 a158 "com/example/slot3/slot3/frame/Post" "previous" "Lcom/example/slot3/slot3/frame/Post;" (.null) := ((F158_previous.ext E161).ext E165)
      have f179 : Fld Z h165 a158 "com/example/slot3/slot3/frame/Post" "chain" "Lcom/example/slot3/slot3/frame/PostChain;" (.null) := ((F158_chain.ext E161).ext E165)
      refine own_callV X168 hx hZ hown (ow_17 hw) (ow_18 hw) (ow_20 hw) (ow_19 hw) (ow_3 hw) (ow_21 hw) (by decide) f172 (rm_ap1 l Z a0 hw a155 a158 (0 : Int32) .null .null .null .null h165 n0 z169 f172 f173 f174 f175 f176 f177 f178 f179 ge_a155 ge_a158 (Nat.ne_of_lt lt_a155_a158)) eh168 (W := 0) (by decide) (by decide) opd__Lcom_example_slot3_slot3_frame_Post__V rfl (rest := []) rfl (hb hby at_104) (Nat.le_of_eq rfl) (by rw [hml]; rfl) (by decide) (by decide) (pc' := 107) rfl ?_
      intro v171 T171 L171 X171 q171
      obtain ⟨rfl, Nq171, K171, p171_0, p171_1, p171_2, p171_3, p171_4, p171_5⟩ := q171
      have N171 := Fr.app N168 Nq171
      show own_G p e below s _ _ _ (T171.setTop (mkF m 107 #[.val (.int u0), .val (.int u1), .val (.int (2 : Int32)), .val (.int (0 : Int32)), .val (.int (if (u1 &&& (2 : Int32)) = (0 : Int32) then (0 : Int32) else (1 : Int32))), .val (.int (if (u1 &&& (4 : Int32)) = (0 : Int32) then (0 : Int32) else (1 : Int32))), .val (.ref a155), .val (.ref a158), .val (.ref a161), .val (.ref a165), .unset, .unset, .unset, .unset, .unset] []))
      refine own_iloadN X171 hx (hb hby at_107) rfl (pc' := 108) rfl ?_
      refine own_iconst X171 hx (hb hby at_108) (z := (2 : Int32)) rfl (pc' := 109) rfl ?_
      refine own_icmpF X171 hx (hb hby at_109) (by decide) (pc' := 112) rfl ?_
      refine own_iload X171 hx (hb hby at_112) rfl (pc' := 114) rfl ?_
      by_cases c180 : (u1 &&& (2 : Int32)) = (0 : Int32)
      · refine own_cast (S' := T171.setTop (mkF m 114 #[.val (.int u0), .val (.int u1), .val (.int (2 : Int32)), .val (.int (0 : Int32)), .val (.int (0 : Int32)), .val (.int (if (u1 &&& (4 : Int32)) = (0 : Int32) then (0 : Int32) else (1 : Int32))), .val (.ref a155), .val (.ref a158), .val (.ref a161), .val (.ref a165), .unset, .unset, .unset, .unset, .unset] [(.int (0 : Int32))])) (by first | (simp only [if_pos c180]; done) | (rw [if_pos c180]; done) | (simp; done)) ?_
        refine own_ifT X171 hx (hb hby at_114) (by decide) (by decide) (pc' := 127) rfl ?_
        refine own_aload X171 hx (hb hby at_127) rfl rfl (pc' := 129) rfl ?_
        refine own_aload X171 hx (hb hby at_129) rfl rfl (pc' := 131) rfl ?_
        have f182 : Exa Z T171.heap a155 "com/example/slot3/slot3/frame/PostChain" := (f172.keep K171)
        have f183 : Exa Z T171.heap a161 "com/example/slot3/slot3/frame/Post" := ((A161.ext E165).keep K171)
        have f184 : Exa Z T171.heap a158 "com/example/slot3/slot3/frame/Post" := (f173.keep K171)
        have f185 : Fld Z T171.heap a161 "com/example/slot3/slot3/frame/Post" "following" "Lcom/example/slot3/slot3/frame/Post;" (.null) := ((F161_following.ext E165).keep K171 (ninS (Nat.ne_of_gt lt_a155_a161) (ninS (Nat.ne_of_gt lt_a158_a161) nin0)))
        have f186 : Fld Z T171.heap a161 "com/example/slot3/slot3/frame/Post" "previous" "Lcom/example/slot3/slot3/frame/Post;" (.null) := ((F161_previous.ext E165).keep K171 (ninS (Nat.ne_of_gt lt_a155_a161) (ninS (Nat.ne_of_gt lt_a158_a161) nin0)))
        have f187 : Fld Z T171.heap a161 "com/example/slot3/slot3/frame/Post" "chain" "Lcom/example/slot3/slot3/frame/PostChain;" (.null) := ((F161_chain.ext E165).keep K171 (ninS (Nat.ne_of_gt lt_a155_a161) (ninS (Nat.ne_of_gt lt_a158_a161) nin0)))
        have z188 : n0 ≤ T171.heap.size := (Nat.le_trans z169 K171.1)
        refine own_callV X171 hx hZ hown (ow_17 hw) (ow_18 hw) (ow_20 hw) (ow_19 hw) (ow_3 hw) (ow_21 hw) (by decide) f182 (rm_ap2 l Z a0 hw a155 a161 a158 ((0 : Int32) + (1 : Int32)) (.ref a158) .null .null .null .null .null (.ref a155) T171.heap n0 z188 f182 f183 p171_0 p171_1 p171_2 f184 f185 f186 f187 p171_3 p171_4 p171_5 ge_a155 ge_a161 ge_a158 (Nat.ne_of_lt lt_a155_a161) (Nat.ne_of_lt lt_a155_a158) (Nat.ne_of_gt lt_a158_a161)) rfl (W := 0) (by decide) (by decide) opd__Lcom_example_slot3_slot3_frame_Post__V rfl (rest := []) rfl (hb hby at_131) (Nat.le_of_eq rfl) (by rw [hml]; rfl) (by decide) (by decide) (pc' := 134) rfl ?_
        intro v181 T181 L181 X181 q181
        obtain ⟨rfl, Nq181, K181, p181_0, p181_1, p181_2, p181_3, p181_4, p181_5, p181_6, p181_7, p181_8⟩ := q181
        have N181 := Fr.app N171 Nq181
        show own_G p e below s _ _ _ (T181.setTop (mkF m 134 #[.val (.int u0), .val (.int u1), .val (.int (2 : Int32)), .val (.int (0 : Int32)), .val (.int (0 : Int32)), .val (.int (if (u1 &&& (4 : Int32)) = (0 : Int32) then (0 : Int32) else (1 : Int32))), .val (.ref a155), .val (.ref a158), .val (.ref a161), .val (.ref a165), .unset, .unset, .unset, .unset, .unset] []))
        refine own_iload X181 hx (hb hby at_134) rfl (pc' := 136) rfl ?_
        by_cases c189 : (u1 &&& (4 : Int32)) = (0 : Int32)
        · refine own_cast (S' := T181.setTop (mkF m 136 #[.val (.int u0), .val (.int u1), .val (.int (2 : Int32)), .val (.int (0 : Int32)), .val (.int (0 : Int32)), .val (.int (0 : Int32)), .val (.ref a155), .val (.ref a158), .val (.ref a161), .val (.ref a165), .unset, .unset, .unset, .unset, .unset] [(.int (0 : Int32))])) (by first | (simp only [if_pos c189]; done) | (rw [if_pos c189]; done) | (simp; done)) ?_
          refine own_ifT X181 hx (hb hby at_136) (by decide) (by decide) (pc' := 150) rfl ?_
          refine own_iloadN X181 hx (hb hby at_150) rfl (pc' := 151) rfl ?_
          refine own_ifT X181 hx (hb hby at_151) (by decide) (by decide) (pc' := 166) rfl ?_
          refine own_iloadN X181 hx (hb hby at_166) rfl (pc' := 167) rfl ?_
          refine own_iconst X181 hx (hb hby at_167) (z := (1 : Int32)) rfl (pc' := 168) rfl ?_
          refine own_icmpT X181 hx (hb hby at_168) (by decide) (by decide) (pc' := 202) rfl ?_
          refine own_iload X181 hx (hb hby at_202) rfl (pc' := 204) rfl ?_
          refine own_ifT X181 hx (hb hby at_204) (by decide) (by decide) (pc' := 212) rfl ?_
          refine own_aload X181 hx (hb hby at_212) rfl rfl (pc' := 214) rfl ?_
          refine own_astore X181 hx (hb hby at_214) rfl (l' := #[.val (.int u0), .val (.int u1), .val (.int (2 : Int32)), .val (.int (0 : Int32)), .val (.int (0 : Int32)), .val (.int (0 : Int32)), .val (.ref a155), .val (.ref a158), .val (.ref a161), .val (.ref a165), .unset, .unset, .unset, .val (.ref a158), .unset]) rfl (pc' := 216) rfl ?_
          refine own_iload X181 hx (hb hby at_216) rfl (pc' := 218) rfl ?_
          refine own_ifT X181 hx (hb hby at_218) (by decide) (by decide) (pc' := 226) rfl ?_
          refine own_aload X181 hx (hb hby at_226) rfl rfl (pc' := 228) rfl ?_
          refine own_astore X181 hx (hb hby at_228) rfl (l' := #[.val (.int u0), .val (.int u1), .val (.int (2 : Int32)), .val (.int (0 : Int32)), .val (.int (0 : Int32)), .val (.int (0 : Int32)), .val (.ref a155), .val (.ref a158), .val (.ref a161), .val (.ref a165), .unset, .unset, .unset, .val (.ref a158), .val (.ref a161)]) rfl (pc' := 230) rfl ?_
          refine own_iload X181 hx (hb hby at_230) rfl (pc' := 232) rfl ?_
          refine own_ifT X181 hx (hb hby at_232) (by decide) (by decide) (pc' := 249) rfl ?_
          refine own_iconst X181 hx (hb hby at_249) (z := (2 : Int32)) rfl (pc' := 250) rfl ?_
          refine own_istore X181 hx (hb hby at_250) (l' := #[.val (.int u0), .val (.int u1), .val (.int (2 : Int32)), .val (.int (0 : Int32)), .val (.int (0 : Int32)), .val (.int (0 : Int32)), .val (.ref a155), .val (.ref a158), .val (.ref a161), .val (.ref a165), .val (.int (2 : Int32)), .unset, .unset, .val (.ref a158), .val (.ref a161)]) rfl (pc' := 252) rfl ?_
          refine own_aload X181 hx (hb hby at_252) rfl rfl (pc' := 254) rfl ?_
          refine own_astore X181 hx (hb hby at_254) rfl (l' := #[.val (.int u0), .val (.int u1), .val (.int (2 : Int32)), .val (.int (0 : Int32)), .val (.int (0 : Int32)), .val (.int (0 : Int32)), .val (.ref a155), .val (.ref a158), .val (.ref a161), .val (.ref a165), .val (.int (2 : Int32)), .val (.ref a158), .unset, .val (.ref a158), .val (.ref a161)]) rfl (pc' := 256) rfl ?_
          refine own_aload X181 hx (hb hby at_256) rfl rfl (pc' := 258) rfl ?_
          refine own_astore X181 hx (hb hby at_258) rfl (l' := #[.val (.int u0), .val (.int u1), .val (.int (2 : Int32)), .val (.int (0 : Int32)), .val (.int (0 : Int32)), .val (.int (0 : Int32)), .val (.ref a155), .val (.ref a158), .val (.ref a161), .val (.ref a165), .val (.int (2 : Int32)), .val (.ref a158), .val (.ref a161), .val (.ref a158), .val (.ref a161)]) rfl (pc' := 260) rfl ?_
          refine own_aload X181 hx (hb hby at_260) rfl rfl (pc' := 262) rfl ?_
          refine own_aload X181 hx (hb hby at_262) rfl rfl (pc' := 264) rfl ?_
          have f191 : Exa Z T181.heap a155 "com/example/slot3/slot3/frame/PostChain" := (f182.keep K181)
          have f192 : Exa Z T181.heap a165 "com/example/slot3/slot3/frame/Post" := ((A165.keep K171).keep K181)
          have f193 : Exa Z T181.heap a161 "com/example/slot3/slot3/frame/Post" := (f183.keep K181)
          have f194 : Fld Z T181.heap a165 "com/example/slot3/slot3/frame/Post" "following" "Lcom/example/slot3/slot3/frame/Post;" (.null) := ((F165_following.keep K171 (ninS (Nat.ne_of_gt lt_a155_a165) (ninS (Nat.ne_of_gt lt_a158_a165) nin0))).keep K181 (ninS (Nat.ne_of_gt lt_a155_a165) (ninS (Nat.ne_of_gt lt_a161_a165) (ninS (Nat.ne_of_gt lt_a158_a165) nin0))))
          have f195 : Fld Z T181.heap a165 "com/example/slot3/slot3/frame/Post" "previous" "Lcom/example/slot3/slot3/frame/Post;" (.null) := ((F165_previous.keep K171 (ninS (Nat.ne_of_gt lt_a155_a165) (ninS (Nat.ne_of_gt lt_a158_a165) nin0))).keep K181 (ninS (Nat.ne_of_gt lt_a155_a165) (ninS (Nat.ne_of_gt lt_a161_a165) (ninS (Nat.ne_of_gt lt_a158_a165) nin0))))
          have f196 : Fld Z T181.heap a165 "com/example/slot3/slot3/frame/Post" "chain" "Lcom/example/slot3/slot3/frame/PostChain;" (.null) := ((F165_chain.keep K171 (ninS (Nat.ne_of_gt lt_a155_a165) (ninS (Nat.ne_of_gt lt_a158_a165) nin0))).keep K181 (ninS (Nat.ne_of_gt lt_a155_a165) (ninS (Nat.ne_of_gt lt_a161_a165) (ninS (Nat.ne_of_gt lt_a158_a165) nin0))))
          have z197 : n0 ≤ T181.heap.size := (Nat.le_trans z188 K181.1)
          refine own_callV X181 hx hZ hown (ow_17 hw) (ow_18 hw) (ow_20 hw) (ow_19 hw) (ow_3 hw) (ow_21 hw) (by decide) f191 (rm_ap2 l Z a0 hw a155 a165 a161 (((0 : Int32) + (1 : Int32)) + (1 : Int32)) (.ref a158) .null .null .null .null (.ref a158) (.ref a155) T181.heap n0 z197 f191 f192 p181_0 p181_1 p181_2 f193 f194 f195 f196 p181_3 p181_4 p181_5 ge_a155 ge_a165 ge_a161 (Nat.ne_of_lt lt_a155_a165) (Nat.ne_of_lt lt_a155_a161) (Nat.ne_of_gt lt_a161_a165)) rfl (W := 0) (by decide) (by decide) opd__Lcom_example_slot3_slot3_frame_Post__V rfl (rest := []) rfl (hb hby at_264) (Nat.le_of_eq rfl) (by rw [hml]; rfl) (by decide) (by decide) (pc' := 267) rfl ?_
          intro v190 T190 L190 X190 q190
          obtain ⟨rfl, Nq190, K190, p190_0, p190_1, p190_2, p190_3, p190_4, p190_5, p190_6, p190_7, p190_8⟩ := q190
          have N190 := Fr.app N181 Nq190
          show own_G p e below s _ _ _ (T190.setTop (mkF m 267 #[.val (.int u0), .val (.int u1), .val (.int (2 : Int32)), .val (.int (0 : Int32)), .val (.int (0 : Int32)), .val (.int (0 : Int32)), .val (.ref a155), .val (.ref a158), .val (.ref a161), .val (.ref a165), .val (.int (2 : Int32)), .val (.ref a158), .val (.ref a161), .val (.ref a158), .val (.ref a161)] []))
          refine own_aload X190 hx (hb hby at_267) rfl rfl (pc' := 269) rfl ?_
          refine own_getF X190 hx hZ hown (ow_32 hw) rfl p190_1 (hb hby at_269) (pc' := 272) rfl ?_
          intro T198 X198 e198
          refine own_aload X198 hx (hb hby at_272) rfl rfl (pc' := 274) rfl ?_
          refine own_acmpF X198 hx (hb hby at_274) rfl rfl (by simp [XT.acmp]) (pc' := 277) rfl ?_
          refine own_aload X198 hx (hb hby at_277) rfl rfl (pc' := 279) rfl ?_
          refine own_getF X198 hx hZ hown (ow_33 hw) e198 p190_5 (hb hby at_279) (pc' := 282) rfl ?_
          intro T199 X199 e199
          refine own_aload X199 hx (hb hby at_282) rfl rfl (pc' := 284) rfl ?_
          refine own_acmpF X199 hx (hb hby at_284) rfl rfl (by simp [XT.acmp]) (pc' := 287) rfl ?_
          refine own_aload X199 hx (hb hby at_287) rfl rfl (pc' := 289) rfl ?_
          refine own_getF X199 hx hZ hown (ow_34 hw) e199 p190_3 (hb hby at_289) (pc' := 292) rfl ?_
          intro T200 X200 e200
          refine own_ifnonnullF X200 hx (hb hby at_292) (pc' := 295) rfl ?_
          refine own_aload X200 hx (hb hby at_295) rfl rfl (pc' := 297) rfl ?_
          refine own_getF X200 hx hZ hown (ow_36 hw) e200 p190_4 (hb hby at_297) (pc' := 300) rfl ?_
          intro T201 X201 e201
          refine own_aload X201 hx (hb hby at_300) rfl rfl (pc' := 302) rfl ?_
          refine own_acmpF X201 hx (hb hby at_302) rfl rfl (by simp [XT.acmp]) (pc' := 305) rfl ?_
          refine own_aload X201 hx (hb hby at_305) rfl rfl (pc' := 307) rfl ?_
          refine own_getF X201 hx hZ hown (ow_37 hw) e201 p190_2 (hb hby at_307) (pc' := 310) rfl ?_
          intro T202 X202 e202
          refine own_iload X202 hx (hb hby at_310) rfl (pc' := 312) rfl ?_
          refine own_iconst X202 hx (hb hby at_312) (z := (1 : Int32)) rfl (pc' := 313) rfl ?_
          refine own_iadd X202 hx (hb hby at_313) (pc' := 314) rfl ?_
          refine own_icmpF X202 hx (hb hby at_314) (by decide) (pc' := 317) rfl ?_
          refine own_iconst X202 hx (hb hby at_317) (z := (1 : Int32)) rfl (pc' := 318) rfl ?_
          refine own_goto X202 hx (hb hby at_318) (by decide) (pc' := 322) rfl ?_
          refine own_istore X202 hx (hb hby at_322) (l' := #[.val (.int u0), .val (.int u1), .val (.int (2 : Int32)), .val (.int (0 : Int32)), .val (.int (0 : Int32)), .val (.int (0 : Int32)), .val (.ref a155), .val (.ref a158), .val (.ref a161), .val (.ref a165), .val (.int (2 : Int32)), .val (.ref a158), .val (.ref a161), .val (.int (1 : Int32)), .val (.ref a161)]) rfl (pc' := 324) rfl ?_
          refine own_aload X202 hx (hb hby at_324) rfl rfl (pc' := 326) rfl ?_
          refine own_ifnonnullT X202 hx (hb hby at_326) (by decide) (pc' := 354) rfl ?_
          refine own_iload X202 hx (hb hby at_354) rfl (pc' := 356) rfl ?_
          refine own_ifF X202 hx (hb hby at_356) (by decide) (pc' := 359) rfl ?_
          refine own_aload X202 hx (hb hby at_359) rfl rfl (pc' := 361) rfl ?_
          refine own_getF X202 hx hZ hown (ow_38 hw) e202 p190_0 (hb hby at_361) (pc' := 364) rfl ?_
          intro T203 X203 e203
          refine own_aload X203 hx (hb hby at_364) rfl rfl (pc' := 366) rfl ?_
          refine own_acmpF X203 hx (hb hby at_366) rfl rfl (by simp [XT.acmp]) (pc' := 369) rfl ?_
          refine own_aload X203 hx (hb hby at_369) rfl rfl (pc' := 371) rfl ?_
          refine own_getF X203 hx hZ hown (ow_34 hw) e203 p190_6 (hb hby at_371) (pc' := 374) rfl ?_
          intro T204 X204 e204
          refine own_aload X204 hx (hb hby at_374) rfl rfl (pc' := 376) rfl ?_
          refine own_acmpF X204 hx (hb hby at_376) rfl rfl (by simp [XT.acmp]) (pc' := 379) rfl ?_
          refine own_aload X204 hx (hb hby at_379) rfl rfl (pc' := 381) rfl ?_
          have f205 : Fld Z T190.heap a158 "com/example/slot3/slot3/frame/Post" "previous" "Lcom/example/slot3/slot3/frame/Post;" (.null) := (p181_7.keep K190 (ninS (Nat.ne_of_gt lt_a155_a158) (ninS (Nat.ne_of_lt lt_a158_a165) (ninS (Nat.ne_of_lt lt_a158_a161) nin0))))
          refine own_getF X204 hx hZ hown (ow_36 hw) e204 f205 (hb hby at_381) (pc' := 384) rfl ?_
          intro T206 X206 e206
          refine own_ifnonnullF X206 hx (hb hby at_384) (pc' := 387) rfl ?_
          refine own_aload X206 hx (hb hby at_387) rfl rfl (pc' := 389) rfl ?_
          refine own_getF X206 hx hZ hown (ow_33 hw) e206 p190_8 (hb hby at_389) (pc' := 392) rfl ?_
          intro T207 X207 e207
          refine own_aload X207 hx (hb hby at_392) rfl rfl (pc' := 394) rfl ?_
          refine own_acmpF X207 hx (hb hby at_394) rfl rfl (by simp [XT.acmp]) (pc' := 397) rfl ?_
          refine own_iconst X207 hx (hb hby at_397) (z := (1 : Int32)) rfl (pc' := 398) rfl ?_
          refine own_goto X207 hx (hb hby at_398) (by decide) (pc' := 402) rfl ?_
          refine own_istore X207 hx (hb hby at_402) (l' := #[.val (.int u0), .val (.int u1), .val (.int (2 : Int32)), .val (.int (0 : Int32)), .val (.int (0 : Int32)), .val (.int (0 : Int32)), .val (.ref a155), .val (.ref a158), .val (.ref a161), .val (.ref a165), .val (.int (2 : Int32)), .val (.ref a158), .val (.ref a161), .val (.int (1 : Int32)), .val (.ref a161)]) rfl (pc' := 404) rfl ?_
          refine own_iload X207 hx (hb hby at_404) rfl (pc' := 406) rfl ?_
          refine own_iconst X207 hx (hb hby at_406) (z := (2 : Int32)) rfl (pc' := 407) rfl ?_
          refine own_icmpF X207 hx (hb hby at_407) (by decide) (pc' := 410) rfl ?_
          refine own_iload X207 hx (hb hby at_410) rfl (pc' := 412) rfl ?_
          refine own_ifF X207 hx (hb hby at_412) (by decide) (pc' := 415) rfl ?_
          refine own_aload X207 hx (hb hby at_415) rfl rfl (pc' := 417) rfl ?_
          have f208 : Fld Z T190.heap a158 "com/example/slot3/slot3/frame/Post" "following" "Lcom/example/slot3/slot3/frame/Post;" (.ref a161) := (p181_6.keep K190 (ninS (Nat.ne_of_gt lt_a155_a158) (ninS (Nat.ne_of_lt lt_a158_a165) (ninS (Nat.ne_of_lt lt_a158_a161) nin0))))
          refine own_getF X207 hx hZ hown (ow_34 hw) e207 f208 (hb hby at_417) (pc' := 420) rfl ?_
          intro T209 X209 e209
          refine own_aload X209 hx (hb hby at_420) rfl rfl (pc' := 422) rfl ?_
          refine own_acmpF X209 hx (hb hby at_422) rfl rfl (by simp [XT.acmp]) (pc' := 425) rfl ?_
          refine own_aload X209 hx (hb hby at_425) rfl rfl (pc' := 427) rfl ?_
          refine own_getF X209 hx hZ hown (ow_36 hw) e209 p190_7 (hb hby at_427) (pc' := 430) rfl ?_
          intro T210 X210 e210
          refine own_aload X210 hx (hb hby at_430) rfl rfl (pc' := 432) rfl ?_
          refine own_acmpF X210 hx (hb hby at_432) rfl rfl (by simp [XT.acmp]) (pc' := 435) rfl ?_
          refine own_iconst X210 hx (hb hby at_435) (z := (1 : Int32)) rfl (pc' := 436) rfl ?_
          refine own_goto X210 hx (hb hby at_436) (by decide) (pc' := 440) rfl ?_
          refine own_istore X210 hx (hb hby at_440) (l' := #[.val (.int u0), .val (.int u1), .val (.int (2 : Int32)), .val (.int (0 : Int32)), .val (.int (0 : Int32)), .val (.int (0 : Int32)), .val (.ref a155), .val (.ref a158), .val (.ref a161), .val (.ref a165), .val (.int (2 : Int32)), .val (.ref a158), .val (.ref a161), .val (.int (1 : Int32)), .val (.ref a161)]) rfl (pc' := 442) rfl ?_
          refine own_iload X210 hx (hb hby at_442) rfl (pc' := 444) rfl ?_
          exact own_retZ X210 hx hret hlk (Or.inr rfl) (hb hby at_444) ⟨rfl, N190⟩ (by decide) (by decide)
        · refine own_cast (S' := T181.setTop (mkF m 136 #[.val (.int u0), .val (.int u1), .val (.int (2 : Int32)), .val (.int (0 : Int32)), .val (.int (0 : Int32)), .val (.int (1 : Int32)), .val (.ref a155), .val (.ref a158), .val (.ref a161), .val (.ref a165), .unset, .unset, .unset, .unset, .unset] [(.int (1 : Int32))])) (by first | (simp only [if_neg c189]; done) | (rw [if_neg c189]; done) | (simp; done)) ?_
          refine own_ifF X181 hx (hb hby at_136) (by decide) (pc' := 139) rfl ?_
          refine own_iloadN X181 hx (hb hby at_139) rfl (pc' := 140) rfl ?_
          refine own_iconst X181 hx (hb hby at_140) (z := (1 : Int32)) rfl (pc' := 141) rfl ?_
          refine own_icmpF X181 hx (hb hby at_141) (by decide) (pc' := 144) rfl ?_
          refine own_aload X181 hx (hb hby at_144) rfl rfl (pc' := 146) rfl ?_
          have f212 : Exa Z T181.heap a155 "com/example/slot3/slot3/frame/PostChain" := (f182.keep K181)
          have f213 : Exa Z T181.heap a158 "com/example/slot3/slot3/frame/Post" := (f184.keep K181)
          have f214 : Exa Z T181.heap a161 "com/example/slot3/slot3/frame/Post" := (f183.keep K181)
          have z215 : n0 ≤ T181.heap.size := (Nat.le_trans z188 K181.1)
          refine own_callV X181 hx hZ hown (ow_45 hw) (ow_46 hw) (ow_48 hw) (ow_47 hw) (ow_3 hw) (ow_49 hw) (by decide) f212 (rm_tfr l Z a0 hw a155 a158 a161 (((0 : Int32) + (1 : Int32)) + (1 : Int32)) (.ref a161) (.ref a155) .null (.ref a158) (.ref a155) T181.heap n0 z215 f212 p181_0 p181_1 p181_2 f213 p181_6 p181_7 p181_8 f214 p181_3 p181_4 p181_5 ge_a155 ge_a158 ge_a161 (Nat.ne_of_lt lt_a155_a158) (Nat.ne_of_lt lt_a155_a161) (Nat.ne_of_lt lt_a158_a161)) rfl (W := 0) (by decide) (by decide) opd___Lcom_example_slot3_slot3_frame_Post_ rfl (rest := []) rfl (hb hby at_146) (Nat.le_of_eq rfl) (by rw [hml]; rfl) (by decide) (by decide) (pc' := 149) rfl ?_
          intro v211 T211 L211 X211 q211
          obtain ⟨rfl, Nq211, K211, p211_0, p211_1, p211_2, p211_3, p211_4, p211_5, p211_6, p211_7, p211_8⟩ := q211
          have N211 := Fr.app N181 Nq211
          show own_G p e below s _ _ _ (T211.setTop (mkF m 149 #[.val (.int u0), .val (.int u1), .val (.int (2 : Int32)), .val (.int (0 : Int32)), .val (.int (0 : Int32)), .val (.int (1 : Int32)), .val (.ref a155), .val (.ref a158), .val (.ref a161), .val (.ref a165), .unset, .unset, .unset, .unset, .unset] [(.ref a158)]))
          refine own_pop X211 hx (hb hby at_149) rfl (pc' := 150) rfl ?_
          refine own_iloadN X211 hx (hb hby at_150) rfl (pc' := 151) rfl ?_
          refine own_ifT X211 hx (hb hby at_151) (by decide) (by decide) (pc' := 166) rfl ?_
          refine own_iloadN X211 hx (hb hby at_166) rfl (pc' := 167) rfl ?_
          refine own_iconst X211 hx (hb hby at_167) (z := (1 : Int32)) rfl (pc' := 168) rfl ?_
          refine own_icmpT X211 hx (hb hby at_168) (by decide) (by decide) (pc' := 202) rfl ?_
          refine own_iload X211 hx (hb hby at_202) rfl (pc' := 204) rfl ?_
          refine own_ifT X211 hx (hb hby at_204) (by decide) (by decide) (pc' := 212) rfl ?_
          refine own_aload X211 hx (hb hby at_212) rfl rfl (pc' := 214) rfl ?_
          refine own_astore X211 hx (hb hby at_214) rfl (l' := #[.val (.int u0), .val (.int u1), .val (.int (2 : Int32)), .val (.int (0 : Int32)), .val (.int (0 : Int32)), .val (.int (1 : Int32)), .val (.ref a155), .val (.ref a158), .val (.ref a161), .val (.ref a165), .unset, .unset, .unset, .val (.ref a158), .unset]) rfl (pc' := 216) rfl ?_
          refine own_iload X211 hx (hb hby at_216) rfl (pc' := 218) rfl ?_
          refine own_ifT X211 hx (hb hby at_218) (by decide) (by decide) (pc' := 226) rfl ?_
          refine own_aload X211 hx (hb hby at_226) rfl rfl (pc' := 228) rfl ?_
          refine own_astore X211 hx (hb hby at_228) rfl (l' := #[.val (.int u0), .val (.int u1), .val (.int (2 : Int32)), .val (.int (0 : Int32)), .val (.int (0 : Int32)), .val (.int (1 : Int32)), .val (.ref a155), .val (.ref a158), .val (.ref a161), .val (.ref a165), .unset, .unset, .unset, .val (.ref a158), .val (.ref a161)]) rfl (pc' := 230) rfl ?_
          refine own_iload X211 hx (hb hby at_230) rfl (pc' := 232) rfl ?_
          refine own_ifF X211 hx (hb hby at_232) (by decide) (pc' := 235) rfl ?_
          refine own_iconst X211 hx (hb hby at_235) (z := (1 : Int32)) rfl (pc' := 236) rfl ?_
          refine own_istore X211 hx (hb hby at_236) (l' := #[.val (.int u0), .val (.int u1), .val (.int (2 : Int32)), .val (.int (0 : Int32)), .val (.int (0 : Int32)), .val (.int (1 : Int32)), .val (.ref a155), .val (.ref a158), .val (.ref a161), .val (.ref a165), .val (.int (1 : Int32)), .unset, .unset, .val (.ref a158), .val (.ref a161)]) rfl (pc' := 238) rfl ?_
          refine own_aload X211 hx (hb hby at_238) rfl rfl (pc' := 240) rfl ?_
          refine own_astore X211 hx (hb hby at_240) rfl (l' := #[.val (.int u0), .val (.int u1), .val (.int (2 : Int32)), .val (.int (0 : Int32)), .val (.int (0 : Int32)), .val (.int (1 : Int32)), .val (.ref a155), .val (.ref a158), .val (.ref a161), .val (.ref a165), .val (.int (1 : Int32)), .val (.ref a161), .unset, .val (.ref a158), .val (.ref a161)]) rfl (pc' := 242) rfl ?_
          refine own_aload X211 hx (hb hby at_242) rfl rfl (pc' := 244) rfl ?_
          refine own_astore X211 hx (hb hby at_244) rfl (l' := #[.val (.int u0), .val (.int u1), .val (.int (2 : Int32)), .val (.int (0 : Int32)), .val (.int (0 : Int32)), .val (.int (1 : Int32)), .val (.ref a155), .val (.ref a158), .val (.ref a161), .val (.ref a165), .val (.int (1 : Int32)), .val (.ref a161), .val (.ref a161), .val (.ref a158), .val (.ref a161)]) rfl (pc' := 246) rfl ?_
          refine own_goto X211 hx (hb hby at_246) (by decide) (pc' := 260) rfl ?_
          refine own_aload X211 hx (hb hby at_260) rfl rfl (pc' := 262) rfl ?_
          refine own_aload X211 hx (hb hby at_262) rfl rfl (pc' := 264) rfl ?_
          have f217 : Exa Z T211.heap a155 "com/example/slot3/slot3/frame/PostChain" := (f212.keep K211)
          have f218 : Exa Z T211.heap a165 "com/example/slot3/slot3/frame/Post" := (((A165.keep K171).keep K181).keep K211)
          have f219 : Exa Z T211.heap a161 "com/example/slot3/slot3/frame/Post" := (f214.keep K211)
          have f220 : Fld Z T211.heap a165 "com/example/slot3/slot3/frame/Post" "following" "Lcom/example/slot3/slot3/frame/Post;" (.null) := (((F165_following.keep K171 (ninS (Nat.ne_of_gt lt_a155_a165) (ninS (Nat.ne_of_gt lt_a158_a165) nin0))).keep K181 (ninS (Nat.ne_of_gt lt_a155_a165) (ninS (Nat.ne_of_gt lt_a161_a165) (ninS (Nat.ne_of_gt lt_a158_a165) nin0)))).keep K211 (ninS (Nat.ne_of_gt lt_a155_a165) (ninS (Nat.ne_of_gt lt_a158_a165) (ninS (Nat.ne_of_gt lt_a161_a165) nin0))))
          have f221 : Fld Z T211.heap a165 "com/example/slot3/slot3/frame/Post" "previous" "Lcom/example/slot3/slot3/frame/Post;" (.null) := (((F165_previous.keep K171 (ninS (Nat.ne_of_gt lt_a155_a165) (ninS (Nat.ne_of_gt lt_a158_a165) nin0))).keep K181 (ninS (Nat.ne_of_gt lt_a155_a165) (ninS (Nat.ne_of_gt lt_a161_a165) (ninS (Nat.ne_of_gt lt_a158_a165) nin0)))).keep K211 (ninS (Nat.ne_of_gt lt_a155_a165) (ninS (Nat.ne_of_gt lt_a158_a165) (ninS (Nat.ne_of_gt lt_a161_a165) nin0))))
          have f222 : Fld Z T211.heap a165 "com/example/slot3/slot3/frame/Post" "chain" "Lcom/example/slot3/slot3/frame/PostChain;" (.null) := (((F165_chain.keep K171 (ninS (Nat.ne_of_gt lt_a155_a165) (ninS (Nat.ne_of_gt lt_a158_a165) nin0))).keep K181 (ninS (Nat.ne_of_gt lt_a155_a165) (ninS (Nat.ne_of_gt lt_a161_a165) (ninS (Nat.ne_of_gt lt_a158_a165) nin0)))).keep K211 (ninS (Nat.ne_of_gt lt_a155_a165) (ninS (Nat.ne_of_gt lt_a158_a165) (ninS (Nat.ne_of_gt lt_a161_a165) nin0))))
          have z223 : n0 ≤ T211.heap.size := (Nat.le_trans z215 K211.1)
          refine own_callV X211 hx hZ hown (ow_17 hw) (ow_18 hw) (ow_20 hw) (ow_19 hw) (ow_3 hw) (ow_21 hw) (by decide) f217 (rm_ap2 l Z a0 hw a155 a165 a161 ((((0 : Int32) + (1 : Int32)) + (1 : Int32)) - (1 : Int32)) (.ref a161) .null .null .null .null .null (.ref a155) T211.heap n0 z223 f217 f218 p211_0 p211_1 p211_2 f219 f220 f221 f222 p211_6 p211_7 p211_8 ge_a155 ge_a165 ge_a161 (Nat.ne_of_lt lt_a155_a165) (Nat.ne_of_lt lt_a155_a161) (Nat.ne_of_gt lt_a161_a165)) rfl (W := 0) (by decide) (by decide) opd__Lcom_example_slot3_slot3_frame_Post__V rfl (rest := []) rfl (hb hby at_264) (Nat.le_of_eq rfl) (by rw [hml]; rfl) (by decide) (by decide) (pc' := 267) rfl ?_
          intro v216 T216 L216 X216 q216
          obtain ⟨rfl, Nq216, K216, p216_0, p216_1, p216_2, p216_3, p216_4, p216_5, p216_6, p216_7, p216_8⟩ := q216
          have N216 := Fr.app N211 Nq216
          show own_G p e below s _ _ _ (T216.setTop (mkF m 267 #[.val (.int u0), .val (.int u1), .val (.int (2 : Int32)), .val (.int (0 : Int32)), .val (.int (0 : Int32)), .val (.int (1 : Int32)), .val (.ref a155), .val (.ref a158), .val (.ref a161), .val (.ref a165), .val (.int (1 : Int32)), .val (.ref a161), .val (.ref a161), .val (.ref a158), .val (.ref a161)] []))
          refine own_aload X216 hx (hb hby at_267) rfl rfl (pc' := 269) rfl ?_
          refine own_getF X216 hx hZ hown (ow_32 hw) rfl p216_1 (hb hby at_269) (pc' := 272) rfl ?_
          intro T224 X224 e224
          refine own_aload X224 hx (hb hby at_272) rfl rfl (pc' := 274) rfl ?_
          refine own_acmpF X224 hx (hb hby at_274) rfl rfl (by simp [XT.acmp]) (pc' := 277) rfl ?_
          refine own_aload X224 hx (hb hby at_277) rfl rfl (pc' := 279) rfl ?_
          refine own_getF X224 hx hZ hown (ow_33 hw) e224 p216_5 (hb hby at_279) (pc' := 282) rfl ?_
          intro T225 X225 e225
          refine own_aload X225 hx (hb hby at_282) rfl rfl (pc' := 284) rfl ?_
          refine own_acmpF X225 hx (hb hby at_284) rfl rfl (by simp [XT.acmp]) (pc' := 287) rfl ?_
          refine own_aload X225 hx (hb hby at_287) rfl rfl (pc' := 289) rfl ?_
          refine own_getF X225 hx hZ hown (ow_34 hw) e225 p216_3 (hb hby at_289) (pc' := 292) rfl ?_
          intro T226 X226 e226
          refine own_ifnonnullF X226 hx (hb hby at_292) (pc' := 295) rfl ?_
          refine own_aload X226 hx (hb hby at_295) rfl rfl (pc' := 297) rfl ?_
          refine own_getF X226 hx hZ hown (ow_36 hw) e226 p216_4 (hb hby at_297) (pc' := 300) rfl ?_
          intro T227 X227 e227
          refine own_aload X227 hx (hb hby at_300) rfl rfl (pc' := 302) rfl ?_
          refine own_acmpF X227 hx (hb hby at_302) rfl rfl (by simp [XT.acmp]) (pc' := 305) rfl ?_
          refine own_aload X227 hx (hb hby at_305) rfl rfl (pc' := 307) rfl ?_
          refine own_getF X227 hx hZ hown (ow_37 hw) e227 p216_2 (hb hby at_307) (pc' := 310) rfl ?_
          intro T228 X228 e228
          refine own_iload X228 hx (hb hby at_310) rfl (pc' := 312) rfl ?_
          refine own_iconst X228 hx (hb hby at_312) (z := (1 : Int32)) rfl (pc' := 313) rfl ?_
          refine own_iadd X228 hx (hb hby at_313) (pc' := 314) rfl ?_
          refine own_icmpF X228 hx (hb hby at_314) (by decide) (pc' := 317) rfl ?_
          refine own_iconst X228 hx (hb hby at_317) (z := (1 : Int32)) rfl (pc' := 318) rfl ?_
          refine own_goto X228 hx (hb hby at_318) (by decide) (pc' := 322) rfl ?_
          refine own_istore X228 hx (hb hby at_322) (l' := #[.val (.int u0), .val (.int u1), .val (.int (2 : Int32)), .val (.int (0 : Int32)), .val (.int (0 : Int32)), .val (.int (1 : Int32)), .val (.ref a155), .val (.ref a158), .val (.ref a161), .val (.ref a165), .val (.int (1 : Int32)), .val (.ref a161), .val (.ref a161), .val (.int (1 : Int32)), .val (.ref a161)]) rfl (pc' := 324) rfl ?_
          refine own_aload X228 hx (hb hby at_324) rfl rfl (pc' := 326) rfl ?_
          refine own_ifnonnullT X228 hx (hb hby at_326) (by decide) (pc' := 354) rfl ?_
          refine own_iload X228 hx (hb hby at_354) rfl (pc' := 356) rfl ?_
          refine own_ifF X228 hx (hb hby at_356) (by decide) (pc' := 359) rfl ?_
          refine own_aload X228 hx (hb hby at_359) rfl rfl (pc' := 361) rfl ?_
          refine own_getF X228 hx hZ hown (ow_38 hw) e228 p216_0 (hb hby at_361) (pc' := 364) rfl ?_
          intro T229 X229 e229
          refine own_aload X229 hx (hb hby at_364) rfl rfl (pc' := 366) rfl ?_
          refine own_acmpF X229 hx (hb hby at_366) rfl rfl (by simp [XT.acmp]) (pc' := 369) rfl ?_
          refine own_aload X229 hx (hb hby at_369) rfl rfl (pc' := 371) rfl ?_
          refine own_getF X229 hx hZ hown (ow_34 hw) e229 p216_6 (hb hby at_371) (pc' := 374) rfl ?_
          intro T230 X230 e230
          refine own_aload X230 hx (hb hby at_374) rfl rfl (pc' := 376) rfl ?_
          refine own_acmpF X230 hx (hb hby at_376) rfl rfl (by simp [XT.acmp]) (pc' := 379) rfl ?_
          refine own_aload X230 hx (hb hby at_379) rfl rfl (pc' := 381) rfl ?_
          refine own_getF X230 hx hZ hown (ow_36 hw) e230 p216_7 (hb hby at_381) (pc' := 384) rfl ?_
          intro T231 X231 e231
          refine own_ifnonnullF X231 hx (hb hby at_384) (pc' := 387) rfl ?_
          refine own_aload X231 hx (hb hby at_387) rfl rfl (pc' := 389) rfl ?_
          refine own_getF X231 hx hZ hown (ow_33 hw) e231 p216_8 (hb hby at_389) (pc' := 392) rfl ?_
          intro T232 X232 e232
          refine own_aload X232 hx (hb hby at_392) rfl rfl (pc' := 394) rfl ?_
          refine own_acmpF X232 hx (hb hby at_394) rfl rfl (by simp [XT.acmp]) (pc' := 397) rfl ?_
          refine own_iconst X232 hx (hb hby at_397) (z := (1 : Int32)) rfl (pc' := 398) rfl ?_
          refine own_goto X232 hx (hb hby at_398) (by decide) (pc' := 402) rfl ?_
          refine own_istore X232 hx (hb hby at_402) (l' := #[.val (.int u0), .val (.int u1), .val (.int (2 : Int32)), .val (.int (0 : Int32)), .val (.int (0 : Int32)), .val (.int (1 : Int32)), .val (.ref a155), .val (.ref a158), .val (.ref a161), .val (.ref a165), .val (.int (1 : Int32)), .val (.ref a161), .val (.ref a161), .val (.int (1 : Int32)), .val (.ref a161)]) rfl (pc' := 404) rfl ?_
          refine own_iload X232 hx (hb hby at_404) rfl (pc' := 406) rfl ?_
          refine own_iconst X232 hx (hb hby at_406) (z := (2 : Int32)) rfl (pc' := 407) rfl ?_
          refine own_icmpT X232 hx (hb hby at_407) (by decide) (by decide) (pc' := 442) rfl ?_
          refine own_iload X232 hx (hb hby at_442) rfl (pc' := 444) rfl ?_
          exact own_retZ X232 hx hret hlk (Or.inr rfl) (hb hby at_444) ⟨rfl, N216⟩ (by decide) (by decide)
      · refine own_cast (S' := T171.setTop (mkF m 114 #[.val (.int u0), .val (.int u1), .val (.int (2 : Int32)), .val (.int (0 : Int32)), .val (.int (1 : Int32)), .val (.int (if (u1 &&& (4 : Int32)) = (0 : Int32) then (0 : Int32) else (1 : Int32))), .val (.ref a155), .val (.ref a158), .val (.ref a161), .val (.ref a165), .unset, .unset, .unset, .unset, .unset] [(.int (1 : Int32))])) (by first | (simp only [if_neg c180]; done) | (rw [if_neg c180]; done) | (simp; done)) ?_
        refine own_ifF X171 hx (hb hby at_114) (by decide) (pc' := 117) rfl ?_
        refine own_aload X171 hx (hb hby at_117) rfl rfl (pc' := 119) rfl ?_
        refine own_aload X171 hx (hb hby at_119) rfl rfl (pc' := 121) rfl ?_
        have f234 : Exa Z T171.heap a155 "com/example/slot3/slot3/frame/PostChain" := (f172.keep K171)
        have f235 : Exa Z T171.heap a161 "com/example/slot3/slot3/frame/Post" := ((A161.ext E165).keep K171)
        have f236 : Exa Z T171.heap a158 "com/example/slot3/slot3/frame/Post" := (f173.keep K171)
        have f237 : Fld Z T171.heap a161 "com/example/slot3/slot3/frame/Post" "following" "Lcom/example/slot3/slot3/frame/Post;" (.null) := ((F161_following.ext E165).keep K171 (ninS (Nat.ne_of_gt lt_a155_a161) (ninS (Nat.ne_of_gt lt_a158_a161) nin0)))
        have f238 : Fld Z T171.heap a161 "com/example/slot3/slot3/frame/Post" "previous" "Lcom/example/slot3/slot3/frame/Post;" (.null) := ((F161_previous.ext E165).keep K171 (ninS (Nat.ne_of_gt lt_a155_a161) (ninS (Nat.ne_of_gt lt_a158_a161) nin0)))
        have f239 : Fld Z T171.heap a161 "com/example/slot3/slot3/frame/Post" "chain" "Lcom/example/slot3/slot3/frame/PostChain;" (.null) := ((F161_chain.ext E165).keep K171 (ninS (Nat.ne_of_gt lt_a155_a161) (ninS (Nat.ne_of_gt lt_a158_a161) nin0)))
        have z240 : n0 ≤ T171.heap.size := (Nat.le_trans z169 K171.1)
        refine own_callV X171 hx hZ hown (ow_39 hw) (ow_40 hw) (ow_42 hw) (ow_41 hw) (ow_3 hw) (ow_43 hw) (by decide) f234 (rm_pu2 l Z a0 hw a155 a161 a158 ((0 : Int32) + (1 : Int32)) (.ref a158) .null .null .null .null .null (.ref a155) T171.heap n0 z240 f234 f235 p171_0 p171_1 p171_2 f236 f237 f238 f239 p171_3 p171_4 p171_5 ge_a155 ge_a161 ge_a158 (Nat.ne_of_lt lt_a155_a161) (Nat.ne_of_lt lt_a155_a158) (Nat.ne_of_gt lt_a158_a161)) rfl (W := 0) (by decide) (by decide) opd__Lcom_example_slot3_slot3_frame_Post__V rfl (rest := []) rfl (hb hby at_121) (Nat.le_of_eq rfl) (by rw [hml]; rfl) (by decide) (by decide) (pc' := 124) rfl ?_
        intro v233 T233 L233 X233 q233
        obtain ⟨rfl, Nq233, K233, p233_0, p233_1, p233_2, p233_3, p233_4, p233_5, p233_6, p233_7, p233_8⟩ := q233
        have N233 := Fr.app N171 Nq233
        show own_G p e below s _ _ _ (T233.setTop (mkF m 124 #[.val (.int u0), .val (.int u1), .val (.int (2 : Int32)), .val (.int (0 : Int32)), .val (.int (1 : Int32)), .val (.int (if (u1 &&& (4 : Int32)) = (0 : Int32) then (0 : Int32) else (1 : Int32))), .val (.ref a155), .val (.ref a158), .val (.ref a161), .val (.ref a165), .unset, .unset, .unset, .unset, .unset] []))
        refine own_goto X233 hx (hb hby at_124) (by decide) (pc' := 134) rfl ?_
        refine own_iload X233 hx (hb hby at_134) rfl (pc' := 136) rfl ?_
        by_cases c241 : (u1 &&& (4 : Int32)) = (0 : Int32)
        · refine own_cast (S' := T233.setTop (mkF m 136 #[.val (.int u0), .val (.int u1), .val (.int (2 : Int32)), .val (.int (0 : Int32)), .val (.int (1 : Int32)), .val (.int (0 : Int32)), .val (.ref a155), .val (.ref a158), .val (.ref a161), .val (.ref a165), .unset, .unset, .unset, .unset, .unset] [(.int (0 : Int32))])) (by first | (simp only [if_pos c241]; done) | (rw [if_pos c241]; done) | (simp; done)) ?_
          refine own_ifT X233 hx (hb hby at_136) (by decide) (by decide) (pc' := 150) rfl ?_
          refine own_iloadN X233 hx (hb hby at_150) rfl (pc' := 151) rfl ?_
          refine own_ifT X233 hx (hb hby at_151) (by decide) (by decide) (pc' := 166) rfl ?_
          refine own_iloadN X233 hx (hb hby at_166) rfl (pc' := 167) rfl ?_
          refine own_iconst X233 hx (hb hby at_167) (z := (1 : Int32)) rfl (pc' := 168) rfl ?_
          refine own_icmpT X233 hx (hb hby at_168) (by decide) (by decide) (pc' := 202) rfl ?_
          refine own_iload X233 hx (hb hby at_202) rfl (pc' := 204) rfl ?_
          refine own_ifF X233 hx (hb hby at_204) (by decide) (pc' := 207) rfl ?_
          refine own_aload X233 hx (hb hby at_207) rfl rfl (pc' := 209) rfl ?_
          refine own_goto X233 hx (hb hby at_209) (by decide) (pc' := 214) rfl ?_
          refine own_astore X233 hx (hb hby at_214) rfl (l' := #[.val (.int u0), .val (.int u1), .val (.int (2 : Int32)), .val (.int (0 : Int32)), .val (.int (1 : Int32)), .val (.int (0 : Int32)), .val (.ref a155), .val (.ref a158), .val (.ref a161), .val (.ref a165), .unset, .unset, .unset, .val (.ref a161), .unset]) rfl (pc' := 216) rfl ?_
          refine own_iload X233 hx (hb hby at_216) rfl (pc' := 218) rfl ?_
          refine own_ifF X233 hx (hb hby at_218) (by decide) (pc' := 221) rfl ?_
          refine own_aload X233 hx (hb hby at_221) rfl rfl (pc' := 223) rfl ?_
          refine own_goto X233 hx (hb hby at_223) (by decide) (pc' := 228) rfl ?_
          refine own_astore X233 hx (hb hby at_228) rfl (l' := #[.val (.int u0), .val (.int u1), .val (.int (2 : Int32)), .val (.int (0 : Int32)), .val (.int (1 : Int32)), .val (.int (0 : Int32)), .val (.ref a155), .val (.ref a158), .val (.ref a161), .val (.ref a165), .unset, .unset, .unset, .val (.ref a161), .val (.ref a158)]) rfl (pc' := 230) rfl ?_
          refine own_iload X233 hx (hb hby at_230) rfl (pc' := 232) rfl ?_
          refine own_ifT X233 hx (hb hby at_232) (by decide) (by decide) (pc' := 249) rfl ?_
          refine own_iconst X233 hx (hb hby at_249) (z := (2 : Int32)) rfl (pc' := 250) rfl ?_
          refine own_istore X233 hx (hb hby at_250) (l' := #[.val (.int u0), .val (.int u1), .val (.int (2 : Int32)), .val (.int (0 : Int32)), .val (.int (1 : Int32)), .val (.int (0 : Int32)), .val (.ref a155), .val (.ref a158), .val (.ref a161), .val (.ref a165), .val (.int (2 : Int32)), .unset, .unset, .val (.ref a161), .val (.ref a158)]) rfl (pc' := 252) rfl ?_
          refine own_aload X233 hx (hb hby at_252) rfl rfl (pc' := 254) rfl ?_
          refine own_astore X233 hx (hb hby at_254) rfl (l' := #[.val (.int u0), .val (.int u1), .val (.int (2 : Int32)), .val (.int (0 : Int32)), .val (.int (1 : Int32)), .val (.int (0 : Int32)), .val (.ref a155), .val (.ref a158), .val (.ref a161), .val (.ref a165), .val (.int (2 : Int32)), .val (.ref a161), .unset, .val (.ref a161), .val (.ref a158)]) rfl (pc' := 256) rfl ?_
          refine own_aload X233 hx (hb hby at_256) rfl rfl (pc' := 258) rfl ?_
          refine own_astore X233 hx (hb hby at_258) rfl (l' := #[.val (.int u0), .val (.int u1), .val (.int (2 : Int32)), .val (.int (0 : Int32)), .val (.int (1 : Int32)), .val (.int (0 : Int32)), .val (.ref a155), .val (.ref a158), .val (.ref a161), .val (.ref a165), .val (.int (2 : Int32)), .val (.ref a161), .val (.ref a158), .val (.ref a161), .val (.ref a158)]) rfl (pc' := 260) rfl ?_
          refine own_aload X233 hx (hb hby at_260) rfl rfl (pc' := 262) rfl ?_
          refine own_aload X233 hx (hb hby at_262) rfl rfl (pc' := 264) rfl ?_
          have f243 : Exa Z T233.heap a155 "com/example/slot3/slot3/frame/PostChain" := (f234.keep K233)
          have f244 : Exa Z T233.heap a165 "com/example/slot3/slot3/frame/Post" := ((A165.keep K171).keep K233)
          have f245 : Exa Z T233.heap a158 "com/example/slot3/slot3/frame/Post" := (f236.keep K233)
          have f246 : Fld Z T233.heap a165 "com/example/slot3/slot3/frame/Post" "following" "Lcom/example/slot3/slot3/frame/Post;" (.null) := ((F165_following.keep K171 (ninS (Nat.ne_of_gt lt_a155_a165) (ninS (Nat.ne_of_gt lt_a158_a165) nin0))).keep K233 (ninS (Nat.ne_of_gt lt_a155_a165) (ninS (Nat.ne_of_gt lt_a161_a165) (ninS (Nat.ne_of_gt lt_a158_a165) nin0))))
          have f247 : Fld Z T233.heap a165 "com/example/slot3/slot3/frame/Post" "previous" "Lcom/example/slot3/slot3/frame/Post;" (.null) := ((F165_previous.keep K171 (ninS (Nat.ne_of_gt lt_a155_a165) (ninS (Nat.ne_of_gt lt_a158_a165) nin0))).keep K233 (ninS (Nat.ne_of_gt lt_a155_a165) (ninS (Nat.ne_of_gt lt_a161_a165) (ninS (Nat.ne_of_gt lt_a158_a165) nin0))))
          have f248 : Fld Z T233.heap a165 "com/example/slot3/slot3/frame/Post" "chain" "Lcom/example/slot3/slot3/frame/PostChain;" (.null) := ((F165_chain.keep K171 (ninS (Nat.ne_of_gt lt_a155_a165) (ninS (Nat.ne_of_gt lt_a158_a165) nin0))).keep K233 (ninS (Nat.ne_of_gt lt_a155_a165) (ninS (Nat.ne_of_gt lt_a161_a165) (ninS (Nat.ne_of_gt lt_a158_a165) nin0))))
          have z249 : n0 ≤ T233.heap.size := (Nat.le_trans z240 K233.1)
          refine own_callV X233 hx hZ hown (ow_17 hw) (ow_18 hw) (ow_20 hw) (ow_19 hw) (ow_3 hw) (ow_21 hw) (by decide) f243 (rm_ap2 l Z a0 hw a155 a165 a158 (((0 : Int32) + (1 : Int32)) + (1 : Int32)) (.ref a161) .null .null .null .null (.ref a161) (.ref a155) T233.heap n0 z249 f243 f244 p233_0 p233_1 p233_2 f245 f246 f247 f248 p233_6 p233_7 p233_8 ge_a155 ge_a165 ge_a158 (Nat.ne_of_lt lt_a155_a165) (Nat.ne_of_lt lt_a155_a158) (Nat.ne_of_gt lt_a158_a165)) rfl (W := 0) (by decide) (by decide) opd__Lcom_example_slot3_slot3_frame_Post__V rfl (rest := []) rfl (hb hby at_264) (Nat.le_of_eq rfl) (by rw [hml]; rfl) (by decide) (by decide) (pc' := 267) rfl ?_
          intro v242 T242 L242 X242 q242
          obtain ⟨rfl, Nq242, K242, p242_0, p242_1, p242_2, p242_3, p242_4, p242_5, p242_6, p242_7, p242_8⟩ := q242
          have N242 := Fr.app N233 Nq242
          show own_G p e below s _ _ _ (T242.setTop (mkF m 267 #[.val (.int u0), .val (.int u1), .val (.int (2 : Int32)), .val (.int (0 : Int32)), .val (.int (1 : Int32)), .val (.int (0 : Int32)), .val (.ref a155), .val (.ref a158), .val (.ref a161), .val (.ref a165), .val (.int (2 : Int32)), .val (.ref a161), .val (.ref a158), .val (.ref a161), .val (.ref a158)] []))
          refine own_aload X242 hx (hb hby at_267) rfl rfl (pc' := 269) rfl ?_
          refine own_getF X242 hx hZ hown (ow_32 hw) rfl p242_1 (hb hby at_269) (pc' := 272) rfl ?_
          intro T250 X250 e250
          refine own_aload X250 hx (hb hby at_272) rfl rfl (pc' := 274) rfl ?_
          refine own_acmpF X250 hx (hb hby at_274) rfl rfl (by simp [XT.acmp]) (pc' := 277) rfl ?_
          refine own_aload X250 hx (hb hby at_277) rfl rfl (pc' := 279) rfl ?_
          refine own_getF X250 hx hZ hown (ow_33 hw) e250 p242_5 (hb hby at_279) (pc' := 282) rfl ?_
          intro T251 X251 e251
          refine own_aload X251 hx (hb hby at_282) rfl rfl (pc' := 284) rfl ?_
          refine own_acmpF X251 hx (hb hby at_284) rfl rfl (by simp [XT.acmp]) (pc' := 287) rfl ?_
          refine own_aload X251 hx (hb hby at_287) rfl rfl (pc' := 289) rfl ?_
          refine own_getF X251 hx hZ hown (ow_34 hw) e251 p242_3 (hb hby at_289) (pc' := 292) rfl ?_
          intro T252 X252 e252
          refine own_ifnonnullF X252 hx (hb hby at_292) (pc' := 295) rfl ?_
          refine own_aload X252 hx (hb hby at_295) rfl rfl (pc' := 297) rfl ?_
          refine own_getF X252 hx hZ hown (ow_36 hw) e252 p242_4 (hb hby at_297) (pc' := 300) rfl ?_
          intro T253 X253 e253
          refine own_aload X253 hx (hb hby at_300) rfl rfl (pc' := 302) rfl ?_
          refine own_acmpF X253 hx (hb hby at_302) rfl rfl (by simp [XT.acmp]) (pc' := 305) rfl ?_
          refine own_aload X253 hx (hb hby at_305) rfl rfl (pc' := 307) rfl ?_
          refine own_getF X253 hx hZ hown (ow_37 hw) e253 p242_2 (hb hby at_307) (pc' := 310) rfl ?_
          intro T254 X254 e254
          refine own_iload X254 hx (hb hby at_310) rfl (pc' := 312) rfl ?_
          refine own_iconst X254 hx (hb hby at_312) (z := (1 : Int32)) rfl (pc' := 313) rfl ?_
          refine own_iadd X254 hx (hb hby at_313) (pc' := 314) rfl ?_
          refine own_icmpF X254 hx (hb hby at_314) (by decide) (pc' := 317) rfl ?_
          refine own_iconst X254 hx (hb hby at_317) (z := (1 : Int32)) rfl (pc' := 318) rfl ?_
          refine own_goto X254 hx (hb hby at_318) (by decide) (pc' := 322) rfl ?_
          refine own_istore X254 hx (hb hby at_322) (l' := #[.val (.int u0), .val (.int u1), .val (.int (2 : Int32)), .val (.int (0 : Int32)), .val (.int (1 : Int32)), .val (.int (0 : Int32)), .val (.ref a155), .val (.ref a158), .val (.ref a161), .val (.ref a165), .val (.int (2 : Int32)), .val (.ref a161), .val (.ref a158), .val (.int (1 : Int32)), .val (.ref a158)]) rfl (pc' := 324) rfl ?_
          refine own_aload X254 hx (hb hby at_324) rfl rfl (pc' := 326) rfl ?_
          refine own_ifnonnullT X254 hx (hb hby at_326) (by decide) (pc' := 354) rfl ?_
          refine own_iload X254 hx (hb hby at_354) rfl (pc' := 356) rfl ?_
          refine own_ifF X254 hx (hb hby at_356) (by decide) (pc' := 359) rfl ?_
          refine own_aload X254 hx (hb hby at_359) rfl rfl (pc' := 361) rfl ?_
          refine own_getF X254 hx hZ hown (ow_38 hw) e254 p242_0 (hb hby at_361) (pc' := 364) rfl ?_
          intro T255 X255 e255
          refine own_aload X255 hx (hb hby at_364) rfl rfl (pc' := 366) rfl ?_
          refine own_acmpF X255 hx (hb hby at_366) rfl rfl (by simp [XT.acmp]) (pc' := 369) rfl ?_
          refine own_aload X255 hx (hb hby at_369) rfl rfl (pc' := 371) rfl ?_
          refine own_getF X255 hx hZ hown (ow_34 hw) e255 p242_6 (hb hby at_371) (pc' := 374) rfl ?_
          intro T256 X256 e256
          refine own_aload X256 hx (hb hby at_374) rfl rfl (pc' := 376) rfl ?_
          refine own_acmpF X256 hx (hb hby at_376) rfl rfl (by simp [XT.acmp]) (pc' := 379) rfl ?_
          refine own_aload X256 hx (hb hby at_379) rfl rfl (pc' := 381) rfl ?_
          have f257 : Fld Z T242.heap a161 "com/example/slot3/slot3/frame/Post" "previous" "Lcom/example/slot3/slot3/frame/Post;" (.null) := (p233_4.keep K242 (ninS (Nat.ne_of_gt lt_a155_a161) (ninS (Nat.ne_of_lt lt_a161_a165) (ninS (Nat.ne_of_gt lt_a158_a161) nin0))))
          refine own_getF X256 hx hZ hown (ow_36 hw) e256 f257 (hb hby at_381) (pc' := 384) rfl ?_
          intro T258 X258 e258
          refine own_ifnonnullF X258 hx (hb hby at_384) (pc' := 387) rfl ?_
          refine own_aload X258 hx (hb hby at_387) rfl rfl (pc' := 389) rfl ?_
          refine own_getF X258 hx hZ hown (ow_33 hw) e258 p242_8 (hb hby at_389) (pc' := 392) rfl ?_
          intro T259 X259 e259
          refine own_aload X259 hx (hb hby at_392) rfl rfl (pc' := 394) rfl ?_
          refine own_acmpF X259 hx (hb hby at_394) rfl rfl (by simp [XT.acmp]) (pc' := 397) rfl ?_
          refine own_iconst X259 hx (hb hby at_397) (z := (1 : Int32)) rfl (pc' := 398) rfl ?_
          refine own_goto X259 hx (hb hby at_398) (by decide) (pc' := 402) rfl ?_
          refine own_istore X259 hx (hb hby at_402) (l' := #[.val (.int u0), .val (.int u1), .val (.int (2 : Int32)), .val (.int (0 : Int32)), .val (.int (1 : Int32)), .val (.int (0 : Int32)), .val (.ref a155), .val (.ref a158), .val (.ref a161), .val (.ref a165), .val (.int (2 : Int32)), .val (.ref a161), .val (.ref a158), .val (.int (1 : Int32)), .val (.ref a158)]) rfl (pc' := 404) rfl ?_
          refine own_iload X259 hx (hb hby at_404) rfl (pc' := 406) rfl ?_
          refine own_iconst X259 hx (hb hby at_406) (z := (2 : Int32)) rfl (pc' := 407) rfl ?_
          refine own_icmpF X259 hx (hb hby at_407) (by decide) (pc' := 410) rfl ?_
          refine own_iload X259 hx (hb hby at_410) rfl (pc' := 412) rfl ?_
          refine own_ifF X259 hx (hb hby at_412) (by decide) (pc' := 415) rfl ?_
          refine own_aload X259 hx (hb hby at_415) rfl rfl (pc' := 417) rfl ?_
          have f260 : Fld Z T242.heap a161 "com/example/slot3/slot3/frame/Post" "following" "Lcom/example/slot3/slot3/frame/Post;" (.ref a158) := (p233_3.keep K242 (ninS (Nat.ne_of_gt lt_a155_a161) (ninS (Nat.ne_of_lt lt_a161_a165) (ninS (Nat.ne_of_gt lt_a158_a161) nin0))))
          refine own_getF X259 hx hZ hown (ow_34 hw) e259 f260 (hb hby at_417) (pc' := 420) rfl ?_
          intro T261 X261 e261
          refine own_aload X261 hx (hb hby at_420) rfl rfl (pc' := 422) rfl ?_
          refine own_acmpF X261 hx (hb hby at_422) rfl rfl (by simp [XT.acmp]) (pc' := 425) rfl ?_
          refine own_aload X261 hx (hb hby at_425) rfl rfl (pc' := 427) rfl ?_
          refine own_getF X261 hx hZ hown (ow_36 hw) e261 p242_7 (hb hby at_427) (pc' := 430) rfl ?_
          intro T262 X262 e262
          refine own_aload X262 hx (hb hby at_430) rfl rfl (pc' := 432) rfl ?_
          refine own_acmpF X262 hx (hb hby at_432) rfl rfl (by simp [XT.acmp]) (pc' := 435) rfl ?_
          refine own_iconst X262 hx (hb hby at_435) (z := (1 : Int32)) rfl (pc' := 436) rfl ?_
          refine own_goto X262 hx (hb hby at_436) (by decide) (pc' := 440) rfl ?_
          refine own_istore X262 hx (hb hby at_440) (l' := #[.val (.int u0), .val (.int u1), .val (.int (2 : Int32)), .val (.int (0 : Int32)), .val (.int (1 : Int32)), .val (.int (0 : Int32)), .val (.ref a155), .val (.ref a158), .val (.ref a161), .val (.ref a165), .val (.int (2 : Int32)), .val (.ref a161), .val (.ref a158), .val (.int (1 : Int32)), .val (.ref a158)]) rfl (pc' := 442) rfl ?_
          refine own_iload X262 hx (hb hby at_442) rfl (pc' := 444) rfl ?_
          exact own_retZ X262 hx hret hlk (Or.inr rfl) (hb hby at_444) ⟨rfl, N242⟩ (by decide) (by decide)
        · refine own_cast (S' := T233.setTop (mkF m 136 #[.val (.int u0), .val (.int u1), .val (.int (2 : Int32)), .val (.int (0 : Int32)), .val (.int (1 : Int32)), .val (.int (1 : Int32)), .val (.ref a155), .val (.ref a158), .val (.ref a161), .val (.ref a165), .unset, .unset, .unset, .unset, .unset] [(.int (1 : Int32))])) (by first | (simp only [if_neg c241]; done) | (rw [if_neg c241]; done) | (simp; done)) ?_
          refine own_ifF X233 hx (hb hby at_136) (by decide) (pc' := 139) rfl ?_
          refine own_iloadN X233 hx (hb hby at_139) rfl (pc' := 140) rfl ?_
          refine own_iconst X233 hx (hb hby at_140) (z := (1 : Int32)) rfl (pc' := 141) rfl ?_
          refine own_icmpF X233 hx (hb hby at_141) (by decide) (pc' := 144) rfl ?_
          refine own_aload X233 hx (hb hby at_144) rfl rfl (pc' := 146) rfl ?_
          have f264 : Exa Z T233.heap a155 "com/example/slot3/slot3/frame/PostChain" := (f234.keep K233)
          have f265 : Exa Z T233.heap a161 "com/example/slot3/slot3/frame/Post" := (f235.keep K233)
          have f266 : Exa Z T233.heap a158 "com/example/slot3/slot3/frame/Post" := (f236.keep K233)
          have z267 : n0 ≤ T233.heap.size := (Nat.le_trans z240 K233.1)
          refine own_callV X233 hx hZ hown (ow_45 hw) (ow_46 hw) (ow_48 hw) (ow_47 hw) (ow_3 hw) (ow_49 hw) (by decide) f264 (rm_tfr l Z a0 hw a155 a161 a158 (((0 : Int32) + (1 : Int32)) + (1 : Int32)) (.ref a158) (.ref a155) .null (.ref a161) (.ref a155) T233.heap n0 z267 f264 p233_0 p233_1 p233_2 f265 p233_3 p233_4 p233_5 f266 p233_6 p233_7 p233_8 ge_a155 ge_a161 ge_a158 (Nat.ne_of_lt lt_a155_a161) (Nat.ne_of_lt lt_a155_a158) (Nat.ne_of_gt lt_a158_a161)) rfl (W := 0) (by decide) (by decide) opd___Lcom_example_slot3_slot3_frame_Post_ rfl (rest := []) rfl (hb hby at_146) (Nat.le_of_eq rfl) (by rw [hml]; rfl) (by decide) (by decide) (pc' := 149) rfl ?_
          intro v263 T263 L263 X263 q263
          obtain ⟨rfl, Nq263, K263, p263_0, p263_1, p263_2, p263_3, p263_4, p263_5, p263_6, p263_7, p263_8⟩ := q263
          have N263 := Fr.app N233 Nq263
          show own_G p e below s _ _ _ (T263.setTop (mkF m 149 #[.val (.int u0), .val (.int u1), .val (.int (2 : Int32)), .val (.int (0 : Int32)), .val (.int (1 : Int32)), .val (.int (1 : Int32)), .val (.ref a155), .val (.ref a158), .val (.ref a161), .val (.ref a165), .unset, .unset, .unset, .unset, .unset] [(.ref a161)]))
          refine own_pop X263 hx (hb hby at_149) rfl (pc' := 150) rfl ?_
          refine own_iloadN X263 hx (hb hby at_150) rfl (pc' := 151) rfl ?_
          refine own_ifT X263 hx (hb hby at_151) (by decide) (by decide) (pc' := 166) rfl ?_
          refine own_iloadN X263 hx (hb hby at_166) rfl (pc' := 167) rfl ?_
          refine own_iconst X263 hx (hb hby at_167) (z := (1 : Int32)) rfl (pc' := 168) rfl ?_
          refine own_icmpT X263 hx (hb hby at_168) (by decide) (by decide) (pc' := 202) rfl ?_
          refine own_iload X263 hx (hb hby at_202) rfl (pc' := 204) rfl ?_
          refine own_ifF X263 hx (hb hby at_204) (by decide) (pc' := 207) rfl ?_
          refine own_aload X263 hx (hb hby at_207) rfl rfl (pc' := 209) rfl ?_
          refine own_goto X263 hx (hb hby at_209) (by decide) (pc' := 214) rfl ?_
          refine own_astore X263 hx (hb hby at_214) rfl (l' := #[.val (.int u0), .val (.int u1), .val (.int (2 : Int32)), .val (.int (0 : Int32)), .val (.int (1 : Int32)), .val (.int (1 : Int32)), .val (.ref a155), .val (.ref a158), .val (.ref a161), .val (.ref a165), .unset, .unset, .unset, .val (.ref a161), .unset]) rfl (pc' := 216) rfl ?_
          refine own_iload X263 hx (hb hby at_216) rfl (pc' := 218) rfl ?_
          refine own_ifF X263 hx (hb hby at_218) (by decide) (pc' := 221) rfl ?_
          refine own_aload X263 hx (hb hby at_221) rfl rfl (pc' := 223) rfl ?_
          refine own_goto X263 hx (hb hby at_223) (by decide) (pc' := 228) rfl ?_
          refine own_astore X263 hx (hb hby at_228) rfl (l' := #[.val (.int u0), .val (.int u1), .val (.int (2 : Int32)), .val (.int (0 : Int32)), .val (.int (1 : Int32)), .val (.int (1 : Int32)), .val (.ref a155), .val (.ref a158), .val (.ref a161), .val (.ref a165), .unset, .unset, .unset, .val (.ref a161), .val (.ref a158)]) rfl (pc' := 230) rfl ?_
          refine own_iload X263 hx (hb hby at_230) rfl (pc' := 232) rfl ?_
          refine own_ifF X263 hx (hb hby at_232) (by decide) (pc' := 235) rfl ?_
          refine own_iconst X263 hx (hb hby at_235) (z := (1 : Int32)) rfl (pc' := 236) rfl ?_
          refine own_istore X263 hx (hb hby at_236) (l' := #[.val (.int u0), .val (.int u1), .val (.int (2 : Int32)), .val (.int (0 : Int32)), .val (.int (1 : Int32)), .val (.int (1 : Int32)), .val (.ref a155), .val (.ref a158), .val (.ref a161), .val (.ref a165), .val (.int (1 : Int32)), .unset, .unset, .val (.ref a161), .val (.ref a158)]) rfl (pc' := 238) rfl ?_
          refine own_aload X263 hx (hb hby at_238) rfl rfl (pc' := 240) rfl ?_
          refine own_astore X263 hx (hb hby at_240) rfl (l' := #[.val (.int u0), .val (.int u1), .val (.int (2 : Int32)), .val (.int (0 : Int32)), .val (.int (1 : Int32)), .val (.int (1 : Int32)), .val (.ref a155), .val (.ref a158), .val (.ref a161), .val (.ref a165), .val (.int (1 : Int32)), .val (.ref a158), .unset, .val (.ref a161), .val (.ref a158)]) rfl (pc' := 242) rfl ?_
          refine own_aload X263 hx (hb hby at_242) rfl rfl (pc' := 244) rfl ?_
          refine own_astore X263 hx (hb hby at_244) rfl (l' := #[.val (.int u0), .val (.int u1), .val (.int (2 : Int32)), .val (.int (0 : Int32)), .val (.int (1 : Int32)), .val (.int (1 : Int32)), .val (.ref a155), .val (.ref a158), .val (.ref a161), .val (.ref a165), .val (.int (1 : Int32)), .val (.ref a158), .val (.ref a158), .val (.ref a161), .val (.ref a158)]) rfl (pc' := 246) rfl ?_
          refine own_goto X263 hx (hb hby at_246) (by decide) (pc' := 260) rfl ?_
          refine own_aload X263 hx (hb hby at_260) rfl rfl (pc' := 262) rfl ?_
          refine own_aload X263 hx (hb hby at_262) rfl rfl (pc' := 264) rfl ?_
          have f269 : Exa Z T263.heap a155 "com/example/slot3/slot3/frame/PostChain" := (f264.keep K263)
          have f270 : Exa Z T263.heap a165 "com/example/slot3/slot3/frame/Post" := (((A165.keep K171).keep K233).keep K263)
          have f271 : Exa Z T263.heap a158 "com/example/slot3/slot3/frame/Post" := (f266.keep K263)
          have f272 : Fld Z T263.heap a165 "com/example/slot3/slot3/frame/Post" "following" "Lcom/example/slot3/slot3/frame/Post;" (.null) := (((F165_following.keep K171 (ninS (Nat.ne_of_gt lt_a155_a165) (ninS (Nat.ne_of_gt lt_a158_a165) nin0))).keep K233 (ninS (Nat.ne_of_gt lt_a155_a165) (ninS (Nat.ne_of_gt lt_a161_a165) (ninS (Nat.ne_of_gt lt_a158_a165) nin0)))).keep K263 (ninS (Nat.ne_of_gt lt_a155_a165) (ninS (Nat.ne_of_gt lt_a161_a165) (ninS (Nat.ne_of_gt lt_a158_a165) nin0))))
          have f273 : Fld Z T263.heap a165 "com/example/slot3/slot3/frame/Post" "previous" "Lcom/example/slot3/slot3/frame/Post;" (.null) := (((F165_previous.keep K171 (ninS (Nat.ne_of_gt lt_a155_a165) (ninS (Nat.ne_of_gt lt_a158_a165) nin0))).keep K233 (ninS (Nat.ne_of_gt lt_a155_a165) (ninS (Nat.ne_of_gt lt_a161_a165) (ninS (Nat.ne_of_gt lt_a158_a165) nin0)))).keep K263 (ninS (Nat.ne_of_gt lt_a155_a165) (ninS (Nat.ne_of_gt lt_a161_a165) (ninS (Nat.ne_of_gt lt_a158_a165) nin0))))
          have f274 : Fld Z T263.heap a165 "com/example/slot3/slot3/frame/Post" "chain" "Lcom/example/slot3/slot3/frame/PostChain;" (.null) := (((F165_chain.keep K171 (ninS (Nat.ne_of_gt lt_a155_a165) (ninS (Nat.ne_of_gt lt_a158_a165) nin0))).keep K233 (ninS (Nat.ne_of_gt lt_a155_a165) (ninS (Nat.ne_of_gt lt_a161_a165) (ninS (Nat.ne_of_gt lt_a158_a165) nin0)))).keep K263 (ninS (Nat.ne_of_gt lt_a155_a165) (ninS (Nat.ne_of_gt lt_a161_a165) (ninS (Nat.ne_of_gt lt_a158_a165) nin0))))
          have z275 : n0 ≤ T263.heap.size := (Nat.le_trans z267 K263.1)
          refine own_callV X263 hx hZ hown (ow_17 hw) (ow_18 hw) (ow_20 hw) (ow_19 hw) (ow_3 hw) (ow_21 hw) (by decide) f269 (rm_ap2 l Z a0 hw a155 a165 a158 ((((0 : Int32) + (1 : Int32)) + (1 : Int32)) - (1 : Int32)) (.ref a158) .null .null .null .null .null (.ref a155) T263.heap n0 z275 f269 f270 p263_0 p263_1 p263_2 f271 f272 f273 f274 p263_6 p263_7 p263_8 ge_a155 ge_a165 ge_a158 (Nat.ne_of_lt lt_a155_a165) (Nat.ne_of_lt lt_a155_a158) (Nat.ne_of_gt lt_a158_a165)) rfl (W := 0) (by decide) (by decide) opd__Lcom_example_slot3_slot3_frame_Post__V rfl (rest := []) rfl (hb hby at_264) (Nat.le_of_eq rfl) (by rw [hml]; rfl) (by decide) (by decide) (pc' := 267) rfl ?_
          intro v268 T268 L268 X268 q268
          obtain ⟨rfl, Nq268, K268, p268_0, p268_1, p268_2, p268_3, p268_4, p268_5, p268_6, p268_7, p268_8⟩ := q268
          have N268 := Fr.app N263 Nq268
          show own_G p e below s _ _ _ (T268.setTop (mkF m 267 #[.val (.int u0), .val (.int u1), .val (.int (2 : Int32)), .val (.int (0 : Int32)), .val (.int (1 : Int32)), .val (.int (1 : Int32)), .val (.ref a155), .val (.ref a158), .val (.ref a161), .val (.ref a165), .val (.int (1 : Int32)), .val (.ref a158), .val (.ref a158), .val (.ref a161), .val (.ref a158)] []))
          refine own_aload X268 hx (hb hby at_267) rfl rfl (pc' := 269) rfl ?_
          refine own_getF X268 hx hZ hown (ow_32 hw) rfl p268_1 (hb hby at_269) (pc' := 272) rfl ?_
          intro T276 X276 e276
          refine own_aload X276 hx (hb hby at_272) rfl rfl (pc' := 274) rfl ?_
          refine own_acmpF X276 hx (hb hby at_274) rfl rfl (by simp [XT.acmp]) (pc' := 277) rfl ?_
          refine own_aload X276 hx (hb hby at_277) rfl rfl (pc' := 279) rfl ?_
          refine own_getF X276 hx hZ hown (ow_33 hw) e276 p268_5 (hb hby at_279) (pc' := 282) rfl ?_
          intro T277 X277 e277
          refine own_aload X277 hx (hb hby at_282) rfl rfl (pc' := 284) rfl ?_
          refine own_acmpF X277 hx (hb hby at_284) rfl rfl (by simp [XT.acmp]) (pc' := 287) rfl ?_
          refine own_aload X277 hx (hb hby at_287) rfl rfl (pc' := 289) rfl ?_
          refine own_getF X277 hx hZ hown (ow_34 hw) e277 p268_3 (hb hby at_289) (pc' := 292) rfl ?_
          intro T278 X278 e278
          refine own_ifnonnullF X278 hx (hb hby at_292) (pc' := 295) rfl ?_
          refine own_aload X278 hx (hb hby at_295) rfl rfl (pc' := 297) rfl ?_
          refine own_getF X278 hx hZ hown (ow_36 hw) e278 p268_4 (hb hby at_297) (pc' := 300) rfl ?_
          intro T279 X279 e279
          refine own_aload X279 hx (hb hby at_300) rfl rfl (pc' := 302) rfl ?_
          refine own_acmpF X279 hx (hb hby at_302) rfl rfl (by simp [XT.acmp]) (pc' := 305) rfl ?_
          refine own_aload X279 hx (hb hby at_305) rfl rfl (pc' := 307) rfl ?_
          refine own_getF X279 hx hZ hown (ow_37 hw) e279 p268_2 (hb hby at_307) (pc' := 310) rfl ?_
          intro T280 X280 e280
          refine own_iload X280 hx (hb hby at_310) rfl (pc' := 312) rfl ?_
          refine own_iconst X280 hx (hb hby at_312) (z := (1 : Int32)) rfl (pc' := 313) rfl ?_
          refine own_iadd X280 hx (hb hby at_313) (pc' := 314) rfl ?_
          refine own_icmpF X280 hx (hb hby at_314) (by decide) (pc' := 317) rfl ?_
          refine own_iconst X280 hx (hb hby at_317) (z := (1 : Int32)) rfl (pc' := 318) rfl ?_
          refine own_goto X280 hx (hb hby at_318) (by decide) (pc' := 322) rfl ?_
          refine own_istore X280 hx (hb hby at_322) (l' := #[.val (.int u0), .val (.int u1), .val (.int (2 : Int32)), .val (.int (0 : Int32)), .val (.int (1 : Int32)), .val (.int (1 : Int32)), .val (.ref a155), .val (.ref a158), .val (.ref a161), .val (.ref a165), .val (.int (1 : Int32)), .val (.ref a158), .val (.ref a158), .val (.int (1 : Int32)), .val (.ref a158)]) rfl (pc' := 324) rfl ?_
          refine own_aload X280 hx (hb hby at_324) rfl rfl (pc' := 326) rfl ?_
          refine own_ifnonnullT X280 hx (hb hby at_326) (by decide) (pc' := 354) rfl ?_
          refine own_iload X280 hx (hb hby at_354) rfl (pc' := 356) rfl ?_
          refine own_ifF X280 hx (hb hby at_356) (by decide) (pc' := 359) rfl ?_
          refine own_aload X280 hx (hb hby at_359) rfl rfl (pc' := 361) rfl ?_
          refine own_getF X280 hx hZ hown (ow_38 hw) e280 p268_0 (hb hby at_361) (pc' := 364) rfl ?_
          intro T281 X281 e281
          refine own_aload X281 hx (hb hby at_364) rfl rfl (pc' := 366) rfl ?_
          refine own_acmpF X281 hx (hb hby at_366) rfl rfl (by simp [XT.acmp]) (pc' := 369) rfl ?_
          refine own_aload X281 hx (hb hby at_369) rfl rfl (pc' := 371) rfl ?_
          refine own_getF X281 hx hZ hown (ow_34 hw) e281 p268_6 (hb hby at_371) (pc' := 374) rfl ?_
          intro T282 X282 e282
          refine own_aload X282 hx (hb hby at_374) rfl rfl (pc' := 376) rfl ?_
          refine own_acmpF X282 hx (hb hby at_376) rfl rfl (by simp [XT.acmp]) (pc' := 379) rfl ?_
          refine own_aload X282 hx (hb hby at_379) rfl rfl (pc' := 381) rfl ?_
          refine own_getF X282 hx hZ hown (ow_36 hw) e282 p268_7 (hb hby at_381) (pc' := 384) rfl ?_
          intro T283 X283 e283
          refine own_ifnonnullF X283 hx (hb hby at_384) (pc' := 387) rfl ?_
          refine own_aload X283 hx (hb hby at_387) rfl rfl (pc' := 389) rfl ?_
          refine own_getF X283 hx hZ hown (ow_33 hw) e283 p268_8 (hb hby at_389) (pc' := 392) rfl ?_
          intro T284 X284 e284
          refine own_aload X284 hx (hb hby at_392) rfl rfl (pc' := 394) rfl ?_
          refine own_acmpF X284 hx (hb hby at_394) rfl rfl (by simp [XT.acmp]) (pc' := 397) rfl ?_
          refine own_iconst X284 hx (hb hby at_397) (z := (1 : Int32)) rfl (pc' := 398) rfl ?_
          refine own_goto X284 hx (hb hby at_398) (by decide) (pc' := 402) rfl ?_
          refine own_istore X284 hx (hb hby at_402) (l' := #[.val (.int u0), .val (.int u1), .val (.int (2 : Int32)), .val (.int (0 : Int32)), .val (.int (1 : Int32)), .val (.int (1 : Int32)), .val (.ref a155), .val (.ref a158), .val (.ref a161), .val (.ref a165), .val (.int (1 : Int32)), .val (.ref a158), .val (.ref a158), .val (.int (1 : Int32)), .val (.ref a158)]) rfl (pc' := 404) rfl ?_
          refine own_iload X284 hx (hb hby at_404) rfl (pc' := 406) rfl ?_
          refine own_iconst X284 hx (hb hby at_406) (z := (2 : Int32)) rfl (pc' := 407) rfl ?_
          refine own_icmpT X284 hx (hb hby at_407) (by decide) (by decide) (pc' := 442) rfl ?_
          refine own_iload X284 hx (hb hby at_442) rfl (pc' := 444) rfl ?_
          exact own_retZ X284 hx hret hlk (Or.inr rfl) (hb hby at_444) ⟨rfl, N268⟩ (by decide) (by decide)
    · refine own_cast (S' := T168.setTop (mkF m 87 #[.val (.int u0), .val (.int u1), .val (.int (2 : Int32)), .val (.int (1 : Int32)), .val (.int (if (u1 &&& (2 : Int32)) = (0 : Int32) then (0 : Int32) else (1 : Int32))), .val (.int (if (u1 &&& (4 : Int32)) = (0 : Int32) then (0 : Int32) else (1 : Int32))), .val (.ref a155), .val (.ref a158), .val (.ref a161), .val (.ref a165), .unset, .unset, .unset, .unset, .unset] [(.int (1 : Int32))])) (by first | (simp only [if_neg c170]; done) | (rw [if_neg c170]; done) | (simp; done)) ?_
      refine own_ifF X168 hx (hb hby at_87) (by decide) (pc' := 90) rfl ?_
      refine own_aload X168 hx (hb hby at_90) rfl rfl (pc' := 92) rfl ?_
      refine own_aload X168 hx (hb hby at_92) rfl rfl (pc' := 94) rfl ?_
      have f286 : Exa Z h165 a155 "com/example/slot3/slot3/frame/PostChain" := (f166.ext E165)
      have f287 : Exa Z h165 a158 "com/example/slot3/slot3/frame/Post" := (f167.ext E165)
      have f288 : Fld Z h165 a155 "com/example/slot3/slot3/frame/PostChain" "first" "Lcom/example/slot3/slot3/frame/Post;" (.null) := (((F155_first.ext E158).ext E161).ext E165)
      have f289 : Fld Z h165 a155 "com/example/slot3/slot3/frame/PostChain" "last" "Lcom/example/slot3/slot3/frame/Post;" (.null) := (((F155_last.ext E158).ext E161).ext E165)
      have f290 : Fld Z h165 a155 "com/example/slot3/slot3/frame/PostChain" "count" "I" (.int (0 : Int32)) := (((F155_count.ext E158).ext E161).ext E165)
      have f291 : Fld Z h165 a158 "com/example/slot3/slot3/frame/Post" "following" "Lcom/example/slot3/slot3/frame/Post;" (.null) := ((F158_following.ext E161).ext E165)
      have f292 : Fld Z h165 a158 "com/example/slot3/slot3/frame/Post" "previous" "Lcom/example/slot3/slot3/frame/Post;" (.null) := ((F158_previous.ext E161).ext E165)
      have f293 : Fld Z h165 a158 "com/example/slot3/slot3/frame/Post" "chain" "Lcom/example/slot3/slot3/frame/PostChain;" (.null) := ((F158_chain.ext E161).ext E165)
      refine own_callV X168 hx hZ hown (ow_39 hw) (ow_40 hw) (ow_42 hw) (ow_41 hw) (ow_3 hw) (ow_43 hw) (by decide) f286 (rm_pu1 l Z a0 hw a155 a158 (0 : Int32) .null .null .null .null h165 n0 z169 f286 f287 f288 f289 f290 f291 f292 f293 ge_a155 ge_a158 (Nat.ne_of_lt lt_a155_a158)) eh168 (W := 0) (by decide) (by decide) opd__Lcom_example_slot3_slot3_frame_Post__V rfl (rest := []) rfl (hb hby at_94) (Nat.le_of_eq rfl) (by rw [hml]; rfl) (by decide) (by decide) (pc' := 97) rfl ?_
      intro v285 T285 L285 X285 q285
      obtain ⟨rfl, Nq285, K285, p285_0, p285_1, p285_2, p285_3, p285_4, p285_5⟩ := q285
      have N285 := Fr.app N168 Nq285
      show own_G p e below s _ _ _ (T285.setTop (mkF m 97 #[.val (.int u0), .val (.int u1), .val (.int (2 : Int32)), .val (.int (1 : Int32)), .val (.int (if (u1 &&& (2 : Int32)) = (0 : Int32) then (0 : Int32) else (1 : Int32))), .val (.int (if (u1 &&& (4 : Int32)) = (0 : Int32) then (0 : Int32) else (1 : Int32))), .val (.ref a155), .val (.ref a158), .val (.ref a161), .val (.ref a165), .unset, .unset, .unset, .unset, .unset] []))
      refine own_goto X285 hx (hb hby at_97) (by decide) (pc' := 107) rfl ?_
      refine own_iloadN X285 hx (hb hby at_107) rfl (pc' := 108) rfl ?_
      refine own_iconst X285 hx (hb hby at_108) (z := (2 : Int32)) rfl (pc' := 109) rfl ?_
      refine own_icmpF X285 hx (hb hby at_109) (by decide) (pc' := 112) rfl ?_
      refine own_iload X285 hx (hb hby at_112) rfl (pc' := 114) rfl ?_
      by_cases c294 : (u1 &&& (2 : Int32)) = (0 : Int32)
      · refine own_cast (S' := T285.setTop (mkF m 114 #[.val (.int u0), .val (.int u1), .val (.int (2 : Int32)), .val (.int (1 : Int32)), .val (.int (0 : Int32)), .val (.int (if (u1 &&& (4 : Int32)) = (0 : Int32) then (0 : Int32) else (1 : Int32))), .val (.ref a155), .val (.ref a158), .val (.ref a161), .val (.ref a165), .unset, .unset, .unset, .unset, .unset] [(.int (0 : Int32))])) (by first | (simp only [if_pos c294]; done) | (rw [if_pos c294]; done) | (simp; done)) ?_
        refine own_ifT X285 hx (hb hby at_114) (by decide) (by decide) (pc' := 127) rfl ?_
        refine own_aload X285 hx (hb hby at_127) rfl rfl (pc' := 129) rfl ?_
        refine own_aload X285 hx (hb hby at_129) rfl rfl (pc' := 131) rfl ?_
        have f296 : Exa Z T285.heap a155 "com/example/slot3/slot3/frame/PostChain" := (f286.keep K285)
        have f297 : Exa Z T285.heap a161 "com/example/slot3/slot3/frame/Post" := ((A161.ext E165).keep K285)
        have f298 : Exa Z T285.heap a158 "com/example/slot3/slot3/frame/Post" := (f287.keep K285)
        have f299 : Fld Z T285.heap a161 "com/example/slot3/slot3/frame/Post" "following" "Lcom/example/slot3/slot3/frame/Post;" (.null) := ((F161_following.ext E165).keep K285 (ninS (Nat.ne_of_gt lt_a155_a161) (ninS (Nat.ne_of_gt lt_a158_a161) nin0)))
        have f300 : Fld Z T285.heap a161 "com/example/slot3/slot3/frame/Post" "previous" "Lcom/example/slot3/slot3/frame/Post;" (.null) := ((F161_previous.ext E165).keep K285 (ninS (Nat.ne_of_gt lt_a155_a161) (ninS (Nat.ne_of_gt lt_a158_a161) nin0)))
        have f301 : Fld Z T285.heap a161 "com/example/slot3/slot3/frame/Post" "chain" "Lcom/example/slot3/slot3/frame/PostChain;" (.null) := ((F161_chain.ext E165).keep K285 (ninS (Nat.ne_of_gt lt_a155_a161) (ninS (Nat.ne_of_gt lt_a158_a161) nin0)))
        have z302 : n0 ≤ T285.heap.size := (Nat.le_trans z169 K285.1)
        refine own_callV X285 hx hZ hown (ow_17 hw) (ow_18 hw) (ow_20 hw) (ow_19 hw) (ow_3 hw) (ow_21 hw) (by decide) f296 (rm_ap2 l Z a0 hw a155 a161 a158 ((0 : Int32) + (1 : Int32)) (.ref a158) .null .null .null .null .null (.ref a155) T285.heap n0 z302 f296 f297 p285_0 p285_1 p285_2 f298 f299 f300 f301 p285_3 p285_4 p285_5 ge_a155 ge_a161 ge_a158 (Nat.ne_of_lt lt_a155_a161) (Nat.ne_of_lt lt_a155_a158) (Nat.ne_of_gt lt_a158_a161)) rfl (W := 0) (by decide) (by decide) opd__Lcom_example_slot3_slot3_frame_Post__V rfl (rest := []) rfl (hb hby at_131) (Nat.le_of_eq rfl) (by rw [hml]; rfl) (by decide) (by decide) (pc' := 134) rfl ?_
        intro v295 T295 L295 X295 q295
        obtain ⟨rfl, Nq295, K295, p295_0, p295_1, p295_2, p295_3, p295_4, p295_5, p295_6, p295_7, p295_8⟩ := q295
        have N295 := Fr.app N285 Nq295
        show own_G p e below s _ _ _ (T295.setTop (mkF m 134 #[.val (.int u0), .val (.int u1), .val (.int (2 : Int32)), .val (.int (1 : Int32)), .val (.int (0 : Int32)), .val (.int (if (u1 &&& (4 : Int32)) = (0 : Int32) then (0 : Int32) else (1 : Int32))), .val (.ref a155), .val (.ref a158), .val (.ref a161), .val (.ref a165), .unset, .unset, .unset, .unset, .unset] []))
        refine own_iload X295 hx (hb hby at_134) rfl (pc' := 136) rfl ?_
        by_cases c303 : (u1 &&& (4 : Int32)) = (0 : Int32)
        · refine own_cast (S' := T295.setTop (mkF m 136 #[.val (.int u0), .val (.int u1), .val (.int (2 : Int32)), .val (.int (1 : Int32)), .val (.int (0 : Int32)), .val (.int (0 : Int32)), .val (.ref a155), .val (.ref a158), .val (.ref a161), .val (.ref a165), .unset, .unset, .unset, .unset, .unset] [(.int (0 : Int32))])) (by first | (simp only [if_pos c303]; done) | (rw [if_pos c303]; done) | (simp; done)) ?_
          refine own_ifT X295 hx (hb hby at_136) (by decide) (by decide) (pc' := 150) rfl ?_
          refine own_iloadN X295 hx (hb hby at_150) rfl (pc' := 151) rfl ?_
          refine own_ifT X295 hx (hb hby at_151) (by decide) (by decide) (pc' := 166) rfl ?_
          refine own_iloadN X295 hx (hb hby at_166) rfl (pc' := 167) rfl ?_
          refine own_iconst X295 hx (hb hby at_167) (z := (1 : Int32)) rfl (pc' := 168) rfl ?_
          refine own_icmpT X295 hx (hb hby at_168) (by decide) (by decide) (pc' := 202) rfl ?_
          refine own_iload X295 hx (hb hby at_202) rfl (pc' := 204) rfl ?_
          refine own_ifT X295 hx (hb hby at_204) (by decide) (by decide) (pc' := 212) rfl ?_
          refine own_aload X295 hx (hb hby at_212) rfl rfl (pc' := 214) rfl ?_
          refine own_astore X295 hx (hb hby at_214) rfl (l' := #[.val (.int u0), .val (.int u1), .val (.int (2 : Int32)), .val (.int (1 : Int32)), .val (.int (0 : Int32)), .val (.int (0 : Int32)), .val (.ref a155), .val (.ref a158), .val (.ref a161), .val (.ref a165), .unset, .unset, .unset, .val (.ref a158), .unset]) rfl (pc' := 216) rfl ?_
          refine own_iload X295 hx (hb hby at_216) rfl (pc' := 218) rfl ?_
          refine own_ifT X295 hx (hb hby at_218) (by decide) (by decide) (pc' := 226) rfl ?_
          refine own_aload X295 hx (hb hby at_226) rfl rfl (pc' := 228) rfl ?_
          refine own_astore X295 hx (hb hby at_228) rfl (l' := #[.val (.int u0), .val (.int u1), .val (.int (2 : Int32)), .val (.int (1 : Int32)), .val (.int (0 : Int32)), .val (.int (0 : Int32)), .val (.ref a155), .val (.ref a158), .val (.ref a161), .val (.ref a165), .unset, .unset, .unset, .val (.ref a158), .val (.ref a161)]) rfl (pc' := 230) rfl ?_
          refine own_iload X295 hx (hb hby at_230) rfl (pc' := 232) rfl ?_
          refine own_ifT X295 hx (hb hby at_232) (by decide) (by decide) (pc' := 249) rfl ?_
          refine own_iconst X295 hx (hb hby at_249) (z := (2 : Int32)) rfl (pc' := 250) rfl ?_
          refine own_istore X295 hx (hb hby at_250) (l' := #[.val (.int u0), .val (.int u1), .val (.int (2 : Int32)), .val (.int (1 : Int32)), .val (.int (0 : Int32)), .val (.int (0 : Int32)), .val (.ref a155), .val (.ref a158), .val (.ref a161), .val (.ref a165), .val (.int (2 : Int32)), .unset, .unset, .val (.ref a158), .val (.ref a161)]) rfl (pc' := 252) rfl ?_
          refine own_aload X295 hx (hb hby at_252) rfl rfl (pc' := 254) rfl ?_
          refine own_astore X295 hx (hb hby at_254) rfl (l' := #[.val (.int u0), .val (.int u1), .val (.int (2 : Int32)), .val (.int (1 : Int32)), .val (.int (0 : Int32)), .val (.int (0 : Int32)), .val (.ref a155), .val (.ref a158), .val (.ref a161), .val (.ref a165), .val (.int (2 : Int32)), .val (.ref a158), .unset, .val (.ref a158), .val (.ref a161)]) rfl (pc' := 256) rfl ?_
          refine own_aload X295 hx (hb hby at_256) rfl rfl (pc' := 258) rfl ?_
          refine own_astore X295 hx (hb hby at_258) rfl (l' := #[.val (.int u0), .val (.int u1), .val (.int (2 : Int32)), .val (.int (1 : Int32)), .val (.int (0 : Int32)), .val (.int (0 : Int32)), .val (.ref a155), .val (.ref a158), .val (.ref a161), .val (.ref a165), .val (.int (2 : Int32)), .val (.ref a158), .val (.ref a161), .val (.ref a158), .val (.ref a161)]) rfl (pc' := 260) rfl ?_
          refine own_aload X295 hx (hb hby at_260) rfl rfl (pc' := 262) rfl ?_
          refine own_aload X295 hx (hb hby at_262) rfl rfl (pc' := 264) rfl ?_
          have f305 : Exa Z T295.heap a155 "com/example/slot3/slot3/frame/PostChain" := (f296.keep K295)
          have f306 : Exa Z T295.heap a165 "com/example/slot3/slot3/frame/Post" := ((A165.keep K285).keep K295)
          have f307 : Exa Z T295.heap a161 "com/example/slot3/slot3/frame/Post" := (f297.keep K295)
          have f308 : Fld Z T295.heap a165 "com/example/slot3/slot3/frame/Post" "following" "Lcom/example/slot3/slot3/frame/Post;" (.null) := ((F165_following.keep K285 (ninS (Nat.ne_of_gt lt_a155_a165) (ninS (Nat.ne_of_gt lt_a158_a165) nin0))).keep K295 (ninS (Nat.ne_of_gt lt_a155_a165) (ninS (Nat.ne_of_gt lt_a161_a165) (ninS (Nat.ne_of_gt lt_a158_a165) nin0))))
          have f309 : Fld Z T295.heap a165 "com/example/slot3/slot3/frame/Post" "previous" "Lcom/example/slot3/slot3/frame/Post;" (.null) := ((F165_previous.keep K285 (ninS (Nat.ne_of_gt lt_a155_a165) (ninS (Nat.ne_of_gt lt_a158_a165) nin0))).keep K295 (ninS (Nat.ne_of_gt lt_a155_a165) (ninS (Nat.ne_of_gt lt_a161_a165) (ninS (Nat.ne_of_gt lt_a158_a165) nin0))))
          have f310 : Fld Z T295.heap a165 "com/example/slot3/slot3/frame/Post" "chain" "Lcom/example/slot3/slot3/frame/PostChain;" (.null) := ((F165_chain.keep K285 (ninS (Nat.ne_of_gt lt_a155_a165) (ninS (Nat.ne_of_gt lt_a158_a165) nin0))).keep K295 (ninS (Nat.ne_of_gt lt_a155_a165) (ninS (Nat.ne_of_gt lt_a161_a165) (ninS (Nat.ne_of_gt lt_a158_a165) nin0))))
          have z311 : n0 ≤ T295.heap.size := (Nat.le_trans z302 K295.1)
          refine own_callV X295 hx hZ hown (ow_17 hw) (ow_18 hw) (ow_20 hw) (ow_19 hw) (ow_3 hw) (ow_21 hw) (by decide) f305 (rm_ap2 l Z a0 hw a155 a165 a161 (((0 : Int32) + (1 : Int32)) + (1 : Int32)) (.ref a158) .null .null .null .null (.ref a158) (.ref a155) T295.heap n0 z311 f305 f306 p295_0 p295_1 p295_2 f307 f308 f309 f310 p295_3 p295_4 p295_5 ge_a155 ge_a165 ge_a161 (Nat.ne_of_lt lt_a155_a165) (Nat.ne_of_lt lt_a155_a161) (Nat.ne_of_gt lt_a161_a165)) rfl (W := 0) (by decide) (by decide) opd__Lcom_example_slot3_slot3_frame_Post__V rfl (rest := []) rfl (hb hby at_264) (Nat.le_of_eq rfl) (by rw [hml]; rfl) (by decide) (by decide) (pc' := 267) rfl ?_
          intro v304 T304 L304 X304 q304
          obtain ⟨rfl, Nq304, K304, p304_0, p304_1, p304_2, p304_3, p304_4, p304_5, p304_6, p304_7, p304_8⟩ := q304
          have N304 := Fr.app N295 Nq304
          show own_G p e below s _ _ _ (T304.setTop (mkF m 267 #[.val (.int u0), .val (.int u1), .val (.int (2 : Int32)), .val (.int (1 : Int32)), .val (.int (0 : Int32)), .val (.int (0 : Int32)), .val (.ref a155), .val (.ref a158), .val (.ref a161), .val (.ref a165), .val (.int (2 : Int32)), .val (.ref a158), .val (.ref a161), .val (.ref a158), .val (.ref a161)] []))
          refine own_aload X304 hx (hb hby at_267) rfl rfl (pc' := 269) rfl ?_
          refine own_getF X304 hx hZ hown (ow_32 hw) rfl p304_1 (hb hby at_269) (pc' := 272) rfl ?_
          intro T312 X312 e312
          refine own_aload X312 hx (hb hby at_272) rfl rfl (pc' := 274) rfl ?_
          refine own_acmpF X312 hx (hb hby at_274) rfl rfl (by simp [XT.acmp]) (pc' := 277) rfl ?_
          refine own_aload X312 hx (hb hby at_277) rfl rfl (pc' := 279) rfl ?_
          refine own_getF X312 hx hZ hown (ow_33 hw) e312 p304_5 (hb hby at_279) (pc' := 282) rfl ?_
          intro T313 X313 e313
          refine own_aload X313 hx (hb hby at_282) rfl rfl (pc' := 284) rfl ?_
          refine own_acmpF X313 hx (hb hby at_284) rfl rfl (by simp [XT.acmp]) (pc' := 287) rfl ?_
          refine own_aload X313 hx (hb hby at_287) rfl rfl (pc' := 289) rfl ?_
          refine own_getF X313 hx hZ hown (ow_34 hw) e313 p304_3 (hb hby at_289) (pc' := 292) rfl ?_
          intro T314 X314 e314
          refine own_ifnonnullF X314 hx (hb hby at_292) (pc' := 295) rfl ?_
          refine own_aload X314 hx (hb hby at_295) rfl rfl (pc' := 297) rfl ?_
          refine own_getF X314 hx hZ hown (ow_36 hw) e314 p304_4 (hb hby at_297) (pc' := 300) rfl ?_
          intro T315 X315 e315
          refine own_aload X315 hx (hb hby at_300) rfl rfl (pc' := 302) rfl ?_
          refine own_acmpF X315 hx (hb hby at_302) rfl rfl (by simp [XT.acmp]) (pc' := 305) rfl ?_
          refine own_aload X315 hx (hb hby at_305) rfl rfl (pc' := 307) rfl ?_
          refine own_getF X315 hx hZ hown (ow_37 hw) e315 p304_2 (hb hby at_307) (pc' := 310) rfl ?_
          intro T316 X316 e316
          refine own_iload X316 hx (hb hby at_310) rfl (pc' := 312) rfl ?_
          refine own_iconst X316 hx (hb hby at_312) (z := (1 : Int32)) rfl (pc' := 313) rfl ?_
          refine own_iadd X316 hx (hb hby at_313) (pc' := 314) rfl ?_
          refine own_icmpF X316 hx (hb hby at_314) (by decide) (pc' := 317) rfl ?_
          refine own_iconst X316 hx (hb hby at_317) (z := (1 : Int32)) rfl (pc' := 318) rfl ?_
          refine own_goto X316 hx (hb hby at_318) (by decide) (pc' := 322) rfl ?_
          refine own_istore X316 hx (hb hby at_322) (l' := #[.val (.int u0), .val (.int u1), .val (.int (2 : Int32)), .val (.int (1 : Int32)), .val (.int (0 : Int32)), .val (.int (0 : Int32)), .val (.ref a155), .val (.ref a158), .val (.ref a161), .val (.ref a165), .val (.int (2 : Int32)), .val (.ref a158), .val (.ref a161), .val (.int (1 : Int32)), .val (.ref a161)]) rfl (pc' := 324) rfl ?_
          refine own_aload X316 hx (hb hby at_324) rfl rfl (pc' := 326) rfl ?_
          refine own_ifnonnullT X316 hx (hb hby at_326) (by decide) (pc' := 354) rfl ?_
          refine own_iload X316 hx (hb hby at_354) rfl (pc' := 356) rfl ?_
          refine own_ifF X316 hx (hb hby at_356) (by decide) (pc' := 359) rfl ?_
          refine own_aload X316 hx (hb hby at_359) rfl rfl (pc' := 361) rfl ?_
          refine own_getF X316 hx hZ hown (ow_38 hw) e316 p304_0 (hb hby at_361) (pc' := 364) rfl ?_
          intro T317 X317 e317
          refine own_aload X317 hx (hb hby at_364) rfl rfl (pc' := 366) rfl ?_
          refine own_acmpF X317 hx (hb hby at_366) rfl rfl (by simp [XT.acmp]) (pc' := 369) rfl ?_
          refine own_aload X317 hx (hb hby at_369) rfl rfl (pc' := 371) rfl ?_
          refine own_getF X317 hx hZ hown (ow_34 hw) e317 p304_6 (hb hby at_371) (pc' := 374) rfl ?_
          intro T318 X318 e318
          refine own_aload X318 hx (hb hby at_374) rfl rfl (pc' := 376) rfl ?_
          refine own_acmpF X318 hx (hb hby at_376) rfl rfl (by simp [XT.acmp]) (pc' := 379) rfl ?_
          refine own_aload X318 hx (hb hby at_379) rfl rfl (pc' := 381) rfl ?_
          have f319 : Fld Z T304.heap a158 "com/example/slot3/slot3/frame/Post" "previous" "Lcom/example/slot3/slot3/frame/Post;" (.null) := (p295_7.keep K304 (ninS (Nat.ne_of_gt lt_a155_a158) (ninS (Nat.ne_of_lt lt_a158_a165) (ninS (Nat.ne_of_lt lt_a158_a161) nin0))))
          refine own_getF X318 hx hZ hown (ow_36 hw) e318 f319 (hb hby at_381) (pc' := 384) rfl ?_
          intro T320 X320 e320
          refine own_ifnonnullF X320 hx (hb hby at_384) (pc' := 387) rfl ?_
          refine own_aload X320 hx (hb hby at_387) rfl rfl (pc' := 389) rfl ?_
          refine own_getF X320 hx hZ hown (ow_33 hw) e320 p304_8 (hb hby at_389) (pc' := 392) rfl ?_
          intro T321 X321 e321
          refine own_aload X321 hx (hb hby at_392) rfl rfl (pc' := 394) rfl ?_
          refine own_acmpF X321 hx (hb hby at_394) rfl rfl (by simp [XT.acmp]) (pc' := 397) rfl ?_
          refine own_iconst X321 hx (hb hby at_397) (z := (1 : Int32)) rfl (pc' := 398) rfl ?_
          refine own_goto X321 hx (hb hby at_398) (by decide) (pc' := 402) rfl ?_
          refine own_istore X321 hx (hb hby at_402) (l' := #[.val (.int u0), .val (.int u1), .val (.int (2 : Int32)), .val (.int (1 : Int32)), .val (.int (0 : Int32)), .val (.int (0 : Int32)), .val (.ref a155), .val (.ref a158), .val (.ref a161), .val (.ref a165), .val (.int (2 : Int32)), .val (.ref a158), .val (.ref a161), .val (.int (1 : Int32)), .val (.ref a161)]) rfl (pc' := 404) rfl ?_
          refine own_iload X321 hx (hb hby at_404) rfl (pc' := 406) rfl ?_
          refine own_iconst X321 hx (hb hby at_406) (z := (2 : Int32)) rfl (pc' := 407) rfl ?_
          refine own_icmpF X321 hx (hb hby at_407) (by decide) (pc' := 410) rfl ?_
          refine own_iload X321 hx (hb hby at_410) rfl (pc' := 412) rfl ?_
          refine own_ifF X321 hx (hb hby at_412) (by decide) (pc' := 415) rfl ?_
          refine own_aload X321 hx (hb hby at_415) rfl rfl (pc' := 417) rfl ?_
          have f322 : Fld Z T304.heap a158 "com/example/slot3/slot3/frame/Post" "following" "Lcom/example/slot3/slot3/frame/Post;" (.ref a161) := (p295_6.keep K304 (ninS (Nat.ne_of_gt lt_a155_a158) (ninS (Nat.ne_of_lt lt_a158_a165) (ninS (Nat.ne_of_lt lt_a158_a161) nin0))))
          refine own_getF X321 hx hZ hown (ow_34 hw) e321 f322 (hb hby at_417) (pc' := 420) rfl ?_
          intro T323 X323 e323
          refine own_aload X323 hx (hb hby at_420) rfl rfl (pc' := 422) rfl ?_
          refine own_acmpF X323 hx (hb hby at_422) rfl rfl (by simp [XT.acmp]) (pc' := 425) rfl ?_
          refine own_aload X323 hx (hb hby at_425) rfl rfl (pc' := 427) rfl ?_
          refine own_getF X323 hx hZ hown (ow_36 hw) e323 p304_7 (hb hby at_427) (pc' := 430) rfl ?_
          intro T324 X324 e324
          refine own_aload X324 hx (hb hby at_430) rfl rfl (pc' := 432) rfl ?_
          refine own_acmpF X324 hx (hb hby at_432) rfl rfl (by simp [XT.acmp]) (pc' := 435) rfl ?_
          refine own_iconst X324 hx (hb hby at_435) (z := (1 : Int32)) rfl (pc' := 436) rfl ?_
          refine own_goto X324 hx (hb hby at_436) (by decide) (pc' := 440) rfl ?_
          refine own_istore X324 hx (hb hby at_440) (l' := #[.val (.int u0), .val (.int u1), .val (.int (2 : Int32)), .val (.int (1 : Int32)), .val (.int (0 : Int32)), .val (.int (0 : Int32)), .val (.ref a155), .val (.ref a158), .val (.ref a161), .val (.ref a165), .val (.int (2 : Int32)), .val (.ref a158), .val (.ref a161), .val (.int (1 : Int32)), .val (.ref a161)]) rfl (pc' := 442) rfl ?_
          refine own_iload X324 hx (hb hby at_442) rfl (pc' := 444) rfl ?_
          exact own_retZ X324 hx hret hlk (Or.inr rfl) (hb hby at_444) ⟨rfl, N304⟩ (by decide) (by decide)
        · refine own_cast (S' := T295.setTop (mkF m 136 #[.val (.int u0), .val (.int u1), .val (.int (2 : Int32)), .val (.int (1 : Int32)), .val (.int (0 : Int32)), .val (.int (1 : Int32)), .val (.ref a155), .val (.ref a158), .val (.ref a161), .val (.ref a165), .unset, .unset, .unset, .unset, .unset] [(.int (1 : Int32))])) (by first | (simp only [if_neg c303]; done) | (rw [if_neg c303]; done) | (simp; done)) ?_
          refine own_ifF X295 hx (hb hby at_136) (by decide) (pc' := 139) rfl ?_
          refine own_iloadN X295 hx (hb hby at_139) rfl (pc' := 140) rfl ?_
          refine own_iconst X295 hx (hb hby at_140) (z := (1 : Int32)) rfl (pc' := 141) rfl ?_
          refine own_icmpF X295 hx (hb hby at_141) (by decide) (pc' := 144) rfl ?_
          refine own_aload X295 hx (hb hby at_144) rfl rfl (pc' := 146) rfl ?_
          have f326 : Exa Z T295.heap a155 "com/example/slot3/slot3/frame/PostChain" := (f296.keep K295)
          have f327 : Exa Z T295.heap a158 "com/example/slot3/slot3/frame/Post" := (f298.keep K295)
          have f328 : Exa Z T295.heap a161 "com/example/slot3/slot3/frame/Post" := (f297.keep K295)
          have z329 : n0 ≤ T295.heap.size := (Nat.le_trans z302 K295.1)
          refine own_callV X295 hx hZ hown (ow_45 hw) (ow_46 hw) (ow_48 hw) (ow_47 hw) (ow_3 hw) (ow_49 hw) (by decide) f326 (rm_tfr l Z a0 hw a155 a158 a161 (((0 : Int32) + (1 : Int32)) + (1 : Int32)) (.ref a161) (.ref a155) .null (.ref a158) (.ref a155) T295.heap n0 z329 f326 p295_0 p295_1 p295_2 f327 p295_6 p295_7 p295_8 f328 p295_3 p295_4 p295_5 ge_a155 ge_a158 ge_a161 (Nat.ne_of_lt lt_a155_a158) (Nat.ne_of_lt lt_a155_a161) (Nat.ne_of_lt lt_a158_a161)) rfl (W := 0) (by decide) (by decide) opd___Lcom_example_slot3_slot3_frame_Post_ rfl (rest := []) rfl (hb hby at_146) (Nat.le_of_eq rfl) (by rw [hml]; rfl) (by decide) (by decide) (pc' := 149) rfl ?_
          intro v325 T325 L325 X325 q325
          obtain ⟨rfl, Nq325, K325, p325_0, p325_1, p325_2, p325_3, p325_4, p325_5, p325_6, p325_7, p325_8⟩ := q325
          have N325 := Fr.app N295 Nq325
          show own_G p e below s _ _ _ (T325.setTop (mkF m 149 #[.val (.int u0), .val (.int u1), .val (.int (2 : Int32)), .val (.int (1 : Int32)), .val (.int (0 : Int32)), .val (.int (1 : Int32)), .val (.ref a155), .val (.ref a158), .val (.ref a161), .val (.ref a165), .unset, .unset, .unset, .unset, .unset] [(.ref a158)]))
          refine own_pop X325 hx (hb hby at_149) rfl (pc' := 150) rfl ?_
          refine own_iloadN X325 hx (hb hby at_150) rfl (pc' := 151) rfl ?_
          refine own_ifT X325 hx (hb hby at_151) (by decide) (by decide) (pc' := 166) rfl ?_
          refine own_iloadN X325 hx (hb hby at_166) rfl (pc' := 167) rfl ?_
          refine own_iconst X325 hx (hb hby at_167) (z := (1 : Int32)) rfl (pc' := 168) rfl ?_
          refine own_icmpT X325 hx (hb hby at_168) (by decide) (by decide) (pc' := 202) rfl ?_
          refine own_iload X325 hx (hb hby at_202) rfl (pc' := 204) rfl ?_
          refine own_ifT X325 hx (hb hby at_204) (by decide) (by decide) (pc' := 212) rfl ?_
          refine own_aload X325 hx (hb hby at_212) rfl rfl (pc' := 214) rfl ?_
          refine own_astore X325 hx (hb hby at_214) rfl (l' := #[.val (.int u0), .val (.int u1), .val (.int (2 : Int32)), .val (.int (1 : Int32)), .val (.int (0 : Int32)), .val (.int (1 : Int32)), .val (.ref a155), .val (.ref a158), .val (.ref a161), .val (.ref a165), .unset, .unset, .unset, .val (.ref a158), .unset]) rfl (pc' := 216) rfl ?_
          refine own_iload X325 hx (hb hby at_216) rfl (pc' := 218) rfl ?_
          refine own_ifT X325 hx (hb hby at_218) (by decide) (by decide) (pc' := 226) rfl ?_
          refine own_aload X325 hx (hb hby at_226) rfl rfl (pc' := 228) rfl ?_
          refine own_astore X325 hx (hb hby at_228) rfl (l' := #[.val (.int u0), .val (.int u1), .val (.int (2 : Int32)), .val (.int (1 : Int32)), .val (.int (0 : Int32)), .val (.int (1 : Int32)), .val (.ref a155), .val (.ref a158), .val (.ref a161), .val (.ref a165), .unset, .unset, .unset, .val (.ref a158), .val (.ref a161)]) rfl (pc' := 230) rfl ?_
          refine own_iload X325 hx (hb hby at_230) rfl (pc' := 232) rfl ?_
          refine own_ifF X325 hx (hb hby at_232) (by decide) (pc' := 235) rfl ?_
          refine own_iconst X325 hx (hb hby at_235) (z := (1 : Int32)) rfl (pc' := 236) rfl ?_
          refine own_istore X325 hx (hb hby at_236) (l' := #[.val (.int u0), .val (.int u1), .val (.int (2 : Int32)), .val (.int (1 : Int32)), .val (.int (0 : Int32)), .val (.int (1 : Int32)), .val (.ref a155), .val (.ref a158), .val (.ref a161), .val (.ref a165), .val (.int (1 : Int32)), .unset, .unset, .val (.ref a158), .val (.ref a161)]) rfl (pc' := 238) rfl ?_
          refine own_aload X325 hx (hb hby at_238) rfl rfl (pc' := 240) rfl ?_
          refine own_astore X325 hx (hb hby at_240) rfl (l' := #[.val (.int u0), .val (.int u1), .val (.int (2 : Int32)), .val (.int (1 : Int32)), .val (.int (0 : Int32)), .val (.int (1 : Int32)), .val (.ref a155), .val (.ref a158), .val (.ref a161), .val (.ref a165), .val (.int (1 : Int32)), .val (.ref a161), .unset, .val (.ref a158), .val (.ref a161)]) rfl (pc' := 242) rfl ?_
          refine own_aload X325 hx (hb hby at_242) rfl rfl (pc' := 244) rfl ?_
          refine own_astore X325 hx (hb hby at_244) rfl (l' := #[.val (.int u0), .val (.int u1), .val (.int (2 : Int32)), .val (.int (1 : Int32)), .val (.int (0 : Int32)), .val (.int (1 : Int32)), .val (.ref a155), .val (.ref a158), .val (.ref a161), .val (.ref a165), .val (.int (1 : Int32)), .val (.ref a161), .val (.ref a161), .val (.ref a158), .val (.ref a161)]) rfl (pc' := 246) rfl ?_
          refine own_goto X325 hx (hb hby at_246) (by decide) (pc' := 260) rfl ?_
          refine own_aload X325 hx (hb hby at_260) rfl rfl (pc' := 262) rfl ?_
          refine own_aload X325 hx (hb hby at_262) rfl rfl (pc' := 264) rfl ?_
          have f331 : Exa Z T325.heap a155 "com/example/slot3/slot3/frame/PostChain" := (f326.keep K325)
          have f332 : Exa Z T325.heap a165 "com/example/slot3/slot3/frame/Post" := (((A165.keep K285).keep K295).keep K325)
          have f333 : Exa Z T325.heap a161 "com/example/slot3/slot3/frame/Post" := (f328.keep K325)
          have f334 : Fld Z T325.heap a165 "com/example/slot3/slot3/frame/Post" "following" "Lcom/example/slot3/slot3/frame/Post;" (.null) := (((F165_following.keep K285 (ninS (Nat.ne_of_gt lt_a155_a165) (ninS (Nat.ne_of_gt lt_a158_a165) nin0))).keep K295 (ninS (Nat.ne_of_gt lt_a155_a165) (ninS (Nat.ne_of_gt lt_a161_a165) (ninS (Nat.ne_of_gt lt_a158_a165) nin0)))).keep K325 (ninS (Nat.ne_of_gt lt_a155_a165) (ninS (Nat.ne_of_gt lt_a158_a165) (ninS (Nat.ne_of_gt lt_a161_a165) nin0))))
          have f335 : Fld Z T325.heap a165 "com/example/slot3/slot3/frame/Post" "previous" "Lcom/example/slot3/slot3/frame/Post;" (.null) := (((F165_previous.keep K285 (ninS (Nat.ne_of_gt lt_a155_a165) (ninS (Nat.ne_of_gt lt_a158_a165) nin0))).keep K295 (ninS (Nat.ne_of_gt lt_a155_a165) (ninS (Nat.ne_of_gt lt_a161_a165) (ninS (Nat.ne_of_gt lt_a158_a165) nin0)))).keep K325 (ninS (Nat.ne_of_gt lt_a155_a165) (ninS (Nat.ne_of_gt lt_a158_a165) (ninS (Nat.ne_of_gt lt_a161_a165) nin0))))
          have f336 : Fld Z T325.heap a165 "com/example/slot3/slot3/frame/Post" "chain" "Lcom/example/slot3/slot3/frame/PostChain;" (.null) := (((F165_chain.keep K285 (ninS (Nat.ne_of_gt lt_a155_a165) (ninS (Nat.ne_of_gt lt_a158_a165) nin0))).keep K295 (ninS (Nat.ne_of_gt lt_a155_a165) (ninS (Nat.ne_of_gt lt_a161_a165) (ninS (Nat.ne_of_gt lt_a158_a165) nin0)))).keep K325 (ninS (Nat.ne_of_gt lt_a155_a165) (ninS (Nat.ne_of_gt lt_a158_a165) (ninS (Nat.ne_of_gt lt_a161_a165) nin0))))
          have z337 : n0 ≤ T325.heap.size := (Nat.le_trans z329 K325.1)
          refine own_callV X325 hx hZ hown (ow_17 hw) (ow_18 hw) (ow_20 hw) (ow_19 hw) (ow_3 hw) (ow_21 hw) (by decide) f331 (rm_ap2 l Z a0 hw a155 a165 a161 ((((0 : Int32) + (1 : Int32)) + (1 : Int32)) - (1 : Int32)) (.ref a161) .null .null .null .null .null (.ref a155) T325.heap n0 z337 f331 f332 p325_0 p325_1 p325_2 f333 f334 f335 f336 p325_6 p325_7 p325_8 ge_a155 ge_a165 ge_a161 (Nat.ne_of_lt lt_a155_a165) (Nat.ne_of_lt lt_a155_a161) (Nat.ne_of_gt lt_a161_a165)) rfl (W := 0) (by decide) (by decide) opd__Lcom_example_slot3_slot3_frame_Post__V rfl (rest := []) rfl (hb hby at_264) (Nat.le_of_eq rfl) (by rw [hml]; rfl) (by decide) (by decide) (pc' := 267) rfl ?_
          intro v330 T330 L330 X330 q330
          obtain ⟨rfl, Nq330, K330, p330_0, p330_1, p330_2, p330_3, p330_4, p330_5, p330_6, p330_7, p330_8⟩ := q330
          have N330 := Fr.app N325 Nq330
          show own_G p e below s _ _ _ (T330.setTop (mkF m 267 #[.val (.int u0), .val (.int u1), .val (.int (2 : Int32)), .val (.int (1 : Int32)), .val (.int (0 : Int32)), .val (.int (1 : Int32)), .val (.ref a155), .val (.ref a158), .val (.ref a161), .val (.ref a165), .val (.int (1 : Int32)), .val (.ref a161), .val (.ref a161), .val (.ref a158), .val (.ref a161)] []))
          refine own_aload X330 hx (hb hby at_267) rfl rfl (pc' := 269) rfl ?_
          refine own_getF X330 hx hZ hown (ow_32 hw) rfl p330_1 (hb hby at_269) (pc' := 272) rfl ?_
          intro T338 X338 e338
          refine own_aload X338 hx (hb hby at_272) rfl rfl (pc' := 274) rfl ?_
          refine own_acmpF X338 hx (hb hby at_274) rfl rfl (by simp [XT.acmp]) (pc' := 277) rfl ?_
          refine own_aload X338 hx (hb hby at_277) rfl rfl (pc' := 279) rfl ?_
          refine own_getF X338 hx hZ hown (ow_33 hw) e338 p330_5 (hb hby at_279) (pc' := 282) rfl ?_
          intro T339 X339 e339
          refine own_aload X339 hx (hb hby at_282) rfl rfl (pc' := 284) rfl ?_
          refine own_acmpF X339 hx (hb hby at_284) rfl rfl (by simp [XT.acmp]) (pc' := 287) rfl ?_
          refine own_aload X339 hx (hb hby at_287) rfl rfl (pc' := 289) rfl ?_
          refine own_getF X339 hx hZ hown (ow_34 hw) e339 p330_3 (hb hby at_289) (pc' := 292) rfl ?_
          intro T340 X340 e340
          refine own_ifnonnullF X340 hx (hb hby at_292) (pc' := 295) rfl ?_
          refine own_aload X340 hx (hb hby at_295) rfl rfl (pc' := 297) rfl ?_
          refine own_getF X340 hx hZ hown (ow_36 hw) e340 p330_4 (hb hby at_297) (pc' := 300) rfl ?_
          intro T341 X341 e341
          refine own_aload X341 hx (hb hby at_300) rfl rfl (pc' := 302) rfl ?_
          refine own_acmpF X341 hx (hb hby at_302) rfl rfl (by simp [XT.acmp]) (pc' := 305) rfl ?_
          refine own_aload X341 hx (hb hby at_305) rfl rfl (pc' := 307) rfl ?_
          refine own_getF X341 hx hZ hown (ow_37 hw) e341 p330_2 (hb hby at_307) (pc' := 310) rfl ?_
          intro T342 X342 e342
          refine own_iload X342 hx (hb hby at_310) rfl (pc' := 312) rfl ?_
          refine own_iconst X342 hx (hb hby at_312) (z := (1 : Int32)) rfl (pc' := 313) rfl ?_
          refine own_iadd X342 hx (hb hby at_313) (pc' := 314) rfl ?_
          refine own_icmpF X342 hx (hb hby at_314) (by decide) (pc' := 317) rfl ?_
          refine own_iconst X342 hx (hb hby at_317) (z := (1 : Int32)) rfl (pc' := 318) rfl ?_
          refine own_goto X342 hx (hb hby at_318) (by decide) (pc' := 322) rfl ?_
          refine own_istore X342 hx (hb hby at_322) (l' := #[.val (.int u0), .val (.int u1), .val (.int (2 : Int32)), .val (.int (1 : Int32)), .val (.int (0 : Int32)), .val (.int (1 : Int32)), .val (.ref a155), .val (.ref a158), .val (.ref a161), .val (.ref a165), .val (.int (1 : Int32)), .val (.ref a161), .val (.ref a161), .val (.int (1 : Int32)), .val (.ref a161)]) rfl (pc' := 324) rfl ?_
          refine own_aload X342 hx (hb hby at_324) rfl rfl (pc' := 326) rfl ?_
          refine own_ifnonnullT X342 hx (hb hby at_326) (by decide) (pc' := 354) rfl ?_
          refine own_iload X342 hx (hb hby at_354) rfl (pc' := 356) rfl ?_
          refine own_ifF X342 hx (hb hby at_356) (by decide) (pc' := 359) rfl ?_
          refine own_aload X342 hx (hb hby at_359) rfl rfl (pc' := 361) rfl ?_
          refine own_getF X342 hx hZ hown (ow_38 hw) e342 p330_0 (hb hby at_361) (pc' := 364) rfl ?_
          intro T343 X343 e343
          refine own_aload X343 hx (hb hby at_364) rfl rfl (pc' := 366) rfl ?_
          refine own_acmpF X343 hx (hb hby at_366) rfl rfl (by simp [XT.acmp]) (pc' := 369) rfl ?_
          refine own_aload X343 hx (hb hby at_369) rfl rfl (pc' := 371) rfl ?_
          refine own_getF X343 hx hZ hown (ow_34 hw) e343 p330_6 (hb hby at_371) (pc' := 374) rfl ?_
          intro T344 X344 e344
          refine own_aload X344 hx (hb hby at_374) rfl rfl (pc' := 376) rfl ?_
          refine own_acmpF X344 hx (hb hby at_376) rfl rfl (by simp [XT.acmp]) (pc' := 379) rfl ?_
          refine own_aload X344 hx (hb hby at_379) rfl rfl (pc' := 381) rfl ?_
          refine own_getF X344 hx hZ hown (ow_36 hw) e344 p330_7 (hb hby at_381) (pc' := 384) rfl ?_
          intro T345 X345 e345
          refine own_ifnonnullF X345 hx (hb hby at_384) (pc' := 387) rfl ?_
          refine own_aload X345 hx (hb hby at_387) rfl rfl (pc' := 389) rfl ?_
          refine own_getF X345 hx hZ hown (ow_33 hw) e345 p330_8 (hb hby at_389) (pc' := 392) rfl ?_
          intro T346 X346 e346
          refine own_aload X346 hx (hb hby at_392) rfl rfl (pc' := 394) rfl ?_
          refine own_acmpF X346 hx (hb hby at_394) rfl rfl (by simp [XT.acmp]) (pc' := 397) rfl ?_
          refine own_iconst X346 hx (hb hby at_397) (z := (1 : Int32)) rfl (pc' := 398) rfl ?_
          refine own_goto X346 hx (hb hby at_398) (by decide) (pc' := 402) rfl ?_
          refine own_istore X346 hx (hb hby at_402) (l' := #[.val (.int u0), .val (.int u1), .val (.int (2 : Int32)), .val (.int (1 : Int32)), .val (.int (0 : Int32)), .val (.int (1 : Int32)), .val (.ref a155), .val (.ref a158), .val (.ref a161), .val (.ref a165), .val (.int (1 : Int32)), .val (.ref a161), .val (.ref a161), .val (.int (1 : Int32)), .val (.ref a161)]) rfl (pc' := 404) rfl ?_
          refine own_iload X346 hx (hb hby at_404) rfl (pc' := 406) rfl ?_
          refine own_iconst X346 hx (hb hby at_406) (z := (2 : Int32)) rfl (pc' := 407) rfl ?_
          refine own_icmpT X346 hx (hb hby at_407) (by decide) (by decide) (pc' := 442) rfl ?_
          refine own_iload X346 hx (hb hby at_442) rfl (pc' := 444) rfl ?_
          exact own_retZ X346 hx hret hlk (Or.inr rfl) (hb hby at_444) ⟨rfl, N330⟩ (by decide) (by decide)
      · refine own_cast (S' := T285.setTop (mkF m 114 #[.val (.int u0), .val (.int u1), .val (.int (2 : Int32)), .val (.int (1 : Int32)), .val (.int (1 : Int32)), .val (.int (if (u1 &&& (4 : Int32)) = (0 : Int32) then (0 : Int32) else (1 : Int32))), .val (.ref a155), .val (.ref a158), .val (.ref a161), .val (.ref a165), .unset, .unset, .unset, .unset, .unset] [(.int (1 : Int32))])) (by first | (simp only [if_neg c294]; done) | (rw [if_neg c294]; done) | (simp; done)) ?_
        refine own_ifF X285 hx (hb hby at_114) (by decide) (pc' := 117) rfl ?_
        refine own_aload X285 hx (hb hby at_117) rfl rfl (pc' := 119) rfl ?_
        refine own_aload X285 hx (hb hby at_119) rfl rfl (pc' := 121) rfl ?_
        have f348 : Exa Z T285.heap a155 "com/example/slot3/slot3/frame/PostChain" := (f286.keep K285)
        have f349 : Exa Z T285.heap a161 "com/example/slot3/slot3/frame/Post" := ((A161.ext E165).keep K285)
        have f350 : Exa Z T285.heap a158 "com/example/slot3/slot3/frame/Post" := (f287.keep K285)
        have f351 : Fld Z T285.heap a161 "com/example/slot3/slot3/frame/Post" "following" "Lcom/example/slot3/slot3/frame/Post;" (.null) := ((F161_following.ext E165).keep K285 (ninS (Nat.ne_of_gt lt_a155_a161) (ninS (Nat.ne_of_gt lt_a158_a161) nin0)))
        have f352 : Fld Z T285.heap a161 "com/example/slot3/slot3/frame/Post" "previous" "Lcom/example/slot3/slot3/frame/Post;" (.null) := ((F161_previous.ext E165).keep K285 (ninS (Nat.ne_of_gt lt_a155_a161) (ninS (Nat.ne_of_gt lt_a158_a161) nin0)))
        have f353 : Fld Z T285.heap a161 "com/example/slot3/slot3/frame/Post" "chain" "Lcom/example/slot3/slot3/frame/PostChain;" (.null) := ((F161_chain.ext E165).keep K285 (ninS (Nat.ne_of_gt lt_a155_a161) (ninS (Nat.ne_of_gt lt_a158_a161) nin0)))
        have z354 : n0 ≤ T285.heap.size := (Nat.le_trans z169 K285.1)
        refine own_callV X285 hx hZ hown (ow_39 hw) (ow_40 hw) (ow_42 hw) (ow_41 hw) (ow_3 hw) (ow_43 hw) (by decide) f348 (rm_pu2 l Z a0 hw a155 a161 a158 ((0 : Int32) + (1 : Int32)) (.ref a158) .null .null .null .null .null (.ref a155) T285.heap n0 z354 f348 f349 p285_0 p285_1 p285_2 f350 f351 f352 f353 p285_3 p285_4 p285_5 ge_a155 ge_a161 ge_a158 (Nat.ne_of_lt lt_a155_a161) (Nat.ne_of_lt lt_a155_a158) (Nat.ne_of_gt lt_a158_a161)) rfl (W := 0) (by decide) (by decide) opd__Lcom_example_slot3_slot3_frame_Post__V rfl (rest := []) rfl (hb hby at_121) (Nat.le_of_eq rfl) (by rw [hml]; rfl) (by decide) (by decide) (pc' := 124) rfl ?_
        intro v347 T347 L347 X347 q347
        obtain ⟨rfl, Nq347, K347, p347_0, p347_1, p347_2, p347_3, p347_4, p347_5, p347_6, p347_7, p347_8⟩ := q347
        have N347 := Fr.app N285 Nq347
        show own_G p e below s _ _ _ (T347.setTop (mkF m 124 #[.val (.int u0), .val (.int u1), .val (.int (2 : Int32)), .val (.int (1 : Int32)), .val (.int (1 : Int32)), .val (.int (if (u1 &&& (4 : Int32)) = (0 : Int32) then (0 : Int32) else (1 : Int32))), .val (.ref a155), .val (.ref a158), .val (.ref a161), .val (.ref a165), .unset, .unset, .unset, .unset, .unset] []))
        refine own_goto X347 hx (hb hby at_124) (by decide) (pc' := 134) rfl ?_
        refine own_iload X347 hx (hb hby at_134) rfl (pc' := 136) rfl ?_
        by_cases c355 : (u1 &&& (4 : Int32)) = (0 : Int32)
        · refine own_cast (S' := T347.setTop (mkF m 136 #[.val (.int u0), .val (.int u1), .val (.int (2 : Int32)), .val (.int (1 : Int32)), .val (.int (1 : Int32)), .val (.int (0 : Int32)), .val (.ref a155), .val (.ref a158), .val (.ref a161), .val (.ref a165), .unset, .unset, .unset, .unset, .unset] [(.int (0 : Int32))])) (by first | (simp only [if_pos c355]; done) | (rw [if_pos c355]; done) | (simp; done)) ?_
          refine own_ifT X347 hx (hb hby at_136) (by decide) (by decide) (pc' := 150) rfl ?_
          refine own_iloadN X347 hx (hb hby at_150) rfl (pc' := 151) rfl ?_
          refine own_ifT X347 hx (hb hby at_151) (by decide) (by decide) (pc' := 166) rfl ?_
          refine own_iloadN X347 hx (hb hby at_166) rfl (pc' := 167) rfl ?_
          refine own_iconst X347 hx (hb hby at_167) (z := (1 : Int32)) rfl (pc' := 168) rfl ?_
          refine own_icmpT X347 hx (hb hby at_168) (by decide) (by decide) (pc' := 202) rfl ?_
          refine own_iload X347 hx (hb hby at_202) rfl (pc' := 204) rfl ?_
          refine own_ifF X347 hx (hb hby at_204) (by decide) (pc' := 207) rfl ?_
          refine own_aload X347 hx (hb hby at_207) rfl rfl (pc' := 209) rfl ?_
          refine own_goto X347 hx (hb hby at_209) (by decide) (pc' := 214) rfl ?_
          refine own_astore X347 hx (hb hby at_214) rfl (l' := #[.val (.int u0), .val (.int u1), .val (.int (2 : Int32)), .val (.int (1 : Int32)), .val (.int (1 : Int32)), .val (.int (0 : Int32)), .val (.ref a155), .val (.ref a158), .val (.ref a161), .val (.ref a165), .unset, .unset, .unset, .val (.ref a161), .unset]) rfl (pc' := 216) rfl ?_
          refine own_iload X347 hx (hb hby at_216) rfl (pc' := 218) rfl ?_
          refine own_ifF X347 hx (hb hby at_218) (by decide) (pc' := 221) rfl ?_
          refine own_aload X347 hx (hb hby at_221) rfl rfl (pc' := 223) rfl ?_
          refine own_goto X347 hx (hb hby at_223) (by decide) (pc' := 228) rfl ?_
          refine own_astore X347 hx (hb hby at_228) rfl (l' := #[.val (.int u0), .val (.int u1), .val (.int (2 : Int32)), .val (.int (1 : Int32)), .val (.int (1 : Int32)), .val (.int (0 : Int32)), .val (.ref a155), .val (.ref a158), .val (.ref a161), .val (.ref a165), .unset, .unset, .unset, .val (.ref a161), .val (.ref a158)]) rfl (pc' := 230) rfl ?_
          refine own_iload X347 hx (hb hby at_230) rfl (pc' := 232) rfl ?_
          refine own_ifT X347 hx (hb hby at_232) (by decide) (by decide) (pc' := 249) rfl ?_
          refine own_iconst X347 hx (hb hby at_249) (z := (2 : Int32)) rfl (pc' := 250) rfl ?_
          refine own_istore X347 hx (hb hby at_250) (l' := #[.val (.int u0), .val (.int u1), .val (.int (2 : Int32)), .val (.int (1 : Int32)), .val (.int (1 : Int32)), .val (.int (0 : Int32)), .val (.ref a155), .val (.ref a158), .val (.ref a161), .val (.ref a165), .val (.int (2 : Int32)), .unset, .unset, .val (.ref a161), .val (.ref a158)]) rfl (pc' := 252) rfl ?_
          refine own_aload X347 hx (hb hby at_252) rfl rfl (pc' := 254) rfl ?_
          refine own_astore X347 hx (hb hby at_254) rfl (l' := #[.val (.int u0), .val (.int u1), .val (.int (2 : Int32)), .val (.int (1 : Int32)), .val (.int (1 : Int32)), .val (.int (0 : Int32)), .val (.ref a155), .val (.ref a158), .val (.ref a161), .val (.ref a165), .val (.int (2 : Int32)), .val (.ref a161), .unset, .val (.ref a161), .val (.ref a158)]) rfl (pc' := 256) rfl ?_
          refine own_aload X347 hx (hb hby at_256) rfl rfl (pc' := 258) rfl ?_
          refine own_astore X347 hx (hb hby at_258) rfl (l' := #[.val (.int u0), .val (.int u1), .val (.int (2 : Int32)), .val (.int (1 : Int32)), .val (.int (1 : Int32)), .val (.int (0 : Int32)), .val (.ref a155), .val (.ref a158), .val (.ref a161), .val (.ref a165), .val (.int (2 : Int32)), .val (.ref a161), .val (.ref a158), .val (.ref a161), .val (.ref a158)]) rfl (pc' := 260) rfl ?_
          refine own_aload X347 hx (hb hby at_260) rfl rfl (pc' := 262) rfl ?_
          refine own_aload X347 hx (hb hby at_262) rfl rfl (pc' := 264) rfl ?_
          have f357 : Exa Z T347.heap a155 "com/example/slot3/slot3/frame/PostChain" := (f348.keep K347)
          have f358 : Exa Z T347.heap a165 "com/example/slot3/slot3/frame/Post" := ((A165.keep K285).keep K347)
          have f359 : Exa Z T347.heap a158 "com/example/slot3/slot3/frame/Post" := (f350.keep K347)
          have f360 : Fld Z T347.heap a165 "com/example/slot3/slot3/frame/Post" "following" "Lcom/example/slot3/slot3/frame/Post;" (.null) := ((F165_following.keep K285 (ninS (Nat.ne_of_gt lt_a155_a165) (ninS (Nat.ne_of_gt lt_a158_a165) nin0))).keep K347 (ninS (Nat.ne_of_gt lt_a155_a165) (ninS (Nat.ne_of_gt lt_a161_a165) (ninS (Nat.ne_of_gt lt_a158_a165) nin0))))
          have f361 : Fld Z T347.heap a165 "com/example/slot3/slot3/frame/Post" "previous" "Lcom/example/slot3/slot3/frame/Post;" (.null) := ((F165_previous.keep K285 (ninS (Nat.ne_of_gt lt_a155_a165) (ninS (Nat.ne_of_gt lt_a158_a165) nin0))).keep K347 (ninS (Nat.ne_of_gt lt_a155_a165) (ninS (Nat.ne_of_gt lt_a161_a165) (ninS (Nat.ne_of_gt lt_a158_a165) nin0))))
          have f362 : Fld Z T347.heap a165 "com/example/slot3/slot3/frame/Post" "chain" "Lcom/example/slot3/slot3/frame/PostChain;" (.null) := ((F165_chain.keep K285 (ninS (Nat.ne_of_gt lt_a155_a165) (ninS (Nat.ne_of_gt lt_a158_a165) nin0))).keep K347 (ninS (Nat.ne_of_gt lt_a155_a165) (ninS (Nat.ne_of_gt lt_a161_a165) (ninS (Nat.ne_of_gt lt_a158_a165) nin0))))
          have z363 : n0 ≤ T347.heap.size := (Nat.le_trans z354 K347.1)
          refine own_callV X347 hx hZ hown (ow_17 hw) (ow_18 hw) (ow_20 hw) (ow_19 hw) (ow_3 hw) (ow_21 hw) (by decide) f357 (rm_ap2 l Z a0 hw a155 a165 a158 (((0 : Int32) + (1 : Int32)) + (1 : Int32)) (.ref a161) .null .null .null .null (.ref a161) (.ref a155) T347.heap n0 z363 f357 f358 p347_0 p347_1 p347_2 f359 f360 f361 f362 p347_6 p347_7 p347_8 ge_a155 ge_a165 ge_a158 (Nat.ne_of_lt lt_a155_a165) (Nat.ne_of_lt lt_a155_a158) (Nat.ne_of_gt lt_a158_a165)) rfl (W := 0) (by decide) (by decide) opd__Lcom_example_slot3_slot3_frame_Post__V rfl (rest := []) rfl (hb hby at_264) (Nat.le_of_eq rfl) (by rw [hml]; rfl) (by decide) (by decide) (pc' := 267) rfl ?_
          intro v356 T356 L356 X356 q356
          obtain ⟨rfl, Nq356, K356, p356_0, p356_1, p356_2, p356_3, p356_4, p356_5, p356_6, p356_7, p356_8⟩ := q356
          have N356 := Fr.app N347 Nq356
          show own_G p e below s _ _ _ (T356.setTop (mkF m 267 #[.val (.int u0), .val (.int u1), .val (.int (2 : Int32)), .val (.int (1 : Int32)), .val (.int (1 : Int32)), .val (.int (0 : Int32)), .val (.ref a155), .val (.ref a158), .val (.ref a161), .val (.ref a165), .val (.int (2 : Int32)), .val (.ref a161), .val (.ref a158), .val (.ref a161), .val (.ref a158)] []))
          refine own_aload X356 hx (hb hby at_267) rfl rfl (pc' := 269) rfl ?_
          refine own_getF X356 hx hZ hown (ow_32 hw) rfl p356_1 (hb hby at_269) (pc' := 272) rfl ?_
          intro T364 X364 e364
          refine own_aload X364 hx (hb hby at_272) rfl rfl (pc' := 274) rfl ?_
          refine own_acmpF X364 hx (hb hby at_274) rfl rfl (by simp [XT.acmp]) (pc' := 277) rfl ?_
          refine own_aload X364 hx (hb hby at_277) rfl rfl (pc' := 279) rfl ?_
          refine own_getF X364 hx hZ hown (ow_33 hw) e364 p356_5 (hb hby at_279) (pc' := 282) rfl ?_
          intro T365 X365 e365
          refine own_aload X365 hx (hb hby at_282) rfl rfl (pc' := 284) rfl ?_
          refine own_acmpF X365 hx (hb hby at_284) rfl rfl (by simp [XT.acmp]) (pc' := 287) rfl ?_
          refine own_aload X365 hx (hb hby at_287) rfl rfl (pc' := 289) rfl ?_
          refine own_getF X365 hx hZ hown (ow_34 hw) e365 p356_3 (hb hby at_289) (pc' := 292) rfl ?_
          intro T366 X366 e366
          refine own_ifnonnullF X366 hx (hb hby at_292) (pc' := 295) rfl ?_
          refine own_aload X366 hx (hb hby at_295) rfl rfl (pc' := 297) rfl ?_
          refine own_getF X366 hx hZ hown (ow_36 hw) e366 p356_4 (hb hby at_297) (pc' := 300) rfl ?_
          intro T367 X367 e367
          refine own_aload X367 hx (hb hby at_300) rfl rfl (pc' := 302) rfl ?_
          refine own_acmpF X367 hx (hb hby at_302) rfl rfl (by simp [XT.acmp]) (pc' := 305) rfl ?_
          refine own_aload X367 hx (hb hby at_305) rfl rfl (pc' := 307) rfl ?_
          refine own_getF X367 hx hZ hown (ow_37 hw) e367 p356_2 (hb hby at_307) (pc' := 310) rfl ?_
          intro T368 X368 e368
          refine own_iload X368 hx (hb hby at_310) rfl (pc' := 312) rfl ?_
          refine own_iconst X368 hx (hb hby at_312) (z := (1 : Int32)) rfl (pc' := 313) rfl ?_
          refine own_iadd X368 hx (hb hby at_313) (pc' := 314) rfl ?_
          refine own_icmpF X368 hx (hb hby at_314) (by decide) (pc' := 317) rfl ?_
          refine own_iconst X368 hx (hb hby at_317) (z := (1 : Int32)) rfl (pc' := 318) rfl ?_
          refine own_goto X368 hx (hb hby at_318) (by decide) (pc' := 322) rfl ?_
          refine own_istore X368 hx (hb hby at_322) (l' := #[.val (.int u0), .val (.int u1), .val (.int (2 : Int32)), .val (.int (1 : Int32)), .val (.int (1 : Int32)), .val (.int (0 : Int32)), .val (.ref a155), .val (.ref a158), .val (.ref a161), .val (.ref a165), .val (.int (2 : Int32)), .val (.ref a161), .val (.ref a158), .val (.int (1 : Int32)), .val (.ref a158)]) rfl (pc' := 324) rfl ?_
          refine own_aload X368 hx (hb hby at_324) rfl rfl (pc' := 326) rfl ?_
          refine own_ifnonnullT X368 hx (hb hby at_326) (by decide) (pc' := 354) rfl ?_
          refine own_iload X368 hx (hb hby at_354) rfl (pc' := 356) rfl ?_
          refine own_ifF X368 hx (hb hby at_356) (by decide) (pc' := 359) rfl ?_
          refine own_aload X368 hx (hb hby at_359) rfl rfl (pc' := 361) rfl ?_
          refine own_getF X368 hx hZ hown (ow_38 hw) e368 p356_0 (hb hby at_361) (pc' := 364) rfl ?_
          intro T369 X369 e369
          refine own_aload X369 hx (hb hby at_364) rfl rfl (pc' := 366) rfl ?_
          refine own_acmpF X369 hx (hb hby at_366) rfl rfl (by simp [XT.acmp]) (pc' := 369) rfl ?_
          refine own_aload X369 hx (hb hby at_369) rfl rfl (pc' := 371) rfl ?_
          refine own_getF X369 hx hZ hown (ow_34 hw) e369 p356_6 (hb hby at_371) (pc' := 374) rfl ?_
          intro T370 X370 e370
          refine own_aload X370 hx (hb hby at_374) rfl rfl (pc' := 376) rfl ?_
          refine own_acmpF X370 hx (hb hby at_376) rfl rfl (by simp [XT.acmp]) (pc' := 379) rfl ?_
          refine own_aload X370 hx (hb hby at_379) rfl rfl (pc' := 381) rfl ?_
          have f371 : Fld Z T356.heap a161 "com/example/slot3/slot3/frame/Post" "previous" "Lcom/example/slot3/slot3/frame/Post;" (.null) := (p347_4.keep K356 (ninS (Nat.ne_of_gt lt_a155_a161) (ninS (Nat.ne_of_lt lt_a161_a165) (ninS (Nat.ne_of_gt lt_a158_a161) nin0))))
          refine own_getF X370 hx hZ hown (ow_36 hw) e370 f371 (hb hby at_381) (pc' := 384) rfl ?_
          intro T372 X372 e372
          refine own_ifnonnullF X372 hx (hb hby at_384) (pc' := 387) rfl ?_
          refine own_aload X372 hx (hb hby at_387) rfl rfl (pc' := 389) rfl ?_
          refine own_getF X372 hx hZ hown (ow_33 hw) e372 p356_8 (hb hby at_389) (pc' := 392) rfl ?_
          intro T373 X373 e373
          refine own_aload X373 hx (hb hby at_392) rfl rfl (pc' := 394) rfl ?_
          refine own_acmpF X373 hx (hb hby at_394) rfl rfl (by simp [XT.acmp]) (pc' := 397) rfl ?_
          refine own_iconst X373 hx (hb hby at_397) (z := (1 : Int32)) rfl (pc' := 398) rfl ?_
          refine own_goto X373 hx (hb hby at_398) (by decide) (pc' := 402) rfl ?_
          refine own_istore X373 hx (hb hby at_402) (l' := #[.val (.int u0), .val (.int u1), .val (.int (2 : Int32)), .val (.int (1 : Int32)), .val (.int (1 : Int32)), .val (.int (0 : Int32)), .val (.ref a155), .val (.ref a158), .val (.ref a161), .val (.ref a165), .val (.int (2 : Int32)), .val (.ref a161), .val (.ref a158), .val (.int (1 : Int32)), .val (.ref a158)]) rfl (pc' := 404) rfl ?_
          refine own_iload X373 hx (hb hby at_404) rfl (pc' := 406) rfl ?_
          refine own_iconst X373 hx (hb hby at_406) (z := (2 : Int32)) rfl (pc' := 407) rfl ?_
          refine own_icmpF X373 hx (hb hby at_407) (by decide) (pc' := 410) rfl ?_
          refine own_iload X373 hx (hb hby at_410) rfl (pc' := 412) rfl ?_
          refine own_ifF X373 hx (hb hby at_412) (by decide) (pc' := 415) rfl ?_
          refine own_aload X373 hx (hb hby at_415) rfl rfl (pc' := 417) rfl ?_
          have f374 : Fld Z T356.heap a161 "com/example/slot3/slot3/frame/Post" "following" "Lcom/example/slot3/slot3/frame/Post;" (.ref a158) := (p347_3.keep K356 (ninS (Nat.ne_of_gt lt_a155_a161) (ninS (Nat.ne_of_lt lt_a161_a165) (ninS (Nat.ne_of_gt lt_a158_a161) nin0))))
          refine own_getF X373 hx hZ hown (ow_34 hw) e373 f374 (hb hby at_417) (pc' := 420) rfl ?_
          intro T375 X375 e375
          refine own_aload X375 hx (hb hby at_420) rfl rfl (pc' := 422) rfl ?_
          refine own_acmpF X375 hx (hb hby at_422) rfl rfl (by simp [XT.acmp]) (pc' := 425) rfl ?_
          refine own_aload X375 hx (hb hby at_425) rfl rfl (pc' := 427) rfl ?_
          refine own_getF X375 hx hZ hown (ow_36 hw) e375 p356_7 (hb hby at_427) (pc' := 430) rfl ?_
          intro T376 X376 e376
          refine own_aload X376 hx (hb hby at_430) rfl rfl (pc' := 432) rfl ?_
          refine own_acmpF X376 hx (hb hby at_432) rfl rfl (by simp [XT.acmp]) (pc' := 435) rfl ?_
          refine own_iconst X376 hx (hb hby at_435) (z := (1 : Int32)) rfl (pc' := 436) rfl ?_
          refine own_goto X376 hx (hb hby at_436) (by decide) (pc' := 440) rfl ?_
          refine own_istore X376 hx (hb hby at_440) (l' := #[.val (.int u0), .val (.int u1), .val (.int (2 : Int32)), .val (.int (1 : Int32)), .val (.int (1 : Int32)), .val (.int (0 : Int32)), .val (.ref a155), .val (.ref a158), .val (.ref a161), .val (.ref a165), .val (.int (2 : Int32)), .val (.ref a161), .val (.ref a158), .val (.int (1 : Int32)), .val (.ref a158)]) rfl (pc' := 442) rfl ?_
          refine own_iload X376 hx (hb hby at_442) rfl (pc' := 444) rfl ?_
          exact own_retZ X376 hx hret hlk (Or.inr rfl) (hb hby at_444) ⟨rfl, N356⟩ (by decide) (by decide)
        · refine own_cast (S' := T347.setTop (mkF m 136 #[.val (.int u0), .val (.int u1), .val (.int (2 : Int32)), .val (.int (1 : Int32)), .val (.int (1 : Int32)), .val (.int (1 : Int32)), .val (.ref a155), .val (.ref a158), .val (.ref a161), .val (.ref a165), .unset, .unset, .unset, .unset, .unset] [(.int (1 : Int32))])) (by first | (simp only [if_neg c355]; done) | (rw [if_neg c355]; done) | (simp; done)) ?_
          refine own_ifF X347 hx (hb hby at_136) (by decide) (pc' := 139) rfl ?_
          refine own_iloadN X347 hx (hb hby at_139) rfl (pc' := 140) rfl ?_
          refine own_iconst X347 hx (hb hby at_140) (z := (1 : Int32)) rfl (pc' := 141) rfl ?_
          refine own_icmpF X347 hx (hb hby at_141) (by decide) (pc' := 144) rfl ?_
          refine own_aload X347 hx (hb hby at_144) rfl rfl (pc' := 146) rfl ?_
          have f378 : Exa Z T347.heap a155 "com/example/slot3/slot3/frame/PostChain" := (f348.keep K347)
          have f379 : Exa Z T347.heap a161 "com/example/slot3/slot3/frame/Post" := (f349.keep K347)
          have f380 : Exa Z T347.heap a158 "com/example/slot3/slot3/frame/Post" := (f350.keep K347)
          have z381 : n0 ≤ T347.heap.size := (Nat.le_trans z354 K347.1)
          refine own_callV X347 hx hZ hown (ow_45 hw) (ow_46 hw) (ow_48 hw) (ow_47 hw) (ow_3 hw) (ow_49 hw) (by decide) f378 (rm_tfr l Z a0 hw a155 a161 a158 (((0 : Int32) + (1 : Int32)) + (1 : Int32)) (.ref a158) (.ref a155) .null (.ref a161) (.ref a155) T347.heap n0 z381 f378 p347_0 p347_1 p347_2 f379 p347_3 p347_4 p347_5 f380 p347_6 p347_7 p347_8 ge_a155 ge_a161 ge_a158 (Nat.ne_of_lt lt_a155_a161) (Nat.ne_of_lt lt_a155_a158) (Nat.ne_of_gt lt_a158_a161)) rfl (W := 0) (by decide) (by decide) opd___Lcom_example_slot3_slot3_frame_Post_ rfl (rest := []) rfl (hb hby at_146) (Nat.le_of_eq rfl) (by rw [hml]; rfl) (by decide) (by decide) (pc' := 149) rfl ?_
          intro v377 T377 L377 X377 q377
          obtain ⟨rfl, Nq377, K377, p377_0, p377_1, p377_2, p377_3, p377_4, p377_5, p377_6, p377_7, p377_8⟩ := q377
          have N377 := Fr.app N347 Nq377
          show own_G p e below s _ _ _ (T377.setTop (mkF m 149 #[.val (.int u0), .val (.int u1), .val (.int (2 : Int32)), .val (.int (1 : Int32)), .val (.int (1 : Int32)), .val (.int (1 : Int32)), .val (.ref a155), .val (.ref a158), .val (.ref a161), .val (.ref a165), .unset, .unset, .unset, .unset, .unset] [(.ref a161)]))
          refine own_pop X377 hx (hb hby at_149) rfl (pc' := 150) rfl ?_
          refine own_iloadN X377 hx (hb hby at_150) rfl (pc' := 151) rfl ?_
          refine own_ifT X377 hx (hb hby at_151) (by decide) (by decide) (pc' := 166) rfl ?_
          refine own_iloadN X377 hx (hb hby at_166) rfl (pc' := 167) rfl ?_
          refine own_iconst X377 hx (hb hby at_167) (z := (1 : Int32)) rfl (pc' := 168) rfl ?_
          refine own_icmpT X377 hx (hb hby at_168) (by decide) (by decide) (pc' := 202) rfl ?_
          refine own_iload X377 hx (hb hby at_202) rfl (pc' := 204) rfl ?_
          refine own_ifF X377 hx (hb hby at_204) (by decide) (pc' := 207) rfl ?_
          refine own_aload X377 hx (hb hby at_207) rfl rfl (pc' := 209) rfl ?_
          refine own_goto X377 hx (hb hby at_209) (by decide) (pc' := 214) rfl ?_
          refine own_astore X377 hx (hb hby at_214) rfl (l' := #[.val (.int u0), .val (.int u1), .val (.int (2 : Int32)), .val (.int (1 : Int32)), .val (.int (1 : Int32)), .val (.int (1 : Int32)), .val (.ref a155), .val (.ref a158), .val (.ref a161), .val (.ref a165), .unset, .unset, .unset, .val (.ref a161), .unset]) rfl (pc' := 216) rfl ?_
          refine own_iload X377 hx (hb hby at_216) rfl (pc' := 218) rfl ?_
          refine own_ifF X377 hx (hb hby at_218) (by decide) (pc' := 221) rfl ?_
          refine own_aload X377 hx (hb hby at_221) rfl rfl (pc' := 223) rfl ?_
          refine own_goto X377 hx (hb hby at_223) (by decide) (pc' := 228) rfl ?_
          refine own_astore X377 hx (hb hby at_228) rfl (l' := #[.val (.int u0), .val (.int u1), .val (.int (2 : Int32)), .val (.int (1 : Int32)), .val (.int (1 : Int32)), .val (.int (1 : Int32)), .val (.ref a155), .val (.ref a158), .val (.ref a161), .val (.ref a165), .unset, .unset, .unset, .val (.ref a161), .val (.ref a158)]) rfl (pc' := 230) rfl ?_
          refine own_iload X377 hx (hb hby at_230) rfl (pc' := 232) rfl ?_
          refine own_ifF X377 hx (hb hby at_232) (by decide) (pc' := 235) rfl ?_
          refine own_iconst X377 hx (hb hby at_235) (z := (1 : Int32)) rfl (pc' := 236) rfl ?_
          refine own_istore X377 hx (hb hby at_236) (l' := #[.val (.int u0), .val (.int u1), .val (.int (2 : Int32)), .val (.int (1 : Int32)), .val (.int (1 : Int32)), .val (.int (1 : Int32)), .val (.ref a155), .val (.ref a158), .val (.ref a161), .val (.ref a165), .val (.int (1 : Int32)), .unset, .unset, .val (.ref a161), .val (.ref a158)]) rfl (pc' := 238) rfl ?_
          refine own_aload X377 hx (hb hby at_238) rfl rfl (pc' := 240) rfl ?_
          refine own_astore X377 hx (hb hby at_240) rfl (l' := #[.val (.int u0), .val (.int u1), .val (.int (2 : Int32)), .val (.int (1 : Int32)), .val (.int (1 : Int32)), .val (.int (1 : Int32)), .val (.ref a155), .val (.ref a158), .val (.ref a161), .val (.ref a165), .val (.int (1 : Int32)), .val (.ref a158), .unset, .val (.ref a161), .val (.ref a158)]) rfl (pc' := 242) rfl ?_
          refine own_aload X377 hx (hb hby at_242) rfl rfl (pc' := 244) rfl ?_
          refine own_astore X377 hx (hb hby at_244) rfl (l' := #[.val (.int u0), .val (.int u1), .val (.int (2 : Int32)), .val (.int (1 : Int32)), .val (.int (1 : Int32)), .val (.int (1 : Int32)), .val (.ref a155), .val (.ref a158), .val (.ref a161), .val (.ref a165), .val (.int (1 : Int32)), .val (.ref a158), .val (.ref a158), .val (.ref a161), .val (.ref a158)]) rfl (pc' := 246) rfl ?_
          refine own_goto X377 hx (hb hby at_246) (by decide) (pc' := 260) rfl ?_
          refine own_aload X377 hx (hb hby at_260) rfl rfl (pc' := 262) rfl ?_
          refine own_aload X377 hx (hb hby at_262) rfl rfl (pc' := 264) rfl ?_
          have f383 : Exa Z T377.heap a155 "com/example/slot3/slot3/frame/PostChain" := (f378.keep K377)
          have f384 : Exa Z T377.heap a165 "com/example/slot3/slot3/frame/Post" := (((A165.keep K285).keep K347).keep K377)
          have f385 : Exa Z T377.heap a158 "com/example/slot3/slot3/frame/Post" := (f380.keep K377)
          have f386 : Fld Z T377.heap a165 "com/example/slot3/slot3/frame/Post" "following" "Lcom/example/slot3/slot3/frame/Post;" (.null) := (((F165_following.keep K285 (ninS (Nat.ne_of_gt lt_a155_a165) (ninS (Nat.ne_of_gt lt_a158_a165) nin0))).keep K347 (ninS (Nat.ne_of_gt lt_a155_a165) (ninS (Nat.ne_of_gt lt_a161_a165) (ninS (Nat.ne_of_gt lt_a158_a165) nin0)))).keep K377 (ninS (Nat.ne_of_gt lt_a155_a165) (ninS (Nat.ne_of_gt lt_a161_a165) (ninS (Nat.ne_of_gt lt_a158_a165) nin0))))
          have f387 : Fld Z T377.heap a165 "com/example/slot3/slot3/frame/Post" "previous" "Lcom/example/slot3/slot3/frame/Post;" (.null) := (((F165_previous.keep K285 (ninS (Nat.ne_of_gt lt_a155_a165) (ninS (Nat.ne_of_gt lt_a158_a165) nin0))).keep K347 (ninS (Nat.ne_of_gt lt_a155_a165) (ninS (Nat.ne_of_gt lt_a161_a165) (ninS (Nat.ne_of_gt lt_a158_a165) nin0)))).keep K377 (ninS (Nat.ne_of_gt lt_a155_a165) (ninS (Nat.ne_of_gt lt_a161_a165) (ninS (Nat.ne_of_gt lt_a158_a165) nin0))))
          have f388 : Fld Z T377.heap a165 "com/example/slot3/slot3/frame/Post" "chain" "Lcom/example/slot3/slot3/frame/PostChain;" (.null) := (((F165_chain.keep K285 (ninS (Nat.ne_of_gt lt_a155_a165) (ninS (Nat.ne_of_gt lt_a158_a165) nin0))).keep K347 (ninS (Nat.ne_of_gt lt_a155_a165) (ninS (Nat.ne_of_gt lt_a161_a165) (ninS (Nat.ne_of_gt lt_a158_a165) nin0)))).keep K377 (ninS (Nat.ne_of_gt lt_a155_a165) (ninS (Nat.ne_of_gt lt_a161_a165) (ninS (Nat.ne_of_gt lt_a158_a165) nin0))))
          have z389 : n0 ≤ T377.heap.size := (Nat.le_trans z381 K377.1)
          refine own_callV X377 hx hZ hown (ow_17 hw) (ow_18 hw) (ow_20 hw) (ow_19 hw) (ow_3 hw) (ow_21 hw) (by decide) f383 (rm_ap2 l Z a0 hw a155 a165 a158 ((((0 : Int32) + (1 : Int32)) + (1 : Int32)) - (1 : Int32)) (.ref a158) .null .null .null .null .null (.ref a155) T377.heap n0 z389 f383 f384 p377_0 p377_1 p377_2 f385 f386 f387 f388 p377_6 p377_7 p377_8 ge_a155 ge_a165 ge_a158 (Nat.ne_of_lt lt_a155_a165) (Nat.ne_of_lt lt_a155_a158) (Nat.ne_of_gt lt_a158_a165)) rfl (W := 0) (by decide) (by decide) opd__Lcom_example_slot3_slot3_frame_Post__V rfl (rest := []) rfl (hb hby at_264) (Nat.le_of_eq rfl) (by rw [hml]; rfl) (by decide) (by decide) (pc' := 267) rfl ?_
          intro v382 T382 L382 X382 q382
          obtain ⟨rfl, Nq382, K382, p382_0, p382_1, p382_2, p382_3, p382_4, p382_5, p382_6, p382_7, p382_8⟩ := q382
          have N382 := Fr.app N377 Nq382
          show own_G p e below s _ _ _ (T382.setTop (mkF m 267 #[.val (.int u0), .val (.int u1), .val (.int (2 : Int32)), .val (.int (1 : Int32)), .val (.int (1 : Int32)), .val (.int (1 : Int32)), .val (.ref a155), .val (.ref a158), .val (.ref a161), .val (.ref a165), .val (.int (1 : Int32)), .val (.ref a158), .val (.ref a158), .val (.ref a161), .val (.ref a158)] []))
          refine own_aload X382 hx (hb hby at_267) rfl rfl (pc' := 269) rfl ?_
          refine own_getF X382 hx hZ hown (ow_32 hw) rfl p382_1 (hb hby at_269) (pc' := 272) rfl ?_
          intro T390 X390 e390
          refine own_aload X390 hx (hb hby at_272) rfl rfl (pc' := 274) rfl ?_
          refine own_acmpF X390 hx (hb hby at_274) rfl rfl (by simp [XT.acmp]) (pc' := 277) rfl ?_
          refine own_aload X390 hx (hb hby at_277) rfl rfl (pc' := 279) rfl ?_
          refine own_getF X390 hx hZ hown (ow_33 hw) e390 p382_5 (hb hby at_279) (pc' := 282) rfl ?_
          intro T391 X391 e391
          refine own_aload X391 hx (hb hby at_282) rfl rfl (pc' := 284) rfl ?_
          refine own_acmpF X391 hx (hb hby at_284) rfl rfl (by simp [XT.acmp]) (pc' := 287) rfl ?_
          refine own_aload X391 hx (hb hby at_287) rfl rfl (pc' := 289) rfl ?_
          refine own_getF X391 hx hZ hown (ow_34 hw) e391 p382_3 (hb hby at_289) (pc' := 292) rfl ?_
          intro T392 X392 e392
          refine own_ifnonnullF X392 hx (hb hby at_292) (pc' := 295) rfl ?_
          refine own_aload X392 hx (hb hby at_295) rfl rfl (pc' := 297) rfl ?_
          refine own_getF X392 hx hZ hown (ow_36 hw) e392 p382_4 (hb hby at_297) (pc' := 300) rfl ?_
          intro T393 X393 e393
          refine own_aload X393 hx (hb hby at_300) rfl rfl (pc' := 302) rfl ?_
          refine own_acmpF X393 hx (hb hby at_302) rfl rfl (by simp [XT.acmp]) (pc' := 305) rfl ?_
          refine own_aload X393 hx (hb hby at_305) rfl rfl (pc' := 307) rfl ?_
          refine own_getF X393 hx hZ hown (ow_37 hw) e393 p382_2 (hb hby at_307) (pc' := 310) rfl ?_
          intro T394 X394 e394
          refine own_iload X394 hx (hb hby at_310) rfl (pc' := 312) rfl ?_
          refine own_iconst X394 hx (hb hby at_312) (z := (1 : Int32)) rfl (pc' := 313) rfl ?_
          refine own_iadd X394 hx (hb hby at_313) (pc' := 314) rfl ?_
          refine own_icmpF X394 hx (hb hby at_314) (by decide) (pc' := 317) rfl ?_
          refine own_iconst X394 hx (hb hby at_317) (z := (1 : Int32)) rfl (pc' := 318) rfl ?_
          refine own_goto X394 hx (hb hby at_318) (by decide) (pc' := 322) rfl ?_
          refine own_istore X394 hx (hb hby at_322) (l' := #[.val (.int u0), .val (.int u1), .val (.int (2 : Int32)), .val (.int (1 : Int32)), .val (.int (1 : Int32)), .val (.int (1 : Int32)), .val (.ref a155), .val (.ref a158), .val (.ref a161), .val (.ref a165), .val (.int (1 : Int32)), .val (.ref a158), .val (.ref a158), .val (.int (1 : Int32)), .val (.ref a158)]) rfl (pc' := 324) rfl ?_
          refine own_aload X394 hx (hb hby at_324) rfl rfl (pc' := 326) rfl ?_
          refine own_ifnonnullT X394 hx (hb hby at_326) (by decide) (pc' := 354) rfl ?_
          refine own_iload X394 hx (hb hby at_354) rfl (pc' := 356) rfl ?_
          refine own_ifF X394 hx (hb hby at_356) (by decide) (pc' := 359) rfl ?_
          refine own_aload X394 hx (hb hby at_359) rfl rfl (pc' := 361) rfl ?_
          refine own_getF X394 hx hZ hown (ow_38 hw) e394 p382_0 (hb hby at_361) (pc' := 364) rfl ?_
          intro T395 X395 e395
          refine own_aload X395 hx (hb hby at_364) rfl rfl (pc' := 366) rfl ?_
          refine own_acmpF X395 hx (hb hby at_366) rfl rfl (by simp [XT.acmp]) (pc' := 369) rfl ?_
          refine own_aload X395 hx (hb hby at_369) rfl rfl (pc' := 371) rfl ?_
          refine own_getF X395 hx hZ hown (ow_34 hw) e395 p382_6 (hb hby at_371) (pc' := 374) rfl ?_
          intro T396 X396 e396
          refine own_aload X396 hx (hb hby at_374) rfl rfl (pc' := 376) rfl ?_
          refine own_acmpF X396 hx (hb hby at_376) rfl rfl (by simp [XT.acmp]) (pc' := 379) rfl ?_
          refine own_aload X396 hx (hb hby at_379) rfl rfl (pc' := 381) rfl ?_
          refine own_getF X396 hx hZ hown (ow_36 hw) e396 p382_7 (hb hby at_381) (pc' := 384) rfl ?_
          intro T397 X397 e397
          refine own_ifnonnullF X397 hx (hb hby at_384) (pc' := 387) rfl ?_
          refine own_aload X397 hx (hb hby at_387) rfl rfl (pc' := 389) rfl ?_
          refine own_getF X397 hx hZ hown (ow_33 hw) e397 p382_8 (hb hby at_389) (pc' := 392) rfl ?_
          intro T398 X398 e398
          refine own_aload X398 hx (hb hby at_392) rfl rfl (pc' := 394) rfl ?_
          refine own_acmpF X398 hx (hb hby at_394) rfl rfl (by simp [XT.acmp]) (pc' := 397) rfl ?_
          refine own_iconst X398 hx (hb hby at_397) (z := (1 : Int32)) rfl (pc' := 398) rfl ?_
          refine own_goto X398 hx (hb hby at_398) (by decide) (pc' := 402) rfl ?_
          refine own_istore X398 hx (hb hby at_402) (l' := #[.val (.int u0), .val (.int u1), .val (.int (2 : Int32)), .val (.int (1 : Int32)), .val (.int (1 : Int32)), .val (.int (1 : Int32)), .val (.ref a155), .val (.ref a158), .val (.ref a161), .val (.ref a165), .val (.int (1 : Int32)), .val (.ref a158), .val (.ref a158), .val (.int (1 : Int32)), .val (.ref a158)]) rfl (pc' := 404) rfl ?_
          refine own_iload X398 hx (hb hby at_404) rfl (pc' := 406) rfl ?_
          refine own_iconst X398 hx (hb hby at_406) (z := (2 : Int32)) rfl (pc' := 407) rfl ?_
          refine own_icmpT X398 hx (hb hby at_407) (by decide) (by decide) (pc' := 442) rfl ?_
          refine own_iload X398 hx (hb hby at_442) rfl (pc' := 444) rfl ?_
          exact own_retZ X398 hx hret hlk (Or.inr rfl) (hb hby at_444) ⟨rfl, N382⟩ (by decide) (by decide)
set_option maxRecDepth 65536 in
set_option maxHeartbeats 40000000 in
theorem comes_1 {Post : Tables → Env → Array Value → State → Outcome → State → Prop} (hpost : ∀ tb e args s v u, (limb_1_1.after args s (.returned v) u = true ∧ limb_1_2.after args s (.returned v) u = true ∧ True) → FrameEnd s (.returned v) u (Jvm.fieldLocs frame_1_writes args s ++ Jvm.arrayLocs frame_1_arrays args s ++ Jvm.staticLocs frame_1_statics s) 16 192 → Post tb e args s (.returned v) u) :
    ArmFor flags0 classFile x code maxLocals ret World_1 tables_1 room_1 Calls_1 rest_1 Pre_1 Post := by
  intro l hfl _ _ p e ha hc hk s m args below hf hA hF happ hP
  obtain ⟨hcalls, hrest, hpre⟩ := hP
  obtain ⟨-, -, -, hnamed, -, -, -, hat⟩ := (Spec.applies_iff hf).mp happ
  obtain ⟨hg, hn⟩ := and_e (Cond.before_iff.mp (show (Jvm.Cond.and given_1 narrow_1).before args s = true from hpre))
  obtain ⟨gc, gr0⟩ := and_e hg
  obtain ⟨gk0, gr1⟩ := and_e gr0
  obtain ⟨w0, w1, rfl⟩ : ∃ w0 w1 : Value, args = #[w0, w1] := by
    have hs : args.size = 2 := by simpa [Cond.value, given_1] using gc
    obtain ⟨L⟩ := args
    match L, hs with
    | [w0, w1], _ => exact ⟨w0, w1, rfl⟩
  have hw := fun d (hd : d ∈ tables_1) => atoms_spec (ws := Jvm.Cond.code x code maxLocals ret :: tables_1) hat d (List.mem_cons_of_mem _ hd)
  obtain ⟨i0, ei0⟩ := is_v gk0
  obtain rfl : w0 = (.int i0) := Option.some.inj ei0
  obtain ⟨i1, ei1⟩ := is_v gr1
  obtain rfl : w1 = (.int i1) := Option.some.inj ei1
  obtain ⟨n, o, h1, h2, h3, _, L, rfl, ⟨rfl, N⟩, hq⟩ := own_law l s _ hw i0 i1 s.heap s.heap.size (Nat.le_refl _) p e ha hc hk s m _ below hf ((Spec.applies_iff_loose hf).mp happ).1 ⟨rfl, State.Warmed39.refl s, rfl⟩ trivial
  refine ⟨n, _, h1, h2, h3, hpost _ _ _ _ _ _ ⟨Cond.after_iff.mpr rfl, Cond.after_iff.mpr (eq_i res_at (Term.int_eval (1)) rfl), trivial⟩ ⟨hq.1, hq.2.1, (hq.2.2.sift fun y hy => Or.inr (N y hy)).mono (by decide) (by decide)⟩⟩
theorem main_1_1 : Claimed_1_1 := comes_1 fun _ _ _ _ _ _ h hF => ⟨h.1, hF⟩
theorem main_1_2 : Claimed_1_2 := comes_1 fun _ _ _ _ _ _ h hF => ⟨h.2.1, hF⟩
end Jvm.Pilot.@@N@@
namespace Jvm.Pilot.@@N@@
open Jvm Jvm.ClassFile Sem Op Lib Jvm.Free Jvm.Stand Jvm.Pilot.@@N@@.Jvm.D
/-! MADE BY PROGRAM (witnessworld.py) out of the Statement's table words and the real class files: 10 classes; the members and pool entries that the words name. The judged class is class 1, her method 1. -/
namespace start1
open Jvm.ClassFile
def u (s : String) : CpInfo := .utf8 (stringToUtf16 s)
/-- a pool by its gaps: so many unusable entries, then the entry; so many at the end -/
def gap : Nat → List CpInfo → List CpInfo
  | 0, r => r
  | n + 1, r => .unusable :: gap n r
def poolList (es : List (Nat × CpInfo)) (last : Nat) : List CpInfo := es.foldr (fun e r => gap e.1 (e.2 :: r)) (gap last [])
def pool (es : List (Nat × CpInfo)) (last : Nat) : Array CpInfo := ⟨poolList es last⟩
def fileOf (pool : Array CpInfo) (this : Nat) (attrs : Array Attribute := #[]) (ms : Array MethodInfo := #[]) (fl : Nat := 33) (sup : Nat := 0) (ifs : Array Nat := #[]) (fds : Array FieldInfo := #[]) : ClassFile where
  minorVersion := 0
  majorVersion := 65
  constantPool := pool
  accessFlags := fl
  thisClass := this
  superClass := sup
  interfaces := ifs
  fields := fds
  methods := ms
  attributes := attrs
def plain (name : String) (sup : Option ClassId) : Class where
  name := name
  kind := .ordinary
  loader := none
  accessFlags := 33
  super := sup
  interfaces := #[]
  cf := none
  fields := #[]
  methods := #[]
  instanceTypes := #[]
  staticTypes := #[]
  resolved := #[]
  callSites := []
  init := .initialized
  statics := none
  mirror := none

def pool0 : Array CpInfo := pool [(5, u "<init>"), (0, u "()V"), (1, .class_ 10), (1, u "java/lang/Object")] 113

def k0c0 : Code := { maxStack := 0, maxLocals := 1, code := object_method_1_code, exceptionTable := #[], attributes := #[] }
def k0m0 : Method := { name := "<init>", desc := "()V", sig := { parameters := [], returnType := none }, accessFlags := 1, code := some k0c0 }
/-- java/lang/Object -/
def k0 : Class := { plain "java/lang/Object" none with
  accessFlags := 33
  interfaces := #[]
  cf := some (fileOf pool0 8 #[] #[{ accessFlags := 1, nameIndex := 5, descriptorIndex := 6, attributes := #[] }] 33 0 #[] #[])
  fields := #[]
  methods := #[k0m0]
  instanceTypes := #[]
  staticTypes := #[]
  resolved := Array.replicate 124 none
  statics := none }

def pool1 : Array CpInfo := pool [(2, .class_ 4), (0, .nameAndType 5 6), (0, u "java/lang/Object"), (0, u "<init>"), (0, u "()V"), (0, .integer 2147483647), (0, .class_ 9), (0, u "com/example/slot3/slot3/frame/PostChain"), (0, .methodref 8 3), (0, .class_ 12), (0, u "com/example/slot3/slot3/frame/Post"), (0, .methodref 11 3), (0, .methodref 8 15), (0, .nameAndType 16 17), (0, u "push"), (0, u "(Lcom/example/slot3/slot3/frame/Post;)V"), (0, .methodref 8 19), (0, .nameAndType 20 17), (0, u "append"), (0, .methodref 8 22), (0, .nameAndType 23 24), (0, u "takeFirst"), (0, u "()Lcom/example/slot3/slot3/frame/Post;"), (0, .fieldref 8 26), (0, .nameAndType 27 28), (0, u "last"), (0, u "Lcom/example/slot3/slot3/frame/Post;"), (0, .fieldref 11 30), (0, .nameAndType 31 32), (0, u "chain"), (0, u "Lcom/example/slot3/slot3/frame/PostChain;"), (0, .fieldref 11 34), (0, .nameAndType 35 28), (0, u "following"), (0, .fieldref 11 37), (0, .nameAndType 38 28), (0, u "previous"), (0, .fieldref 8 40), (0, .nameAndType 41 42), (0, u "count"), (0, u "I"), (0, .fieldref 8 44), (0, .nameAndType 45 28), (0, u "first"), (0, .class_ 47), (0, u "com/example/slot3/slot3/frame/PostChainAppendPinLaw"), (2, u "law"), (0, u "(II)Z")] 3

def k1m0 : Method := { name := "<init>", desc := "()V", sig := { parameters := [], returnType := none }, accessFlags := 1, code := none }
def k1c1 : Code := { maxStack := 3, maxLocals := 15, code := code, exceptionTable := #[], attributes := #[] }
def k1m1 : Method := { name := "law", desc := "(II)Z", sig := { parameters := [.int, .int], returnType := some .boolean }, accessFlags := 9, code := some k1c1 }
/-- com/example/slot3/slot3/frame/PostChainAppendPinLaw -/
def k1 : Class := { plain "com/example/slot3/slot3/frame/PostChainAppendPinLaw" (some 0) with
  accessFlags := 49
  interfaces := #[]
  cf := some (fileOf pool1 46 #[] #[{ accessFlags := 1, nameIndex := 5, descriptorIndex := 6, attributes := #[] }, { accessFlags := 9, nameIndex := 50, descriptorIndex := 51, attributes := #[] }] 49 2 #[] #[])
  fields := #[]
  methods := #[k1m0, k1m1]
  instanceTypes := #[]
  staticTypes := #[]
  resolved := Array.replicate 55 none
  statics := none }

def pool2 : Array CpInfo := pool [(1, .methodref 2 3), (0, .class_ 4), (0, .nameAndType 5 6), (0, u "java/lang/Object"), (0, u "<init>"), (0, u "()V"), (0, .fieldref 8 9), (0, .class_ 10), (0, .nameAndType 11 12), (0, u "com/example/slot3/slot3/frame/PostChain"), (0, u "first"), (0, u "Lcom/example/slot3/slot3/frame/Post;"), (0, .fieldref 8 14), (0, .nameAndType 15 12), (0, u "last"), (0, .fieldref 17 18), (0, .class_ 19), (0, .nameAndType 20 12), (0, u "com/example/slot3/slot3/frame/Post"), (0, u "previous"), (0, .fieldref 17 22), (0, .nameAndType 23 12), (0, u "following"), (0, .fieldref 17 25), (0, .nameAndType 26 27), (0, u "chain"), (0, u "Lcom/example/slot3/slot3/frame/PostChain;"), (0, .fieldref 8 29), (0, .nameAndType 30 31), (0, u "count"), (0, u "I"), (0, .methodref 8 33), (0, .nameAndType 34 35), (0, u "unlink"), (0, u "(Lcom/example/slot3/slot3/frame/Post;)V"), (2, u "push"), (1, u "append"), (0, u "takeFirst"), (0, u "()Lcom/example/slot3/slot3/frame/Post;")] 2

def k2c0 : Code := { maxStack := 1, maxLocals := 1, code := prog_11_method_1_code, exceptionTable := #[], attributes := #[] }
def k2m0 : Method := { name := "<init>", desc := "()V", sig := { parameters := [], returnType := none }, accessFlags := 0, code := some k2c0 }
def k2c1 : Code := { maxStack := 3, maxLocals := 2, code := prog_11_method_2_code, exceptionTable := #[], attributes := #[] }
def k2m1 : Method := { name := "push", desc := "(Lcom/example/slot3/slot3/frame/Post;)V", sig := { parameters := [(.object "com/example/slot3/slot3/frame/Post")], returnType := none }, accessFlags := 0, code := some k2c1 }
def k2c2 : Code := { maxStack := 3, maxLocals := 2, code := prog_11_method_3_code, exceptionTable := #[], attributes := #[] }
def k2m2 : Method := { name := "append", desc := "(Lcom/example/slot3/slot3/frame/Post;)V", sig := { parameters := [(.object "com/example/slot3/slot3/frame/Post")], returnType := none }, accessFlags := 0, code := some k2c2 }
def k2c3 : Code := { maxStack := 2, maxLocals := 2, code := prog_11_method_4_code, exceptionTable := #[], attributes := #[] }
def k2m3 : Method := { name := "takeFirst", desc := "()Lcom/example/slot3/slot3/frame/Post;", sig := { parameters := [], returnType := some (.object "com/example/slot3/slot3/frame/Post") }, accessFlags := 0, code := some k2c3 }
def k2c4 : Code := { maxStack := 3, maxLocals := 4, code := prog_11_method_5_code, exceptionTable := #[], attributes := #[] }
def k2m4 : Method := { name := "unlink", desc := "(Lcom/example/slot3/slot3/frame/Post;)V", sig := { parameters := [(.object "com/example/slot3/slot3/frame/Post")], returnType := none }, accessFlags := 0, code := some k2c4 }
/-- com/example/slot3/slot3/frame/PostChain -/
def k2 : Class := { plain "com/example/slot3/slot3/frame/PostChain" (some 0) with
  accessFlags := 32
  interfaces := #[]
  cf := some (fileOf pool2 8 #[] #[{ accessFlags := 0, nameIndex := 5, descriptorIndex := 6, attributes := #[] }, { accessFlags := 0, nameIndex := 38, descriptorIndex := 35, attributes := #[] }, { accessFlags := 0, nameIndex := 40, descriptorIndex := 35, attributes := #[] }, { accessFlags := 0, nameIndex := 41, descriptorIndex := 42, attributes := #[] }, { accessFlags := 0, nameIndex := 34, descriptorIndex := 35, attributes := #[] }] 32 2 #[] #[{ accessFlags := 0, nameIndex := 11, descriptorIndex := 12, attributes := #[] }, { accessFlags := 0, nameIndex := 15, descriptorIndex := 12, attributes := #[] }, { accessFlags := 0, nameIndex := 30, descriptorIndex := 31, attributes := #[] }])
  fields := #[{ name := "first", type := (.object "com/example/slot3/slot3/frame/Post"), accessFlags := 0, slot := 0, constantValue := 0 }, { name := "last", type := (.object "com/example/slot3/slot3/frame/Post"), accessFlags := 0, slot := 1, constantValue := 0 }, { name := "count", type := .int, accessFlags := 0, slot := 2, constantValue := 0 }]
  methods := #[k2m0, k2m1, k2m2, k2m3, k2m4]
  instanceTypes := #[(.object "com/example/slot3/slot3/frame/Post"), (.object "com/example/slot3/slot3/frame/Post"), .int]
  staticTypes := #[]
  resolved := Array.replicate 45 none
  statics := none }

def pool3 : Array CpInfo := pool [(1, .methodref 2 3), (0, .class_ 4), (0, .nameAndType 5 6), (0, u "java/lang/Object"), (0, u "<init>"), (0, u "()V"), (1, .class_ 10), (1, u "com/example/slot3/slot3/frame/Post"), (0, u "task"), (0, u "Ljava/lang/Runnable;"), (2, u "callback"), (0, u "Lcom/example/slot3/slot3/frame/FrameCallback;"), (2, u "actionHash"), (0, u "I"), (2, u "token"), (0, u "Ljava/lang/Object;"), (8, u "tokenHash"), (2, u "due"), (0, u "J"), (2, u "delayed"), (0, u "Z"), (2, u "sequence"), (2, u "nextWithAction"), (0, u "Lcom/example/slot3/slot3/frame/Post;"), (4, u "nextWithToken"), (2, u "nextWithBoth"), (2, u "previousWithAction"), (2, u "previousWithToken"), (2, u "previousWithBoth"), (0, u "id"), (0, u "queue"), (0, u "Lcom/example/slot3/slot3/frame/CallbackQueue;"), (0, u "chain"), (0, u "Lcom/example/slot3/slot3/frame/PostChain;"), (0, u "following"), (0, u "previous"), (0, u "heapIndex")] 18

def k3c0 : Code := { maxStack := 1, maxLocals := 1, code := prog_10_method_1_code, exceptionTable := #[], attributes := #[] }
def k3m0 : Method := { name := "<init>", desc := "()V", sig := { parameters := [], returnType := none }, accessFlags := 0, code := some k3c0 }
/-- com/example/slot3/slot3/frame/Post -/
def k3 : Class := { plain "com/example/slot3/slot3/frame/Post" (some 0) with
  accessFlags := 32
  interfaces := #[]
  cf := some (fileOf pool3 8 #[] #[{ accessFlags := 0, nameIndex := 5, descriptorIndex := 6, attributes := #[] }] 32 2 #[] #[{ accessFlags := 0, nameIndex := 66, descriptorIndex := 20, attributes := #[] }, { accessFlags := 0, nameIndex := 67, descriptorIndex := 68, attributes := #[] }, { accessFlags := 0, nameIndex := 11, descriptorIndex := 12, attributes := #[] }, { accessFlags := 0, nameIndex := 15, descriptorIndex := 16, attributes := #[] }, { accessFlags := 0, nameIndex := 23, descriptorIndex := 24, attributes := #[] }, { accessFlags := 0, nameIndex := 19, descriptorIndex := 20, attributes := #[] }, { accessFlags := 0, nameIndex := 33, descriptorIndex := 20, attributes := #[] }, { accessFlags := 0, nameIndex := 36, descriptorIndex := 37, attributes := #[] }, { accessFlags := 0, nameIndex := 40, descriptorIndex := 41, attributes := #[] }, { accessFlags := 0, nameIndex := 44, descriptorIndex := 37, attributes := #[] }, { accessFlags := 0, nameIndex := 69, descriptorIndex := 70, attributes := #[] }, { accessFlags := 0, nameIndex := 71, descriptorIndex := 48, attributes := #[] }, { accessFlags := 0, nameIndex := 72, descriptorIndex := 48, attributes := #[] }, { accessFlags := 0, nameIndex := 73, descriptorIndex := 20, attributes := #[] }, { accessFlags := 2, nameIndex := 47, descriptorIndex := 48, attributes := #[] }, { accessFlags := 2, nameIndex := 59, descriptorIndex := 48, attributes := #[] }, { accessFlags := 2, nameIndex := 53, descriptorIndex := 48, attributes := #[] }, { accessFlags := 2, nameIndex := 62, descriptorIndex := 48, attributes := #[] }, { accessFlags := 2, nameIndex := 56, descriptorIndex := 48, attributes := #[] }, { accessFlags := 2, nameIndex := 65, descriptorIndex := 48, attributes := #[] }])
  fields := #[{ name := "id", type := .int, accessFlags := 0, slot := 0, constantValue := 0 }, { name := "queue", type := (.object "com/example/slot3/slot3/frame/CallbackQueue"), accessFlags := 0, slot := 1, constantValue := 0 }, { name := "task", type := (.object "java/lang/Runnable"), accessFlags := 0, slot := 2, constantValue := 0 }, { name := "callback", type := (.object "com/example/slot3/slot3/frame/FrameCallback"), accessFlags := 0, slot := 3, constantValue := 0 }, { name := "token", type := (.object "java/lang/Object"), accessFlags := 0, slot := 4, constantValue := 0 }, { name := "actionHash", type := .int, accessFlags := 0, slot := 5, constantValue := 0 }, { name := "tokenHash", type := .int, accessFlags := 0, slot := 6, constantValue := 0 }, { name := "due", type := .long, accessFlags := 0, slot := 7, constantValue := 0 }, { name := "delayed", type := .boolean, accessFlags := 0, slot := 8, constantValue := 0 }, { name := "sequence", type := .long, accessFlags := 0, slot := 9, constantValue := 0 }, { name := "chain", type := (.object "com/example/slot3/slot3/frame/PostChain"), accessFlags := 0, slot := 10, constantValue := 0 }, { name := "following", type := (.object "com/example/slot3/slot3/frame/Post"), accessFlags := 0, slot := 11, constantValue := 0 }, { name := "previous", type := (.object "com/example/slot3/slot3/frame/Post"), accessFlags := 0, slot := 12, constantValue := 0 }, { name := "heapIndex", type := .int, accessFlags := 0, slot := 13, constantValue := 0 }, { name := "nextWithAction", type := (.object "com/example/slot3/slot3/frame/Post"), accessFlags := 2, slot := 14, constantValue := 0 }, { name := "previousWithAction", type := (.object "com/example/slot3/slot3/frame/Post"), accessFlags := 2, slot := 15, constantValue := 0 }, { name := "nextWithToken", type := (.object "com/example/slot3/slot3/frame/Post"), accessFlags := 2, slot := 16, constantValue := 0 }, { name := "previousWithToken", type := (.object "com/example/slot3/slot3/frame/Post"), accessFlags := 2, slot := 17, constantValue := 0 }, { name := "nextWithBoth", type := (.object "com/example/slot3/slot3/frame/Post"), accessFlags := 2, slot := 18, constantValue := 0 }, { name := "previousWithBoth", type := (.object "com/example/slot3/slot3/frame/Post"), accessFlags := 2, slot := 19, constantValue := 0 }]
  methods := #[k3m0]
  instanceTypes := #[.int, (.object "com/example/slot3/slot3/frame/CallbackQueue"), (.object "java/lang/Runnable"), (.object "com/example/slot3/slot3/frame/FrameCallback"), (.object "java/lang/Object"), .int, .int, .long, .boolean, .long, (.object "com/example/slot3/slot3/frame/PostChain"), (.object "com/example/slot3/slot3/frame/Post"), (.object "com/example/slot3/slot3/frame/Post"), .int, (.object "com/example/slot3/slot3/frame/Post"), (.object "com/example/slot3/slot3/frame/Post"), (.object "com/example/slot3/slot3/frame/Post"), (.object "com/example/slot3/slot3/frame/Post"), (.object "com/example/slot3/slot3/frame/Post"), (.object "com/example/slot3/slot3/frame/Post")]
  staticTypes := #[]
  resolved := Array.replicate 92 none
  statics := none }

def pool4 : Array CpInfo := pool [(1, u "java/lang/Cloneable"), (0, .class_ 1), (0, u "java/lang/Object"), (0, .class_ 3)] 3

/-- java/lang/Cloneable -/
def k4 : Class := { plain "java/lang/Cloneable" (some 0) with
  accessFlags := 1537
  interfaces := #[]
  cf := some (fileOf pool4 2 #[] #[] 1537 4 #[] #[])
  fields := #[]
  methods := #[]
  instanceTypes := #[]
  staticTypes := #[]
  resolved := Array.replicate 8 none
  statics := none }

def pool5 : Array CpInfo := pool [(1, u "java/io/Serializable"), (0, .class_ 1), (0, u "java/lang/Object"), (0, .class_ 3)] 3

/-- java/io/Serializable -/
def k5 : Class := { plain "java/io/Serializable" (some 0) with
  accessFlags := 1537
  interfaces := #[]
  cf := some (fileOf pool5 2 #[] #[] 1537 4 #[] #[])
  fields := #[]
  methods := #[]
  instanceTypes := #[]
  staticTypes := #[]
  resolved := Array.replicate 8 none
  statics := none }

/-- the primitive byte -/
def k6 : Class := { plain "byte" none with kind := .primitive 'B', accessFlags := 0x411 }
/-- [B -/
def k7 : Class := { plain "[B" (some 0) with kind := .array 6 .byte, interfaces := #[4, 5], accessFlags := 1041 }

/-- the primitive int -/
def k8 : Class := { plain "int" none with kind := .primitive 'I', accessFlags := 0x411 }
/-- [I -/
def k9 : Class := { plain "[I" (some 0) with kind := .array 8 .int, interfaces := #[4, 5], accessFlags := 1041 }

def heap : Heap := #[]
def classes : Array Class := #[k0, k1, k2, k3, k4, k5, k6, k7, k8, k9]
def interned : List (Array UInt16 × Addr) := []
def slotsUsed : Nat := 0
def theMethod : MethodId := ⟨1, 1⟩
def args0 : Array Value := #[.int 5, .int 6]
def aboutOver (below : List Frame) : State where
  vm := { classes := classes, interned := interned.toArray }
  heap := heap
  slotsUsed := slotsUsed
  threads := #[{ frames := .invoking theMethod args0 :: below }]
def below0 : List Frame := [.native { method := ⟨0, 0⟩, args := #[] }]
def about1 : State := aboutOver below0
def p0 : Program := .bare "" "" ""
def e0 : Env := launch0.env 0 0 0
theorem w_frames : about1.frames = Frame.invoking theMethod args0 :: below0 := rfl
set_option maxRecDepth 65536 in
theorem w_args : argsFit about1.vm theMethod args0 = true := by decide +kernel
set_option maxRecDepth 65536 in
theorem w_heap : heapFits about1 = true := by decide +kernel
set_option maxRecDepth 65536 in
theorem w_runnable : about1.curStatus? = some .runnable := by decide +kernel
set_option maxRecDepth 65536 in
theorem w_alone : about1.alone = true := by decide +kernel
set_option maxRecDepth 65536 in
theorem w_named : about1.methodNamed? x = some theMethod := by decide +kernel
set_option maxRecDepth 65536 in
theorem w_hears : about1.hears theMethod below0 = true := by decide +kernel
set_option maxRecDepth 65536 in
theorem w_ripe : about1.ripe theMethod args0 below0 = true := by decide +kernel
theorem w_running : about1.status = .running := rfl
set_option maxRecDepth 65536 in
theorem w_room : about1.hasRoom e0.platform room_1 = true :=
  launch0.hasRoom_least _ room_1 (by decide +kernel) (by decide +kernel) (by decide +kernel) (by decide +kernel) (by decide +kernel) (by decide +kernel)
theorem allAtoms_all (ts : List Jvm.Cond) (a : Array Jvm.Value) (st : Jvm.State) : (allAtoms ts).before a st = ts.all (fun c => c.before a st) := by
  induction ts with
  | nil => rfl
  | cons c t ih =>
    show (Jvm.Cond.and c (allAtoms t)).before a st = _
    rw [Jvm.Cond.before_and, ih, List.all_cons]
def words1 : List Jvm.Cond := Jvm.Cond.code x code maxLocals ret :: tables_1
/-- a 'code' word, met by the world's own term for the bytes: nothing is compared byte by byte -/
theorem code_word {y : MethodName} {bytes : ByteArray} {mx : Nat} {rt : Option FieldType} {a : Array Value} {s : State} {m : MethodId} {meth : Method} {c : Code} (h1 : s.methodNamed? y = some m) (h2 : s.vm.method? m = some meth) (h3 : meth.code = some c) (h4 : c.code = bytes)
    (h5 : (c.maxLocals == mx && c.exceptionTable.isEmpty && decide (c.maxStack ≤ mostOperands) && decide (meth.sig.returnType = rt) && !meth.locks && decide (parseMethodDescriptor y.desc = some meth.sig)) = true) : (Jvm.Cond.code y bytes mx rt).before a s = true := by
  simp only [Bool.and_eq_true, beq_iff_eq, Bool.not_eq_true', decide_eq_true_eq] at h5
  obtain ⟨⟨⟨⟨⟨g1, g2⟩, g3⟩, g4⟩, g5⟩, g6⟩ := h5
  simp [Cond.before, Cond.holds, Cond.value, h1, h2, h3, h4, g1, g2, g3, g4, g5, g6]
def isCode : Jvm.Cond → Bool
  | .code _ _ _ _ => true
  | _ => false
theorem all_split {L : List Jvm.Cond} {P : Jvm.Cond → Bool} (h1 : L.all (fun c => isCode c || P c) = true) (h2 : ∀ c ∈ L.filter isCode, P c = true) : L.all P = true := by
  refine List.all_eq_true.mpr fun c hc => ?_
  have h := List.all_eq_true.mp h1 c hc
  rcases Bool.eq_false_or_eq_true (isCode c) with hi | hi
  · exact h2 c (List.mem_filter.mpr ⟨hc, hi⟩)
  · simpa [hi] using h
set_option maxRecDepth 65536 in
theorem w_c0 : (Jvm.Cond.code x code maxLocals ret).before args0 about1 = true := code_word (m := ⟨1, 1⟩) (meth := k1m1) (c := k1c1) (by decide +kernel) rfl rfl rfl (by decide +kernel)
set_option maxRecDepth 65536 in
theorem w_c1 : (Jvm.Cond.code ({ cls := "com/example/slot3/slot3/frame/PostChain", name := "<init>", desc := "()V" } : Jvm.MethodName) prog_11_method_1_code (1 : Nat) (Option.none : Option Jvm.ClassFile.FieldType)).before args0 about1 = true := code_word (m := ⟨2, 0⟩) (meth := k2m0) (c := k2c0) (by decide +kernel) rfl rfl rfl (by decide +kernel)
set_option maxRecDepth 65536 in
theorem w_c2 : (Jvm.Cond.code ({ cls := "java/lang/Object", name := "<init>", desc := "()V" } : Jvm.MethodName) object_method_1_code (1 : Nat) (Option.none : Option Jvm.ClassFile.FieldType)).before args0 about1 = true := code_word (m := ⟨0, 0⟩) (meth := k0m0) (c := k0c0) (by decide +kernel) rfl rfl rfl (by decide +kernel)
set_option maxRecDepth 65536 in
theorem w_c3 : (Jvm.Cond.code ({ cls := "com/example/slot3/slot3/frame/Post", name := "<init>", desc := "()V" } : Jvm.MethodName) prog_10_method_1_code (1 : Nat) (Option.none : Option Jvm.ClassFile.FieldType)).before args0 about1 = true := code_word (m := ⟨3, 0⟩) (meth := k3m0) (c := k3c0) (by decide +kernel) rfl rfl rfl (by decide +kernel)
set_option maxRecDepth 65536 in
theorem w_c4 : (Jvm.Cond.code ({ cls := "com/example/slot3/slot3/frame/PostChain", name := "append", desc := "(Lcom/example/slot3/slot3/frame/Post;)V" } : Jvm.MethodName) prog_11_method_3_code (2 : Nat) (Option.none : Option Jvm.ClassFile.FieldType)).before args0 about1 = true := code_word (m := ⟨2, 2⟩) (meth := k2m2) (c := k2c2) (by decide +kernel) rfl rfl rfl (by decide +kernel)
set_option maxRecDepth 65536 in
theorem w_c5 : (Jvm.Cond.code ({ cls := "com/example/slot3/slot3/frame/PostChain", name := "push", desc := "(Lcom/example/slot3/slot3/frame/Post;)V" } : Jvm.MethodName) prog_11_method_2_code (2 : Nat) (Option.none : Option Jvm.ClassFile.FieldType)).before args0 about1 = true := code_word (m := ⟨2, 1⟩) (meth := k2m1) (c := k2c1) (by decide +kernel) rfl rfl rfl (by decide +kernel)
set_option maxRecDepth 65536 in
theorem w_c6 : (Jvm.Cond.code ({ cls := "com/example/slot3/slot3/frame/PostChain", name := "takeFirst", desc := "()Lcom/example/slot3/slot3/frame/Post;" } : Jvm.MethodName) prog_11_method_4_code (2 : Nat) (Option.some (Jvm.ClassFile.FieldType.object "com/example/slot3/slot3/frame/Post"))).before args0 about1 = true := code_word (m := ⟨2, 3⟩) (meth := k2m3) (c := k2c3) (by decide +kernel) rfl rfl rfl (by decide +kernel)
set_option maxRecDepth 65536 in
theorem w_c7 : (Jvm.Cond.code ({ cls := "com/example/slot3/slot3/frame/PostChain", name := "unlink", desc := "(Lcom/example/slot3/slot3/frame/Post;)V" } : Jvm.MethodName) prog_11_method_5_code (4 : Nat) (Option.none : Option Jvm.ClassFile.FieldType)).before args0 about1 = true := code_word (m := ⟨2, 4⟩) (meth := k2m4) (c := k2c4) (by decide +kernel) rfl rfl rfl (by decide +kernel)
def codes1 : List Jvm.Cond := [Jvm.Cond.code x code maxLocals ret, Jvm.Cond.code ({ cls := "com/example/slot3/slot3/frame/PostChain", name := "<init>", desc := "()V" } : Jvm.MethodName) prog_11_method_1_code (1 : Nat) (Option.none : Option Jvm.ClassFile.FieldType), Jvm.Cond.code ({ cls := "java/lang/Object", name := "<init>", desc := "()V" } : Jvm.MethodName) object_method_1_code (1 : Nat) (Option.none : Option Jvm.ClassFile.FieldType), Jvm.Cond.code ({ cls := "com/example/slot3/slot3/frame/Post", name := "<init>", desc := "()V" } : Jvm.MethodName) prog_10_method_1_code (1 : Nat) (Option.none : Option Jvm.ClassFile.FieldType), Jvm.Cond.code ({ cls := "com/example/slot3/slot3/frame/PostChain", name := "append", desc := "(Lcom/example/slot3/slot3/frame/Post;)V" } : Jvm.MethodName) prog_11_method_3_code (2 : Nat) (Option.none : Option Jvm.ClassFile.FieldType), Jvm.Cond.code ({ cls := "com/example/slot3/slot3/frame/PostChain", name := "push", desc := "(Lcom/example/slot3/slot3/frame/Post;)V" } : Jvm.MethodName) prog_11_method_2_code (2 : Nat) (Option.none : Option Jvm.ClassFile.FieldType), Jvm.Cond.code ({ cls := "com/example/slot3/slot3/frame/PostChain", name := "takeFirst", desc := "()Lcom/example/slot3/slot3/frame/Post;" } : Jvm.MethodName) prog_11_method_4_code (2 : Nat) (Option.some (Jvm.ClassFile.FieldType.object "com/example/slot3/slot3/frame/Post")), Jvm.Cond.code ({ cls := "com/example/slot3/slot3/frame/PostChain", name := "unlink", desc := "(Lcom/example/slot3/slot3/frame/Post;)V" } : Jvm.MethodName) prog_11_method_5_code (4 : Nat) (Option.none : Option Jvm.ClassFile.FieldType)]
set_option maxRecDepth 65536 in
theorem codes_eq : words1.filter isCode = codes1 := rfl
theorem w_codes : ∀ c ∈ words1.filter isCode, c.before args0 about1 = true := by
  rw [codes_eq]
  intro c hc
  simp only [codes1, List.mem_cons, List.not_mem_nil, or_false] at hc
  rcases hc with rfl | rfl | rfl | rfl | rfl | rfl | rfl | rfl
  · exact w_c0
  · exact w_c1
  · exact w_c2
  · exact w_c3
  · exact w_c4
  · exact w_c5
  · exact w_c6
  · exact w_c7
set_option maxRecDepth 65536 in
theorem w_t1 : (words1.take 24).all (fun c => isCode c || c.before args0 about1) = true := by decide +kernel
set_option maxRecDepth 65536 in
theorem w_t2 : ((words1.drop 24).take 24).all (fun c => isCode c || c.before args0 about1) = true := by decide +kernel
set_option maxRecDepth 65536 in
theorem w_t3 : ((words1.drop 24).drop 24).all (fun c => isCode c || c.before args0 about1) = true := by decide +kernel
theorem w_tables : (allAtoms (Jvm.Cond.code x code maxLocals ret :: tables_1)).before args0 about1 = true := by
  rw [allAtoms_all]
  show words1.all (fun c => c.before args0 about1) = true
  refine all_split ?_ w_codes
  rw [← List.take_append_drop 24 words1, List.all_append, w_t1, ← List.take_append_drop 24 (words1.drop 24), List.all_append, w_t2, w_t3]
  rfl
set_option maxRecDepth 65536 in
theorem w_case : (Jvm.Cond.and given_1 narrow_1).before args0 about1 = true := by decide +kernel
theorem w_applies : (headSpec (Jvm.Cond.code x code maxLocals ret :: tables_1) room_1).applies x e0.platform about1 = true :=
  (Spec.applies_iff w_frames).mpr ⟨w_running, w_runnable, w_alone, w_named, w_hears, w_ripe, w_room, w_tables⟩
theorem atStart : AtStart classFile x code maxLocals ret World_1 tables_1 room_1 Calls_1 rest_1 Pre_1 launch0 p0 e0 about1 theMethod args0 below0 :=
  ⟨lists_1, trivial, launch0.admits_env _ _ _, launch0.least_env, fairChoices_fair.cas, fairChoices_fair.clock, w_frames, w_args, w_heap, w_applies, trivial, trivial, w_case⟩
end start1
theorem witness_1 : WitnessClaimed_1 := ⟨start1.p0, start1.e0, start1.about1, start1.theMethod, start1.args0, start1.below0, start1.atStart⟩
end Jvm.Pilot.@@N@@
